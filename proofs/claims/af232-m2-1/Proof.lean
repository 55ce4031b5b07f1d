import JvmDerived
import JvmDerived.Pilot.@@N@@Statement
import JvmDerived.Pilot.@@N@@Code
set_option linter.unusedVariables false
set_option linter.unusedSimpArgs false
namespace Jvm.Pilot.@@N@@
open Jvm Jvm.ClassFile Sem Op Lib Jvm.Free Jvm.Stand Jvm.LawKit Jvm.RoadKit Bundle Jvm.Pilot.@@N@@.Jvm.D
def own_ushr (x y : Int32) : Int32 := (x.toUInt32 >>> (y &&& 31).toUInt32).toInt32
def own_ushrL (x : Int64) (y : Int32) : Int64 := (x.toUInt64 >>> (y &&& 0x3f).toInt64.toUInt64).toInt64
section OwnKit
variable {p : Program} {l : Launch} {e : Env} {R : Room} {s : State} {m : MethodId} {args : Array Value} {below : List Frame} {meth : Method} {c : Code} {T : State} {locs : List Loc} {cells slots : Nat} {Z : State} {h h0 : Heap} {ce sl : Nat} {Q : Option Value → Heap → List Loc → Prop} {U U' : State} {a0 : Array Value}
/-- from U the walk comes to its return, and what it leaves is Q -/
def Go (p : Program) (e : Env) (below : List Frame) (s : State) (ce sl : Nat) (Q : Option Value → Heap → List Loc → Prop) (U : State) : Prop :=
  ∃ s₂ o, Steps p.tables e below U s₂ ∧ s₂.status = .running ∧ Ended s₂ below o ∧ ∃ v L, o = .returned v ∧ Q v s₂.heap L ∧ FrameEnd s o s₂ L ce sl
theorem Go.via (h : ∀ t, Steps p.tables e below U' t → Steps p.tables e below U t) (g : Go p e below s ce sl Q U') : Go p e below s ce sl Q U := by
  obtain ⟨s₂, o, h1, h2⟩ := g
  exact ⟨s₂, o, h _ h1, h2⟩
theorem Go.cast {g g' : JFrame} (q : g = g') (k : Go p e below s ce sl Q (T.setTop g')) : Go p e below s ce sl Q (T.setTop g) := q ▸ k
/-- the contract of a body: called with as', over the heap h0, it returns and leaves Q -/
def Meets (l : Launch) (Z : State) (y : MethodName) (bytes : ByteArray) (maxL : Nat) (rt : Option FieldType) (ws : List Jvm.Cond) (rm : Room) (as' : Array Value) (h0 : Heap) (Q : Option Value → Heap → List Loc → Prop) : Prop :=
  MetFree l y (head1 (Jvm.Cond.code y bytes maxL rt :: ws) rm) (fun a U => a = as' ∧ Z.Warmed39 U.vm ∧ U.heap = h0) (fun _ _ _ _ _ => True) (fun _ U o U' => ∃ v L, o = .returned v ∧ Q v U'.heap L ∧ FrameEnd U o U' L rm.cells rm.slots)
theorem meets_of {y : MethodName} {bytes : ByteArray} {maxL : Nat} {rt : Option FieldType} {ws : List Jvm.Cond} {rm : Room} {as' : Array Value} (hpl : plainFor y = true)
    (body : ∀ p e s m below meth c s₁, Stand p l e rm s m as' below meth c s₁ [] 0 0 → p.tables.exec = Jvm.exec → Z.Warmed39 s.vm → c.code = bytes → c.maxLocals = maxL → meth.sig.returnType = rt → meth.locks = false → s.vm.findClass y.cls = some m.cls → meth.name = y.name → s₁.heap = h0 →
      Go p e below s rm.cells rm.slots Q (s₁.setTop (entryFrame m as' maxL))) : Meets l Z y bytes maxL rt ws rm as' h0 Q := by
  refine MetFree.of_bodySF hpl hisR ?_
  intro p e s m args below meth c s₁ Bd hml hP hK
  obtain ⟨rfl, hZ, hh⟩ := hP
  exact body p e s m below meth c s₁ (Stand.of_body Bd) Bd.exec hZ Bd.bytes hml Bd.returns Bd.notSynchronized (findClass_of_methodNamed Bd.named) (name_of_methodNamed Bd.named Bd.method).1 (by rw [← hh, Bd.state]; rfl)
theorem go_ret (X : Stand p l e R s m args below meth c T locs cells slots) (hlk : meth.locks = false) {v : Option Value} (hv : meth.sig.returnType = none → v = none) (eT : T.heap = h) (hQ : Q v h locs) (hc : cells ≤ ce) (hs : slots ≤ sl)
    (st : ∀ fs, (∀ (f : JFrame) (acts : List Action), f.method = m → f.locked = none → f.entered = [] → (doReturn e (T.setTop f) acts v).1 = T.setFrames fs) → Steps p.tables e below U (T.setFrames fs)) : Go p e below s ce sl Q U := by
  obtain ⟨fs, hr, hrun, hended, hW, hsame⟩ := X.leave hv hlk
  exact ⟨_, _, st fs hr, hrun, hended, v, locs, rfl, (by show Q v T.heap locs; rw [eT]; exact hQ), ⟨_, rfl⟩, hW, hsame.mono hc hs⟩
theorem go_retN (X : Stand p l e R s m args below meth c T locs cells slots) (hx : p.tables.exec = Jvm.exec) (hlk : meth.locks = false) {t : FieldType} (hret : meth.sig.returnType = some t) (ht : t = .boolean ∨ t = .byte ∨ t = .char ∨ t = .short) {pc : Nat} {Ls : Array Slot} {z : Int32} {rest : List Value}
    (hd : decode c.code pc = .ok (.ireturn, 1)) (eT : T.heap = h) (hQ : Q (some (.int (nar t z))) h locs) (hc : cells ≤ ce) (hs : slots ≤ sl) : Go p e below s ce sl Q (T.setTop (mkF m pc Ls (.int z :: rest))) :=
  go_ret X hlk (fun h => by rw [hret] at h; cases h) eT hQ hc hs (fun fs hr => retN X hx hret ht hd hr)
theorem go_retI (X : Stand p l e R s m args below meth c T locs cells slots) (hx : p.tables.exec = Jvm.exec) (hlk : meth.locks = false) (hret : meth.sig.returnType = some .int) {pc : Nat} {Ls : Array Slot} {z : Int32} {rest : List Value}
    (hd : decode c.code pc = .ok (.ireturn, 1)) (eT : T.heap = h) (hQ : Q (some (.int z)) h locs) (hc : cells ≤ ce) (hs : slots ≤ sl) : Go p e below s ce sl Q (T.setTop (mkF m pc Ls (.int z :: rest))) :=
  go_ret X hlk (fun h => by rw [hret] at h; cases h) eT hQ hc hs (fun fs hr => retOut X hx hret rfl (Or.inl ⟨rfl, Or.inl rfl, z, rfl⟩) hd hr)
theorem go_retJ (X : Stand p l e R s m args below meth c T locs cells slots) (hx : p.tables.exec = Jvm.exec) (hlk : meth.locks = false) (hret : meth.sig.returnType = some .long) {pc : Nat} {Ls : Array Slot} {z : Int64} {rest : List Value}
    (hd : decode c.code pc = .ok (.lreturn, 1)) (eT : T.heap = h) (hQ : Q (some (.long z)) h locs) (hc : cells ≤ ce) (hs : slots ≤ sl) : Go p e below s ce sl Q (T.setTop (mkF m pc Ls (.long z :: rest))) :=
  go_ret X hlk (fun h => by rw [hret] at h; cases h) eT hQ hc hs (fun fs hr => retOut X hx hret rfl (Or.inr (Or.inl ⟨rfl, rfl, z, rfl⟩)) hd hr)
theorem go_retA (X : Stand p l e R s m args below meth c T locs cells slots) (hx : p.tables.exec = Jvm.exec) (hlk : meth.locks = false) {t : FieldType} (hret : meth.sig.returnType = some t) (ht : t.isReference = true) {pc : Nat} {Ls : Array Slot} {w : Value} (hw : w.isRef = true) (hn : narrow t w = w) {rest : List Value}
    (hd : decode c.code pc = .ok (.areturn, 1)) (eT : T.heap = h) (hQ : Q (some w) h locs) (hc : cells ≤ ce) (hs : slots ≤ sl) : Go p e below s ce sl Q (T.setTop (mkF m pc Ls (w :: rest))) :=
  go_ret X hlk (fun h => by rw [hret] at h; cases h) eT hQ hc hs (fun fs hr => retOut X hx hret hn (Or.inr (Or.inr (Or.inr (Or.inr ⟨rfl, ht, hw⟩)))) hd hr)
theorem go_retV (X : Stand p l e R s m args below meth c T locs cells slots) (hx : p.tables.exec = Jvm.exec) (hlk : meth.locks = false) (hret : meth.sig.returnType = none) {pc : Nat} {Ls : Array Slot}
    (hd : decode c.code pc = .ok (.return_, 1)) (eT : T.heap = h) (hQ : Q none h locs) (hc : cells ≤ ce) (hs : slots ≤ sl) : Go p e below s ce sl Q (T.setTop (mkF m pc Ls [])) :=
  go_ret X hlk (fun _ => rfl) eT hQ hc hs (fun fs hr => X.returnOut hx hret hd hr)
/-- it returned v, wrote nothing and made nothing -/
def PureR (v : Option Value) (h0 : Heap) : Option Value → Heap → List Loc → Prop := fun v' h L => v' = v ∧ h = h0 ∧ L = []
/-- a static method by its contract -/
theorem callSQ (X : Stand p l e R s m args below meth c T locs cells slots) (hx : p.tables.exec = Jvm.exec) (hZ : Z.Warmed39 s.vm) {own : String} {index : Nat} {y : MethodName} {bytes : ByteArray} {maxL : Nat} {rt : Option FieldType} {rm : Room}
    (hown : s.vm.findClass own = some m.cls) (w1 : (Jvm.Cond.methodLink own index y).before a0 Z = true) (w2 : (Jvm.Cond.static y).before a0 Z = true) (w3 : (Jvm.Cond.initialized y.cls).before a0 Z = true) (w4 : (Jvm.Cond.code y bytes maxL rt).before a0 Z = true)
    (hy : y.cls ≠ "java/lang/invoke/MethodHandle" ∧ y.cls ≠ "java/lang/invoke/VarHandle") {av : List Value} (hM : Meets l Z y bytes maxL rt [] rm av.toArray h Q) (eT : T.heap = h)
    {pc : Nat} {Ls : Array Slot} {rest : List Value} {ps : List FieldType} {r : Option FieldType} (hsize : Ls.size = c.maxLocals) (hp : parseMethodDescriptor y.desc = some ⟨ps, r⟩) (hlen : av.length = ps.length)
    (W : Nat) (hW : (rest.map fun v => v.category).sum ≤ W) (hf : rm.frames + 1 ≤ R.frames) (hl : W + (maxL + 11) + rm.locals ≤ R.locals) (hc : cells + rm.cells ≤ R.cells) (hs : slots + rm.slots ≤ R.slots) (hd : decode c.code pc = .ok (.invokestatic index, 3)) :
    ∃ v T' L, Stand p l e R s m args below meth c T' (locs ++ L) (cells + rm.cells) (slots + rm.slots) ∧ Q v T'.heap L ∧
      ∀ t, Steps p.tables e below (T'.setTop (mkF m (pc + 3) Ls (v.toList ++ rest))) t → Steps p.tables e below (T.setTop (mkF m pc Ls (av.reverse ++ rest))) t := by
  obtain ⟨v, _, ⟨T2, L2, k2, n2⟩, -, X2, ⟨Lc2, hQ2, l2, y2, z2⟩, st2⟩ := Jvm.LawKit.callS X hx (y := y) hown (mvT hZ w1) (mvT hZ w2) (mvT hZ w3) (mvT hZ w4) hy (backOf (W := W) hM hZ w4 w3 hf hl) (g := mkF m pc Ls (av.reverse ++ rest)) rfl hsize (argsL := av) (rest := rest) (lenOf hp hlen) rfl (by show 2 * 0 + _ ≤ _; rw [Nat.mul_zero, Nat.zero_add]; exact hW) hd (fun _ _ => ⟨rfl, eT, hc, hs⟩)
  dsimp only [Pt.U, Pt.locs, Pt.cells, Pt.slots] at X2 l2 y2 z2 st2 hQ2
  subst l2 y2 z2
  exact ⟨v, T2, Lc2, X2, hQ2, st2⟩
/-- a static method that writes and makes nothing -/
theorem callS0 (X : Stand p l e R s m args below meth c T locs cells slots) (hx : p.tables.exec = Jvm.exec) (hZ : Z.Warmed39 s.vm) {own : String} {index : Nat} {y : MethodName} {bytes : ByteArray} {maxL : Nat} {rt : Option FieldType} {fr lo : Nat} {v : Option Value}
    (hown : s.vm.findClass own = some m.cls) (w1 : (Jvm.Cond.methodLink own index y).before a0 Z = true) (w2 : (Jvm.Cond.static y).before a0 Z = true) (w3 : (Jvm.Cond.initialized y.cls).before a0 Z = true) (w4 : (Jvm.Cond.code y bytes maxL rt).before a0 Z = true)
    (hy : y.cls ≠ "java/lang/invoke/MethodHandle" ∧ y.cls ≠ "java/lang/invoke/VarHandle") {av : List Value} (hM : Meets l Z y bytes maxL rt [] ({ frames := fr, cells := 0, slots := 0, locals := lo } : Room) av.toArray h (PureR v h)) (eT : T.heap = h)
    {pc : Nat} {Ls : Array Slot} {rest : List Value} {ps : List FieldType} {r : Option FieldType} (hsize : Ls.size = c.maxLocals) (hp : parseMethodDescriptor y.desc = some ⟨ps, r⟩) (hlen : av.length = ps.length)
    (W : Nat) (hW : (rest.map fun v => v.category).sum ≤ W) (hf : fr + 1 ≤ R.frames) (hl : W + (maxL + 11) + lo ≤ R.locals) (hc : cells ≤ R.cells) (hs : slots ≤ R.slots) (hd : decode c.code pc = .ok (.invokestatic index, 3)) :
    ∃ T', Stand p l e R s m args below meth c T' locs cells slots ∧ T'.heap = h ∧
      ∀ t, Steps p.tables e below (T'.setTop (mkF m (pc + 3) Ls (v.toList ++ rest))) t → Steps p.tables e below (T.setTop (mkF m pc Ls (av.reverse ++ rest))) t := by
  obtain ⟨_, T2, _, X2, ⟨rfl, h2, rfl⟩, st2⟩ := callSQ X hx hZ hown w1 w2 w3 w4 hy hM eT hsize hp hlen W hW hf hl hc hs hd
  rw [List.append_nil] at X2
  exact ⟨T2, X2, h2, st2⟩
end OwnKit
section OwnKit2
variable {p : Program} {l : Launch} {e : Env} {R : Room} {s : State} {m : MethodId} {args : Array Value} {below : List Frame} {meth : Method} {c : Code} {T : State} {locs : List Loc} {cells slots : Nat} {Z : State} {h h0 : Heap} {ce sl : Nat} {Q : Option Value → Heap → List Loc → Prop} {U U' : State} {a0 : Array Value}
/-- an instance method by its contract, the resolved one being the selected one -/
theorem callVQ (X : Stand p l e R s m args below meth c T locs cells slots) (hx : p.tables.exec = Jvm.exec) (hZ : Z.Warmed39 s.vm) {own C : String} {index : Nat} {y : MethodName} {bytes : ByteArray} {maxL : Nat} {rt : Option FieldType} {rm : Room}
    (hown : s.vm.findClass own = some m.cls) (w1 : (Jvm.Cond.methodLink own index y).before a0 Z = true) (w2 : (Jvm.Cond.declares y).before a0 Z = true) (w3 : (Jvm.Cond.selects C y y).before a0 Z = true) (w5 : (Jvm.Cond.instanceMethod y).before a0 Z = true) (w6 : (Jvm.Cond.initialized y.cls).before a0 Z = true) (w4 : (Jvm.Cond.code y bytes maxL rt).before a0 Z = true)
    (hy : y.cls ≠ "java/lang/invoke/MethodHandle" ∧ y.cls ≠ "java/lang/invoke/VarHandle") {b : Addr} {av : List Value} (hE : Exa Z h b C) (hM : Meets l Z y bytes maxL rt [] rm (.ref b :: av).toArray h Q) (eT : T.heap = h)
    {pc : Nat} {Ls : Array Slot} {rest : List Value} {ps : List FieldType} {r : Option FieldType} (hsize : Ls.size = c.maxLocals) (hp : parseMethodDescriptor y.desc = some ⟨ps, r⟩) (hlen : av.length = ps.length)
    (W : Nat) (hW : (rest.map fun v => v.category).sum ≤ W) (hf : rm.frames + 1 ≤ R.frames) (hl : W + (maxL + 11) + rm.locals ≤ R.locals) (hc : cells + rm.cells ≤ R.cells) (hs : slots + rm.slots ≤ R.slots) (hd : decode c.code pc = .ok (.invokevirtual index, 3)) :
    ∃ v T' L, Stand p l e R s m args below meth c T' (locs ++ L) (cells + rm.cells) (slots + rm.slots) ∧ Q v T'.heap L ∧
      ∀ t, Steps p.tables e below (T'.setTop (mkF m (pc + 3) Ls (v.toList ++ rest))) t → Steps p.tables e below (T.setTop (mkF m pc Ls (av.reverse ++ .ref b :: rest))) t := by
  obtain ⟨cq, kq, qa, qb, qc⟩ := isOf hZ eT hE
  obtain ⟨v, _, ⟨T2, L2, k2, n2⟩, -, X2, ⟨Lc2, hQ2, l2, y2, z2⟩, st2⟩ := X.virtualBack hx (y := y) (z := y) hown (mvT hZ w1) (mvT hZ w2) (notFace_of_selects (args := #[]) (mvT hZ w3)) (mvT hZ w3) (mvT hZ w5) hy (backOf (W := W) hM hZ w4 w6 hf hl) qa qc (g := mkF m pc Ls (av.reverse ++ .ref b :: rest)) rfl hsize (Steps.refl _) (argsL := av) (rest := rest) (lenOf hp hlen) rfl (by show 2 * 0 + _ ≤ _; rw [Nat.mul_zero, Nat.zero_add]; exact hW) hd (fun _ _ => ⟨rfl, eT, hc, hs⟩)
  dsimp only [Pt.U, Pt.locs, Pt.cells, Pt.slots] at X2 l2 y2 z2 st2 hQ2
  subst l2 y2 z2
  exact ⟨v, T2, Lc2, X2, hQ2, fun t k => st2.trans k⟩
theorem callV0 (X : Stand p l e R s m args below meth c T locs cells slots) (hx : p.tables.exec = Jvm.exec) (hZ : Z.Warmed39 s.vm) {own C : String} {index : Nat} {y : MethodName} {bytes : ByteArray} {maxL : Nat} {rt : Option FieldType} {fr lo : Nat} {v : Option Value}
    (hown : s.vm.findClass own = some m.cls) (w1 : (Jvm.Cond.methodLink own index y).before a0 Z = true) (w2 : (Jvm.Cond.declares y).before a0 Z = true) (w3 : (Jvm.Cond.selects C y y).before a0 Z = true) (w5 : (Jvm.Cond.instanceMethod y).before a0 Z = true) (w6 : (Jvm.Cond.initialized y.cls).before a0 Z = true) (w4 : (Jvm.Cond.code y bytes maxL rt).before a0 Z = true)
    (hy : y.cls ≠ "java/lang/invoke/MethodHandle" ∧ y.cls ≠ "java/lang/invoke/VarHandle") {b : Addr} {av : List Value} (hE : Exa Z h b C) (hM : Meets l Z y bytes maxL rt [] ({ frames := fr, cells := 0, slots := 0, locals := lo } : Room) (.ref b :: av).toArray h (PureR v h)) (eT : T.heap = h)
    {pc : Nat} {Ls : Array Slot} {rest : List Value} {ps : List FieldType} {r : Option FieldType} (hsize : Ls.size = c.maxLocals) (hp : parseMethodDescriptor y.desc = some ⟨ps, r⟩) (hlen : av.length = ps.length)
    (W : Nat) (hW : (rest.map fun v => v.category).sum ≤ W) (hf : fr + 1 ≤ R.frames) (hl : W + (maxL + 11) + lo ≤ R.locals) (hc : cells ≤ R.cells) (hs : slots ≤ R.slots) (hd : decode c.code pc = .ok (.invokevirtual index, 3)) :
    ∃ T', Stand p l e R s m args below meth c T' locs cells slots ∧ T'.heap = h ∧
      ∀ t, Steps p.tables e below (T'.setTop (mkF m (pc + 3) Ls (v.toList ++ rest))) t → Steps p.tables e below (T.setTop (mkF m pc Ls (av.reverse ++ .ref b :: rest))) t := by
  obtain ⟨_, T2, _, X2, ⟨rfl, h2, rfl⟩, st2⟩ := callVQ X hx hZ hown w1 w2 w3 w5 w6 w4 hy hE hM eT hsize hp hlen W hW hf hl hc hs hd
  rw [List.append_nil] at X2
  exact ⟨T2, X2, h2, st2⟩
/-- a constructor by its contract -/
theorem callIQ (X : Stand p l e R s m args below meth c T locs cells slots) (hx : p.tables.exec = Jvm.exec) (hZ : Z.Warmed39 s.vm) {own : String} {index : Nat} {y : MethodName} {bytes : ByteArray} {maxL : Nat} {rm : Room} (hy1 : y.name = "<init>")
    (hown : s.vm.findClass own = some m.cls) (w1 : (Jvm.Cond.methodLink own index y).before a0 Z = true) (w5 : (Jvm.Cond.instanceMethod y).before a0 Z = true) (w6 : (Jvm.Cond.initialized y.cls).before a0 Z = true) (w4 : (Jvm.Cond.code y bytes maxL none).before a0 Z = true)
    (hy : y.cls ≠ "java/lang/invoke/MethodHandle" ∧ y.cls ≠ "java/lang/invoke/VarHandle") {b : Addr} {av : List Value} (hM : Meets l Z y bytes maxL none [] rm (.ref b :: av).toArray h Q) (eT : T.heap = h)
    {pc : Nat} {Ls : Array Slot} {rest : List Value} {ps : List FieldType} {r : Option FieldType} (hsize : Ls.size = c.maxLocals) (hp : parseMethodDescriptor y.desc = some ⟨ps, r⟩) (hlen : av.length = ps.length)
    (W : Nat) (hW : (rest.map fun v => v.category).sum ≤ W) (hf : rm.frames + 1 ≤ R.frames) (hl : W + (maxL + 11) + rm.locals ≤ R.locals) (hc : cells + rm.cells ≤ R.cells) (hs : slots + rm.slots ≤ R.slots) (hd : decode c.code pc = .ok (.invokespecial index, 3)) :
    ∃ v T' L, Stand p l e R s m args below meth c T' (locs ++ L) (cells + rm.cells) (slots + rm.slots) ∧ Q v T'.heap L ∧
      ∀ t, Steps p.tables e below (T'.setTop (mkF m (pc + 3) Ls (v.toList ++ rest))) t → Steps p.tables e below (T.setTop (mkF m pc Ls (av.reverse ++ .ref b :: rest))) t := by
  obtain ⟨v, _, ⟨T2, L2, k2, n2⟩, -, X2, ⟨Lc2, hQ2, l2, y2, z2⟩, st2⟩ := X.specialBack hx (y := y) hy1 hown (mvT hZ w1) (mvT hZ w5) (mvT hZ w4) hy (backOf (W := W) hM hZ w4 w6 hf hl) (g := mkF m pc Ls (av.reverse ++ .ref b :: rest)) rfl hsize (Steps.refl _) (a := b) (argsL := av) (rest := rest) (lenOf hp hlen) rfl (by show 2 * 0 + _ ≤ _; rw [Nat.mul_zero, Nat.zero_add]; exact hW) hd (fun _ _ => ⟨rfl, eT, hc, hs⟩)
  dsimp only [Pt.U, Pt.locs, Pt.cells, Pt.slots] at X2 l2 y2 z2 st2 hQ2
  subst l2 y2 z2
  exact ⟨v, T2, Lc2, X2, hQ2, fun t k => st2.trans k⟩
end OwnKit2
section OwnKit3
variable {args : Array Value} {first s : State} {o : Option Outcome} {idx : List Nat} {a b : Term}
theorem own_eqI {k : Int32} (h : (Jvm.Cond.eq a (.int k)).value args first o s idx = some true) : a.eval args first o idx s = some (.int k) := by
  obtain ⟨x, y, hx, hy, -, hk⟩ := cmp_v (Or.inl h)
  rw [Term.int_eval] at hy
  cases hy
  obtain ⟨z, rfl⟩ := hk
  have q := gotT (Cond.eq_ints hx (Term.int_eval k)) h
  rw [hx, q]
theorem own_eqR {b' : Addr} (h : (Jvm.Cond.eq a b).value args first o s idx = some true) (hb : b.eval args first o idx s = some (.ref b')) : a.eval args first o idx s = some (.ref b') := by
  obtain ⟨x, y, hx, hy, -, hk⟩ := cmp_v (Or.inl h)
  rw [hb] at hy
  cases hy
  have hk' : x.isRef = true := hk.2
  have q := gotT (eq_R hx hb hk' rfl) h
  rw [hx, q]
end OwnKit3
theorem own_k0 (m : MethodId) (a : Addr) : entryFrame m #[(.ref a)] 1 = mkF m 0 #[.val (.ref a)] [] := by first | (simp [entryFrame, mkF, argsToLocals, Value.category]; done) | rfl
theorem own_k1 : decode prog_47_method_6_code 0 = .ok (.aload_n 0, 1) := by decide +kernel
theorem own_k2 : decode prog_47_method_6_code 1 = .ok (.getstatic 3, 3) := by decide +kernel
theorem own_k3 : decode prog_47_method_6_code 4 = .ok (.if_acmp .eq 10, 3) := by decide +kernel
theorem own_k4 : decode prog_47_method_6_code 14 = .ok (.iconst 1, 1) := by decide +kernel
theorem own_k5 : decode prog_47_method_6_code 15 = .ok (.goto 4, 3) := by decide +kernel
theorem own_k6 : decode prog_47_method_6_code 19 = .ok (.ireturn, 1) := by decide +kernel
theorem own_k7 : decode prog_47_method_6_code 7 = .ok (.aload_n 0, 1) := by decide +kernel
theorem own_k8 : decode prog_47_method_6_code 8 = .ok (.getstatic 7, 3) := by decide +kernel
theorem own_k9 : decode prog_47_method_6_code 11 = .ok (.if_acmp .ne 7, 3) := by decide +kernel
theorem own_k10 : decode prog_47_method_6_code 18 = .ok (.iconst 0, 1) := by decide +kernel
theorem own_k11 : plainName "com/example/dislope/dislope/draw/layout/Layout" = true := by first | (simp [plainName, overriddenIn]; done) | decide +kernel
def own_f1 (a : Addr) (aC : Addr) (aK : Addr) : Int32 := (if a = aC then (1 : Int32) else (if a = aK then (1 : Int32) else (0 : Int32)))
set_option maxRecDepth 65536 in
set_option maxHeartbeats 40000000 in
theorem own_rm1 (l : Launch) (Z : State) (a0 : Array Value) (hw : ∀ d ∈ tables_1, d.before a0 Z = true) (ws : List Jvm.Cond) (a : Addr) (aC : Addr) (aK : Addr) (h0 : Heap) (S_CLADOGRAM : Sta Z h0 "com/example/dislope/dislope/draw/layout/Layout" "CLADOGRAM" "Lcom/example/dislope/dislope/draw/layout/Layout;" (.ref aC)) (S_COMPACT : Sta Z h0 "com/example/dislope/dislope/draw/layout/Layout" "COMPACT" "Lcom/example/dislope/dislope/draw/layout/Layout;" (.ref aK)) : Meets l Z (⟨"com/example/dislope/dislope/draw/layout/Layout", "bendsBadEdges", "()Z"⟩ : MethodName) prog_47_method_6_code 1 (some .boolean) ws ({ frames := 0, cells := 0, slots := 0, locals := 0 } : Room) #[(.ref a)] h0 (PureR (some (.int (own_f1 a aC aK))) h0) := by
  refine meets_of (plainFor_of_name own_k11) ?_
  intro p e s m below meth c s₁ X0 hx hZ hby hml hret hlk hown hnm e0
  replace hml : c.maxLocals = 1 := hml
  replace hown : s.vm.findClass "com/example/dislope/dislope/draw/layout/Layout" = some m.cls := hown
  refine Go.cast (own_k0 m a) ?_
  refine Go.via (U' := s₁.setTop (mkF m 1 #[.val (.ref a)] [(.ref a)])) (fun tG kG => XS.aloadN X0.here hx rfl (hb hby own_k1) rfl rfl kG) ?_
  obtain ⟨T1, X1, e1, st1⟩ := getS2 X0 hx hZ hown (host := "") (Or.inl (hw _ (List.mem_of_getElem? (i := 8) rfl))) Via.refl e0 S_CLADOGRAM (g := (mkF m 1 #[.val (.ref a)] [(.ref a)])) rfl (hb hby own_k2)
  refine Go.via (U' := T1.setTop (mkF m 4 #[.val (.ref a)] [(.ref aC), (.ref a)])) (fun tG kG => st1 tG kG) ?_
  by_cases ha4 : a = aC
  · refine Go.via (U' := T1.setTop (mkF m 14 #[.val (.ref a)] [])) (fun tG kG => Jvm.RoadKit.acmp (g := (mkF m 4 #[.val (.ref a)] [(.ref aC), (.ref a)])) X1 hx rfl rfl rfl (pc0 := 4) (pc' := 14) (same := true) rfl (hb hby own_k3) rfl (decide_eq_true (congrArg Value.ref ha4)) (by decide) (by decide) kG) ?_
    refine Go.via (U' := T1.setTop (mkF m 15 #[.val (.ref a)] [(.int (1 : Int32))])) (fun tG kG => XS.iconst X1.here hx rfl (hb hby own_k4) kG) ?_
    refine Go.via (U' := T1.setTop (mkF m 19 #[.val (.ref a)] [(.int (1 : Int32))])) (fun tG kG => XS.goto X1.here hx rfl (pc0 := 15) (pc' := 19) rfl (hb hby own_k5) (by decide) (by decide) kG) ?_
    exact go_retN X1 hx hlk (t := .boolean) hret (by simp) (hb hby own_k6) e1 ⟨(congrArg (fun z => some (Value.int z)) (show nar .boolean (1 : Int32) = (own_f1 a aC aK) from by unfold own_f1; simp only [if_pos ha4] <;> rfl)), rfl, rfl⟩ (by decide) (by decide)
  · refine Go.via (U' := T1.setTop (mkF m 7 #[.val (.ref a)] [])) (fun tG kG => Jvm.RoadKit.acmp (g := (mkF m 4 #[.val (.ref a)] [(.ref aC), (.ref a)])) X1 hx rfl rfl rfl (pc0 := 4) (pc' := 7) (same := false) rfl (hb hby own_k3) rfl (decide_eq_false fun q => ha4 (Value.ref.inj q)) (by decide) (by decide) kG) ?_
    refine Go.via (U' := T1.setTop (mkF m 8 #[.val (.ref a)] [(.ref a)])) (fun tG kG => XS.aloadN X1.here hx rfl (hb hby own_k7) rfl rfl kG) ?_
    obtain ⟨T2, X2, e2, st2⟩ := getS2 X1 hx hZ hown (host := "") (Or.inl (hw _ (List.mem_of_getElem? (i := 11) rfl))) Via.refl e1 S_COMPACT (g := (mkF m 8 #[.val (.ref a)] [(.ref a)])) rfl (hb hby own_k8)
    refine Go.via (U' := T2.setTop (mkF m 11 #[.val (.ref a)] [(.ref aK), (.ref a)])) (fun tG kG => st2 tG kG) ?_
    by_cases ha11 : a = aK
    · refine Go.via (U' := T2.setTop (mkF m 14 #[.val (.ref a)] [])) (fun tG kG => Jvm.RoadKit.acmp (g := (mkF m 11 #[.val (.ref a)] [(.ref aK), (.ref a)])) X2 hx rfl rfl rfl (pc0 := 11) (pc' := 14) (same := true) rfl (hb hby own_k9) rfl (decide_eq_true (congrArg Value.ref ha11)) (by decide) (by decide) kG) ?_
      refine Go.via (U' := T2.setTop (mkF m 15 #[.val (.ref a)] [(.int (1 : Int32))])) (fun tG kG => XS.iconst X2.here hx rfl (hb hby own_k4) kG) ?_
      refine Go.via (U' := T2.setTop (mkF m 19 #[.val (.ref a)] [(.int (1 : Int32))])) (fun tG kG => XS.goto X2.here hx rfl (pc0 := 15) (pc' := 19) rfl (hb hby own_k5) (by decide) (by decide) kG) ?_
      exact go_retN X2 hx hlk (t := .boolean) hret (by simp) (hb hby own_k6) e2 ⟨(congrArg (fun z => some (Value.int z)) (show nar .boolean (1 : Int32) = (own_f1 a aC aK) from by unfold own_f1; simp only [if_neg ha4, if_pos ha11] <;> rfl)), rfl, rfl⟩ (by decide) (by decide)
    · refine Go.via (U' := T2.setTop (mkF m 18 #[.val (.ref a)] [])) (fun tG kG => Jvm.RoadKit.acmp (g := (mkF m 11 #[.val (.ref a)] [(.ref aK), (.ref a)])) X2 hx rfl rfl rfl (pc0 := 11) (pc' := 18) (same := false) rfl (hb hby own_k9) rfl (decide_eq_false fun q => ha11 (Value.ref.inj q)) (by decide) (by decide) kG) ?_
      refine Go.via (U' := T2.setTop (mkF m 19 #[.val (.ref a)] [(.int (0 : Int32))])) (fun tG kG => XS.iconst X2.here hx rfl (hb hby own_k10) kG) ?_
      exact go_retN X2 hx hlk (t := .boolean) hret (by simp) (hb hby own_k6) e2 ⟨(congrArg (fun z => some (Value.int z)) (show nar .boolean (0 : Int32) = (own_f1 a aC aK) from by unfold own_f1; simp only [if_neg ha4, if_neg ha11] <;> rfl)), rfl, rfl⟩ (by decide) (by decide)
theorem own_k12 (m : MethodId) (x0 : Int32) : entryFrame m #[(.int x0)] maxLocals = mkF m 0 #[.val (.int x0), .unset, .unset, .unset] [] := by first | (simp [entryFrame, mkF, argsToLocals, Value.category, maxLocals]; done) | rfl
theorem own_k13 : parseMethodDescriptor "()Z" = some ⟨[], some .boolean⟩ := by decide +kernel
theorem own_k14 : plainName "com/example/dislope/dislope/draw/layout/LayoutBendsBadEdgesPinLaw" = true := by first | (simp [plainName, overriddenIn]; done) | decide +kernel
def own_f0 (x0 : Int32) (a_CLADOGRAM : Addr) (a_L : Addr) (a_COMPACT : Addr) (a_TREE : Addr) : Int32 := (if (x0 &&& (3 : Int32)) = (0 : Int32) then (if (own_f1 a_CLADOGRAM a_CLADOGRAM a_COMPACT) = (1 : Int32) then (1 : Int32) else (0 : Int32)) else (if (x0 &&& (3 : Int32)) = (1 : Int32) then (if (own_f1 a_COMPACT a_CLADOGRAM a_COMPACT) = (1 : Int32) then (1 : Int32) else (0 : Int32)) else (if (x0 &&& (3 : Int32)) = (2 : Int32) then (if (own_f1 a_TREE a_CLADOGRAM a_COMPACT) = (0 : Int32) then (1 : Int32) else (0 : Int32)) else (if (own_f1 a_L a_CLADOGRAM a_COMPACT) = (0 : Int32) then (1 : Int32) else (0 : Int32)))))
set_option maxRecDepth 65536 in
set_option maxHeartbeats 40000000 in
theorem own_rm0 (l : Launch) (Z : State) (a0 : Array Value) (hw : ∀ d ∈ tables_1, d.before a0 Z = true) (ws : List Jvm.Cond) (x0 : Int32) (a_CLADOGRAM : Addr) (a_L : Addr) (a_COMPACT : Addr) (a_TREE : Addr) (h0 : Heap) (E_a_CLADOGRAM : Exa Z h0 a_CLADOGRAM "com/example/dislope/dislope/draw/layout/Layout") (F_a_CLADOGRAM_ordinal : Fld Z h0 a_CLADOGRAM "java/lang/Enum" "ordinal" "I" (.int (0 : Int32))) (E_a_L : Exa Z h0 a_L "com/example/dislope/dislope/draw/layout/Layout") (F_a_L_ordinal : Fld Z h0 a_L "java/lang/Enum" "ordinal" "I" (.int (3 : Int32))) (E_a_COMPACT : Exa Z h0 a_COMPACT "com/example/dislope/dislope/draw/layout/Layout") (F_a_COMPACT_ordinal : Fld Z h0 a_COMPACT "java/lang/Enum" "ordinal" "I" (.int (1 : Int32))) (E_a_TREE : Exa Z h0 a_TREE "com/example/dislope/dislope/draw/layout/Layout") (F_a_TREE_ordinal : Fld Z h0 a_TREE "java/lang/Enum" "ordinal" "I" (.int (2 : Int32))) (S_CLADOGRAM : Sta Z h0 "com/example/dislope/dislope/draw/layout/Layout" "CLADOGRAM" "Lcom/example/dislope/dislope/draw/layout/Layout;" (.ref a_CLADOGRAM)) (S_L : Sta Z h0 "com/example/dislope/dislope/draw/layout/Layout" "L" "Lcom/example/dislope/dislope/draw/layout/Layout;" (.ref a_L)) (S_COMPACT : Sta Z h0 "com/example/dislope/dislope/draw/layout/Layout" "COMPACT" "Lcom/example/dislope/dislope/draw/layout/Layout;" (.ref a_COMPACT)) (S_TREE : Sta Z h0 "com/example/dislope/dislope/draw/layout/Layout" "TREE" "Lcom/example/dislope/dislope/draw/layout/Layout;" (.ref a_TREE)) : Meets l Z x code maxLocals ret ws room_1 #[(.int x0)] h0 (PureR (some (.int (own_f0 x0 a_CLADOGRAM a_L a_COMPACT a_TREE))) h0) := by
  refine meets_of (plainFor_of_name own_k14) ?_
  intro p e s m below meth c s₁ X0 hx hZ hby hml hret hlk hown hnm e0
  replace hml : c.maxLocals = 4 := hml
  replace hown : s.vm.findClass "com/example/dislope/dislope/draw/layout/LayoutBendsBadEdgesPinLaw" = some m.cls := hown
  refine Go.cast (own_k12 m x0) ?_
  refine Go.via (U' := s₁.setTop (mkF m 1 #[.val (.int x0), .unset, .unset, .unset] [(.int x0)])) (fun tG kG => XS.iloadN X0.here hx rfl (hb hby at_0) rfl kG) ?_
  refine Go.via (U' := s₁.setTop (mkF m 2 #[.val (.int x0), .unset, .unset, .unset] [(.int (3 : Int32)), (.int x0)])) (fun tG kG => XS.iconst X0.here hx rfl (hb hby at_1) kG) ?_
  refine Go.via (U' := s₁.setTop (mkF m 3 #[.val (.int x0), .unset, .unset, .unset] [(.int (x0 &&& (3 : Int32)))])) (fun tG kG => XS.iand X0.here hx rfl (hb hby at_2) rfl kG) ?_
  refine Go.via (U' := s₁.setTop (mkF m 4 #[.val (.int x0), .val (.int (x0 &&& (3 : Int32))), .unset, .unset] [])) (fun tG kG => XS.istoreN X0.here hx rfl (hb hby at_3) rfl (l' := #[.val (.int x0), .val (.int (x0 &&& (3 : Int32))), .unset, .unset]) rfl kG) ?_
  refine Go.via (U' := s₁.setTop (mkF m 5 #[.val (.int x0), .val (.int (x0 &&& (3 : Int32))), .unset, .unset] [(.int (x0 &&& (3 : Int32)))])) (fun tG kG => XS.iloadN X0.here hx rfl (hb hby at_4) rfl kG) ?_
  by_cases hc5 : (x0 &&& (3 : Int32)) = (0 : Int32)
  · refine Go.via (U' := s₁.setTop (mkF m 8 #[.val (.int x0), .val (.int (x0 &&& (3 : Int32))), .unset, .unset] [])) (fun tG kG => XS.ifNo X0.here hx rfl (hb hby at_5) rfl ((if0 _ _).trans (teq hc5).2) kG) ?_
    obtain ⟨T1, X1, e1, st1⟩ := getS2 X0 hx hZ hown (host := "") (Or.inl (hw _ (List.mem_of_getElem? (i := 0) rfl))) Via.refl e0 S_CLADOGRAM (g := (mkF m 8 #[.val (.int x0), .val (.int (x0 &&& (3 : Int32))), .unset, .unset] [])) rfl (hb hby at_8)
    refine Go.via (U' := T1.setTop (mkF m 11 #[.val (.int x0), .val (.int (x0 &&& (3 : Int32))), .unset, .unset] [(.ref a_CLADOGRAM)])) (fun tG kG => st1 tG kG) ?_
    refine Go.via (U' := T1.setTop (mkF m 12 #[.val (.int x0), .val (.int (x0 &&& (3 : Int32))), .val (.ref a_CLADOGRAM), .unset] [])) (fun tG kG => XS.astoreN X1.here hx rfl (hb hby at_11) rfl rfl (l' := #[.val (.int x0), .val (.int (x0 &&& (3 : Int32))), .val (.ref a_CLADOGRAM), .unset]) rfl kG) ?_
    refine Go.via (U' := T1.setTop (mkF m 13 #[.val (.int x0), .val (.int (x0 &&& (3 : Int32))), .val (.ref a_CLADOGRAM), .unset] [(.int (1 : Int32))])) (fun tG kG => XS.iconst X1.here hx rfl (hb hby at_12) kG) ?_
    refine Go.via (U' := T1.setTop (mkF m 14 #[.val (.int x0), .val (.int (x0 &&& (3 : Int32))), .val (.ref a_CLADOGRAM), .val (.int (1 : Int32))] [])) (fun tG kG => XS.istoreN X1.here hx rfl (hb hby at_13) rfl (l' := #[.val (.int x0), .val (.int (x0 &&& (3 : Int32))), .val (.ref a_CLADOGRAM), .val (.int (1 : Int32))]) rfl kG) ?_
    refine Go.via (U' := T1.setTop (mkF m 51 #[.val (.int x0), .val (.int (x0 &&& (3 : Int32))), .val (.ref a_CLADOGRAM), .val (.int (1 : Int32))] [])) (fun tG kG => XS.goto X1.here hx rfl (pc0 := 14) (pc' := 51) rfl (hb hby at_14) (by decide) (by decide) kG) ?_
    refine Go.via (U' := T1.setTop (mkF m 52 #[.val (.int x0), .val (.int (x0 &&& (3 : Int32))), .val (.ref a_CLADOGRAM), .val (.int (1 : Int32))] [(.ref a_CLADOGRAM)])) (fun tG kG => XS.aloadN X1.here hx rfl (hb hby at_51) rfl rfl kG) ?_
    obtain ⟨T2, X2, e2, st2⟩ := callV0 X1 hx hZ hown (hw _ (List.mem_of_getElem? (i := 3) rfl)) (hw _ (List.mem_of_getElem? (i := 4) rfl)) (hw _ (List.mem_of_getElem? (i := 6) rfl)) (hw _ (List.mem_of_getElem? (i := 5) rfl)) (hw _ (List.mem_of_getElem? (i := 1) rfl)) (hw _ (List.mem_of_getElem? (i := 7) rfl)) (by decide) (b := a_CLADOGRAM) (av := []) E_a_CLADOGRAM (own_rm1 l Z a0 hw [] a_CLADOGRAM a_CLADOGRAM a_COMPACT h0 S_CLADOGRAM S_COMPACT) e1 (pc := 52) (Ls := #[.val (.int x0), .val (.int (x0 &&& (3 : Int32))), .val (.ref a_CLADOGRAM), .val (.int (1 : Int32))]) (rest := []) (by rw [hml]; rfl) own_k13 rfl 0 (Nat.le_of_eq rfl) (by decide) (by decide) (by decide) (by decide) (hb hby at_52)
    refine Go.via (U' := T2.setTop (mkF m 55 #[.val (.int x0), .val (.int (x0 &&& (3 : Int32))), .val (.ref a_CLADOGRAM), .val (.int (1 : Int32))] [(.int (own_f1 a_CLADOGRAM a_CLADOGRAM a_COMPACT))])) (fun tG kG => st2 tG kG) ?_
    refine Go.via (U' := T2.setTop (mkF m 56 #[.val (.int x0), .val (.int (x0 &&& (3 : Int32))), .val (.ref a_CLADOGRAM), .val (.int (1 : Int32))] [(.int (1 : Int32)), (.int (own_f1 a_CLADOGRAM a_CLADOGRAM a_COMPACT))])) (fun tG kG => XS.iloadN X2.here hx rfl (hb hby at_55) rfl kG) ?_
    by_cases hc56 : (own_f1 a_CLADOGRAM a_CLADOGRAM a_COMPACT) = (1 : Int32)
    · refine Go.via (U' := T2.setTop (mkF m 59 #[.val (.int x0), .val (.int (x0 &&& (3 : Int32))), .val (.ref a_CLADOGRAM), .val (.int (1 : Int32))] [])) (fun tG kG => XS.icmpNo X2.here hx rfl (hb hby at_56) rfl (teq hc56).2 kG) ?_
      refine Go.via (U' := T2.setTop (mkF m 60 #[.val (.int x0), .val (.int (x0 &&& (3 : Int32))), .val (.ref a_CLADOGRAM), .val (.int (1 : Int32))] [(.int (1 : Int32))])) (fun tG kG => XS.iconst X2.here hx rfl (hb hby at_59) kG) ?_
      refine Go.via (U' := T2.setTop (mkF m 64 #[.val (.int x0), .val (.int (x0 &&& (3 : Int32))), .val (.ref a_CLADOGRAM), .val (.int (1 : Int32))] [(.int (1 : Int32))])) (fun tG kG => XS.goto X2.here hx rfl (pc0 := 60) (pc' := 64) rfl (hb hby at_60) (by decide) (by decide) kG) ?_
      exact go_retN X2 hx hlk (t := .boolean) hret (by simp) (hb hby at_64) e2 ⟨(congrArg (fun z => some (Value.int z)) (show nar .boolean (1 : Int32) = (own_f0 x0 a_CLADOGRAM a_L a_COMPACT a_TREE) from by unfold own_f0; simp only [if_pos hc5, if_pos hc56] <;> rfl)), rfl, rfl⟩ (by decide) (by decide)
    · refine Go.via (U' := T2.setTop (mkF m 63 #[.val (.int x0), .val (.int (x0 &&& (3 : Int32))), .val (.ref a_CLADOGRAM), .val (.int (1 : Int32))] [])) (fun tG kG => XS.icmpYes X2.here hx rfl (pc0 := 56) (pc' := 63) rfl (hb hby at_56) rfl (feq hc56).2 (by decide) (by decide) kG) ?_
      refine Go.via (U' := T2.setTop (mkF m 64 #[.val (.int x0), .val (.int (x0 &&& (3 : Int32))), .val (.ref a_CLADOGRAM), .val (.int (1 : Int32))] [(.int (0 : Int32))])) (fun tG kG => XS.iconst X2.here hx rfl (hb hby at_63) kG) ?_
      exact go_retN X2 hx hlk (t := .boolean) hret (by simp) (hb hby at_64) e2 ⟨(congrArg (fun z => some (Value.int z)) (show nar .boolean (0 : Int32) = (own_f0 x0 a_CLADOGRAM a_L a_COMPACT a_TREE) from by unfold own_f0; simp only [if_pos hc5, if_neg hc56] <;> rfl)), rfl, rfl⟩ (by decide) (by decide)
  · refine Go.via (U' := s₁.setTop (mkF m 17 #[.val (.int x0), .val (.int (x0 &&& (3 : Int32))), .unset, .unset] [])) (fun tG kG => XS.ifYes X0.here hx rfl (pc0 := 5) (pc' := 17) rfl (hb hby at_5) rfl ((if0 _ _).trans (feq hc5).2) (by decide) (by decide) kG) ?_
    refine Go.via (U' := s₁.setTop (mkF m 18 #[.val (.int x0), .val (.int (x0 &&& (3 : Int32))), .unset, .unset] [(.int (x0 &&& (3 : Int32)))])) (fun tG kG => XS.iloadN X0.here hx rfl (hb hby at_17) rfl kG) ?_
    refine Go.via (U' := s₁.setTop (mkF m 19 #[.val (.int x0), .val (.int (x0 &&& (3 : Int32))), .unset, .unset] [(.int (1 : Int32)), (.int (x0 &&& (3 : Int32)))])) (fun tG kG => XS.iconst X0.here hx rfl (hb hby at_18) kG) ?_
    by_cases hc19 : (x0 &&& (3 : Int32)) = (1 : Int32)
    · refine Go.via (U' := s₁.setTop (mkF m 22 #[.val (.int x0), .val (.int (x0 &&& (3 : Int32))), .unset, .unset] [])) (fun tG kG => XS.icmpNo X0.here hx rfl (hb hby at_19) rfl (teq hc19).2 kG) ?_
      obtain ⟨T3, X3, e3, st3⟩ := getS2 X0 hx hZ hown (host := "") (Or.inl (hw _ (List.mem_of_getElem? (i := 15) rfl))) Via.refl e0 S_COMPACT (g := (mkF m 22 #[.val (.int x0), .val (.int (x0 &&& (3 : Int32))), .unset, .unset] [])) rfl (hb hby at_22)
      refine Go.via (U' := T3.setTop (mkF m 25 #[.val (.int x0), .val (.int (x0 &&& (3 : Int32))), .unset, .unset] [(.ref a_COMPACT)])) (fun tG kG => st3 tG kG) ?_
      refine Go.via (U' := T3.setTop (mkF m 26 #[.val (.int x0), .val (.int (x0 &&& (3 : Int32))), .val (.ref a_COMPACT), .unset] [])) (fun tG kG => XS.astoreN X3.here hx rfl (hb hby at_25) rfl rfl (l' := #[.val (.int x0), .val (.int (x0 &&& (3 : Int32))), .val (.ref a_COMPACT), .unset]) rfl kG) ?_
      refine Go.via (U' := T3.setTop (mkF m 27 #[.val (.int x0), .val (.int (x0 &&& (3 : Int32))), .val (.ref a_COMPACT), .unset] [(.int (1 : Int32))])) (fun tG kG => XS.iconst X3.here hx rfl (hb hby at_26) kG) ?_
      refine Go.via (U' := T3.setTop (mkF m 28 #[.val (.int x0), .val (.int (x0 &&& (3 : Int32))), .val (.ref a_COMPACT), .val (.int (1 : Int32))] [])) (fun tG kG => XS.istoreN X3.here hx rfl (hb hby at_27) rfl (l' := #[.val (.int x0), .val (.int (x0 &&& (3 : Int32))), .val (.ref a_COMPACT), .val (.int (1 : Int32))]) rfl kG) ?_
      refine Go.via (U' := T3.setTop (mkF m 51 #[.val (.int x0), .val (.int (x0 &&& (3 : Int32))), .val (.ref a_COMPACT), .val (.int (1 : Int32))] [])) (fun tG kG => XS.goto X3.here hx rfl (pc0 := 28) (pc' := 51) rfl (hb hby at_28) (by decide) (by decide) kG) ?_
      refine Go.via (U' := T3.setTop (mkF m 52 #[.val (.int x0), .val (.int (x0 &&& (3 : Int32))), .val (.ref a_COMPACT), .val (.int (1 : Int32))] [(.ref a_COMPACT)])) (fun tG kG => XS.aloadN X3.here hx rfl (hb hby at_51) rfl rfl kG) ?_
      obtain ⟨T4, X4, e4, st4⟩ := callV0 X3 hx hZ hown (hw _ (List.mem_of_getElem? (i := 3) rfl)) (hw _ (List.mem_of_getElem? (i := 4) rfl)) (hw _ (List.mem_of_getElem? (i := 6) rfl)) (hw _ (List.mem_of_getElem? (i := 5) rfl)) (hw _ (List.mem_of_getElem? (i := 1) rfl)) (hw _ (List.mem_of_getElem? (i := 7) rfl)) (by decide) (b := a_COMPACT) (av := []) E_a_COMPACT (own_rm1 l Z a0 hw [] a_COMPACT a_CLADOGRAM a_COMPACT h0 S_CLADOGRAM S_COMPACT) e3 (pc := 52) (Ls := #[.val (.int x0), .val (.int (x0 &&& (3 : Int32))), .val (.ref a_COMPACT), .val (.int (1 : Int32))]) (rest := []) (by rw [hml]; rfl) own_k13 rfl 0 (Nat.le_of_eq rfl) (by decide) (by decide) (by decide) (by decide) (hb hby at_52)
      refine Go.via (U' := T4.setTop (mkF m 55 #[.val (.int x0), .val (.int (x0 &&& (3 : Int32))), .val (.ref a_COMPACT), .val (.int (1 : Int32))] [(.int (own_f1 a_COMPACT a_CLADOGRAM a_COMPACT))])) (fun tG kG => st4 tG kG) ?_
      refine Go.via (U' := T4.setTop (mkF m 56 #[.val (.int x0), .val (.int (x0 &&& (3 : Int32))), .val (.ref a_COMPACT), .val (.int (1 : Int32))] [(.int (1 : Int32)), (.int (own_f1 a_COMPACT a_CLADOGRAM a_COMPACT))])) (fun tG kG => XS.iloadN X4.here hx rfl (hb hby at_55) rfl kG) ?_
      by_cases hc56 : (own_f1 a_COMPACT a_CLADOGRAM a_COMPACT) = (1 : Int32)
      · refine Go.via (U' := T4.setTop (mkF m 59 #[.val (.int x0), .val (.int (x0 &&& (3 : Int32))), .val (.ref a_COMPACT), .val (.int (1 : Int32))] [])) (fun tG kG => XS.icmpNo X4.here hx rfl (hb hby at_56) rfl (teq hc56).2 kG) ?_
        refine Go.via (U' := T4.setTop (mkF m 60 #[.val (.int x0), .val (.int (x0 &&& (3 : Int32))), .val (.ref a_COMPACT), .val (.int (1 : Int32))] [(.int (1 : Int32))])) (fun tG kG => XS.iconst X4.here hx rfl (hb hby at_59) kG) ?_
        refine Go.via (U' := T4.setTop (mkF m 64 #[.val (.int x0), .val (.int (x0 &&& (3 : Int32))), .val (.ref a_COMPACT), .val (.int (1 : Int32))] [(.int (1 : Int32))])) (fun tG kG => XS.goto X4.here hx rfl (pc0 := 60) (pc' := 64) rfl (hb hby at_60) (by decide) (by decide) kG) ?_
        exact go_retN X4 hx hlk (t := .boolean) hret (by simp) (hb hby at_64) e4 ⟨(congrArg (fun z => some (Value.int z)) (show nar .boolean (1 : Int32) = (own_f0 x0 a_CLADOGRAM a_L a_COMPACT a_TREE) from by unfold own_f0; simp only [if_neg hc5, if_pos hc19, if_pos hc56] <;> rfl)), rfl, rfl⟩ (by decide) (by decide)
      · refine Go.via (U' := T4.setTop (mkF m 63 #[.val (.int x0), .val (.int (x0 &&& (3 : Int32))), .val (.ref a_COMPACT), .val (.int (1 : Int32))] [])) (fun tG kG => XS.icmpYes X4.here hx rfl (pc0 := 56) (pc' := 63) rfl (hb hby at_56) rfl (feq hc56).2 (by decide) (by decide) kG) ?_
        refine Go.via (U' := T4.setTop (mkF m 64 #[.val (.int x0), .val (.int (x0 &&& (3 : Int32))), .val (.ref a_COMPACT), .val (.int (1 : Int32))] [(.int (0 : Int32))])) (fun tG kG => XS.iconst X4.here hx rfl (hb hby at_63) kG) ?_
        exact go_retN X4 hx hlk (t := .boolean) hret (by simp) (hb hby at_64) e4 ⟨(congrArg (fun z => some (Value.int z)) (show nar .boolean (0 : Int32) = (own_f0 x0 a_CLADOGRAM a_L a_COMPACT a_TREE) from by unfold own_f0; simp only [if_neg hc5, if_pos hc19, if_neg hc56] <;> rfl)), rfl, rfl⟩ (by decide) (by decide)
    · refine Go.via (U' := s₁.setTop (mkF m 31 #[.val (.int x0), .val (.int (x0 &&& (3 : Int32))), .unset, .unset] [])) (fun tG kG => XS.icmpYes X0.here hx rfl (pc0 := 19) (pc' := 31) rfl (hb hby at_19) rfl (feq hc19).2 (by decide) (by decide) kG) ?_
      refine Go.via (U' := s₁.setTop (mkF m 32 #[.val (.int x0), .val (.int (x0 &&& (3 : Int32))), .unset, .unset] [(.int (x0 &&& (3 : Int32)))])) (fun tG kG => XS.iloadN X0.here hx rfl (hb hby at_31) rfl kG) ?_
      refine Go.via (U' := s₁.setTop (mkF m 33 #[.val (.int x0), .val (.int (x0 &&& (3 : Int32))), .unset, .unset] [(.int (2 : Int32)), (.int (x0 &&& (3 : Int32)))])) (fun tG kG => XS.iconst X0.here hx rfl (hb hby at_32) kG) ?_
      by_cases hc33 : (x0 &&& (3 : Int32)) = (2 : Int32)
      · refine Go.via (U' := s₁.setTop (mkF m 36 #[.val (.int x0), .val (.int (x0 &&& (3 : Int32))), .unset, .unset] [])) (fun tG kG => XS.icmpNo X0.here hx rfl (hb hby at_33) rfl (teq hc33).2 kG) ?_
        obtain ⟨T5, X5, e5, st5⟩ := getS2 X0 hx hZ hown (host := "") (Or.inl (hw _ (List.mem_of_getElem? (i := 13) rfl))) Via.refl e0 S_TREE (g := (mkF m 36 #[.val (.int x0), .val (.int (x0 &&& (3 : Int32))), .unset, .unset] [])) rfl (hb hby at_36)
        refine Go.via (U' := T5.setTop (mkF m 39 #[.val (.int x0), .val (.int (x0 &&& (3 : Int32))), .unset, .unset] [(.ref a_TREE)])) (fun tG kG => st5 tG kG) ?_
        refine Go.via (U' := T5.setTop (mkF m 40 #[.val (.int x0), .val (.int (x0 &&& (3 : Int32))), .val (.ref a_TREE), .unset] [])) (fun tG kG => XS.astoreN X5.here hx rfl (hb hby at_39) rfl rfl (l' := #[.val (.int x0), .val (.int (x0 &&& (3 : Int32))), .val (.ref a_TREE), .unset]) rfl kG) ?_
        refine Go.via (U' := T5.setTop (mkF m 41 #[.val (.int x0), .val (.int (x0 &&& (3 : Int32))), .val (.ref a_TREE), .unset] [(.int (0 : Int32))])) (fun tG kG => XS.iconst X5.here hx rfl (hb hby at_40) kG) ?_
        refine Go.via (U' := T5.setTop (mkF m 42 #[.val (.int x0), .val (.int (x0 &&& (3 : Int32))), .val (.ref a_TREE), .val (.int (0 : Int32))] [])) (fun tG kG => XS.istoreN X5.here hx rfl (hb hby at_41) rfl (l' := #[.val (.int x0), .val (.int (x0 &&& (3 : Int32))), .val (.ref a_TREE), .val (.int (0 : Int32))]) rfl kG) ?_
        refine Go.via (U' := T5.setTop (mkF m 51 #[.val (.int x0), .val (.int (x0 &&& (3 : Int32))), .val (.ref a_TREE), .val (.int (0 : Int32))] [])) (fun tG kG => XS.goto X5.here hx rfl (pc0 := 42) (pc' := 51) rfl (hb hby at_42) (by decide) (by decide) kG) ?_
        refine Go.via (U' := T5.setTop (mkF m 52 #[.val (.int x0), .val (.int (x0 &&& (3 : Int32))), .val (.ref a_TREE), .val (.int (0 : Int32))] [(.ref a_TREE)])) (fun tG kG => XS.aloadN X5.here hx rfl (hb hby at_51) rfl rfl kG) ?_
        obtain ⟨T6, X6, e6, st6⟩ := callV0 X5 hx hZ hown (hw _ (List.mem_of_getElem? (i := 3) rfl)) (hw _ (List.mem_of_getElem? (i := 4) rfl)) (hw _ (List.mem_of_getElem? (i := 6) rfl)) (hw _ (List.mem_of_getElem? (i := 5) rfl)) (hw _ (List.mem_of_getElem? (i := 1) rfl)) (hw _ (List.mem_of_getElem? (i := 7) rfl)) (by decide) (b := a_TREE) (av := []) E_a_TREE (own_rm1 l Z a0 hw [] a_TREE a_CLADOGRAM a_COMPACT h0 S_CLADOGRAM S_COMPACT) e5 (pc := 52) (Ls := #[.val (.int x0), .val (.int (x0 &&& (3 : Int32))), .val (.ref a_TREE), .val (.int (0 : Int32))]) (rest := []) (by rw [hml]; rfl) own_k13 rfl 0 (Nat.le_of_eq rfl) (by decide) (by decide) (by decide) (by decide) (hb hby at_52)
        refine Go.via (U' := T6.setTop (mkF m 55 #[.val (.int x0), .val (.int (x0 &&& (3 : Int32))), .val (.ref a_TREE), .val (.int (0 : Int32))] [(.int (own_f1 a_TREE a_CLADOGRAM a_COMPACT))])) (fun tG kG => st6 tG kG) ?_
        refine Go.via (U' := T6.setTop (mkF m 56 #[.val (.int x0), .val (.int (x0 &&& (3 : Int32))), .val (.ref a_TREE), .val (.int (0 : Int32))] [(.int (0 : Int32)), (.int (own_f1 a_TREE a_CLADOGRAM a_COMPACT))])) (fun tG kG => XS.iloadN X6.here hx rfl (hb hby at_55) rfl kG) ?_
        by_cases hc56 : (own_f1 a_TREE a_CLADOGRAM a_COMPACT) = (0 : Int32)
        · refine Go.via (U' := T6.setTop (mkF m 59 #[.val (.int x0), .val (.int (x0 &&& (3 : Int32))), .val (.ref a_TREE), .val (.int (0 : Int32))] [])) (fun tG kG => XS.icmpNo X6.here hx rfl (hb hby at_56) rfl (teq hc56).2 kG) ?_
          refine Go.via (U' := T6.setTop (mkF m 60 #[.val (.int x0), .val (.int (x0 &&& (3 : Int32))), .val (.ref a_TREE), .val (.int (0 : Int32))] [(.int (1 : Int32))])) (fun tG kG => XS.iconst X6.here hx rfl (hb hby at_59) kG) ?_
          refine Go.via (U' := T6.setTop (mkF m 64 #[.val (.int x0), .val (.int (x0 &&& (3 : Int32))), .val (.ref a_TREE), .val (.int (0 : Int32))] [(.int (1 : Int32))])) (fun tG kG => XS.goto X6.here hx rfl (pc0 := 60) (pc' := 64) rfl (hb hby at_60) (by decide) (by decide) kG) ?_
          exact go_retN X6 hx hlk (t := .boolean) hret (by simp) (hb hby at_64) e6 ⟨(congrArg (fun z => some (Value.int z)) (show nar .boolean (1 : Int32) = (own_f0 x0 a_CLADOGRAM a_L a_COMPACT a_TREE) from by unfold own_f0; simp only [if_neg hc5, if_neg hc19, if_pos hc33, if_pos hc56] <;> rfl)), rfl, rfl⟩ (by decide) (by decide)
        · refine Go.via (U' := T6.setTop (mkF m 63 #[.val (.int x0), .val (.int (x0 &&& (3 : Int32))), .val (.ref a_TREE), .val (.int (0 : Int32))] [])) (fun tG kG => XS.icmpYes X6.here hx rfl (pc0 := 56) (pc' := 63) rfl (hb hby at_56) rfl (feq hc56).2 (by decide) (by decide) kG) ?_
          refine Go.via (U' := T6.setTop (mkF m 64 #[.val (.int x0), .val (.int (x0 &&& (3 : Int32))), .val (.ref a_TREE), .val (.int (0 : Int32))] [(.int (0 : Int32))])) (fun tG kG => XS.iconst X6.here hx rfl (hb hby at_63) kG) ?_
          exact go_retN X6 hx hlk (t := .boolean) hret (by simp) (hb hby at_64) e6 ⟨(congrArg (fun z => some (Value.int z)) (show nar .boolean (0 : Int32) = (own_f0 x0 a_CLADOGRAM a_L a_COMPACT a_TREE) from by unfold own_f0; simp only [if_neg hc5, if_neg hc19, if_pos hc33, if_neg hc56] <;> rfl)), rfl, rfl⟩ (by decide) (by decide)
      · refine Go.via (U' := s₁.setTop (mkF m 45 #[.val (.int x0), .val (.int (x0 &&& (3 : Int32))), .unset, .unset] [])) (fun tG kG => XS.icmpYes X0.here hx rfl (pc0 := 33) (pc' := 45) rfl (hb hby at_33) rfl (feq hc33).2 (by decide) (by decide) kG) ?_
        obtain ⟨T7, X7, e7, st7⟩ := getS2 X0 hx hZ hown (host := "") (Or.inl (hw _ (List.mem_of_getElem? (i := 9) rfl))) Via.refl e0 S_L (g := (mkF m 45 #[.val (.int x0), .val (.int (x0 &&& (3 : Int32))), .unset, .unset] [])) rfl (hb hby at_45)
        refine Go.via (U' := T7.setTop (mkF m 48 #[.val (.int x0), .val (.int (x0 &&& (3 : Int32))), .unset, .unset] [(.ref a_L)])) (fun tG kG => st7 tG kG) ?_
        refine Go.via (U' := T7.setTop (mkF m 49 #[.val (.int x0), .val (.int (x0 &&& (3 : Int32))), .val (.ref a_L), .unset] [])) (fun tG kG => XS.astoreN X7.here hx rfl (hb hby at_48) rfl rfl (l' := #[.val (.int x0), .val (.int (x0 &&& (3 : Int32))), .val (.ref a_L), .unset]) rfl kG) ?_
        refine Go.via (U' := T7.setTop (mkF m 50 #[.val (.int x0), .val (.int (x0 &&& (3 : Int32))), .val (.ref a_L), .unset] [(.int (0 : Int32))])) (fun tG kG => XS.iconst X7.here hx rfl (hb hby at_49) kG) ?_
        refine Go.via (U' := T7.setTop (mkF m 51 #[.val (.int x0), .val (.int (x0 &&& (3 : Int32))), .val (.ref a_L), .val (.int (0 : Int32))] [])) (fun tG kG => XS.istoreN X7.here hx rfl (hb hby at_50) rfl (l' := #[.val (.int x0), .val (.int (x0 &&& (3 : Int32))), .val (.ref a_L), .val (.int (0 : Int32))]) rfl kG) ?_
        refine Go.via (U' := T7.setTop (mkF m 52 #[.val (.int x0), .val (.int (x0 &&& (3 : Int32))), .val (.ref a_L), .val (.int (0 : Int32))] [(.ref a_L)])) (fun tG kG => XS.aloadN X7.here hx rfl (hb hby at_51) rfl rfl kG) ?_
        obtain ⟨T8, X8, e8, st8⟩ := callV0 X7 hx hZ hown (hw _ (List.mem_of_getElem? (i := 3) rfl)) (hw _ (List.mem_of_getElem? (i := 4) rfl)) (hw _ (List.mem_of_getElem? (i := 6) rfl)) (hw _ (List.mem_of_getElem? (i := 5) rfl)) (hw _ (List.mem_of_getElem? (i := 1) rfl)) (hw _ (List.mem_of_getElem? (i := 7) rfl)) (by decide) (b := a_L) (av := []) E_a_L (own_rm1 l Z a0 hw [] a_L a_CLADOGRAM a_COMPACT h0 S_CLADOGRAM S_COMPACT) e7 (pc := 52) (Ls := #[.val (.int x0), .val (.int (x0 &&& (3 : Int32))), .val (.ref a_L), .val (.int (0 : Int32))]) (rest := []) (by rw [hml]; rfl) own_k13 rfl 0 (Nat.le_of_eq rfl) (by decide) (by decide) (by decide) (by decide) (hb hby at_52)
        refine Go.via (U' := T8.setTop (mkF m 55 #[.val (.int x0), .val (.int (x0 &&& (3 : Int32))), .val (.ref a_L), .val (.int (0 : Int32))] [(.int (own_f1 a_L a_CLADOGRAM a_COMPACT))])) (fun tG kG => st8 tG kG) ?_
        refine Go.via (U' := T8.setTop (mkF m 56 #[.val (.int x0), .val (.int (x0 &&& (3 : Int32))), .val (.ref a_L), .val (.int (0 : Int32))] [(.int (0 : Int32)), (.int (own_f1 a_L a_CLADOGRAM a_COMPACT))])) (fun tG kG => XS.iloadN X8.here hx rfl (hb hby at_55) rfl kG) ?_
        by_cases hc56 : (own_f1 a_L a_CLADOGRAM a_COMPACT) = (0 : Int32)
        · refine Go.via (U' := T8.setTop (mkF m 59 #[.val (.int x0), .val (.int (x0 &&& (3 : Int32))), .val (.ref a_L), .val (.int (0 : Int32))] [])) (fun tG kG => XS.icmpNo X8.here hx rfl (hb hby at_56) rfl (teq hc56).2 kG) ?_
          refine Go.via (U' := T8.setTop (mkF m 60 #[.val (.int x0), .val (.int (x0 &&& (3 : Int32))), .val (.ref a_L), .val (.int (0 : Int32))] [(.int (1 : Int32))])) (fun tG kG => XS.iconst X8.here hx rfl (hb hby at_59) kG) ?_
          refine Go.via (U' := T8.setTop (mkF m 64 #[.val (.int x0), .val (.int (x0 &&& (3 : Int32))), .val (.ref a_L), .val (.int (0 : Int32))] [(.int (1 : Int32))])) (fun tG kG => XS.goto X8.here hx rfl (pc0 := 60) (pc' := 64) rfl (hb hby at_60) (by decide) (by decide) kG) ?_
          exact go_retN X8 hx hlk (t := .boolean) hret (by simp) (hb hby at_64) e8 ⟨(congrArg (fun z => some (Value.int z)) (show nar .boolean (1 : Int32) = (own_f0 x0 a_CLADOGRAM a_L a_COMPACT a_TREE) from by unfold own_f0; simp only [if_neg hc5, if_neg hc19, if_neg hc33, if_pos hc56] <;> rfl)), rfl, rfl⟩ (by decide) (by decide)
        · refine Go.via (U' := T8.setTop (mkF m 63 #[.val (.int x0), .val (.int (x0 &&& (3 : Int32))), .val (.ref a_L), .val (.int (0 : Int32))] [])) (fun tG kG => XS.icmpYes X8.here hx rfl (pc0 := 56) (pc' := 63) rfl (hb hby at_56) rfl (feq hc56).2 (by decide) (by decide) kG) ?_
          refine Go.via (U' := T8.setTop (mkF m 64 #[.val (.int x0), .val (.int (x0 &&& (3 : Int32))), .val (.ref a_L), .val (.int (0 : Int32))] [(.int (0 : Int32))])) (fun tG kG => XS.iconst X8.here hx rfl (hb hby at_63) kG) ?_
          exact go_retN X8 hx hlk (t := .boolean) hret (by simp) (hb hby at_64) e8 ⟨(congrArg (fun z => some (Value.int z)) (show nar .boolean (0 : Int32) = (own_f0 x0 a_CLADOGRAM a_L a_COMPACT a_TREE) from by unfold own_f0; simp only [if_neg hc5, if_neg hc19, if_neg hc33, if_neg hc56] <;> rfl)), rfl, rfl⟩ (by decide) (by decide)
theorem own_plain (x0 : Int32) (a_CLADOGRAM : Addr) (a_L : Addr) (a_COMPACT : Addr) (a_TREE : Addr) (h0 : a_CLADOGRAM ≠ a_COMPACT) (h1 : a_CLADOGRAM ≠ a_TREE) (h2 : a_CLADOGRAM ≠ a_L) (h3 : a_COMPACT ≠ a_TREE) (h4 : a_COMPACT ≠ a_L) : own_f0 x0 a_CLADOGRAM a_L a_COMPACT a_TREE = 1 := by
  unfold own_f0 own_f1
  simp [h0.symm, h1.symm, h2.symm, h3.symm, h4.symm]
set_option maxRecDepth 65536 in
set_option maxHeartbeats 40000000 in
theorem own_comes {Post : Tables → Env → Array Value → State → Outcome → State → Prop} (hpost : ∀ tb e args s v u, (limb_1_1.after args s (.returned v) u = true ∧ limb_1_2.after args s (.returned v) u = true) → FrameEnd s (.returned v) u (Jvm.fieldLocs frame_1_writes args s ++ Jvm.arrayLocs frame_1_arrays args s ++ Jvm.staticLocs frame_1_statics s) 0 0 → Post tb e args s (.returned v) u) :
    ArmFor flags0 classFile x code maxLocals ret World_1 tables_1 room_1 Calls_1 rest_1 Pre_1 Post := by
  intro l hfl _ _ p e ha hc hk s m args below hf hA hF happ hP
  obtain ⟨hcalls, hrest, hpre⟩ := hP
  obtain ⟨-, -, -, hnamed, -, -, -, hat⟩ := (Spec.applies_iff hf).mp happ
  obtain ⟨hg, hn⟩ := and_e (Cond.before_iff.mp (show (Jvm.Cond.and given_1 narrow_1).before args s = true from hpre))
  obtain ⟨hcnt, hg⟩ := and_e hg
  obtain ⟨w0, rfl⟩ : ∃ w0 : Value, args = #[w0] := by
    have hs : args.size = 1 := by simpa [Cond.value, given_1] using hcnt
    obtain ⟨L⟩ := args
    match L, hs with
    | [w0], _ => exact ⟨w0, rfl⟩
  have hw := fun d (hd : d ∈ tables_1) => atoms_spec (ws := Jvm.Cond.code x code maxLocals ret :: tables_1) hat d (List.mem_cons_of_mem _ hd)
  have hfit : Fit s := fun {y c} hc i hi => by
    obtain ⟨ha, rfl⟩ := Array.getElem?_eq_some_iff.mp hc
    have q := List.all_eq_true.mp ((Array.all_eq_true_iff_forall_mem.mp hF) _ (Array.getElem_mem ha)) i (List.mem_range.mpr hi)
    simpa [Array.getElem?_eq_getElem hi] using q
  obtain ⟨i0, ei0⟩ := is_v hg
  obtain rfl : w0 = (.int i0) := Option.some.inj ei0
  obtain ⟨hn1, hn2⟩ := and_e hn
  obtain ⟨hn3, hn4⟩ := and_e hn2
  obtain ⟨hn5, hn6⟩ := and_e hn4
  obtain ⟨hn7, hn8⟩ := and_e hn6
  obtain ⟨hn9, hn10⟩ := and_e hn8
  obtain ⟨hn11, hn12⟩ := and_e hn10
  obtain ⟨hn13, hn14⟩ := and_e hn12
  obtain ⟨a_CLADOGRAM, ev_CLADOGRAM⟩ := exa_v hn1
  have E_CLADOGRAM := Exa.start ev_CLADOGRAM hn1
  have S_CLADOGRAM := Sta.start ev_CLADOGRAM (Or.inr ⟨(hw _ (List.mem_of_getElem? (i := 1) rfl)), (hw _ (List.mem_of_getElem? (i := 2) rfl))⟩)
  obtain ⟨a_L, ev_L⟩ := exa_v hn3
  have E_L := Exa.start ev_L hn3
  have S_L := Sta.start ev_L (Or.inr ⟨(hw _ (List.mem_of_getElem? (i := 1) rfl)), (hw _ (List.mem_of_getElem? (i := 10) rfl))⟩)
  obtain ⟨a_COMPACT, ev_COMPACT⟩ := exa_v hn9
  have E_COMPACT := Exa.start ev_COMPACT hn9
  have S_COMPACT := Sta.start ev_COMPACT (Or.inr ⟨(hw _ (List.mem_of_getElem? (i := 1) rfl)), (hw _ (List.mem_of_getElem? (i := 12) rfl))⟩)
  obtain ⟨a_TREE, ev_TREE⟩ := exa_v hn13
  have E_TREE := Exa.start ev_TREE hn13
  have S_TREE := Sta.start ev_TREE (Or.inr ⟨(hw _ (List.mem_of_getElem? (i := 1) rfl)), (hw _ (List.mem_of_getElem? (i := 14) rfl))⟩)
  have F_L_ordinal := Fld.start ((fld_at ev_L).symm.trans (own_eqI hn5))
  have F_CLADOGRAM_ordinal := Fld.start ((fld_at ev_CLADOGRAM).symm.trans (own_eqI hn7))
  have F_COMPACT_ordinal := Fld.start ((fld_at ev_COMPACT).symm.trans (own_eqI hn11))
  have F_TREE_ordinal := Fld.start ((fld_at ev_TREE).symm.trans (own_eqI hn14))
  obtain ⟨n, o, h1, h2, h3, _, L, rfl, ⟨rfl, -, rfl⟩, hq⟩ := own_rm0 l s _ hw tables_1 i0 a_CLADOGRAM a_L a_COMPACT a_TREE s.heap E_CLADOGRAM F_CLADOGRAM_ordinal E_L F_L_ordinal E_COMPACT F_COMPACT_ordinal E_TREE F_TREE_ordinal S_CLADOGRAM S_L S_COMPACT S_TREE p e ha hc hk s m _ below hf ((Spec.applies_iff_loose hf).mp happ).1 ⟨rfl, State.Warmed39.refl s, rfl⟩ trivial
  refine ⟨n, _, h1, h2, h3, hpost _ _ _ _ _ _ ⟨Cond.after_iff.mpr rfl, Cond.after_iff.mpr (eq_i res_at (Term.int_eval (1)) (congrArg Value.int (own_plain i0 a_CLADOGRAM a_L a_COMPACT a_TREE (Fld.ne F_CLADOGRAM_ordinal F_COMPACT_ordinal (by decide)) (Fld.ne F_CLADOGRAM_ordinal F_TREE_ordinal (by decide)) (Fld.ne F_CLADOGRAM_ordinal F_L_ordinal (by decide)) (Fld.ne F_COMPACT_ordinal F_TREE_ordinal (by decide)) (Fld.ne F_COMPACT_ordinal F_L_ordinal (by decide)))))⟩ ⟨hq.1, hq.2.1, (hq.2.2.sift fun y hy => Or.inr (Fr.nil s.heap.size y hy)).mono (by decide) (by decide)⟩⟩
theorem main_1_1 : Claimed_1_1 := own_comes fun _ _ _ _ _ _ h hF => ⟨h.1, hF⟩
theorem main_1_2 : Claimed_1_2 := own_comes fun _ _ _ _ _ _ h hF => ⟨h.2, hF⟩
end Jvm.Pilot.@@N@@
namespace Jvm.Pilot.@@N@@
open Jvm Jvm.ClassFile Sem Op Lib Jvm.Free Jvm.Stand Jvm.Pilot.@@N@@.Jvm.D
/-! MADE BY PROGRAM (witnessworld.py) out of the Statement's table words and the real class files: 12 classes; the members and pool entries that the words name. The judged class is class 1, her method 1. -/
namespace start1
open Jvm.ClassFile
def u (s : String) : CpInfo := .utf8 (stringToUtf16 s)
/-- a pool by its gaps: so many unusable entries, then the entry; so many at the end -/
def gap : Nat → List CpInfo → List CpInfo
  | 0, r => r
  | n + 1, r => .unusable :: gap n r
def poolList (es : List (Nat × CpInfo)) (last : Nat) : List CpInfo := es.foldr (fun e r => gap e.1 (e.2 :: r)) (gap last [])
def pool (es : List (Nat × CpInfo)) (last : Nat) : Array CpInfo := ⟨poolList es last⟩
def fileOf (pool : Array CpInfo) (this : Nat) (attrs : Array Attribute := #[]) (ms : Array MethodInfo := #[]) (fl : Nat := 33) (sup : Nat := 0) (ifs : Array Nat := #[]) (fds : Array FieldInfo := #[]) : ClassFile where
  minorVersion := 0
  majorVersion := 65
  constantPool := pool
  accessFlags := fl
  thisClass := this
  superClass := sup
  interfaces := ifs
  fields := fds
  methods := ms
  attributes := attrs
def plain (name : String) (sup : Option ClassId) : Class where
  name := name
  kind := .ordinary
  loader := none
  accessFlags := 33
  super := sup
  interfaces := #[]
  cf := none
  fields := #[]
  methods := #[]
  instanceTypes := #[]
  staticTypes := #[]
  resolved := #[]
  callSites := []
  init := .initialized
  statics := none
  mirror := none

def pool0 : Array CpInfo := pool [(5, u "<init>"), (0, u "()V"), (1, .class_ 10), (1, u "java/lang/Object")] 113

def k0m0 : Method := { name := "<init>", desc := "()V", sig := { parameters := [], returnType := none }, accessFlags := 1, code := none }
/-- java/lang/Object -/
def k0 : Class := { plain "java/lang/Object" none with
  accessFlags := 33
  interfaces := #[]
  cf := some (fileOf pool0 8 #[] #[{ accessFlags := 1, nameIndex := 5, descriptorIndex := 6, attributes := #[] }] 33 0 #[] #[])
  fields := #[]
  methods := #[k0m0]
  instanceTypes := #[]
  staticTypes := #[]
  resolved := Array.replicate 124 none
  statics := none }

def pool1 : Array CpInfo := pool [(2, .class_ 4), (1, u "java/lang/Object"), (0, u "<init>"), (0, u "()V"), (0, .fieldref 8 9), (0, .class_ 10), (0, .nameAndType 11 12), (0, u "com/example/dislope/dislope/draw/layout/Layout"), (0, u "CLADOGRAM"), (0, u "Lcom/example/dislope/dislope/draw/layout/Layout;"), (0, .fieldref 8 14), (0, .nameAndType 15 12), (0, u "COMPACT"), (0, .fieldref 8 17), (0, .nameAndType 18 12), (0, u "TREE"), (0, .fieldref 8 20), (0, .nameAndType 21 12), (0, u "L"), (0, .methodref 8 23), (0, .nameAndType 24 25), (0, u "bendsBadEdges"), (0, u "()Z"), (0, .class_ 27), (0, u "com/example/dislope/dislope/draw/layout/LayoutBendsBadEdgesPinLaw"), (2, u "law"), (0, u "(I)Z")] 3

def k1m0 : Method := { name := "<init>", desc := "()V", sig := { parameters := [], returnType := none }, accessFlags := 2, code := none }
def k1c1 : Code := { maxStack := 2, maxLocals := 4, code := code, exceptionTable := #[], attributes := #[] }
def k1m1 : Method := { name := "law", desc := "(I)Z", sig := { parameters := [.int], returnType := some .boolean }, accessFlags := 9, code := some k1c1 }
/-- com/example/dislope/dislope/draw/layout/LayoutBendsBadEdgesPinLaw -/
def k1 : Class := { plain "com/example/dislope/dislope/draw/layout/LayoutBendsBadEdgesPinLaw" (some 0) with
  accessFlags := 49
  interfaces := #[]
  cf := some (fileOf pool1 26 #[] #[{ accessFlags := 2, nameIndex := 5, descriptorIndex := 6, attributes := #[] }, { accessFlags := 9, nameIndex := 30, descriptorIndex := 31, attributes := #[] }] 49 2 #[] #[])
  fields := #[]
  methods := #[k1m0, k1m1]
  instanceTypes := #[]
  staticTypes := #[]
  resolved := Array.replicate 35 none
  statics := none }

def pool2 : Array CpInfo := pool [(1, .class_ 2), (0, u "java/lang/constant/Constable"), (0, .class_ 4), (0, u "java/lang/Object")] 6

/-- java/lang/constant/Constable -/
def k2 : Class := { plain "java/lang/constant/Constable" (some 0) with
  accessFlags := 1537
  interfaces := #[]
  cf := some (fileOf pool2 1 #[] #[] 1537 3 #[] #[])
  fields := #[]
  methods := #[]
  instanceTypes := #[]
  staticTypes := #[]
  resolved := Array.replicate 11 none
  statics := none }

def pool3 : Array CpInfo := pool [(1, .class_ 2), (0, u "java/lang/Comparable"), (0, .class_ 4), (0, u "java/lang/Object")] 7

/-- java/lang/Comparable -/
def k3 : Class := { plain "java/lang/Comparable" (some 0) with
  accessFlags := 1537
  interfaces := #[]
  cf := some (fileOf pool3 1 #[] #[] 1537 3 #[] #[])
  fields := #[]
  methods := #[]
  instanceTypes := #[]
  staticTypes := #[]
  resolved := Array.replicate 12 none
  statics := none }

def pool4 : Array CpInfo := pool [(1, .class_ 2), (0, u "java/io/Serializable"), (0, .class_ 4), (0, u "java/lang/Object")] 2

/-- java/io/Serializable -/
def k4 : Class := { plain "java/io/Serializable" (some 0) with
  accessFlags := 1537
  interfaces := #[]
  cf := some (fileOf pool4 1 #[] #[] 1537 3 #[] #[])
  fields := #[]
  methods := #[]
  instanceTypes := #[]
  staticTypes := #[]
  resolved := Array.replicate 7 none
  statics := none }

def pool5 : Array CpInfo := pool [(2, .class_ 4), (1, u "java/lang/Enum"), (0, u "name"), (0, u "Ljava/lang/String;"), (2, u "ordinal"), (0, u "I"), (1, .class_ 14), (1, u "java/lang/Object"), (4, u "hash"), (86, .class_ 108), (1, u "java/lang/Enum$EnumDesc"), (2, .class_ 112), (0, u "java/lang/constant/Constable"), (0, .class_ 114), (0, u "java/lang/Comparable"), (0, .class_ 116), (0, u "java/io/Serializable")] 87

/-- java/lang/Enum -/
def k5 : Class := { plain "java/lang/Enum" (some 0) with
  accessFlags := 1057
  interfaces := #[2, 3, 4]
  cf := some (fileOf pool5 2 #[.nestMembers #[106]] #[] 1057 12 #[111, 113, 115] #[{ accessFlags := 18, nameIndex := 5, descriptorIndex := 6, attributes := #[] }, { accessFlags := 18, nameIndex := 9, descriptorIndex := 10, attributes := #[] }, { accessFlags := 2, nameIndex := 19, descriptorIndex := 10, attributes := #[] }])
  fields := #[{ name := "name", type := (.object "java/lang/String"), accessFlags := 18, slot := 0, constantValue := 0 }, { name := "ordinal", type := .int, accessFlags := 18, slot := 1, constantValue := 0 }, { name := "hash", type := .int, accessFlags := 2, slot := 2, constantValue := 0 }]
  methods := #[]
  instanceTypes := #[(.object "java/lang/String"), .int, .int]
  staticTypes := #[]
  resolved := Array.replicate 204 none
  statics := none }

def pool6 : Array CpInfo := pool [(1, .class_ 2), (0, u "com/example/dislope/dislope/draw/layout/Layout"), (0, .fieldref 1 4), (0, .nameAndType 5 6), (0, u "CLADOGRAM"), (0, u "Lcom/example/dislope/dislope/draw/layout/Layout;"), (0, .fieldref 1 8), (0, .nameAndType 9 6), (0, u "COMPACT"), (2, u "TREE"), (2, u "L"), (2, u "$VALUES"), (0, u "[Lcom/example/dislope/dislope/draw/layout/Layout;"), (6, .class_ 28), (1, u "java/lang/Enum"), (8, u "name"), (0, u "Ljava/lang/String;"), (70, u "()Z"), (20, u "TWO"), (0, u "I"), (16, u "bendsBadEdges")] 24

def k6c0 : Code := { maxStack := 2, maxLocals := 1, code := prog_47_method_6_code, exceptionTable := #[], attributes := #[] }
def k6m0 : Method := { name := "bendsBadEdges", desc := "()Z", sig := { parameters := [], returnType := some .boolean }, accessFlags := 0, code := some k6c0 }
/-- com/example/dislope/dislope/draw/layout/Layout -/
def k6 : Class := { plain "com/example/dislope/dislope/draw/layout/Layout" (some 5) with
  accessFlags := 16433
  interfaces := #[]
  cf := some (fileOf pool6 1 #[] #[{ accessFlags := 0, nameIndex := 148, descriptorIndex := 109, attributes := #[] }] 16433 26 #[] #[{ accessFlags := 16409, nameIndex := 5, descriptorIndex := 6, attributes := #[] }, { accessFlags := 16409, nameIndex := 9, descriptorIndex := 6, attributes := #[] }, { accessFlags := 16409, nameIndex := 12, descriptorIndex := 6, attributes := #[] }, { accessFlags := 16409, nameIndex := 15, descriptorIndex := 6, attributes := #[] }, { accessFlags := 26, nameIndex := 130, descriptorIndex := 131, attributes := #[] }, { accessFlags := 18, nameIndex := 37, descriptorIndex := 38, attributes := #[] }, { accessFlags := 4122, nameIndex := 18, descriptorIndex := 19, attributes := #[] }])
  fields := #[{ name := "CLADOGRAM", type := (.object "com/example/dislope/dislope/draw/layout/Layout"), accessFlags := 16409, slot := 0, constantValue := 0 }, { name := "COMPACT", type := (.object "com/example/dislope/dislope/draw/layout/Layout"), accessFlags := 16409, slot := 1, constantValue := 0 }, { name := "TREE", type := (.object "com/example/dislope/dislope/draw/layout/Layout"), accessFlags := 16409, slot := 2, constantValue := 0 }, { name := "L", type := (.object "com/example/dislope/dislope/draw/layout/Layout"), accessFlags := 16409, slot := 3, constantValue := 0 }, { name := "TWO", type := .int, accessFlags := 26, slot := 4, constantValue := 0 }, { name := "name", type := (.object "java/lang/String"), accessFlags := 18, slot := 3, constantValue := 0 }, { name := "$VALUES", type := (.array (.object "com/example/dislope/dislope/draw/layout/Layout")), accessFlags := 4122, slot := 5, constantValue := 0 }]
  methods := #[k6m0]
  instanceTypes := #[(.object "java/lang/String"), .int, .int, (.object "java/lang/String")]
  staticTypes := #[(.object "com/example/dislope/dislope/draw/layout/Layout"), (.object "com/example/dislope/dislope/draw/layout/Layout"), (.object "com/example/dislope/dislope/draw/layout/Layout"), (.object "com/example/dislope/dislope/draw/layout/Layout"), .int, (.array (.object "com/example/dislope/dislope/draw/layout/Layout"))]
  resolved := Array.replicate 173 none
  statics := some 0 }

def pool7 : Array CpInfo := pool [(1, u "java/lang/Cloneable"), (0, .class_ 1), (0, u "java/lang/Object"), (0, .class_ 3)] 3

/-- java/lang/Cloneable -/
def k7 : Class := { plain "java/lang/Cloneable" (some 0) with
  accessFlags := 1537
  interfaces := #[]
  cf := some (fileOf pool7 2 #[] #[] 1537 4 #[] #[])
  fields := #[]
  methods := #[]
  instanceTypes := #[]
  staticTypes := #[]
  resolved := Array.replicate 8 none
  statics := none }

/-- the primitive byte -/
def k8 : Class := { plain "byte" none with kind := .primitive 'B', accessFlags := 0x411 }
/-- [B -/
def k9 : Class := { plain "[B" (some 0) with kind := .array 8 .byte, interfaces := #[7, 4], accessFlags := 1041 }

/-- the primitive int -/
def k10 : Class := { plain "int" none with kind := .primitive 'I', accessFlags := 0x411 }
/-- [I -/
def k11 : Class := { plain "[I" (some 0) with kind := .array 10 .int, interfaces := #[7, 4], accessFlags := 1041 }

def heap : Heap := #[{ cls := 6, slots := #[.ref 1, .ref 2, .ref 3, .ref 4, .int 0, .null], vm := .statics 6 },
  { cls := 6, slots := #[.null, .int 0, .int 0, .null], vm := .none },
  { cls := 6, slots := #[.null, .int 1, .int 0, .null], vm := .none },
  { cls := 6, slots := #[.null, .int 2, .int 0, .null], vm := .none },
  { cls := 6, slots := #[.null, .int 3, .int 0, .null], vm := .none }]
def classes : Array Class := #[k0, k1, k2, k3, k4, k5, k6, k7, k8, k9, k10, k11]
def interned : List (Array UInt16 × Addr) := []
def slotsUsed : Nat := 22
def theMethod : MethodId := ⟨1, 1⟩
def args0 : Array Value := #[.int 5]
def aboutOver (below : List Frame) : State where
  vm := { classes := classes, interned := interned.toArray }
  heap := heap
  slotsUsed := slotsUsed
  threads := #[{ frames := .invoking theMethod args0 :: below }]
def below0 : List Frame := [.native { method := ⟨0, 0⟩, args := #[] }]
def about1 : State := aboutOver below0
def p0 : Program := .bare "" "" ""
def e0 : Env := launch0.env 0 0 0
theorem w_frames : about1.frames = Frame.invoking theMethod args0 :: below0 := rfl
set_option maxRecDepth 65536 in
theorem w_args : argsFit about1.vm theMethod args0 = true := by decide +kernel
set_option maxRecDepth 65536 in
theorem w_heap : heapFits about1 = true := by decide +kernel
set_option maxRecDepth 65536 in
theorem w_runnable : about1.curStatus? = some .runnable := by decide +kernel
set_option maxRecDepth 65536 in
theorem w_alone : about1.alone = true := by decide +kernel
set_option maxRecDepth 65536 in
theorem w_named : about1.methodNamed? x = some theMethod := by decide +kernel
set_option maxRecDepth 65536 in
theorem w_hears : about1.hears theMethod below0 = true := by decide +kernel
set_option maxRecDepth 65536 in
theorem w_ripe : about1.ripe theMethod args0 below0 = true := by decide +kernel
theorem w_running : about1.status = .running := rfl
set_option maxRecDepth 65536 in
theorem w_room : about1.hasRoom e0.platform room_1 = true :=
  launch0.hasRoom_least _ room_1 (by decide +kernel) (by decide +kernel) (by decide +kernel) (by decide +kernel) (by decide +kernel) (by decide +kernel)
theorem allAtoms_all (ts : List Jvm.Cond) (a : Array Jvm.Value) (st : Jvm.State) : (allAtoms ts).before a st = ts.all (fun c => c.before a st) := by
  induction ts with
  | nil => rfl
  | cons c t ih =>
    show (Jvm.Cond.and c (allAtoms t)).before a st = _
    rw [Jvm.Cond.before_and, ih, List.all_cons]
def words1 : List Jvm.Cond := Jvm.Cond.code x code maxLocals ret :: tables_1
/-- a 'code' word, met by the world's own term for the bytes: nothing is compared byte by byte -/
theorem code_word {y : MethodName} {bytes : ByteArray} {mx : Nat} {rt : Option FieldType} {a : Array Value} {s : State} {m : MethodId} {meth : Method} {c : Code} (h1 : s.methodNamed? y = some m) (h2 : s.vm.method? m = some meth) (h3 : meth.code = some c) (h4 : c.code = bytes)
    (h5 : (c.maxLocals == mx && c.exceptionTable.isEmpty && decide (c.maxStack ≤ mostOperands) && decide (meth.sig.returnType = rt) && !meth.locks && decide (parseMethodDescriptor y.desc = some meth.sig)) = true) : (Jvm.Cond.code y bytes mx rt).before a s = true := by
  simp only [Bool.and_eq_true, beq_iff_eq, Bool.not_eq_true', decide_eq_true_eq] at h5
  obtain ⟨⟨⟨⟨⟨g1, g2⟩, g3⟩, g4⟩, g5⟩, g6⟩ := h5
  simp [Cond.before, Cond.holds, Cond.value, h1, h2, h3, h4, g1, g2, g3, g4, g5, g6]
def isCode : Jvm.Cond → Bool
  | .code _ _ _ _ => true
  | _ => false
theorem all_split {L : List Jvm.Cond} {P : Jvm.Cond → Bool} (h1 : L.all (fun c => isCode c || P c) = true) (h2 : ∀ c ∈ L.filter isCode, P c = true) : L.all P = true := by
  refine List.all_eq_true.mpr fun c hc => ?_
  have h := List.all_eq_true.mp h1 c hc
  rcases Bool.eq_false_or_eq_true (isCode c) with hi | hi
  · exact h2 c (List.mem_filter.mpr ⟨hc, hi⟩)
  · simpa [hi] using h
set_option maxRecDepth 65536 in
theorem w_c0 : (Jvm.Cond.code x code maxLocals ret).before args0 about1 = true := code_word (m := ⟨1, 1⟩) (meth := k1m1) (c := k1c1) (by decide +kernel) rfl rfl rfl (by decide +kernel)
set_option maxRecDepth 65536 in
theorem w_c1 : (Jvm.Cond.code ({ cls := "com/example/dislope/dislope/draw/layout/Layout", name := "bendsBadEdges", desc := "()Z" } : Jvm.MethodName) prog_47_method_6_code (1 : Nat) (Option.some Jvm.ClassFile.FieldType.boolean)).before args0 about1 = true := code_word (m := ⟨6, 0⟩) (meth := k6m0) (c := k6c0) (by decide +kernel) rfl rfl rfl (by decide +kernel)
def codes1 : List Jvm.Cond := [Jvm.Cond.code x code maxLocals ret, Jvm.Cond.code ({ cls := "com/example/dislope/dislope/draw/layout/Layout", name := "bendsBadEdges", desc := "()Z" } : Jvm.MethodName) prog_47_method_6_code (1 : Nat) (Option.some Jvm.ClassFile.FieldType.boolean)]
set_option maxRecDepth 65536 in
theorem codes_eq : words1.filter isCode = codes1 := rfl
theorem w_codes : ∀ c ∈ words1.filter isCode, c.before args0 about1 = true := by
  rw [codes_eq]
  intro c hc
  simp only [codes1, List.mem_cons, List.not_mem_nil, or_false] at hc
  rcases hc with rfl | rfl
  · exact w_c0
  · exact w_c1
set_option maxRecDepth 65536 in
theorem w_t1 : words1.all (fun c => isCode c || c.before args0 about1) = true := by decide +kernel
theorem w_tables : (allAtoms (Jvm.Cond.code x code maxLocals ret :: tables_1)).before args0 about1 = true := by
  rw [allAtoms_all]
  show words1.all (fun c => c.before args0 about1) = true
  refine all_split ?_ w_codes
  rw [w_t1]
set_option maxRecDepth 65536 in
theorem w_case : (Jvm.Cond.and given_1 narrow_1).before args0 about1 = true := by decide +kernel
theorem w_applies : (headSpec (Jvm.Cond.code x code maxLocals ret :: tables_1) room_1).applies x e0.platform about1 = true :=
  (Spec.applies_iff w_frames).mpr ⟨w_running, w_runnable, w_alone, w_named, w_hears, w_ripe, w_room, w_tables⟩
theorem atStart : AtStart classFile x code maxLocals ret World_1 tables_1 room_1 Calls_1 rest_1 Pre_1 launch0 p0 e0 about1 theMethod args0 below0 :=
  ⟨lists_1, trivial, launch0.admits_env _ _ _, launch0.least_env, fairChoices_fair.cas, fairChoices_fair.clock, w_frames, w_args, w_heap, w_applies, trivial, trivial, w_case⟩
end start1
theorem witness_1 : WitnessClaimed_1 := ⟨start1.p0, start1.e0, start1.about1, start1.theMethod, start1.args0, start1.below0, start1.atStart⟩
end Jvm.Pilot.@@N@@

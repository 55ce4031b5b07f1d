import JvmDerived
import JvmDerived.Pilot.@@N@@Statement
import JvmDerived.Pilot.@@N@@Code
set_option linter.unusedVariables false
set_option linter.unusedSimpArgs false
namespace Jvm.Pilot.@@N@@
open Jvm Jvm.ClassFile Sem Op Lib Jvm.Free Jvm.Stand Jvm.LawKit Jvm.RoadKit Bundle Jvm.Pilot.@@N@@.Jvm.D
def own_ushr (x y : Int32) : Int32 := (x.toUInt32 >>> (y &&& 31).toUInt32).toInt32
def own_ushrL (x : Int64) (y : Int32) : Int64 := (x.toUInt64 >>> (y &&& 0x3f).toInt64.toUInt64).toInt64
section OwnKit
variable {p : Program} {l : Launch} {e : Env} {R : Room} {s : State} {m : MethodId} {args : Array Value} {below : List Frame} {meth : Method} {c : Code} {T : State} {locs : List Loc} {cells slots : Nat} {Z : State} {h h0 : Heap} {ce sl : Nat} {Q : Option Value → Heap → List Loc → Prop} {U U' : State} {a0 : Array Value}
/-- from U the walk comes to its return, and what it leaves is Q -/
def Go (p : Program) (e : Env) (below : List Frame) (s : State) (ce sl : Nat) (Q : Option Value → Heap → List Loc → Prop) (U : State) : Prop :=
  ∃ s₂ o, Steps p.tables e below U s₂ ∧ s₂.status = .running ∧ Ended s₂ below o ∧ ∃ v L, o = .returned v ∧ Q v s₂.heap L ∧ FrameEnd s o s₂ L ce sl
theorem Go.via (h : ∀ t, Steps p.tables e below U' t → Steps p.tables e below U t) (g : Go p e below s ce sl Q U') : Go p e below s ce sl Q U := by
  obtain ⟨s₂, o, h1, h2⟩ := g
  exact ⟨s₂, o, h _ h1, h2⟩
theorem Go.cast {g g' : JFrame} (q : g = g') (k : Go p e below s ce sl Q (T.setTop g')) : Go p e below s ce sl Q (T.setTop g) := q ▸ k
/-- the contract of a body: called with as', over the heap h0, it returns and leaves Q -/
def Meets (l : Launch) (Z : State) (y : MethodName) (bytes : ByteArray) (maxL : Nat) (rt : Option FieldType) (ws : List Jvm.Cond) (rm : Room) (as' : Array Value) (h0 : Heap) (Q : Option Value → Heap → List Loc → Prop) : Prop :=
  MetFree l y (head1 (Jvm.Cond.code y bytes maxL rt :: ws) rm) (fun a U => a = as' ∧ Z.Warmed39 U.vm ∧ U.heap = h0) (fun _ _ _ _ _ => True) (fun _ U o U' => ∃ v L, o = .returned v ∧ Q v U'.heap L ∧ FrameEnd U o U' L rm.cells rm.slots)
theorem meets_of {y : MethodName} {bytes : ByteArray} {maxL : Nat} {rt : Option FieldType} {ws : List Jvm.Cond} {rm : Room} {as' : Array Value} (hpl : plainFor y = true)
    (body : ∀ p e s m below meth c s₁, Stand p l e rm s m as' below meth c s₁ [] 0 0 → p.tables.exec = Jvm.exec → Z.Warmed39 s.vm → c.code = bytes → c.maxLocals = maxL → meth.sig.returnType = rt → meth.locks = false → s.vm.findClass y.cls = some m.cls → meth.name = y.name → s₁.heap = h0 →
      Go p e below s rm.cells rm.slots Q (s₁.setTop (entryFrame m as' maxL))) : Meets l Z y bytes maxL rt ws rm as' h0 Q := by
  refine MetFree.of_bodySF hpl hisR ?_
  intro p e s m args below meth c s₁ Bd hml hP hK
  obtain ⟨rfl, hZ, hh⟩ := hP
  exact body p e s m below meth c s₁ (Stand.of_body Bd) Bd.exec hZ Bd.bytes hml Bd.returns Bd.notSynchronized (findClass_of_methodNamed Bd.named) (name_of_methodNamed Bd.named Bd.method).1 (by rw [← hh, Bd.state]; rfl)
theorem go_ret (X : Stand p l e R s m args below meth c T locs cells slots) (hlk : meth.locks = false) {v : Option Value} (hv : meth.sig.returnType = none → v = none) (eT : T.heap = h) (hQ : Q v h locs) (hc : cells ≤ ce) (hs : slots ≤ sl)
    (st : ∀ fs, (∀ (f : JFrame) (acts : List Action), f.method = m → f.locked = none → f.entered = [] → (doReturn e (T.setTop f) acts v).1 = T.setFrames fs) → Steps p.tables e below U (T.setFrames fs)) : Go p e below s ce sl Q U := by
  obtain ⟨fs, hr, hrun, hended, hW, hsame⟩ := X.leave hv hlk
  exact ⟨_, _, st fs hr, hrun, hended, v, locs, rfl, (by show Q v T.heap locs; rw [eT]; exact hQ), ⟨_, rfl⟩, hW, hsame.mono hc hs⟩
theorem go_retN (X : Stand p l e R s m args below meth c T locs cells slots) (hx : p.tables.exec = Jvm.exec) (hlk : meth.locks = false) {t : FieldType} (hret : meth.sig.returnType = some t) (ht : t = .boolean ∨ t = .byte ∨ t = .char ∨ t = .short) {pc : Nat} {Ls : Array Slot} {z : Int32} {rest : List Value}
    (hd : decode c.code pc = .ok (.ireturn, 1)) (eT : T.heap = h) (hQ : Q (some (.int (nar t z))) h locs) (hc : cells ≤ ce) (hs : slots ≤ sl) : Go p e below s ce sl Q (T.setTop (mkF m pc Ls (.int z :: rest))) :=
  go_ret X hlk (fun h => by rw [hret] at h; cases h) eT hQ hc hs (fun fs hr => retN X hx hret ht hd hr)
theorem go_retI (X : Stand p l e R s m args below meth c T locs cells slots) (hx : p.tables.exec = Jvm.exec) (hlk : meth.locks = false) (hret : meth.sig.returnType = some .int) {pc : Nat} {Ls : Array Slot} {z : Int32} {rest : List Value}
    (hd : decode c.code pc = .ok (.ireturn, 1)) (eT : T.heap = h) (hQ : Q (some (.int z)) h locs) (hc : cells ≤ ce) (hs : slots ≤ sl) : Go p e below s ce sl Q (T.setTop (mkF m pc Ls (.int z :: rest))) :=
  go_ret X hlk (fun h => by rw [hret] at h; cases h) eT hQ hc hs (fun fs hr => retOut X hx hret rfl (Or.inl ⟨rfl, Or.inl rfl, z, rfl⟩) hd hr)
theorem go_retJ (X : Stand p l e R s m args below meth c T locs cells slots) (hx : p.tables.exec = Jvm.exec) (hlk : meth.locks = false) (hret : meth.sig.returnType = some .long) {pc : Nat} {Ls : Array Slot} {z : Int64} {rest : List Value}
    (hd : decode c.code pc = .ok (.lreturn, 1)) (eT : T.heap = h) (hQ : Q (some (.long z)) h locs) (hc : cells ≤ ce) (hs : slots ≤ sl) : Go p e below s ce sl Q (T.setTop (mkF m pc Ls (.long z :: rest))) :=
  go_ret X hlk (fun h => by rw [hret] at h; cases h) eT hQ hc hs (fun fs hr => retOut X hx hret rfl (Or.inr (Or.inl ⟨rfl, rfl, z, rfl⟩)) hd hr)
theorem go_retA (X : Stand p l e R s m args below meth c T locs cells slots) (hx : p.tables.exec = Jvm.exec) (hlk : meth.locks = false) {t : FieldType} (hret : meth.sig.returnType = some t) (ht : t.isReference = true) {pc : Nat} {Ls : Array Slot} {w : Value} (hw : w.isRef = true) (hn : narrow t w = w) {rest : List Value}
    (hd : decode c.code pc = .ok (.areturn, 1)) (eT : T.heap = h) (hQ : Q (some w) h locs) (hc : cells ≤ ce) (hs : slots ≤ sl) : Go p e below s ce sl Q (T.setTop (mkF m pc Ls (w :: rest))) :=
  go_ret X hlk (fun h => by rw [hret] at h; cases h) eT hQ hc hs (fun fs hr => retOut X hx hret hn (Or.inr (Or.inr (Or.inr (Or.inr ⟨rfl, ht, hw⟩)))) hd hr)
theorem go_retV (X : Stand p l e R s m args below meth c T locs cells slots) (hx : p.tables.exec = Jvm.exec) (hlk : meth.locks = false) (hret : meth.sig.returnType = none) {pc : Nat} {Ls : Array Slot}
    (hd : decode c.code pc = .ok (.return_, 1)) (eT : T.heap = h) (hQ : Q none h locs) (hc : cells ≤ ce) (hs : slots ≤ sl) : Go p e below s ce sl Q (T.setTop (mkF m pc Ls [])) :=
  go_ret X hlk (fun _ => rfl) eT hQ hc hs (fun fs hr => X.returnOut hx hret hd hr)
/-- it returned v, wrote nothing and made nothing -/
def PureR (v : Option Value) (h0 : Heap) : Option Value → Heap → List Loc → Prop := fun v' h L => v' = v ∧ h = h0 ∧ L = []
/-- a static method by its contract -/
theorem callSQ (X : Stand p l e R s m args below meth c T locs cells slots) (hx : p.tables.exec = Jvm.exec) (hZ : Z.Warmed39 s.vm) {own : String} {index : Nat} {y : MethodName} {bytes : ByteArray} {maxL : Nat} {rt : Option FieldType} {rm : Room}
    (hown : s.vm.findClass own = some m.cls) (w1 : (Jvm.Cond.methodLink own index y).before a0 Z = true) (w2 : (Jvm.Cond.static y).before a0 Z = true) (w3 : (Jvm.Cond.initialized y.cls).before a0 Z = true) (w4 : (Jvm.Cond.code y bytes maxL rt).before a0 Z = true)
    (hy : y.cls ≠ "java/lang/invoke/MethodHandle" ∧ y.cls ≠ "java/lang/invoke/VarHandle") {av : List Value} (hM : Meets l Z y bytes maxL rt [] rm av.toArray h Q) (eT : T.heap = h)
    {pc : Nat} {Ls : Array Slot} {rest : List Value} {ps : List FieldType} {r : Option FieldType} (hsize : Ls.size = c.maxLocals) (hp : parseMethodDescriptor y.desc = some ⟨ps, r⟩) (hlen : av.length = ps.length)
    (W : Nat) (hW : (rest.map fun v => v.category).sum ≤ W) (hf : rm.frames + 1 ≤ R.frames) (hl : W + (maxL + 11) + rm.locals ≤ R.locals) (hc : cells + rm.cells ≤ R.cells) (hs : slots + rm.slots ≤ R.slots) (hd : decode c.code pc = .ok (.invokestatic index, 3)) :
    ∃ v T' L, Stand p l e R s m args below meth c T' (locs ++ L) (cells + rm.cells) (slots + rm.slots) ∧ Q v T'.heap L ∧
      ∀ t, Steps p.tables e below (T'.setTop (mkF m (pc + 3) Ls (v.toList ++ rest))) t → Steps p.tables e below (T.setTop (mkF m pc Ls (av.reverse ++ rest))) t := by
  obtain ⟨v, _, ⟨T2, L2, k2, n2⟩, -, X2, ⟨Lc2, hQ2, l2, y2, z2⟩, st2⟩ := Jvm.LawKit.callS X hx (y := y) hown (mvT hZ w1) (mvT hZ w2) (mvT hZ w3) (mvT hZ w4) hy (backOf (W := W) hM hZ w4 w3 hf hl) (g := mkF m pc Ls (av.reverse ++ rest)) rfl hsize (argsL := av) (rest := rest) (lenOf hp hlen) rfl (by show 2 * 0 + _ ≤ _; rw [Nat.mul_zero, Nat.zero_add]; exact hW) hd (fun _ _ => ⟨rfl, eT, hc, hs⟩)
  dsimp only [Pt.U, Pt.locs, Pt.cells, Pt.slots] at X2 l2 y2 z2 st2 hQ2
  subst l2 y2 z2
  exact ⟨v, T2, Lc2, X2, hQ2, st2⟩
/-- a static method that writes and makes nothing -/
theorem callS0 (X : Stand p l e R s m args below meth c T locs cells slots) (hx : p.tables.exec = Jvm.exec) (hZ : Z.Warmed39 s.vm) {own : String} {index : Nat} {y : MethodName} {bytes : ByteArray} {maxL : Nat} {rt : Option FieldType} {fr lo : Nat} {v : Option Value}
    (hown : s.vm.findClass own = some m.cls) (w1 : (Jvm.Cond.methodLink own index y).before a0 Z = true) (w2 : (Jvm.Cond.static y).before a0 Z = true) (w3 : (Jvm.Cond.initialized y.cls).before a0 Z = true) (w4 : (Jvm.Cond.code y bytes maxL rt).before a0 Z = true)
    (hy : y.cls ≠ "java/lang/invoke/MethodHandle" ∧ y.cls ≠ "java/lang/invoke/VarHandle") {av : List Value} (hM : Meets l Z y bytes maxL rt [] ({ frames := fr, cells := 0, slots := 0, locals := lo } : Room) av.toArray h (PureR v h)) (eT : T.heap = h)
    {pc : Nat} {Ls : Array Slot} {rest : List Value} {ps : List FieldType} {r : Option FieldType} (hsize : Ls.size = c.maxLocals) (hp : parseMethodDescriptor y.desc = some ⟨ps, r⟩) (hlen : av.length = ps.length)
    (W : Nat) (hW : (rest.map fun v => v.category).sum ≤ W) (hf : fr + 1 ≤ R.frames) (hl : W + (maxL + 11) + lo ≤ R.locals) (hc : cells ≤ R.cells) (hs : slots ≤ R.slots) (hd : decode c.code pc = .ok (.invokestatic index, 3)) :
    ∃ T', Stand p l e R s m args below meth c T' locs cells slots ∧ T'.heap = h ∧
      ∀ t, Steps p.tables e below (T'.setTop (mkF m (pc + 3) Ls (v.toList ++ rest))) t → Steps p.tables e below (T.setTop (mkF m pc Ls (av.reverse ++ rest))) t := by
  obtain ⟨_, T2, _, X2, ⟨rfl, h2, rfl⟩, st2⟩ := callSQ X hx hZ hown w1 w2 w3 w4 hy hM eT hsize hp hlen W hW hf hl hc hs hd
  rw [List.append_nil] at X2
  exact ⟨T2, X2, h2, st2⟩
end OwnKit
section OwnKit2
variable {p : Program} {l : Launch} {e : Env} {R : Room} {s : State} {m : MethodId} {args : Array Value} {below : List Frame} {meth : Method} {c : Code} {T : State} {locs : List Loc} {cells slots : Nat} {Z : State} {h h0 : Heap} {ce sl : Nat} {Q : Option Value → Heap → List Loc → Prop} {U U' : State} {a0 : Array Value}
/-- an instance method by its contract, the resolved one being the selected one -/
theorem callVQ (X : Stand p l e R s m args below meth c T locs cells slots) (hx : p.tables.exec = Jvm.exec) (hZ : Z.Warmed39 s.vm) {own C : String} {index : Nat} {y : MethodName} {bytes : ByteArray} {maxL : Nat} {rt : Option FieldType} {rm : Room}
    (hown : s.vm.findClass own = some m.cls) (w1 : (Jvm.Cond.methodLink own index y).before a0 Z = true) (w2 : (Jvm.Cond.declares y).before a0 Z = true) (w3 : (Jvm.Cond.selects C y y).before a0 Z = true) (w5 : (Jvm.Cond.instanceMethod y).before a0 Z = true) (w6 : (Jvm.Cond.initialized y.cls).before a0 Z = true) (w4 : (Jvm.Cond.code y bytes maxL rt).before a0 Z = true)
    (hy : y.cls ≠ "java/lang/invoke/MethodHandle" ∧ y.cls ≠ "java/lang/invoke/VarHandle") {b : Addr} {av : List Value} (hE : Exa Z h b C) (hM : Meets l Z y bytes maxL rt [] rm (.ref b :: av).toArray h Q) (eT : T.heap = h)
    {pc : Nat} {Ls : Array Slot} {rest : List Value} {ps : List FieldType} {r : Option FieldType} (hsize : Ls.size = c.maxLocals) (hp : parseMethodDescriptor y.desc = some ⟨ps, r⟩) (hlen : av.length = ps.length)
    (W : Nat) (hW : (rest.map fun v => v.category).sum ≤ W) (hf : rm.frames + 1 ≤ R.frames) (hl : W + (maxL + 11) + rm.locals ≤ R.locals) (hc : cells + rm.cells ≤ R.cells) (hs : slots + rm.slots ≤ R.slots) (hd : decode c.code pc = .ok (.invokevirtual index, 3)) :
    ∃ v T' L, Stand p l e R s m args below meth c T' (locs ++ L) (cells + rm.cells) (slots + rm.slots) ∧ Q v T'.heap L ∧
      ∀ t, Steps p.tables e below (T'.setTop (mkF m (pc + 3) Ls (v.toList ++ rest))) t → Steps p.tables e below (T.setTop (mkF m pc Ls (av.reverse ++ .ref b :: rest))) t := by
  obtain ⟨cq, kq, qa, qb, qc⟩ := isOf hZ eT hE
  obtain ⟨v, _, ⟨T2, L2, k2, n2⟩, -, X2, ⟨Lc2, hQ2, l2, y2, z2⟩, st2⟩ := X.virtualBack hx (y := y) (z := y) hown (mvT hZ w1) (mvT hZ w2) (notFace_of_selects (args := #[]) (mvT hZ w3)) (mvT hZ w3) (mvT hZ w5) hy (backOf (W := W) hM hZ w4 w6 hf hl) qa qc (g := mkF m pc Ls (av.reverse ++ .ref b :: rest)) rfl hsize (Steps.refl _) (argsL := av) (rest := rest) (lenOf hp hlen) rfl (by show 2 * 0 + _ ≤ _; rw [Nat.mul_zero, Nat.zero_add]; exact hW) hd (fun _ _ => ⟨rfl, eT, hc, hs⟩)
  dsimp only [Pt.U, Pt.locs, Pt.cells, Pt.slots] at X2 l2 y2 z2 st2 hQ2
  subst l2 y2 z2
  exact ⟨v, T2, Lc2, X2, hQ2, fun t k => st2.trans k⟩
theorem callV0 (X : Stand p l e R s m args below meth c T locs cells slots) (hx : p.tables.exec = Jvm.exec) (hZ : Z.Warmed39 s.vm) {own C : String} {index : Nat} {y : MethodName} {bytes : ByteArray} {maxL : Nat} {rt : Option FieldType} {fr lo : Nat} {v : Option Value}
    (hown : s.vm.findClass own = some m.cls) (w1 : (Jvm.Cond.methodLink own index y).before a0 Z = true) (w2 : (Jvm.Cond.declares y).before a0 Z = true) (w3 : (Jvm.Cond.selects C y y).before a0 Z = true) (w5 : (Jvm.Cond.instanceMethod y).before a0 Z = true) (w6 : (Jvm.Cond.initialized y.cls).before a0 Z = true) (w4 : (Jvm.Cond.code y bytes maxL rt).before a0 Z = true)
    (hy : y.cls ≠ "java/lang/invoke/MethodHandle" ∧ y.cls ≠ "java/lang/invoke/VarHandle") {b : Addr} {av : List Value} (hE : Exa Z h b C) (hM : Meets l Z y bytes maxL rt [] ({ frames := fr, cells := 0, slots := 0, locals := lo } : Room) (.ref b :: av).toArray h (PureR v h)) (eT : T.heap = h)
    {pc : Nat} {Ls : Array Slot} {rest : List Value} {ps : List FieldType} {r : Option FieldType} (hsize : Ls.size = c.maxLocals) (hp : parseMethodDescriptor y.desc = some ⟨ps, r⟩) (hlen : av.length = ps.length)
    (W : Nat) (hW : (rest.map fun v => v.category).sum ≤ W) (hf : fr + 1 ≤ R.frames) (hl : W + (maxL + 11) + lo ≤ R.locals) (hc : cells ≤ R.cells) (hs : slots ≤ R.slots) (hd : decode c.code pc = .ok (.invokevirtual index, 3)) :
    ∃ T', Stand p l e R s m args below meth c T' locs cells slots ∧ T'.heap = h ∧
      ∀ t, Steps p.tables e below (T'.setTop (mkF m (pc + 3) Ls (v.toList ++ rest))) t → Steps p.tables e below (T.setTop (mkF m pc Ls (av.reverse ++ .ref b :: rest))) t := by
  obtain ⟨_, T2, _, X2, ⟨rfl, h2, rfl⟩, st2⟩ := callVQ X hx hZ hown w1 w2 w3 w5 w6 w4 hy hE hM eT hsize hp hlen W hW hf hl hc hs hd
  rw [List.append_nil] at X2
  exact ⟨T2, X2, h2, st2⟩
/-- a constructor by its contract -/
theorem callIQ (X : Stand p l e R s m args below meth c T locs cells slots) (hx : p.tables.exec = Jvm.exec) (hZ : Z.Warmed39 s.vm) {own : String} {index : Nat} {y : MethodName} {bytes : ByteArray} {maxL : Nat} {rm : Room} (hy1 : y.name = "<init>")
    (hown : s.vm.findClass own = some m.cls) (w1 : (Jvm.Cond.methodLink own index y).before a0 Z = true) (w5 : (Jvm.Cond.instanceMethod y).before a0 Z = true) (w6 : (Jvm.Cond.initialized y.cls).before a0 Z = true) (w4 : (Jvm.Cond.code y bytes maxL none).before a0 Z = true)
    (hy : y.cls ≠ "java/lang/invoke/MethodHandle" ∧ y.cls ≠ "java/lang/invoke/VarHandle") {b : Addr} {av : List Value} (hM : Meets l Z y bytes maxL none [] rm (.ref b :: av).toArray h Q) (eT : T.heap = h)
    {pc : Nat} {Ls : Array Slot} {rest : List Value} {ps : List FieldType} {r : Option FieldType} (hsize : Ls.size = c.maxLocals) (hp : parseMethodDescriptor y.desc = some ⟨ps, r⟩) (hlen : av.length = ps.length)
    (W : Nat) (hW : (rest.map fun v => v.category).sum ≤ W) (hf : rm.frames + 1 ≤ R.frames) (hl : W + (maxL + 11) + rm.locals ≤ R.locals) (hc : cells + rm.cells ≤ R.cells) (hs : slots + rm.slots ≤ R.slots) (hd : decode c.code pc = .ok (.invokespecial index, 3)) :
    ∃ v T' L, Stand p l e R s m args below meth c T' (locs ++ L) (cells + rm.cells) (slots + rm.slots) ∧ Q v T'.heap L ∧
      ∀ t, Steps p.tables e below (T'.setTop (mkF m (pc + 3) Ls (v.toList ++ rest))) t → Steps p.tables e below (T.setTop (mkF m pc Ls (av.reverse ++ .ref b :: rest))) t := by
  obtain ⟨v, _, ⟨T2, L2, k2, n2⟩, -, X2, ⟨Lc2, hQ2, l2, y2, z2⟩, st2⟩ := X.specialBack hx (y := y) hy1 hown (mvT hZ w1) (mvT hZ w5) (mvT hZ w4) hy (backOf (W := W) hM hZ w4 w6 hf hl) (g := mkF m pc Ls (av.reverse ++ .ref b :: rest)) rfl hsize (Steps.refl _) (a := b) (argsL := av) (rest := rest) (lenOf hp hlen) rfl (by show 2 * 0 + _ ≤ _; rw [Nat.mul_zero, Nat.zero_add]; exact hW) hd (fun _ _ => ⟨rfl, eT, hc, hs⟩)
  dsimp only [Pt.U, Pt.locs, Pt.cells, Pt.slots] at X2 l2 y2 z2 st2 hQ2
  subst l2 y2 z2
  exact ⟨v, T2, Lc2, X2, hQ2, fun t k => st2.trans k⟩
end OwnKit2
section OwnKit3
variable {args : Array Value} {first s : State} {o : Option Outcome} {idx : List Nat} {a b : Term}
theorem own_eqI {k : Int32} (h : (Jvm.Cond.eq a (.int k)).value args first o s idx = some true) : a.eval args first o idx s = some (.int k) := by
  obtain ⟨x, y, hx, hy, -, hk⟩ := cmp_v (Or.inl h)
  rw [Term.int_eval] at hy
  cases hy
  obtain ⟨z, rfl⟩ := hk
  have q := gotT (Cond.eq_ints hx (Term.int_eval k)) h
  rw [hx, q]
theorem own_eqR {b' : Addr} (h : (Jvm.Cond.eq a b).value args first o s idx = some true) (hb : b.eval args first o idx s = some (.ref b')) : a.eval args first o idx s = some (.ref b') := by
  obtain ⟨x, y, hx, hy, -, hk⟩ := cmp_v (Or.inl h)
  rw [hb] at hy
  cases hy
  have hk' : x.isRef = true := hk.2
  have q := gotT (eq_R hx hb hk' rfl) h
  rw [hx, q]
end OwnKit3
theorem own_k0 (m : MethodId) (a : Addr) (x0 : Int64) : entryFrame m #[(.ref a), (.long x0)] 3 = mkF m 0 #[.val (.ref a), .val (.long x0), .second] [] := by first | (simp [entryFrame, mkF, argsToLocals, Value.category]; done) | rfl
theorem own_k1 : decode prog_5_method_5_code 0 = .ok (.lload_n 1, 1) := by decide +kernel
theorem own_k2 : decode prog_5_method_5_code 1 = .ok (.aload_n 0, 1) := by decide +kernel
theorem own_k3 : decode prog_5_method_5_code 2 = .ok (.getfield 33, 3) := by decide +kernel
theorem own_k4 : decode prog_5_method_5_code 5 = .ok (.i2l, 1) := by decide +kernel
theorem own_k5 : decode prog_5_method_5_code 6 = .ok (.lcmp, 1) := by decide +kernel
theorem own_k6 : decode prog_5_method_5_code 7 = .ok (.ifCond .lt 17, 3) := by decide +kernel
theorem own_k7 : decode prog_5_method_5_code 24 = .ok (.iconst 0, 1) := by decide +kernel
theorem own_k8 : decode prog_5_method_5_code 25 = .ok (.ireturn, 1) := by decide +kernel
theorem own_k9 : decode prog_5_method_5_code 10 = .ok (.lload_n 1, 1) := by decide +kernel
theorem own_k10 : decode prog_5_method_5_code 11 = .ok (.aload_n 0, 1) := by decide +kernel
theorem own_k11 : decode prog_5_method_5_code 12 = .ok (.getfield 37, 3) := by decide +kernel
theorem own_k12 : decode prog_5_method_5_code 15 = .ok (.i2l, 1) := by decide +kernel
theorem own_k13 : decode prog_5_method_5_code 16 = .ok (.lcmp, 1) := by decide +kernel
theorem own_k14 : decode prog_5_method_5_code 17 = .ok (.ifCond .gt 7, 3) := by decide +kernel
theorem own_k15 : decode prog_5_method_5_code 20 = .ok (.iconst 1, 1) := by decide +kernel
theorem own_k16 : decode prog_5_method_5_code 21 = .ok (.goto 4, 3) := by decide +kernel
theorem own_k17 : plainName "com/example/fusewire/fusewire/Edition" = true := by first | (simp [plainName, overriddenIn]; done) | decide +kernel
def own_f1 (x0 : Int64) (u : Int32) (w : Int32) : Int32 := (if (lcmpW x0 (u.toInt64)) < (0 : Int32) then (0 : Int32) else (if (0 : Int32) < (lcmpW x0 (w.toInt64)) then (0 : Int32) else (1 : Int32)))
set_option maxRecDepth 65536 in
set_option maxHeartbeats 40000000 in
theorem own_rm1 (l : Launch) (Z : State) (a0 : Array Value) (hw : ∀ d ∈ tables_1, d.before a0 Z = true) (ws : List Jvm.Cond) (a : Addr) (x0 : Int64) (u : Int32) (w : Int32) (h0 : Heap) (F_a_minSeats : Fld Z h0 a "com/example/fusewire/fusewire/Edition" "minSeats" "I" (.int u)) (F_a_maxSeats : Fld Z h0 a "com/example/fusewire/fusewire/Edition" "maxSeats" "I" (.int w)) : Meets l Z (⟨"com/example/fusewire/fusewire/Edition", "seats", "(J)Z"⟩ : MethodName) prog_5_method_5_code 3 (some .boolean) ws ({ frames := 0, cells := 0, slots := 0, locals := 0 } : Room) #[(.ref a), (.long x0)] h0 (PureR (some (.int (own_f1 x0 u w))) h0) := by
  refine meets_of (plainFor_of_name own_k17) ?_
  intro p e s m below meth c s₁ X0 hx hZ hby hml hret hlk hown hnm e0
  replace hml : c.maxLocals = 3 := hml
  replace hown : s.vm.findClass "com/example/fusewire/fusewire/Edition" = some m.cls := hown
  refine Go.cast (own_k0 m a x0) ?_
  refine Go.via (U' := s₁.setTop (mkF m 1 #[.val (.ref a), .val (.long x0), .second] [(.long x0)])) (fun tG kG => XS.lloadN X0.here hx rfl (hb hby own_k1) rfl kG) ?_
  refine Go.via (U' := s₁.setTop (mkF m 2 #[.val (.ref a), .val (.long x0), .second] [(.ref a), (.long x0)])) (fun tG kG => XS.aloadN X0.here hx rfl (hb hby own_k2) rfl rfl kG) ?_
  obtain ⟨T1, X1, e1, st1⟩ := getF X0 hx hZ hown (host := "") (Or.inl (hw _ (List.mem_of_getElem? (i := 10) rfl))) Via.refl e0 F_a_minSeats (g := (mkF m 2 #[.val (.ref a), .val (.long x0), .second] [(.ref a), (.long x0)])) rfl rfl (hb hby own_k3)
  refine Go.via (U' := T1.setTop (mkF m 5 #[.val (.ref a), .val (.long x0), .second] [(.int u), (.long x0)])) (fun tG kG => st1 tG kG) ?_
  refine Go.via (U' := T1.setTop (mkF m 6 #[.val (.ref a), .val (.long x0), .second] [(.long (u.toInt64)), (.long x0)])) (fun tG kG => XS.i2l X1.here hx rfl (hb hby own_k4) rfl kG) ?_
  refine Go.via (U' := T1.setTop (mkF m 7 #[.val (.ref a), .val (.long x0), .second] [(.int (lcmpW x0 (u.toInt64)))])) (fun tG kG => XS.lcmp X1.here hx rfl (hb hby own_k5) rfl kG) ?_
  by_cases hc7 : (lcmpW x0 (u.toInt64)) < (0 : Int32)
  · refine Go.via (U' := T1.setTop (mkF m 24 #[.val (.ref a), .val (.long x0), .second] [])) (fun tG kG => XS.ifYes X1.here hx rfl (pc0 := 7) (pc' := 24) rfl (hb hby own_k6) rfl ((if0 _ _).trans (tlt hc7).1) (by decide) (by decide) kG) ?_
    refine Go.via (U' := T1.setTop (mkF m 25 #[.val (.ref a), .val (.long x0), .second] [(.int (0 : Int32))])) (fun tG kG => XS.iconst X1.here hx rfl (hb hby own_k7) kG) ?_
    exact go_retN X1 hx hlk (t := .boolean) hret (by simp) (hb hby own_k8) e1 ⟨(congrArg (fun z => some (Value.int z)) (show nar .boolean (0 : Int32) = (own_f1 x0 u w) from by unfold own_f1; simp only [if_pos hc7] <;> rfl)), rfl, rfl⟩ (by decide) (by decide)
  · refine Go.via (U' := T1.setTop (mkF m 10 #[.val (.ref a), .val (.long x0), .second] [])) (fun tG kG => XS.ifNo X1.here hx rfl (hb hby own_k6) rfl ((if0 _ _).trans (flt hc7).1) kG) ?_
    refine Go.via (U' := T1.setTop (mkF m 11 #[.val (.ref a), .val (.long x0), .second] [(.long x0)])) (fun tG kG => XS.lloadN X1.here hx rfl (hb hby own_k9) rfl kG) ?_
    refine Go.via (U' := T1.setTop (mkF m 12 #[.val (.ref a), .val (.long x0), .second] [(.ref a), (.long x0)])) (fun tG kG => XS.aloadN X1.here hx rfl (hb hby own_k10) rfl rfl kG) ?_
    obtain ⟨T2, X2, e2, st2⟩ := getF X1 hx hZ hown (host := "") (Or.inl (hw _ (List.mem_of_getElem? (i := 12) rfl))) Via.refl e1 F_a_maxSeats (g := (mkF m 12 #[.val (.ref a), .val (.long x0), .second] [(.ref a), (.long x0)])) rfl rfl (hb hby own_k11)
    refine Go.via (U' := T2.setTop (mkF m 15 #[.val (.ref a), .val (.long x0), .second] [(.int w), (.long x0)])) (fun tG kG => st2 tG kG) ?_
    refine Go.via (U' := T2.setTop (mkF m 16 #[.val (.ref a), .val (.long x0), .second] [(.long (w.toInt64)), (.long x0)])) (fun tG kG => XS.i2l X2.here hx rfl (hb hby own_k12) rfl kG) ?_
    refine Go.via (U' := T2.setTop (mkF m 17 #[.val (.ref a), .val (.long x0), .second] [(.int (lcmpW x0 (w.toInt64)))])) (fun tG kG => XS.lcmp X2.here hx rfl (hb hby own_k13) rfl kG) ?_
    by_cases hc17 : (0 : Int32) < (lcmpW x0 (w.toInt64))
    · refine Go.via (U' := T2.setTop (mkF m 24 #[.val (.ref a), .val (.long x0), .second] [])) (fun tG kG => XS.ifYes X2.here hx rfl (pc0 := 17) (pc' := 24) rfl (hb hby own_k14) rfl ((if0 _ _).trans (tlt hc17).2.2.1) (by decide) (by decide) kG) ?_
      refine Go.via (U' := T2.setTop (mkF m 25 #[.val (.ref a), .val (.long x0), .second] [(.int (0 : Int32))])) (fun tG kG => XS.iconst X2.here hx rfl (hb hby own_k7) kG) ?_
      exact go_retN X2 hx hlk (t := .boolean) hret (by simp) (hb hby own_k8) e2 ⟨(congrArg (fun z => some (Value.int z)) (show nar .boolean (0 : Int32) = (own_f1 x0 u w) from by unfold own_f1; simp only [if_neg hc7, if_pos hc17] <;> rfl)), rfl, rfl⟩ (by decide) (by decide)
    · refine Go.via (U' := T2.setTop (mkF m 20 #[.val (.ref a), .val (.long x0), .second] [])) (fun tG kG => XS.ifNo X2.here hx rfl (hb hby own_k14) rfl ((if0 _ _).trans (flt hc17).2.2.1) kG) ?_
      refine Go.via (U' := T2.setTop (mkF m 21 #[.val (.ref a), .val (.long x0), .second] [(.int (1 : Int32))])) (fun tG kG => XS.iconst X2.here hx rfl (hb hby own_k15) kG) ?_
      refine Go.via (U' := T2.setTop (mkF m 25 #[.val (.ref a), .val (.long x0), .second] [(.int (1 : Int32))])) (fun tG kG => XS.goto X2.here hx rfl (pc0 := 21) (pc' := 25) rfl (hb hby own_k16) (by decide) (by decide) kG) ?_
      exact go_retN X2 hx hlk (t := .boolean) hret (by simp) (hb hby own_k8) e2 ⟨(congrArg (fun z => some (Value.int z)) (show nar .boolean (1 : Int32) = (own_f1 x0 u w) from by unfold own_f1; simp only [if_neg hc7, if_neg hc17] <;> rfl)), rfl, rfl⟩ (by decide) (by decide)
theorem own_k18 (m : MethodId) (x0 : Int64) (x1 : Int32) : entryFrame m #[(.long x0), (.int x1)] maxLocals = mkF m 0 #[.val (.long x0), .second, .val (.int x1), .unset, .unset, .unset, .unset] [] := by first | (simp [entryFrame, mkF, argsToLocals, Value.category, maxLocals]; done) | rfl
def own_j0_19_l4 (x0 : Int64) (x1 : Int32) : Int64 := (if (x1 &&& (2 : Int32)) = (0 : Int32) then ((((x1 >>> ((2 : Int32) &&& 31)) &&& (15 : Int32)) - (4 : Int32)).toInt64) else x0)
def own_j0_45_s0 (x0 : Int64) (x1 : Int32) : Int32 := (if (0 : Int32) < (lcmpW (2 : Int64) (own_j0_19_l4 x0 x1)) then (0 : Int32) else (if (0 : Int32) < (lcmpW (own_j0_19_l4 x0 x1) (5 : Int64)) then (0 : Int32) else (1 : Int32)))
theorem own_k19 : parseMethodDescriptor "(J)Z" = some ⟨[.long], some .boolean⟩ := by decide +kernel
theorem own_k20 : plainName "com/example/fusewire/fusewire/EditionSeatsPinLaw" = true := by first | (simp [plainName, overriddenIn]; done) | decide +kernel
def own_f0 (x0 : Int64) (x1 : Int32) : Int32 := (if (own_f1 (own_j0_19_l4 x0 x1) (2 : Int32) (5 : Int32)) = (own_j0_45_s0 x0 x1) then (1 : Int32) else (0 : Int32))
set_option maxRecDepth 65536 in
set_option maxHeartbeats 40000000 in
theorem own_rm0 (l : Launch) (Z : State) (a0 : Array Value) (hw : ∀ d ∈ tables_1, d.before a0 Z = true) (ws : List Jvm.Cond) (x0 : Int64) (x1 : Int32) (a_ARMAGEDDON : Addr) (a_ORIGINAL : Addr) (h0 : Heap) (E_a_ARMAGEDDON : Exa Z h0 a_ARMAGEDDON "com/example/fusewire/fusewire/Edition") (F_a_ARMAGEDDON_minSeats : Fld Z h0 a_ARMAGEDDON "com/example/fusewire/fusewire/Edition" "minSeats" "I" (.int (2 : Int32))) (F_a_ARMAGEDDON_maxSeats : Fld Z h0 a_ARMAGEDDON "com/example/fusewire/fusewire/Edition" "maxSeats" "I" (.int (5 : Int32))) (E_a_ORIGINAL : Exa Z h0 a_ORIGINAL "com/example/fusewire/fusewire/Edition") (F_a_ORIGINAL_minSeats : Fld Z h0 a_ORIGINAL "com/example/fusewire/fusewire/Edition" "minSeats" "I" (.int (2 : Int32))) (F_a_ORIGINAL_maxSeats : Fld Z h0 a_ORIGINAL "com/example/fusewire/fusewire/Edition" "maxSeats" "I" (.int (5 : Int32))) (S_ARMAGEDDON : Sta Z h0 "com/example/fusewire/fusewire/Edition" "ARMAGEDDON" "Lcom/example/fusewire/fusewire/Edition;" (.ref a_ARMAGEDDON)) (S_ORIGINAL : Sta Z h0 "com/example/fusewire/fusewire/Edition" "ORIGINAL" "Lcom/example/fusewire/fusewire/Edition;" (.ref a_ORIGINAL)) : Meets l Z x code maxLocals ret ws room_1 #[(.long x0), (.int x1)] h0 (PureR (some (.int (own_f0 x0 x1))) h0) := by
  refine meets_of (plainFor_of_name own_k20) ?_
  intro p e s m below meth c s₁ X0 hx hZ hby hml hret hlk hown hnm e0
  replace hml : c.maxLocals = 7 := hml
  replace hown : s.vm.findClass "com/example/fusewire/fusewire/EditionSeatsPinLaw" = some m.cls := hown
  refine Go.cast (own_k18 m x0 x1) ?_
  refine Go.via (U' := s₁.setTop (mkF m 1 #[.val (.long x0), .second, .val (.int x1), .unset, .unset, .unset, .unset] [(.int x1)])) (fun tG kG => XS.iloadN X0.here hx rfl (hb hby at_0) rfl kG) ?_
  refine Go.via (U' := s₁.setTop (mkF m 2 #[.val (.long x0), .second, .val (.int x1), .unset, .unset, .unset, .unset] [(.int (1 : Int32)), (.int x1)])) (fun tG kG => XS.iconst X0.here hx rfl (hb hby at_1) kG) ?_
  refine Go.via (U' := s₁.setTop (mkF m 3 #[.val (.long x0), .second, .val (.int x1), .unset, .unset, .unset, .unset] [(.int (x1 &&& (1 : Int32)))])) (fun tG kG => XS.iand X0.here hx rfl (hb hby at_2) rfl kG) ?_
  by_cases hc3 : (x1 &&& (1 : Int32)) = (0 : Int32)
  · refine Go.via (U' := s₁.setTop (mkF m 12 #[.val (.long x0), .second, .val (.int x1), .unset, .unset, .unset, .unset] [])) (fun tG kG => XS.ifYes X0.here hx rfl (pc0 := 3) (pc' := 12) rfl (hb hby at_3) rfl ((if0 _ _).trans (teq hc3).1) (by decide) (by decide) kG) ?_
    obtain ⟨T1, X1, e1, st1⟩ := getS2 X0 hx hZ hown (host := "") (Or.inl (hw _ (List.mem_of_getElem? (i := 0) rfl))) Via.refl e0 S_ARMAGEDDON (g := (mkF m 12 #[.val (.long x0), .second, .val (.int x1), .unset, .unset, .unset, .unset] [])) rfl (hb hby at_12)
    refine Go.via (U' := T1.setTop (mkF m 15 #[.val (.long x0), .second, .val (.int x1), .unset, .unset, .unset, .unset] [(.ref a_ARMAGEDDON)])) (fun tG kG => st1 tG kG) ?_
    refine Go.via (U' := T1.setTop (mkF m 16 #[.val (.long x0), .second, .val (.int x1), .val (.ref a_ARMAGEDDON), .unset, .unset, .unset] [])) (fun tG kG => XS.astoreN X1.here hx rfl (hb hby at_15) rfl rfl (l' := #[.val (.long x0), .second, .val (.int x1), .val (.ref a_ARMAGEDDON), .unset, .unset, .unset]) rfl kG) ?_
    refine Go.via (U' := T1.setTop (mkF m 17 #[.val (.long x0), .second, .val (.int x1), .val (.ref a_ARMAGEDDON), .unset, .unset, .unset] [(.int x1)])) (fun tG kG => XS.iloadN X1.here hx rfl (hb hby at_16) rfl kG) ?_
    refine Go.via (U' := T1.setTop (mkF m 18 #[.val (.long x0), .second, .val (.int x1), .val (.ref a_ARMAGEDDON), .unset, .unset, .unset] [(.int (2 : Int32)), (.int x1)])) (fun tG kG => XS.iconst X1.here hx rfl (hb hby at_17) kG) ?_
    refine Go.via (U' := T1.setTop (mkF m 19 #[.val (.long x0), .second, .val (.int x1), .val (.ref a_ARMAGEDDON), .unset, .unset, .unset] [(.int (x1 &&& (2 : Int32)))])) (fun tG kG => XS.iand X1.here hx rfl (hb hby at_18) rfl kG) ?_
    have J2 : ∀ T', Stand p l e room_1 s m #[(.long x0), (.int x1)] below meth c T' [] 0 0 → T'.heap = h0 → Go p e below s room_1.cells room_1.slots (PureR (some (.int (own_f0 x0 x1))) h0) (T'.setTop (mkF m 39 #[.val (.long x0), .second, .val (.int x1), .val (.ref a_ARMAGEDDON), .val (.long (own_j0_19_l4 x0 x1)), .second, .unset] [])) := by
      intro T3 X4 e5
      refine Go.via (U' := T3.setTop (mkF m 42 #[.val (.long x0), .second, .val (.int x1), .val (.ref a_ARMAGEDDON), .val (.long (own_j0_19_l4 x0 x1)), .second, .unset] [(.long (2 : Int64))])) (fun tG kG => X4.ldc2Long hx hown (mvT hZ (hw _ (List.mem_of_getElem? (i := 3) rfl))) (g := (mkF m 39 #[.val (.long x0), .second, .val (.int x1), .val (.ref a_ARMAGEDDON), .val (.long (own_j0_19_l4 x0 x1)), .second, .unset] [])) rfl (hb hby at_39) tG kG) ?_
      refine Go.via (U' := T3.setTop (mkF m 44 #[.val (.long x0), .second, .val (.int x1), .val (.ref a_ARMAGEDDON), .val (.long (own_j0_19_l4 x0 x1)), .second, .unset] [(.long (own_j0_19_l4 x0 x1)), (.long (2 : Int64))])) (fun tG kG => XS.lload X4.here hx rfl (hb hby at_42) rfl kG) ?_
      refine Go.via (U' := T3.setTop (mkF m 45 #[.val (.long x0), .second, .val (.int x1), .val (.ref a_ARMAGEDDON), .val (.long (own_j0_19_l4 x0 x1)), .second, .unset] [(.int (lcmpW (2 : Int64) (own_j0_19_l4 x0 x1)))])) (fun tG kG => XS.lcmp X4.here hx rfl (hb hby at_44) rfl kG) ?_
      have J6 : ∀ T', Stand p l e room_1 s m #[(.long x0), (.int x1)] below meth c T' [] 0 0 → T'.heap = h0 → Go p e below s room_1.cells room_1.slots (PureR (some (.int (own_f0 x0 x1))) h0) (T'.setTop (mkF m 62 #[.val (.long x0), .second, .val (.int x1), .val (.ref a_ARMAGEDDON), .val (.long (own_j0_19_l4 x0 x1)), .second, .unset] [(.int (own_j0_45_s0 x0 x1))])) := by
        intro T7 X8 e9
        refine Go.via (U' := T7.setTop (mkF m 64 #[.val (.long x0), .second, .val (.int x1), .val (.ref a_ARMAGEDDON), .val (.long (own_j0_19_l4 x0 x1)), .second, .val (.int (own_j0_45_s0 x0 x1))] [])) (fun tG kG => XS.istore X8.here hx rfl (hb hby at_62) rfl (l' := #[.val (.long x0), .second, .val (.int x1), .val (.ref a_ARMAGEDDON), .val (.long (own_j0_19_l4 x0 x1)), .second, .val (.int (own_j0_45_s0 x0 x1))]) rfl kG) ?_
        refine Go.via (U' := T7.setTop (mkF m 65 #[.val (.long x0), .second, .val (.int x1), .val (.ref a_ARMAGEDDON), .val (.long (own_j0_19_l4 x0 x1)), .second, .val (.int (own_j0_45_s0 x0 x1))] [(.ref a_ARMAGEDDON)])) (fun tG kG => XS.aloadN X8.here hx rfl (hb hby at_64) rfl rfl kG) ?_
        refine Go.via (U' := T7.setTop (mkF m 67 #[.val (.long x0), .second, .val (.int x1), .val (.ref a_ARMAGEDDON), .val (.long (own_j0_19_l4 x0 x1)), .second, .val (.int (own_j0_45_s0 x0 x1))] [(.long (own_j0_19_l4 x0 x1)), (.ref a_ARMAGEDDON)])) (fun tG kG => XS.lload X8.here hx rfl (hb hby at_65) rfl kG) ?_
        obtain ⟨T10, X10, e10, st10⟩ := callV0 X8 hx hZ hown (hw _ (List.mem_of_getElem? (i := 5) rfl)) (hw _ (List.mem_of_getElem? (i := 6) rfl)) (hw _ (List.mem_of_getElem? (i := 8) rfl)) (hw _ (List.mem_of_getElem? (i := 7) rfl)) (hw _ (List.mem_of_getElem? (i := 1) rfl)) (hw _ (List.mem_of_getElem? (i := 9) rfl)) (by decide) (b := a_ARMAGEDDON) (av := [(.long (own_j0_19_l4 x0 x1))]) E_a_ARMAGEDDON (own_rm1 l Z a0 hw [] a_ARMAGEDDON (own_j0_19_l4 x0 x1) (2 : Int32) (5 : Int32) h0 F_a_ARMAGEDDON_minSeats F_a_ARMAGEDDON_maxSeats) e9 (pc := 67) (Ls := #[.val (.long x0), .second, .val (.int x1), .val (.ref a_ARMAGEDDON), .val (.long (own_j0_19_l4 x0 x1)), .second, .val (.int (own_j0_45_s0 x0 x1))]) (rest := []) (by rw [hml]; rfl) own_k19 rfl 0 (Nat.le_of_eq rfl) (by decide) (by decide) (by decide) (by decide) (hb hby at_67)
        refine Go.via (U' := T10.setTop (mkF m 70 #[.val (.long x0), .second, .val (.int x1), .val (.ref a_ARMAGEDDON), .val (.long (own_j0_19_l4 x0 x1)), .second, .val (.int (own_j0_45_s0 x0 x1))] [(.int (own_f1 (own_j0_19_l4 x0 x1) (2 : Int32) (5 : Int32)))])) (fun tG kG => st10 tG kG) ?_
        refine Go.via (U' := T10.setTop (mkF m 72 #[.val (.long x0), .second, .val (.int x1), .val (.ref a_ARMAGEDDON), .val (.long (own_j0_19_l4 x0 x1)), .second, .val (.int (own_j0_45_s0 x0 x1))] [(.int (own_j0_45_s0 x0 x1)), (.int (own_f1 (own_j0_19_l4 x0 x1) (2 : Int32) (5 : Int32)))])) (fun tG kG => XS.iload X10.here hx rfl (hb hby at_70) rfl kG) ?_
        by_cases hc72 : (own_f1 (own_j0_19_l4 x0 x1) (2 : Int32) (5 : Int32)) = (own_j0_45_s0 x0 x1)
        · refine Go.via (U' := T10.setTop (mkF m 75 #[.val (.long x0), .second, .val (.int x1), .val (.ref a_ARMAGEDDON), .val (.long (own_j0_19_l4 x0 x1)), .second, .val (.int (own_j0_45_s0 x0 x1))] [])) (fun tG kG => XS.icmpNo X10.here hx rfl (hb hby at_72) rfl (teq hc72).2 kG) ?_
          refine Go.via (U' := T10.setTop (mkF m 76 #[.val (.long x0), .second, .val (.int x1), .val (.ref a_ARMAGEDDON), .val (.long (own_j0_19_l4 x0 x1)), .second, .val (.int (own_j0_45_s0 x0 x1))] [(.int (1 : Int32))])) (fun tG kG => XS.iconst X10.here hx rfl (hb hby at_75) kG) ?_
          refine Go.via (U' := T10.setTop (mkF m 80 #[.val (.long x0), .second, .val (.int x1), .val (.ref a_ARMAGEDDON), .val (.long (own_j0_19_l4 x0 x1)), .second, .val (.int (own_j0_45_s0 x0 x1))] [(.int (1 : Int32))])) (fun tG kG => XS.goto X10.here hx rfl (pc0 := 76) (pc' := 80) rfl (hb hby at_76) (by decide) (by decide) kG) ?_
          exact go_retN X10 hx hlk (t := .boolean) hret (by simp) (hb hby at_80) e10 ⟨(congrArg (fun z => some (Value.int z)) (show nar .boolean (1 : Int32) = (own_f0 x0 x1) from by unfold own_f0; simp only [if_pos hc3, if_pos hc72] <;> rfl)), rfl, rfl⟩ (by decide) (by decide)
        · refine Go.via (U' := T10.setTop (mkF m 79 #[.val (.long x0), .second, .val (.int x1), .val (.ref a_ARMAGEDDON), .val (.long (own_j0_19_l4 x0 x1)), .second, .val (.int (own_j0_45_s0 x0 x1))] [])) (fun tG kG => XS.icmpYes X10.here hx rfl (pc0 := 72) (pc' := 79) rfl (hb hby at_72) rfl (feq hc72).2 (by decide) (by decide) kG) ?_
          refine Go.via (U' := T10.setTop (mkF m 80 #[.val (.long x0), .second, .val (.int x1), .val (.ref a_ARMAGEDDON), .val (.long (own_j0_19_l4 x0 x1)), .second, .val (.int (own_j0_45_s0 x0 x1))] [(.int (0 : Int32))])) (fun tG kG => XS.iconst X10.here hx rfl (hb hby at_79) kG) ?_
          exact go_retN X10 hx hlk (t := .boolean) hret (by simp) (hb hby at_80) e10 ⟨(congrArg (fun z => some (Value.int z)) (show nar .boolean (0 : Int32) = (own_f0 x0 x1) from by unfold own_f0; simp only [if_pos hc3, if_neg hc72] <;> rfl)), rfl, rfl⟩ (by decide) (by decide)
      by_cases hc45 : (0 : Int32) < (lcmpW (2 : Int64) (own_j0_19_l4 x0 x1))
      · refine Go.via (U' := T3.setTop (mkF m 61 #[.val (.long x0), .second, .val (.int x1), .val (.ref a_ARMAGEDDON), .val (.long (own_j0_19_l4 x0 x1)), .second, .unset] [])) (fun tG kG => XS.ifYes X4.here hx rfl (pc0 := 45) (pc' := 61) rfl (hb hby at_45) rfl ((if0 _ _).trans (tlt hc45).2.2.1) (by decide) (by decide) kG) ?_
        refine Go.via (U' := T3.setTop (mkF m 62 #[.val (.long x0), .second, .val (.int x1), .val (.ref a_ARMAGEDDON), .val (.long (own_j0_19_l4 x0 x1)), .second, .unset] [(.int (0 : Int32))])) (fun tG kG => XS.iconst X4.here hx rfl (hb hby at_61) kG) ?_
        have q_own_j0_45_s0 : (own_j0_45_s0 x0 x1) = (0 : Int32) := by unfold own_j0_45_s0; simp only [if_pos hc45]
        have q_J := J6 T3 X4 e5
        rw [q_own_j0_45_s0] at q_J
        exact q_J
      · refine Go.via (U' := T3.setTop (mkF m 48 #[.val (.long x0), .second, .val (.int x1), .val (.ref a_ARMAGEDDON), .val (.long (own_j0_19_l4 x0 x1)), .second, .unset] [])) (fun tG kG => XS.ifNo X4.here hx rfl (hb hby at_45) rfl ((if0 _ _).trans (flt hc45).2.2.1) kG) ?_
        refine Go.via (U' := T3.setTop (mkF m 50 #[.val (.long x0), .second, .val (.int x1), .val (.ref a_ARMAGEDDON), .val (.long (own_j0_19_l4 x0 x1)), .second, .unset] [(.long (own_j0_19_l4 x0 x1))])) (fun tG kG => XS.lload X4.here hx rfl (hb hby at_48) rfl kG) ?_
        refine Go.via (U' := T3.setTop (mkF m 53 #[.val (.long x0), .second, .val (.int x1), .val (.ref a_ARMAGEDDON), .val (.long (own_j0_19_l4 x0 x1)), .second, .unset] [(.long (5 : Int64)), (.long (own_j0_19_l4 x0 x1))])) (fun tG kG => X4.ldc2Long hx hown (mvT hZ (hw _ (List.mem_of_getElem? (i := 4) rfl))) (g := (mkF m 50 #[.val (.long x0), .second, .val (.int x1), .val (.ref a_ARMAGEDDON), .val (.long (own_j0_19_l4 x0 x1)), .second, .unset] [(.long (own_j0_19_l4 x0 x1))])) rfl (hb hby at_50) tG kG) ?_
        refine Go.via (U' := T3.setTop (mkF m 54 #[.val (.long x0), .second, .val (.int x1), .val (.ref a_ARMAGEDDON), .val (.long (own_j0_19_l4 x0 x1)), .second, .unset] [(.int (lcmpW (own_j0_19_l4 x0 x1) (5 : Int64)))])) (fun tG kG => XS.lcmp X4.here hx rfl (hb hby at_53) rfl kG) ?_
        by_cases hc54 : (0 : Int32) < (lcmpW (own_j0_19_l4 x0 x1) (5 : Int64))
        · refine Go.via (U' := T3.setTop (mkF m 61 #[.val (.long x0), .second, .val (.int x1), .val (.ref a_ARMAGEDDON), .val (.long (own_j0_19_l4 x0 x1)), .second, .unset] [])) (fun tG kG => XS.ifYes X4.here hx rfl (pc0 := 54) (pc' := 61) rfl (hb hby at_54) rfl ((if0 _ _).trans (tlt hc54).2.2.1) (by decide) (by decide) kG) ?_
          refine Go.via (U' := T3.setTop (mkF m 62 #[.val (.long x0), .second, .val (.int x1), .val (.ref a_ARMAGEDDON), .val (.long (own_j0_19_l4 x0 x1)), .second, .unset] [(.int (0 : Int32))])) (fun tG kG => XS.iconst X4.here hx rfl (hb hby at_61) kG) ?_
          have q_own_j0_45_s0 : (own_j0_45_s0 x0 x1) = (0 : Int32) := by unfold own_j0_45_s0; simp only [if_neg hc45, if_pos hc54]
          have q_J := J6 T3 X4 e5
          rw [q_own_j0_45_s0] at q_J
          exact q_J
        · refine Go.via (U' := T3.setTop (mkF m 57 #[.val (.long x0), .second, .val (.int x1), .val (.ref a_ARMAGEDDON), .val (.long (own_j0_19_l4 x0 x1)), .second, .unset] [])) (fun tG kG => XS.ifNo X4.here hx rfl (hb hby at_54) rfl ((if0 _ _).trans (flt hc54).2.2.1) kG) ?_
          refine Go.via (U' := T3.setTop (mkF m 58 #[.val (.long x0), .second, .val (.int x1), .val (.ref a_ARMAGEDDON), .val (.long (own_j0_19_l4 x0 x1)), .second, .unset] [(.int (1 : Int32))])) (fun tG kG => XS.iconst X4.here hx rfl (hb hby at_57) kG) ?_
          refine Go.via (U' := T3.setTop (mkF m 62 #[.val (.long x0), .second, .val (.int x1), .val (.ref a_ARMAGEDDON), .val (.long (own_j0_19_l4 x0 x1)), .second, .unset] [(.int (1 : Int32))])) (fun tG kG => XS.goto X4.here hx rfl (pc0 := 58) (pc' := 62) rfl (hb hby at_58) (by decide) (by decide) kG) ?_
          have q_own_j0_45_s0 : (own_j0_45_s0 x0 x1) = (1 : Int32) := by unfold own_j0_45_s0; simp only [if_neg hc45, if_neg hc54]
          have q_J := J6 T3 X4 e5
          rw [q_own_j0_45_s0] at q_J
          exact q_J
    by_cases hc19 : (x1 &&& (2 : Int32)) = (0 : Int32)
    · refine Go.via (U' := T1.setTop (mkF m 28 #[.val (.long x0), .second, .val (.int x1), .val (.ref a_ARMAGEDDON), .unset, .unset, .unset] [])) (fun tG kG => XS.ifYes X1.here hx rfl (pc0 := 19) (pc' := 28) rfl (hb hby at_19) rfl ((if0 _ _).trans (teq hc19).1) (by decide) (by decide) kG) ?_
      refine Go.via (U' := T1.setTop (mkF m 29 #[.val (.long x0), .second, .val (.int x1), .val (.ref a_ARMAGEDDON), .unset, .unset, .unset] [(.int x1)])) (fun tG kG => XS.iloadN X1.here hx rfl (hb hby at_28) rfl kG) ?_
      refine Go.via (U' := T1.setTop (mkF m 30 #[.val (.long x0), .second, .val (.int x1), .val (.ref a_ARMAGEDDON), .unset, .unset, .unset] [(.int (2 : Int32)), (.int x1)])) (fun tG kG => XS.iconst X1.here hx rfl (hb hby at_29) kG) ?_
      refine Go.via (U' := T1.setTop (mkF m 31 #[.val (.long x0), .second, .val (.int x1), .val (.ref a_ARMAGEDDON), .unset, .unset, .unset] [(.int (x1 >>> ((2 : Int32) &&& 31)))])) (fun tG kG => XS.ishr X1.here hx rfl (hb hby at_30) rfl kG) ?_
      refine Go.via (U' := T1.setTop (mkF m 33 #[.val (.long x0), .second, .val (.int x1), .val (.ref a_ARMAGEDDON), .unset, .unset, .unset] [(.int (15 : Int32)), (.int (x1 >>> ((2 : Int32) &&& 31)))])) (fun tG kG => XS.bipush X1.here hx rfl (hb hby at_31) kG) ?_
      refine Go.via (U' := T1.setTop (mkF m 34 #[.val (.long x0), .second, .val (.int x1), .val (.ref a_ARMAGEDDON), .unset, .unset, .unset] [(.int ((x1 >>> ((2 : Int32) &&& 31)) &&& (15 : Int32)))])) (fun tG kG => XS.iand X1.here hx rfl (hb hby at_33) rfl kG) ?_
      refine Go.via (U' := T1.setTop (mkF m 35 #[.val (.long x0), .second, .val (.int x1), .val (.ref a_ARMAGEDDON), .unset, .unset, .unset] [(.int (4 : Int32)), (.int ((x1 >>> ((2 : Int32) &&& 31)) &&& (15 : Int32)))])) (fun tG kG => XS.iconst X1.here hx rfl (hb hby at_34) kG) ?_
      refine Go.via (U' := T1.setTop (mkF m 36 #[.val (.long x0), .second, .val (.int x1), .val (.ref a_ARMAGEDDON), .unset, .unset, .unset] [(.int (((x1 >>> ((2 : Int32) &&& 31)) &&& (15 : Int32)) - (4 : Int32)))])) (fun tG kG => XS.isub X1.here hx rfl (hb hby at_35) rfl kG) ?_
      refine Go.via (U' := T1.setTop (mkF m 37 #[.val (.long x0), .second, .val (.int x1), .val (.ref a_ARMAGEDDON), .unset, .unset, .unset] [(.long ((((x1 >>> ((2 : Int32) &&& 31)) &&& (15 : Int32)) - (4 : Int32)).toInt64))])) (fun tG kG => XS.i2l X1.here hx rfl (hb hby at_36) rfl kG) ?_
      refine Go.via (U' := T1.setTop (mkF m 39 #[.val (.long x0), .second, .val (.int x1), .val (.ref a_ARMAGEDDON), .val (.long ((((x1 >>> ((2 : Int32) &&& 31)) &&& (15 : Int32)) - (4 : Int32)).toInt64)), .second, .unset] [])) (fun tG kG => XS.lstore X1.here hx rfl (hb hby at_37) rfl (l' := #[.val (.long x0), .second, .val (.int x1), .val (.ref a_ARMAGEDDON), .val (.long ((((x1 >>> ((2 : Int32) &&& 31)) &&& (15 : Int32)) - (4 : Int32)).toInt64)), .second, .unset]) rfl kG) ?_
      have q_own_j0_19_l4 : (own_j0_19_l4 x0 x1) = ((((x1 >>> ((2 : Int32) &&& 31)) &&& (15 : Int32)) - (4 : Int32)).toInt64) := by unfold own_j0_19_l4; simp only [if_pos hc19]
      have q_J := J2 T1 X1 e1
      rw [q_own_j0_19_l4] at q_J
      exact q_J
    · refine Go.via (U' := T1.setTop (mkF m 22 #[.val (.long x0), .second, .val (.int x1), .val (.ref a_ARMAGEDDON), .unset, .unset, .unset] [])) (fun tG kG => XS.ifNo X1.here hx rfl (hb hby at_19) rfl ((if0 _ _).trans (feq hc19).1) kG) ?_
      refine Go.via (U' := T1.setTop (mkF m 23 #[.val (.long x0), .second, .val (.int x1), .val (.ref a_ARMAGEDDON), .unset, .unset, .unset] [(.long x0)])) (fun tG kG => XS.lloadN X1.here hx rfl (hb hby at_22) rfl kG) ?_
      refine Go.via (U' := T1.setTop (mkF m 25 #[.val (.long x0), .second, .val (.int x1), .val (.ref a_ARMAGEDDON), .val (.long x0), .second, .unset] [])) (fun tG kG => XS.lstore X1.here hx rfl (hb hby at_23) rfl (l' := #[.val (.long x0), .second, .val (.int x1), .val (.ref a_ARMAGEDDON), .val (.long x0), .second, .unset]) rfl kG) ?_
      refine Go.via (U' := T1.setTop (mkF m 39 #[.val (.long x0), .second, .val (.int x1), .val (.ref a_ARMAGEDDON), .val (.long x0), .second, .unset] [])) (fun tG kG => XS.goto X1.here hx rfl (pc0 := 25) (pc' := 39) rfl (hb hby at_25) (by decide) (by decide) kG) ?_
      have q_own_j0_19_l4 : (own_j0_19_l4 x0 x1) = x0 := by unfold own_j0_19_l4; simp only [if_neg hc19]
      have q_J := J2 T1 X1 e1
      rw [q_own_j0_19_l4] at q_J
      exact q_J
  · refine Go.via (U' := s₁.setTop (mkF m 6 #[.val (.long x0), .second, .val (.int x1), .unset, .unset, .unset, .unset] [])) (fun tG kG => XS.ifNo X0.here hx rfl (hb hby at_3) rfl ((if0 _ _).trans (feq hc3).1) kG) ?_
    obtain ⟨T11, X11, e11, st11⟩ := getS2 X0 hx hZ hown (host := "") (Or.inl (hw _ (List.mem_of_getElem? (i := 14) rfl))) Via.refl e0 S_ORIGINAL (g := (mkF m 6 #[.val (.long x0), .second, .val (.int x1), .unset, .unset, .unset, .unset] [])) rfl (hb hby at_6)
    refine Go.via (U' := T11.setTop (mkF m 9 #[.val (.long x0), .second, .val (.int x1), .unset, .unset, .unset, .unset] [(.ref a_ORIGINAL)])) (fun tG kG => st11 tG kG) ?_
    refine Go.via (U' := T11.setTop (mkF m 15 #[.val (.long x0), .second, .val (.int x1), .unset, .unset, .unset, .unset] [(.ref a_ORIGINAL)])) (fun tG kG => XS.goto X11.here hx rfl (pc0 := 9) (pc' := 15) rfl (hb hby at_9) (by decide) (by decide) kG) ?_
    refine Go.via (U' := T11.setTop (mkF m 16 #[.val (.long x0), .second, .val (.int x1), .val (.ref a_ORIGINAL), .unset, .unset, .unset] [])) (fun tG kG => XS.astoreN X11.here hx rfl (hb hby at_15) rfl rfl (l' := #[.val (.long x0), .second, .val (.int x1), .val (.ref a_ORIGINAL), .unset, .unset, .unset]) rfl kG) ?_
    refine Go.via (U' := T11.setTop (mkF m 17 #[.val (.long x0), .second, .val (.int x1), .val (.ref a_ORIGINAL), .unset, .unset, .unset] [(.int x1)])) (fun tG kG => XS.iloadN X11.here hx rfl (hb hby at_16) rfl kG) ?_
    refine Go.via (U' := T11.setTop (mkF m 18 #[.val (.long x0), .second, .val (.int x1), .val (.ref a_ORIGINAL), .unset, .unset, .unset] [(.int (2 : Int32)), (.int x1)])) (fun tG kG => XS.iconst X11.here hx rfl (hb hby at_17) kG) ?_
    refine Go.via (U' := T11.setTop (mkF m 19 #[.val (.long x0), .second, .val (.int x1), .val (.ref a_ORIGINAL), .unset, .unset, .unset] [(.int (x1 &&& (2 : Int32)))])) (fun tG kG => XS.iand X11.here hx rfl (hb hby at_18) rfl kG) ?_
    have J12 : ∀ T', Stand p l e room_1 s m #[(.long x0), (.int x1)] below meth c T' [] 0 0 → T'.heap = h0 → Go p e below s room_1.cells room_1.slots (PureR (some (.int (own_f0 x0 x1))) h0) (T'.setTop (mkF m 39 #[.val (.long x0), .second, .val (.int x1), .val (.ref a_ORIGINAL), .val (.long (own_j0_19_l4 x0 x1)), .second, .unset] [])) := by
      intro T13 X14 e15
      refine Go.via (U' := T13.setTop (mkF m 42 #[.val (.long x0), .second, .val (.int x1), .val (.ref a_ORIGINAL), .val (.long (own_j0_19_l4 x0 x1)), .second, .unset] [(.long (2 : Int64))])) (fun tG kG => X14.ldc2Long hx hown (mvT hZ (hw _ (List.mem_of_getElem? (i := 3) rfl))) (g := (mkF m 39 #[.val (.long x0), .second, .val (.int x1), .val (.ref a_ORIGINAL), .val (.long (own_j0_19_l4 x0 x1)), .second, .unset] [])) rfl (hb hby at_39) tG kG) ?_
      refine Go.via (U' := T13.setTop (mkF m 44 #[.val (.long x0), .second, .val (.int x1), .val (.ref a_ORIGINAL), .val (.long (own_j0_19_l4 x0 x1)), .second, .unset] [(.long (own_j0_19_l4 x0 x1)), (.long (2 : Int64))])) (fun tG kG => XS.lload X14.here hx rfl (hb hby at_42) rfl kG) ?_
      refine Go.via (U' := T13.setTop (mkF m 45 #[.val (.long x0), .second, .val (.int x1), .val (.ref a_ORIGINAL), .val (.long (own_j0_19_l4 x0 x1)), .second, .unset] [(.int (lcmpW (2 : Int64) (own_j0_19_l4 x0 x1)))])) (fun tG kG => XS.lcmp X14.here hx rfl (hb hby at_44) rfl kG) ?_
      have J16 : ∀ T', Stand p l e room_1 s m #[(.long x0), (.int x1)] below meth c T' [] 0 0 → T'.heap = h0 → Go p e below s room_1.cells room_1.slots (PureR (some (.int (own_f0 x0 x1))) h0) (T'.setTop (mkF m 62 #[.val (.long x0), .second, .val (.int x1), .val (.ref a_ORIGINAL), .val (.long (own_j0_19_l4 x0 x1)), .second, .unset] [(.int (own_j0_45_s0 x0 x1))])) := by
        intro T17 X18 e19
        refine Go.via (U' := T17.setTop (mkF m 64 #[.val (.long x0), .second, .val (.int x1), .val (.ref a_ORIGINAL), .val (.long (own_j0_19_l4 x0 x1)), .second, .val (.int (own_j0_45_s0 x0 x1))] [])) (fun tG kG => XS.istore X18.here hx rfl (hb hby at_62) rfl (l' := #[.val (.long x0), .second, .val (.int x1), .val (.ref a_ORIGINAL), .val (.long (own_j0_19_l4 x0 x1)), .second, .val (.int (own_j0_45_s0 x0 x1))]) rfl kG) ?_
        refine Go.via (U' := T17.setTop (mkF m 65 #[.val (.long x0), .second, .val (.int x1), .val (.ref a_ORIGINAL), .val (.long (own_j0_19_l4 x0 x1)), .second, .val (.int (own_j0_45_s0 x0 x1))] [(.ref a_ORIGINAL)])) (fun tG kG => XS.aloadN X18.here hx rfl (hb hby at_64) rfl rfl kG) ?_
        refine Go.via (U' := T17.setTop (mkF m 67 #[.val (.long x0), .second, .val (.int x1), .val (.ref a_ORIGINAL), .val (.long (own_j0_19_l4 x0 x1)), .second, .val (.int (own_j0_45_s0 x0 x1))] [(.long (own_j0_19_l4 x0 x1)), (.ref a_ORIGINAL)])) (fun tG kG => XS.lload X18.here hx rfl (hb hby at_65) rfl kG) ?_
        obtain ⟨T20, X20, e20, st20⟩ := callV0 X18 hx hZ hown (hw _ (List.mem_of_getElem? (i := 5) rfl)) (hw _ (List.mem_of_getElem? (i := 6) rfl)) (hw _ (List.mem_of_getElem? (i := 8) rfl)) (hw _ (List.mem_of_getElem? (i := 7) rfl)) (hw _ (List.mem_of_getElem? (i := 1) rfl)) (hw _ (List.mem_of_getElem? (i := 9) rfl)) (by decide) (b := a_ORIGINAL) (av := [(.long (own_j0_19_l4 x0 x1))]) E_a_ORIGINAL (own_rm1 l Z a0 hw [] a_ORIGINAL (own_j0_19_l4 x0 x1) (2 : Int32) (5 : Int32) h0 F_a_ORIGINAL_minSeats F_a_ORIGINAL_maxSeats) e19 (pc := 67) (Ls := #[.val (.long x0), .second, .val (.int x1), .val (.ref a_ORIGINAL), .val (.long (own_j0_19_l4 x0 x1)), .second, .val (.int (own_j0_45_s0 x0 x1))]) (rest := []) (by rw [hml]; rfl) own_k19 rfl 0 (Nat.le_of_eq rfl) (by decide) (by decide) (by decide) (by decide) (hb hby at_67)
        refine Go.via (U' := T20.setTop (mkF m 70 #[.val (.long x0), .second, .val (.int x1), .val (.ref a_ORIGINAL), .val (.long (own_j0_19_l4 x0 x1)), .second, .val (.int (own_j0_45_s0 x0 x1))] [(.int (own_f1 (own_j0_19_l4 x0 x1) (2 : Int32) (5 : Int32)))])) (fun tG kG => st20 tG kG) ?_
        refine Go.via (U' := T20.setTop (mkF m 72 #[.val (.long x0), .second, .val (.int x1), .val (.ref a_ORIGINAL), .val (.long (own_j0_19_l4 x0 x1)), .second, .val (.int (own_j0_45_s0 x0 x1))] [(.int (own_j0_45_s0 x0 x1)), (.int (own_f1 (own_j0_19_l4 x0 x1) (2 : Int32) (5 : Int32)))])) (fun tG kG => XS.iload X20.here hx rfl (hb hby at_70) rfl kG) ?_
        by_cases hc72 : (own_f1 (own_j0_19_l4 x0 x1) (2 : Int32) (5 : Int32)) = (own_j0_45_s0 x0 x1)
        · refine Go.via (U' := T20.setTop (mkF m 75 #[.val (.long x0), .second, .val (.int x1), .val (.ref a_ORIGINAL), .val (.long (own_j0_19_l4 x0 x1)), .second, .val (.int (own_j0_45_s0 x0 x1))] [])) (fun tG kG => XS.icmpNo X20.here hx rfl (hb hby at_72) rfl (teq hc72).2 kG) ?_
          refine Go.via (U' := T20.setTop (mkF m 76 #[.val (.long x0), .second, .val (.int x1), .val (.ref a_ORIGINAL), .val (.long (own_j0_19_l4 x0 x1)), .second, .val (.int (own_j0_45_s0 x0 x1))] [(.int (1 : Int32))])) (fun tG kG => XS.iconst X20.here hx rfl (hb hby at_75) kG) ?_
          refine Go.via (U' := T20.setTop (mkF m 80 #[.val (.long x0), .second, .val (.int x1), .val (.ref a_ORIGINAL), .val (.long (own_j0_19_l4 x0 x1)), .second, .val (.int (own_j0_45_s0 x0 x1))] [(.int (1 : Int32))])) (fun tG kG => XS.goto X20.here hx rfl (pc0 := 76) (pc' := 80) rfl (hb hby at_76) (by decide) (by decide) kG) ?_
          exact go_retN X20 hx hlk (t := .boolean) hret (by simp) (hb hby at_80) e20 ⟨(congrArg (fun z => some (Value.int z)) (show nar .boolean (1 : Int32) = (own_f0 x0 x1) from by unfold own_f0; simp only [if_neg hc3, if_pos hc72] <;> rfl)), rfl, rfl⟩ (by decide) (by decide)
        · refine Go.via (U' := T20.setTop (mkF m 79 #[.val (.long x0), .second, .val (.int x1), .val (.ref a_ORIGINAL), .val (.long (own_j0_19_l4 x0 x1)), .second, .val (.int (own_j0_45_s0 x0 x1))] [])) (fun tG kG => XS.icmpYes X20.here hx rfl (pc0 := 72) (pc' := 79) rfl (hb hby at_72) rfl (feq hc72).2 (by decide) (by decide) kG) ?_
          refine Go.via (U' := T20.setTop (mkF m 80 #[.val (.long x0), .second, .val (.int x1), .val (.ref a_ORIGINAL), .val (.long (own_j0_19_l4 x0 x1)), .second, .val (.int (own_j0_45_s0 x0 x1))] [(.int (0 : Int32))])) (fun tG kG => XS.iconst X20.here hx rfl (hb hby at_79) kG) ?_
          exact go_retN X20 hx hlk (t := .boolean) hret (by simp) (hb hby at_80) e20 ⟨(congrArg (fun z => some (Value.int z)) (show nar .boolean (0 : Int32) = (own_f0 x0 x1) from by unfold own_f0; simp only [if_neg hc3, if_neg hc72] <;> rfl)), rfl, rfl⟩ (by decide) (by decide)
      by_cases hc45 : (0 : Int32) < (lcmpW (2 : Int64) (own_j0_19_l4 x0 x1))
      · refine Go.via (U' := T13.setTop (mkF m 61 #[.val (.long x0), .second, .val (.int x1), .val (.ref a_ORIGINAL), .val (.long (own_j0_19_l4 x0 x1)), .second, .unset] [])) (fun tG kG => XS.ifYes X14.here hx rfl (pc0 := 45) (pc' := 61) rfl (hb hby at_45) rfl ((if0 _ _).trans (tlt hc45).2.2.1) (by decide) (by decide) kG) ?_
        refine Go.via (U' := T13.setTop (mkF m 62 #[.val (.long x0), .second, .val (.int x1), .val (.ref a_ORIGINAL), .val (.long (own_j0_19_l4 x0 x1)), .second, .unset] [(.int (0 : Int32))])) (fun tG kG => XS.iconst X14.here hx rfl (hb hby at_61) kG) ?_
        have q_own_j0_45_s0 : (own_j0_45_s0 x0 x1) = (0 : Int32) := by unfold own_j0_45_s0; simp only [if_pos hc45]
        have q_J := J16 T13 X14 e15
        rw [q_own_j0_45_s0] at q_J
        exact q_J
      · refine Go.via (U' := T13.setTop (mkF m 48 #[.val (.long x0), .second, .val (.int x1), .val (.ref a_ORIGINAL), .val (.long (own_j0_19_l4 x0 x1)), .second, .unset] [])) (fun tG kG => XS.ifNo X14.here hx rfl (hb hby at_45) rfl ((if0 _ _).trans (flt hc45).2.2.1) kG) ?_
        refine Go.via (U' := T13.setTop (mkF m 50 #[.val (.long x0), .second, .val (.int x1), .val (.ref a_ORIGINAL), .val (.long (own_j0_19_l4 x0 x1)), .second, .unset] [(.long (own_j0_19_l4 x0 x1))])) (fun tG kG => XS.lload X14.here hx rfl (hb hby at_48) rfl kG) ?_
        refine Go.via (U' := T13.setTop (mkF m 53 #[.val (.long x0), .second, .val (.int x1), .val (.ref a_ORIGINAL), .val (.long (own_j0_19_l4 x0 x1)), .second, .unset] [(.long (5 : Int64)), (.long (own_j0_19_l4 x0 x1))])) (fun tG kG => X14.ldc2Long hx hown (mvT hZ (hw _ (List.mem_of_getElem? (i := 4) rfl))) (g := (mkF m 50 #[.val (.long x0), .second, .val (.int x1), .val (.ref a_ORIGINAL), .val (.long (own_j0_19_l4 x0 x1)), .second, .unset] [(.long (own_j0_19_l4 x0 x1))])) rfl (hb hby at_50) tG kG) ?_
        refine Go.via (U' := T13.setTop (mkF m 54 #[.val (.long x0), .second, .val (.int x1), .val (.ref a_ORIGINAL), .val (.long (own_j0_19_l4 x0 x1)), .second, .unset] [(.int (lcmpW (own_j0_19_l4 x0 x1) (5 : Int64)))])) (fun tG kG => XS.lcmp X14.here hx rfl (hb hby at_53) rfl kG) ?_
        by_cases hc54 : (0 : Int32) < (lcmpW (own_j0_19_l4 x0 x1) (5 : Int64))
        · refine Go.via (U' := T13.setTop (mkF m 61 #[.val (.long x0), .second, .val (.int x1), .val (.ref a_ORIGINAL), .val (.long (own_j0_19_l4 x0 x1)), .second, .unset] [])) (fun tG kG => XS.ifYes X14.here hx rfl (pc0 := 54) (pc' := 61) rfl (hb hby at_54) rfl ((if0 _ _).trans (tlt hc54).2.2.1) (by decide) (by decide) kG) ?_
          refine Go.via (U' := T13.setTop (mkF m 62 #[.val (.long x0), .second, .val (.int x1), .val (.ref a_ORIGINAL), .val (.long (own_j0_19_l4 x0 x1)), .second, .unset] [(.int (0 : Int32))])) (fun tG kG => XS.iconst X14.here hx rfl (hb hby at_61) kG) ?_
          have q_own_j0_45_s0 : (own_j0_45_s0 x0 x1) = (0 : Int32) := by unfold own_j0_45_s0; simp only [if_neg hc45, if_pos hc54]
          have q_J := J16 T13 X14 e15
          rw [q_own_j0_45_s0] at q_J
          exact q_J
        · refine Go.via (U' := T13.setTop (mkF m 57 #[.val (.long x0), .second, .val (.int x1), .val (.ref a_ORIGINAL), .val (.long (own_j0_19_l4 x0 x1)), .second, .unset] [])) (fun tG kG => XS.ifNo X14.here hx rfl (hb hby at_54) rfl ((if0 _ _).trans (flt hc54).2.2.1) kG) ?_
          refine Go.via (U' := T13.setTop (mkF m 58 #[.val (.long x0), .second, .val (.int x1), .val (.ref a_ORIGINAL), .val (.long (own_j0_19_l4 x0 x1)), .second, .unset] [(.int (1 : Int32))])) (fun tG kG => XS.iconst X14.here hx rfl (hb hby at_57) kG) ?_
          refine Go.via (U' := T13.setTop (mkF m 62 #[.val (.long x0), .second, .val (.int x1), .val (.ref a_ORIGINAL), .val (.long (own_j0_19_l4 x0 x1)), .second, .unset] [(.int (1 : Int32))])) (fun tG kG => XS.goto X14.here hx rfl (pc0 := 58) (pc' := 62) rfl (hb hby at_58) (by decide) (by decide) kG) ?_
          have q_own_j0_45_s0 : (own_j0_45_s0 x0 x1) = (1 : Int32) := by unfold own_j0_45_s0; simp only [if_neg hc45, if_neg hc54]
          have q_J := J16 T13 X14 e15
          rw [q_own_j0_45_s0] at q_J
          exact q_J
    by_cases hc19 : (x1 &&& (2 : Int32)) = (0 : Int32)
    · refine Go.via (U' := T11.setTop (mkF m 28 #[.val (.long x0), .second, .val (.int x1), .val (.ref a_ORIGINAL), .unset, .unset, .unset] [])) (fun tG kG => XS.ifYes X11.here hx rfl (pc0 := 19) (pc' := 28) rfl (hb hby at_19) rfl ((if0 _ _).trans (teq hc19).1) (by decide) (by decide) kG) ?_
      refine Go.via (U' := T11.setTop (mkF m 29 #[.val (.long x0), .second, .val (.int x1), .val (.ref a_ORIGINAL), .unset, .unset, .unset] [(.int x1)])) (fun tG kG => XS.iloadN X11.here hx rfl (hb hby at_28) rfl kG) ?_
      refine Go.via (U' := T11.setTop (mkF m 30 #[.val (.long x0), .second, .val (.int x1), .val (.ref a_ORIGINAL), .unset, .unset, .unset] [(.int (2 : Int32)), (.int x1)])) (fun tG kG => XS.iconst X11.here hx rfl (hb hby at_29) kG) ?_
      refine Go.via (U' := T11.setTop (mkF m 31 #[.val (.long x0), .second, .val (.int x1), .val (.ref a_ORIGINAL), .unset, .unset, .unset] [(.int (x1 >>> ((2 : Int32) &&& 31)))])) (fun tG kG => XS.ishr X11.here hx rfl (hb hby at_30) rfl kG) ?_
      refine Go.via (U' := T11.setTop (mkF m 33 #[.val (.long x0), .second, .val (.int x1), .val (.ref a_ORIGINAL), .unset, .unset, .unset] [(.int (15 : Int32)), (.int (x1 >>> ((2 : Int32) &&& 31)))])) (fun tG kG => XS.bipush X11.here hx rfl (hb hby at_31) kG) ?_
      refine Go.via (U' := T11.setTop (mkF m 34 #[.val (.long x0), .second, .val (.int x1), .val (.ref a_ORIGINAL), .unset, .unset, .unset] [(.int ((x1 >>> ((2 : Int32) &&& 31)) &&& (15 : Int32)))])) (fun tG kG => XS.iand X11.here hx rfl (hb hby at_33) rfl kG) ?_
      refine Go.via (U' := T11.setTop (mkF m 35 #[.val (.long x0), .second, .val (.int x1), .val (.ref a_ORIGINAL), .unset, .unset, .unset] [(.int (4 : Int32)), (.int ((x1 >>> ((2 : Int32) &&& 31)) &&& (15 : Int32)))])) (fun tG kG => XS.iconst X11.here hx rfl (hb hby at_34) kG) ?_
      refine Go.via (U' := T11.setTop (mkF m 36 #[.val (.long x0), .second, .val (.int x1), .val (.ref a_ORIGINAL), .unset, .unset, .unset] [(.int (((x1 >>> ((2 : Int32) &&& 31)) &&& (15 : Int32)) - (4 : Int32)))])) (fun tG kG => XS.isub X11.here hx rfl (hb hby at_35) rfl kG) ?_
      refine Go.via (U' := T11.setTop (mkF m 37 #[.val (.long x0), .second, .val (.int x1), .val (.ref a_ORIGINAL), .unset, .unset, .unset] [(.long ((((x1 >>> ((2 : Int32) &&& 31)) &&& (15 : Int32)) - (4 : Int32)).toInt64))])) (fun tG kG => XS.i2l X11.here hx rfl (hb hby at_36) rfl kG) ?_
      refine Go.via (U' := T11.setTop (mkF m 39 #[.val (.long x0), .second, .val (.int x1), .val (.ref a_ORIGINAL), .val (.long ((((x1 >>> ((2 : Int32) &&& 31)) &&& (15 : Int32)) - (4 : Int32)).toInt64)), .second, .unset] [])) (fun tG kG => XS.lstore X11.here hx rfl (hb hby at_37) rfl (l' := #[.val (.long x0), .second, .val (.int x1), .val (.ref a_ORIGINAL), .val (.long ((((x1 >>> ((2 : Int32) &&& 31)) &&& (15 : Int32)) - (4 : Int32)).toInt64)), .second, .unset]) rfl kG) ?_
      have q_own_j0_19_l4 : (own_j0_19_l4 x0 x1) = ((((x1 >>> ((2 : Int32) &&& 31)) &&& (15 : Int32)) - (4 : Int32)).toInt64) := by unfold own_j0_19_l4; simp only [if_pos hc19]
      have q_J := J12 T11 X11 e11
      rw [q_own_j0_19_l4] at q_J
      exact q_J
    · refine Go.via (U' := T11.setTop (mkF m 22 #[.val (.long x0), .second, .val (.int x1), .val (.ref a_ORIGINAL), .unset, .unset, .unset] [])) (fun tG kG => XS.ifNo X11.here hx rfl (hb hby at_19) rfl ((if0 _ _).trans (feq hc19).1) kG) ?_
      refine Go.via (U' := T11.setTop (mkF m 23 #[.val (.long x0), .second, .val (.int x1), .val (.ref a_ORIGINAL), .unset, .unset, .unset] [(.long x0)])) (fun tG kG => XS.lloadN X11.here hx rfl (hb hby at_22) rfl kG) ?_
      refine Go.via (U' := T11.setTop (mkF m 25 #[.val (.long x0), .second, .val (.int x1), .val (.ref a_ORIGINAL), .val (.long x0), .second, .unset] [])) (fun tG kG => XS.lstore X11.here hx rfl (hb hby at_23) rfl (l' := #[.val (.long x0), .second, .val (.int x1), .val (.ref a_ORIGINAL), .val (.long x0), .second, .unset]) rfl kG) ?_
      refine Go.via (U' := T11.setTop (mkF m 39 #[.val (.long x0), .second, .val (.int x1), .val (.ref a_ORIGINAL), .val (.long x0), .second, .unset] [])) (fun tG kG => XS.goto X11.here hx rfl (pc0 := 25) (pc' := 39) rfl (hb hby at_25) (by decide) (by decide) kG) ?_
      have q_own_j0_19_l4 : (own_j0_19_l4 x0 x1) = x0 := by unfold own_j0_19_l4; simp only [if_neg hc19]
      have q_J := J12 T11 X11 e11
      rw [q_own_j0_19_l4] at q_J
      exact q_J
theorem own_plain (x : Int64) (k : Int32) : own_f0 x k = 1 := by
  unfold own_f0 own_j0_45_s0 own_f1
  generalize own_j0_19_l4 x k = v
  have e2 : (2 : Int32).toInt64 = 2 := rfl
  have e5 : (5 : Int32).toInt64 = 5 := rfl
  simp only [lw_lt, lw_gt, e2, e5, if_true]
set_option maxRecDepth 65536 in
set_option maxHeartbeats 40000000 in
theorem own_comes {Post : Tables → Env → Array Value → State → Outcome → State → Prop} (hpost : ∀ tb e args s v u, (limb_1_1.after args s (.returned v) u = true ∧ limb_1_2.after args s (.returned v) u = true) → FrameEnd s (.returned v) u (Jvm.fieldLocs frame_1_writes args s ++ Jvm.arrayLocs frame_1_arrays args s ++ Jvm.staticLocs frame_1_statics s) 0 0 → Post tb e args s (.returned v) u) :
    ArmFor flags0 classFile x code maxLocals ret World_1 tables_1 room_1 Calls_1 rest_1 Pre_1 Post := by
  intro l hfl _ _ p e ha hc hk s m args below hf hA hF happ hP
  obtain ⟨hcalls, hrest, hpre⟩ := hP
  obtain ⟨-, -, -, hnamed, -, -, -, hat⟩ := (Spec.applies_iff hf).mp happ
  obtain ⟨hg, hn⟩ := and_e (Cond.before_iff.mp (show (Jvm.Cond.and given_1 narrow_1).before args s = true from hpre))
  obtain ⟨hcnt, hg⟩ := and_e hg
  obtain ⟨w0, w1, rfl⟩ : ∃ w0 w1 : Value, args = #[w0, w1] := by
    have hs : args.size = 2 := by simpa [Cond.value, given_1] using hcnt
    obtain ⟨L⟩ := args
    match L, hs with
    | [w0, w1], _ => exact ⟨w0, w1, rfl⟩
  have hw := fun d (hd : d ∈ tables_1) => atoms_spec (ws := Jvm.Cond.code x code maxLocals ret :: tables_1) hat d (List.mem_cons_of_mem _ hd)
  have hfit : Fit s := fun {y c} hc i hi => by
    obtain ⟨ha, rfl⟩ := Array.getElem?_eq_some_iff.mp hc
    have q := List.all_eq_true.mp ((Array.all_eq_true_iff_forall_mem.mp hF) _ (Array.getElem_mem ha)) i (List.mem_range.mpr hi)
    simpa [Array.getElem?_eq_getElem hi] using q
  obtain ⟨hg0, hg⟩ := and_e hg
  obtain ⟨i0, ei0⟩ := isL_v hg0
  obtain rfl : w0 = (.long i0) := Option.some.inj ei0
  obtain ⟨i1, ei1⟩ := is_v hg
  obtain rfl : w1 = (.int i1) := Option.some.inj ei1
  obtain ⟨hn1, hn2⟩ := and_e hn
  obtain ⟨hn3, hn4⟩ := and_e hn2
  obtain ⟨hn5, hn6⟩ := and_e hn4
  obtain ⟨hn7, hn8⟩ := and_e hn6
  obtain ⟨hn9, hn10⟩ := and_e hn8
  obtain ⟨a_ARMAGEDDON, ev_ARMAGEDDON⟩ := exa_v hn1
  have E_ARMAGEDDON := Exa.start ev_ARMAGEDDON hn1
  have S_ARMAGEDDON := Sta.start ev_ARMAGEDDON (Or.inr ⟨(hw _ (List.mem_of_getElem? (i := 1) rfl)), (hw _ (List.mem_of_getElem? (i := 2) rfl))⟩)
  obtain ⟨a_ORIGINAL, ev_ORIGINAL⟩ := exa_v hn7
  have E_ORIGINAL := Exa.start ev_ORIGINAL hn7
  have S_ORIGINAL := Sta.start ev_ORIGINAL (Or.inr ⟨(hw _ (List.mem_of_getElem? (i := 1) rfl)), (hw _ (List.mem_of_getElem? (i := 15) rfl))⟩)
  have F_ARMAGEDDON_minSeats := Fld.start ((fld_at ev_ARMAGEDDON).symm.trans (own_eqI hn3))
  have F_ARMAGEDDON_maxSeats := Fld.start ((fld_at ev_ARMAGEDDON).symm.trans (own_eqI hn5))
  have F_ORIGINAL_minSeats := Fld.start ((fld_at ev_ORIGINAL).symm.trans (own_eqI hn9))
  have F_ORIGINAL_maxSeats := Fld.start ((fld_at ev_ORIGINAL).symm.trans (own_eqI hn10))
  obtain ⟨n, o, h1, h2, h3, _, L, rfl, ⟨rfl, -, rfl⟩, hq⟩ := own_rm0 l s _ hw tables_1 i0 i1 a_ARMAGEDDON a_ORIGINAL s.heap E_ARMAGEDDON F_ARMAGEDDON_minSeats F_ARMAGEDDON_maxSeats E_ORIGINAL F_ORIGINAL_minSeats F_ORIGINAL_maxSeats S_ARMAGEDDON S_ORIGINAL p e ha hc hk s m _ below hf ((Spec.applies_iff_loose hf).mp happ).1 ⟨rfl, State.Warmed39.refl s, rfl⟩ trivial
  refine ⟨n, _, h1, h2, h3, hpost _ _ _ _ _ _ ⟨Cond.after_iff.mpr rfl, Cond.after_iff.mpr (eq_i res_at (Term.int_eval (1)) (congrArg Value.int (own_plain i0 i1)))⟩ ⟨hq.1, hq.2.1, (hq.2.2.sift fun y hy => Or.inr (Fr.nil s.heap.size y hy)).mono (by decide) (by decide)⟩⟩
theorem main_1_1 : Claimed_1_1 := own_comes fun _ _ _ _ _ _ h hF => ⟨h.1, hF⟩
theorem main_1_2 : Claimed_1_2 := own_comes fun _ _ _ _ _ _ h hF => ⟨h.2, hF⟩
end Jvm.Pilot.@@N@@
namespace Jvm.Pilot.@@N@@
open Jvm Jvm.ClassFile Sem Op Lib Jvm.Free Jvm.Stand Jvm.Pilot.@@N@@.Jvm.D
/-! MADE BY PROGRAM (witnessworld.py) out of the Statement's table words and the real class files: 12 classes; the members and pool entries that the words name. The judged class is class 1, her method 1. -/
namespace start1
open Jvm.ClassFile
def u (s : String) : CpInfo := .utf8 (stringToUtf16 s)
/-- a pool by its gaps: so many unusable entries, then the entry; so many at the end -/
def gap : Nat → List CpInfo → List CpInfo
  | 0, r => r
  | n + 1, r => .unusable :: gap n r
def poolList (es : List (Nat × CpInfo)) (last : Nat) : List CpInfo := es.foldr (fun e r => gap e.1 (e.2 :: r)) (gap last [])
def pool (es : List (Nat × CpInfo)) (last : Nat) : Array CpInfo := ⟨poolList es last⟩
def fileOf (pool : Array CpInfo) (this : Nat) (attrs : Array Attribute := #[]) (ms : Array MethodInfo := #[]) (fl : Nat := 33) (sup : Nat := 0) (ifs : Array Nat := #[]) (fds : Array FieldInfo := #[]) : ClassFile where
  minorVersion := 0
  majorVersion := 65
  constantPool := pool
  accessFlags := fl
  thisClass := this
  superClass := sup
  interfaces := ifs
  fields := fds
  methods := ms
  attributes := attrs
def plain (name : String) (sup : Option ClassId) : Class where
  name := name
  kind := .ordinary
  loader := none
  accessFlags := 33
  super := sup
  interfaces := #[]
  cf := none
  fields := #[]
  methods := #[]
  instanceTypes := #[]
  staticTypes := #[]
  resolved := #[]
  callSites := []
  init := .initialized
  statics := none
  mirror := none

def pool0 : Array CpInfo := pool [(5, u "<init>"), (0, u "()V"), (1, .class_ 10), (1, u "java/lang/Object")] 113

def k0m0 : Method := { name := "<init>", desc := "()V", sig := { parameters := [], returnType := none }, accessFlags := 1, code := none }
/-- java/lang/Object -/
def k0 : Class := { plain "java/lang/Object" none with
  accessFlags := 33
  interfaces := #[]
  cf := some (fileOf pool0 8 #[] #[{ accessFlags := 1, nameIndex := 5, descriptorIndex := 6, attributes := #[] }] 33 0 #[] #[])
  fields := #[]
  methods := #[k0m0]
  instanceTypes := #[]
  staticTypes := #[]
  resolved := Array.replicate 124 none
  statics := none }

def pool1 : Array CpInfo := pool [(2, .class_ 4), (1, u "java/lang/Object"), (0, u "<init>"), (0, u "()V"), (0, .fieldref 8 9), (0, .class_ 10), (0, .nameAndType 11 12), (0, u "com/example/fusewire/fusewire/Edition"), (0, u "ORIGINAL"), (0, u "Lcom/example/fusewire/fusewire/Edition;"), (0, .fieldref 8 14), (0, .nameAndType 15 12), (0, u "ARMAGEDDON"), (0, .long 2), (1, .long 5), (1, .methodref 8 21), (0, .nameAndType 22 23), (0, u "seats"), (0, u "(J)Z"), (0, .class_ 25), (0, u "com/example/fusewire/fusewire/EditionSeatsPinLaw"), (2, u "law"), (0, u "(JI)Z")] 3

def k1m0 : Method := { name := "<init>", desc := "()V", sig := { parameters := [], returnType := none }, accessFlags := 2, code := none }
def k1c1 : Code := { maxStack := 4, maxLocals := 7, code := code, exceptionTable := #[], attributes := #[] }
def k1m1 : Method := { name := "law", desc := "(JI)Z", sig := { parameters := [.long, .int], returnType := some .boolean }, accessFlags := 9, code := some k1c1 }
/-- com/example/fusewire/fusewire/EditionSeatsPinLaw -/
def k1 : Class := { plain "com/example/fusewire/fusewire/EditionSeatsPinLaw" (some 0) with
  accessFlags := 49
  interfaces := #[]
  cf := some (fileOf pool1 24 #[] #[{ accessFlags := 2, nameIndex := 5, descriptorIndex := 6, attributes := #[] }, { accessFlags := 9, nameIndex := 28, descriptorIndex := 29, attributes := #[] }] 49 2 #[] #[])
  fields := #[]
  methods := #[k1m0, k1m1]
  instanceTypes := #[]
  staticTypes := #[]
  resolved := Array.replicate 33 none
  statics := none }

def pool2 : Array CpInfo := pool [(1, .class_ 2), (0, u "java/lang/constant/Constable"), (0, .class_ 4), (0, u "java/lang/Object")] 6

/-- java/lang/constant/Constable -/
def k2 : Class := { plain "java/lang/constant/Constable" (some 0) with
  accessFlags := 1537
  interfaces := #[]
  cf := some (fileOf pool2 1 #[] #[] 1537 3 #[] #[])
  fields := #[]
  methods := #[]
  instanceTypes := #[]
  staticTypes := #[]
  resolved := Array.replicate 11 none
  statics := none }

def pool3 : Array CpInfo := pool [(1, .class_ 2), (0, u "java/lang/Comparable"), (0, .class_ 4), (0, u "java/lang/Object")] 7

/-- java/lang/Comparable -/
def k3 : Class := { plain "java/lang/Comparable" (some 0) with
  accessFlags := 1537
  interfaces := #[]
  cf := some (fileOf pool3 1 #[] #[] 1537 3 #[] #[])
  fields := #[]
  methods := #[]
  instanceTypes := #[]
  staticTypes := #[]
  resolved := Array.replicate 12 none
  statics := none }

def pool4 : Array CpInfo := pool [(1, .class_ 2), (0, u "java/io/Serializable"), (0, .class_ 4), (0, u "java/lang/Object")] 2

/-- java/io/Serializable -/
def k4 : Class := { plain "java/io/Serializable" (some 0) with
  accessFlags := 1537
  interfaces := #[]
  cf := some (fileOf pool4 1 #[] #[] 1537 3 #[] #[])
  fields := #[]
  methods := #[]
  instanceTypes := #[]
  staticTypes := #[]
  resolved := Array.replicate 7 none
  statics := none }

def pool5 : Array CpInfo := pool [(2, .class_ 4), (1, u "java/lang/Enum"), (0, u "name"), (0, u "Ljava/lang/String;"), (2, u "ordinal"), (0, u "I"), (1, .class_ 14), (1, u "java/lang/Object"), (4, u "hash"), (86, .class_ 108), (1, u "java/lang/Enum$EnumDesc"), (2, .class_ 112), (0, u "java/lang/constant/Constable"), (0, .class_ 114), (0, u "java/lang/Comparable"), (0, .class_ 116), (0, u "java/io/Serializable")] 87

/-- java/lang/Enum -/
def k5 : Class := { plain "java/lang/Enum" (some 0) with
  accessFlags := 1057
  interfaces := #[2, 3, 4]
  cf := some (fileOf pool5 2 #[.nestMembers #[106]] #[] 1057 12 #[111, 113, 115] #[{ accessFlags := 18, nameIndex := 5, descriptorIndex := 6, attributes := #[] }, { accessFlags := 18, nameIndex := 9, descriptorIndex := 10, attributes := #[] }, { accessFlags := 2, nameIndex := 19, descriptorIndex := 10, attributes := #[] }])
  fields := #[{ name := "name", type := (.object "java/lang/String"), accessFlags := 18, slot := 0, constantValue := 0 }, { name := "ordinal", type := .int, accessFlags := 18, slot := 1, constantValue := 0 }, { name := "hash", type := .int, accessFlags := 2, slot := 2, constantValue := 0 }]
  methods := #[]
  instanceTypes := #[(.object "java/lang/String"), .int, .int]
  staticTypes := #[]
  resolved := Array.replicate 204 none
  statics := none }

def pool6 : Array CpInfo := pool [(1, .class_ 2), (0, u "com/example/fusewire/fusewire/Edition"), (2, u "ORIGINAL"), (0, u "Lcom/example/fusewire/fusewire/Edition;"), (2, u "ARMAGEDDON"), (2, u "$VALUES"), (0, u "[Lcom/example/fusewire/fusewire/Edition;"), (6, .class_ 22), (1, u "java/lang/Enum"), (8, u "id"), (0, u "Ljava/lang/String;"), (0, .fieldref 1 34), (0, .nameAndType 35 36), (0, u "minSeats"), (0, u "I"), (0, .fieldref 1 38), (0, .nameAndType 39 36), (0, u "maxSeats"), (2, u "sparesPutBack"), (13, u "box"), (0, u "Ljava/util/Map;"), (22, u "playmat"), (0, u "Ljava/util/Set;"), (2, u "fiveDifferent"), (0, u "Z"), (2, u "seats"), (0, u "(J)Z")] 278

def k6c0 : Code := { maxStack := 4, maxLocals := 3, code := prog_5_method_5_code, exceptionTable := #[], attributes := #[] }
def k6m0 : Method := { name := "seats", desc := "(J)Z", sig := { parameters := [.long], returnType := some .boolean }, accessFlags := 0, code := some k6c0 }
/-- com/example/fusewire/fusewire/Edition -/
def k6 : Class := { plain "com/example/fusewire/fusewire/Edition" (some 5) with
  accessFlags := 16432
  interfaces := #[]
  cf := some (fileOf pool6 1 #[] #[{ accessFlags := 0, nameIndex := 88, descriptorIndex := 89, attributes := #[] }] 16432 20 #[] #[{ accessFlags := 16409, nameIndex := 5, descriptorIndex := 6, attributes := #[] }, { accessFlags := 16409, nameIndex := 9, descriptorIndex := 6, attributes := #[] }, { accessFlags := 18, nameIndex := 31, descriptorIndex := 32, attributes := #[] }, { accessFlags := 18, nameIndex := 35, descriptorIndex := 36, attributes := #[] }, { accessFlags := 18, nameIndex := 39, descriptorIndex := 36, attributes := #[] }, { accessFlags := 18, nameIndex := 42, descriptorIndex := 36, attributes := #[] }, { accessFlags := 18, nameIndex := 56, descriptorIndex := 57, attributes := #[] }, { accessFlags := 18, nameIndex := 80, descriptorIndex := 81, attributes := #[] }, { accessFlags := 18, nameIndex := 84, descriptorIndex := 85, attributes := #[] }, { accessFlags := 4122, nameIndex := 12, descriptorIndex := 13, attributes := #[] }])
  fields := #[{ name := "ORIGINAL", type := (.object "com/example/fusewire/fusewire/Edition"), accessFlags := 16409, slot := 0, constantValue := 0 }, { name := "ARMAGEDDON", type := (.object "com/example/fusewire/fusewire/Edition"), accessFlags := 16409, slot := 1, constantValue := 0 }, { name := "id", type := (.object "java/lang/String"), accessFlags := 18, slot := 3, constantValue := 0 }, { name := "minSeats", type := .int, accessFlags := 18, slot := 4, constantValue := 0 }, { name := "maxSeats", type := .int, accessFlags := 18, slot := 5, constantValue := 0 }, { name := "sparesPutBack", type := .int, accessFlags := 18, slot := 6, constantValue := 0 }, { name := "box", type := (.object "java/util/Map"), accessFlags := 18, slot := 7, constantValue := 0 }, { name := "playmat", type := (.object "java/util/Set"), accessFlags := 18, slot := 8, constantValue := 0 }, { name := "fiveDifferent", type := .boolean, accessFlags := 18, slot := 9, constantValue := 0 }, { name := "$VALUES", type := (.array (.object "com/example/fusewire/fusewire/Edition")), accessFlags := 4122, slot := 2, constantValue := 0 }]
  methods := #[k6m0]
  instanceTypes := #[(.object "java/lang/String"), .int, .int, (.object "java/lang/String"), .int, .int, .int, (.object "java/util/Map"), (.object "java/util/Set"), .boolean]
  staticTypes := #[(.object "com/example/fusewire/fusewire/Edition"), (.object "com/example/fusewire/fusewire/Edition"), (.array (.object "com/example/fusewire/fusewire/Edition"))]
  resolved := Array.replicate 368 none
  statics := some 0 }

def pool7 : Array CpInfo := pool [(1, u "java/lang/Cloneable"), (0, .class_ 1), (0, u "java/lang/Object"), (0, .class_ 3)] 3

/-- java/lang/Cloneable -/
def k7 : Class := { plain "java/lang/Cloneable" (some 0) with
  accessFlags := 1537
  interfaces := #[]
  cf := some (fileOf pool7 2 #[] #[] 1537 4 #[] #[])
  fields := #[]
  methods := #[]
  instanceTypes := #[]
  staticTypes := #[]
  resolved := Array.replicate 8 none
  statics := none }

/-- the primitive byte -/
def k8 : Class := { plain "byte" none with kind := .primitive 'B', accessFlags := 0x411 }
/-- [B -/
def k9 : Class := { plain "[B" (some 0) with kind := .array 8 .byte, interfaces := #[7, 4], accessFlags := 1041 }

/-- the primitive int -/
def k10 : Class := { plain "int" none with kind := .primitive 'I', accessFlags := 0x411 }
/-- [I -/
def k11 : Class := { plain "[I" (some 0) with kind := .array 10 .int, interfaces := #[7, 4], accessFlags := 1041 }

def heap : Heap := #[{ cls := 6, slots := #[.ref 1, .ref 2, .null], vm := .statics 6 },
  { cls := 6, slots := #[.null, .int 0, .int 0, .null, .int 2, .int 5, .int 0, .null, .null, .int 0], vm := .none },
  { cls := 6, slots := #[.null, .int 1, .int 0, .null, .int 2, .int 5, .int 0, .null, .null, .int 0], vm := .none }]
def classes : Array Class := #[k0, k1, k2, k3, k4, k5, k6, k7, k8, k9, k10, k11]
def interned : List (Array UInt16 × Addr) := []
def slotsUsed : Nat := 23
def theMethod : MethodId := ⟨1, 1⟩
def args0 : Array Value := #[.long 3, .int 5]
def aboutOver (below : List Frame) : State where
  vm := { classes := classes, interned := interned.toArray }
  heap := heap
  slotsUsed := slotsUsed
  threads := #[{ frames := .invoking theMethod args0 :: below }]
def below0 : List Frame := [.native { method := ⟨0, 0⟩, args := #[] }]
def about1 : State := aboutOver below0
def p0 : Program := .bare "" "" ""
def e0 : Env := launch0.env 0 0 0
theorem w_frames : about1.frames = Frame.invoking theMethod args0 :: below0 := rfl
set_option maxRecDepth 65536 in
theorem w_args : argsFit about1.vm theMethod args0 = true := by decide +kernel
set_option maxRecDepth 65536 in
theorem w_heap : heapFits about1 = true := by decide +kernel
set_option maxRecDepth 65536 in
theorem w_runnable : about1.curStatus? = some .runnable := by decide +kernel
set_option maxRecDepth 65536 in
theorem w_alone : about1.alone = true := by decide +kernel
set_option maxRecDepth 65536 in
theorem w_named : about1.methodNamed? x = some theMethod := by decide +kernel
set_option maxRecDepth 65536 in
theorem w_hears : about1.hears theMethod below0 = true := by decide +kernel
set_option maxRecDepth 65536 in
theorem w_ripe : about1.ripe theMethod args0 below0 = true := by decide +kernel
theorem w_running : about1.status = .running := rfl
set_option maxRecDepth 65536 in
theorem w_room : about1.hasRoom e0.platform room_1 = true :=
  launch0.hasRoom_least _ room_1 (by decide +kernel) (by decide +kernel) (by decide +kernel) (by decide +kernel) (by decide +kernel) (by decide +kernel)
theorem allAtoms_all (ts : List Jvm.Cond) (a : Array Jvm.Value) (st : Jvm.State) : (allAtoms ts).before a st = ts.all (fun c => c.before a st) := by
  induction ts with
  | nil => rfl
  | cons c t ih =>
    show (Jvm.Cond.and c (allAtoms t)).before a st = _
    rw [Jvm.Cond.before_and, ih, List.all_cons]
def words1 : List Jvm.Cond := Jvm.Cond.code x code maxLocals ret :: tables_1
/-- a 'code' word, met by the world's own term for the bytes: nothing is compared byte by byte -/
theorem code_word {y : MethodName} {bytes : ByteArray} {mx : Nat} {rt : Option FieldType} {a : Array Value} {s : State} {m : MethodId} {meth : Method} {c : Code} (h1 : s.methodNamed? y = some m) (h2 : s.vm.method? m = some meth) (h3 : meth.code = some c) (h4 : c.code = bytes)
    (h5 : (c.maxLocals == mx && c.exceptionTable.isEmpty && decide (c.maxStack ≤ mostOperands) && decide (meth.sig.returnType = rt) && !meth.locks && decide (parseMethodDescriptor y.desc = some meth.sig)) = true) : (Jvm.Cond.code y bytes mx rt).before a s = true := by
  simp only [Bool.and_eq_true, beq_iff_eq, Bool.not_eq_true', decide_eq_true_eq] at h5
  obtain ⟨⟨⟨⟨⟨g1, g2⟩, g3⟩, g4⟩, g5⟩, g6⟩ := h5
  simp [Cond.before, Cond.holds, Cond.value, h1, h2, h3, h4, g1, g2, g3, g4, g5, g6]
def isCode : Jvm.Cond → Bool
  | .code _ _ _ _ => true
  | _ => false
theorem all_split {L : List Jvm.Cond} {P : Jvm.Cond → Bool} (h1 : L.all (fun c => isCode c || P c) = true) (h2 : ∀ c ∈ L.filter isCode, P c = true) : L.all P = true := by
  refine List.all_eq_true.mpr fun c hc => ?_
  have h := List.all_eq_true.mp h1 c hc
  rcases Bool.eq_false_or_eq_true (isCode c) with hi | hi
  · exact h2 c (List.mem_filter.mpr ⟨hc, hi⟩)
  · simpa [hi] using h
set_option maxRecDepth 65536 in
theorem w_c0 : (Jvm.Cond.code x code maxLocals ret).before args0 about1 = true := code_word (m := ⟨1, 1⟩) (meth := k1m1) (c := k1c1) (by decide +kernel) rfl rfl rfl (by decide +kernel)
set_option maxRecDepth 65536 in
theorem w_c1 : (Jvm.Cond.code ({ cls := "com/example/fusewire/fusewire/Edition", name := "seats", desc := "(J)Z" } : Jvm.MethodName) prog_5_method_5_code (3 : Nat) (Option.some Jvm.ClassFile.FieldType.boolean)).before args0 about1 = true := code_word (m := ⟨6, 0⟩) (meth := k6m0) (c := k6c0) (by decide +kernel) rfl rfl rfl (by decide +kernel)
def codes1 : List Jvm.Cond := [Jvm.Cond.code x code maxLocals ret, Jvm.Cond.code ({ cls := "com/example/fusewire/fusewire/Edition", name := "seats", desc := "(J)Z" } : Jvm.MethodName) prog_5_method_5_code (3 : Nat) (Option.some Jvm.ClassFile.FieldType.boolean)]
set_option maxRecDepth 65536 in
theorem codes_eq : words1.filter isCode = codes1 := rfl
theorem w_codes : ∀ c ∈ words1.filter isCode, c.before args0 about1 = true := by
  rw [codes_eq]
  intro c hc
  simp only [codes1, List.mem_cons, List.not_mem_nil, or_false] at hc
  rcases hc with rfl | rfl
  · exact w_c0
  · exact w_c1
set_option maxRecDepth 65536 in
theorem w_t1 : words1.all (fun c => isCode c || c.before args0 about1) = true := by decide +kernel
theorem w_tables : (allAtoms (Jvm.Cond.code x code maxLocals ret :: tables_1)).before args0 about1 = true := by
  rw [allAtoms_all]
  show words1.all (fun c => c.before args0 about1) = true
  refine all_split ?_ w_codes
  rw [w_t1]
set_option maxRecDepth 65536 in
theorem w_case : (Jvm.Cond.and given_1 narrow_1).before args0 about1 = true := by decide +kernel
theorem w_applies : (headSpec (Jvm.Cond.code x code maxLocals ret :: tables_1) room_1).applies x e0.platform about1 = true :=
  (Spec.applies_iff w_frames).mpr ⟨w_running, w_runnable, w_alone, w_named, w_hears, w_ripe, w_room, w_tables⟩
theorem atStart : AtStart classFile x code maxLocals ret World_1 tables_1 room_1 Calls_1 rest_1 Pre_1 launch0 p0 e0 about1 theMethod args0 below0 :=
  ⟨lists_1, trivial, launch0.admits_env _ _ _, launch0.least_env, fairChoices_fair.cas, fairChoices_fair.clock, w_frames, w_args, w_heap, w_applies, trivial, trivial, w_case⟩
end start1
theorem witness_1 : WitnessClaimed_1 := ⟨start1.p0, start1.e0, start1.about1, start1.theMethod, start1.args0, start1.below0, start1.atStart⟩
end Jvm.Pilot.@@N@@

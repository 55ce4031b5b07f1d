import JvmDerived
import JvmDerived.Pilot.@@N@@Statement
import JvmDerived.Pilot.@@N@@Code
set_option linter.unusedVariables false
set_option linter.unusedSimpArgs false
namespace Jvm.Pilot.@@N@@
open Jvm Jvm.ClassFile Sem Op Lib Jvm.Free Jvm.Stand Jvm.LawKit Jvm.RoadKit Bundle Jvm.Pilot.@@N@@.Jvm.D
def own_ushr (x y : Int32) : Int32 := (x.toUInt32 >>> (y &&& 31).toUInt32).toInt32
def own_ushrL (x : Int64) (y : Int32) : Int64 := (x.toUInt64 >>> (y &&& 0x3f).toInt64.toUInt64).toInt64
section OwnKit
variable {p : Program} {l : Launch} {e : Env} {R : Room} {s : State} {m : MethodId} {args : Array Value} {below : List Frame} {meth : Method} {c : Code} {T : State} {locs : List Loc} {cells slots : Nat} {Z : State} {h h0 : Heap} {ce sl : Nat} {Q : Option Value → Heap → List Loc → Prop} {U U' : State} {a0 : Array Value}
/-- from U the walk comes to its return, and what it leaves is Q -/
def Go (p : Program) (e : Env) (below : List Frame) (s : State) (ce sl : Nat) (Q : Option Value → Heap → List Loc → Prop) (U : State) : Prop :=
  ∃ s₂ o, Steps p.tables e below U s₂ ∧ s₂.status = .running ∧ Ended s₂ below o ∧ ∃ v L, o = .returned v ∧ Q v s₂.heap L ∧ FrameEnd s o s₂ L ce sl
theorem Go.via (h : ∀ t, Steps p.tables e below U' t → Steps p.tables e below U t) (g : Go p e below s ce sl Q U') : Go p e below s ce sl Q U := by
  obtain ⟨s₂, o, h1, h2⟩ := g
  exact ⟨s₂, o, h _ h1, h2⟩
theorem Go.cast {g g' : JFrame} (q : g = g') (k : Go p e below s ce sl Q (T.setTop g')) : Go p e below s ce sl Q (T.setTop g) := q ▸ k
/-- the contract of a body: called with as', over the heap h0, it returns and leaves Q -/
def Meets (l : Launch) (Z : State) (y : MethodName) (bytes : ByteArray) (maxL : Nat) (rt : Option FieldType) (ws : List Jvm.Cond) (rm : Room) (as' : Array Value) (h0 : Heap) (Q : Option Value → Heap → List Loc → Prop) : Prop :=
  MetFree l y (head1 (Jvm.Cond.code y bytes maxL rt :: ws) rm) (fun a U => a = as' ∧ Z.Warmed39 U.vm ∧ U.heap = h0) (fun _ _ _ _ _ => True) (fun _ U o U' => ∃ v L, o = .returned v ∧ Q v U'.heap L ∧ FrameEnd U o U' L rm.cells rm.slots)
theorem meets_of {y : MethodName} {bytes : ByteArray} {maxL : Nat} {rt : Option FieldType} {ws : List Jvm.Cond} {rm : Room} {as' : Array Value} (hpl : plainFor y = true)
    (body : ∀ p e s m below meth c s₁, Stand p l e rm s m as' below meth c s₁ [] 0 0 → p.tables.exec = Jvm.exec → Z.Warmed39 s.vm → c.code = bytes → c.maxLocals = maxL → meth.sig.returnType = rt → meth.locks = false → s.vm.findClass y.cls = some m.cls → meth.name = y.name → s₁.heap = h0 →
      Go p e below s rm.cells rm.slots Q (s₁.setTop (entryFrame m as' maxL))) : Meets l Z y bytes maxL rt ws rm as' h0 Q := by
  refine MetFree.of_bodySF hpl hisR ?_
  intro p e s m args below meth c s₁ Bd hml hP hK
  obtain ⟨rfl, hZ, hh⟩ := hP
  exact body p e s m below meth c s₁ (Stand.of_body Bd) Bd.exec hZ Bd.bytes hml Bd.returns Bd.notSynchronized (findClass_of_methodNamed Bd.named) (name_of_methodNamed Bd.named Bd.method).1 (by rw [← hh, Bd.state]; rfl)
theorem go_ret (X : Stand p l e R s m args below meth c T locs cells slots) (hlk : meth.locks = false) {v : Option Value} (hv : meth.sig.returnType = none → v = none) (eT : T.heap = h) (hQ : Q v h locs) (hc : cells ≤ ce) (hs : slots ≤ sl)
    (st : ∀ fs, (∀ (f : JFrame) (acts : List Action), f.method = m → f.locked = none → f.entered = [] → (doReturn e (T.setTop f) acts v).1 = T.setFrames fs) → Steps p.tables e below U (T.setFrames fs)) : Go p e below s ce sl Q U := by
  obtain ⟨fs, hr, hrun, hended, hW, hsame⟩ := X.leave hv hlk
  exact ⟨_, _, st fs hr, hrun, hended, v, locs, rfl, (by show Q v T.heap locs; rw [eT]; exact hQ), ⟨_, rfl⟩, hW, hsame.mono hc hs⟩
theorem go_retN (X : Stand p l e R s m args below meth c T locs cells slots) (hx : p.tables.exec = Jvm.exec) (hlk : meth.locks = false) {t : FieldType} (hret : meth.sig.returnType = some t) (ht : t = .boolean ∨ t = .byte ∨ t = .char ∨ t = .short) {pc : Nat} {Ls : Array Slot} {z : Int32} {rest : List Value}
    (hd : decode c.code pc = .ok (.ireturn, 1)) (eT : T.heap = h) (hQ : Q (some (.int (nar t z))) h locs) (hc : cells ≤ ce) (hs : slots ≤ sl) : Go p e below s ce sl Q (T.setTop (mkF m pc Ls (.int z :: rest))) :=
  go_ret X hlk (fun h => by rw [hret] at h; cases h) eT hQ hc hs (fun fs hr => retN X hx hret ht hd hr)
theorem go_retI (X : Stand p l e R s m args below meth c T locs cells slots) (hx : p.tables.exec = Jvm.exec) (hlk : meth.locks = false) (hret : meth.sig.returnType = some .int) {pc : Nat} {Ls : Array Slot} {z : Int32} {rest : List Value}
    (hd : decode c.code pc = .ok (.ireturn, 1)) (eT : T.heap = h) (hQ : Q (some (.int z)) h locs) (hc : cells ≤ ce) (hs : slots ≤ sl) : Go p e below s ce sl Q (T.setTop (mkF m pc Ls (.int z :: rest))) :=
  go_ret X hlk (fun h => by rw [hret] at h; cases h) eT hQ hc hs (fun fs hr => retOut X hx hret rfl (Or.inl ⟨rfl, Or.inl rfl, z, rfl⟩) hd hr)
theorem go_retJ (X : Stand p l e R s m args below meth c T locs cells slots) (hx : p.tables.exec = Jvm.exec) (hlk : meth.locks = false) (hret : meth.sig.returnType = some .long) {pc : Nat} {Ls : Array Slot} {z : Int64} {rest : List Value}
    (hd : decode c.code pc = .ok (.lreturn, 1)) (eT : T.heap = h) (hQ : Q (some (.long z)) h locs) (hc : cells ≤ ce) (hs : slots ≤ sl) : Go p e below s ce sl Q (T.setTop (mkF m pc Ls (.long z :: rest))) :=
  go_ret X hlk (fun h => by rw [hret] at h; cases h) eT hQ hc hs (fun fs hr => retOut X hx hret rfl (Or.inr (Or.inl ⟨rfl, rfl, z, rfl⟩)) hd hr)
theorem go_retA (X : Stand p l e R s m args below meth c T locs cells slots) (hx : p.tables.exec = Jvm.exec) (hlk : meth.locks = false) {t : FieldType} (hret : meth.sig.returnType = some t) (ht : t.isReference = true) {pc : Nat} {Ls : Array Slot} {w : Value} (hw : w.isRef = true) (hn : narrow t w = w) {rest : List Value}
    (hd : decode c.code pc = .ok (.areturn, 1)) (eT : T.heap = h) (hQ : Q (some w) h locs) (hc : cells ≤ ce) (hs : slots ≤ sl) : Go p e below s ce sl Q (T.setTop (mkF m pc Ls (w :: rest))) :=
  go_ret X hlk (fun h => by rw [hret] at h; cases h) eT hQ hc hs (fun fs hr => retOut X hx hret hn (Or.inr (Or.inr (Or.inr (Or.inr ⟨rfl, ht, hw⟩)))) hd hr)
theorem go_retV (X : Stand p l e R s m args below meth c T locs cells slots) (hx : p.tables.exec = Jvm.exec) (hlk : meth.locks = false) (hret : meth.sig.returnType = none) {pc : Nat} {Ls : Array Slot}
    (hd : decode c.code pc = .ok (.return_, 1)) (eT : T.heap = h) (hQ : Q none h locs) (hc : cells ≤ ce) (hs : slots ≤ sl) : Go p e below s ce sl Q (T.setTop (mkF m pc Ls [])) :=
  go_ret X hlk (fun _ => rfl) eT hQ hc hs (fun fs hr => X.returnOut hx hret hd hr)
/-- it returned v, wrote nothing and made nothing -/
def PureR (v : Option Value) (h0 : Heap) : Option Value → Heap → List Loc → Prop := fun v' h L => v' = v ∧ h = h0 ∧ L = []
/-- a static method by its contract -/
theorem callSQ (X : Stand p l e R s m args below meth c T locs cells slots) (hx : p.tables.exec = Jvm.exec) (hZ : Z.Warmed39 s.vm) {own : String} {index : Nat} {y : MethodName} {bytes : ByteArray} {maxL : Nat} {rt : Option FieldType} {rm : Room}
    (hown : s.vm.findClass own = some m.cls) (w1 : (Jvm.Cond.methodLink own index y).before a0 Z = true) (w2 : (Jvm.Cond.static y).before a0 Z = true) (w3 : (Jvm.Cond.initialized y.cls).before a0 Z = true) (w4 : (Jvm.Cond.code y bytes maxL rt).before a0 Z = true)
    (hy : y.cls ≠ "java/lang/invoke/MethodHandle" ∧ y.cls ≠ "java/lang/invoke/VarHandle") {av : List Value} (hM : Meets l Z y bytes maxL rt [] rm av.toArray h Q) (eT : T.heap = h)
    {pc : Nat} {Ls : Array Slot} {rest : List Value} {ps : List FieldType} {r : Option FieldType} (hsize : Ls.size = c.maxLocals) (hp : parseMethodDescriptor y.desc = some ⟨ps, r⟩) (hlen : av.length = ps.length)
    (W : Nat) (hW : (rest.map fun v => v.category).sum ≤ W) (hf : rm.frames + 1 ≤ R.frames) (hl : W + (maxL + 11) + rm.locals ≤ R.locals) (hc : cells + rm.cells ≤ R.cells) (hs : slots + rm.slots ≤ R.slots) (hd : decode c.code pc = .ok (.invokestatic index, 3)) :
    ∃ v T' L, Stand p l e R s m args below meth c T' (locs ++ L) (cells + rm.cells) (slots + rm.slots) ∧ Q v T'.heap L ∧
      ∀ t, Steps p.tables e below (T'.setTop (mkF m (pc + 3) Ls (v.toList ++ rest))) t → Steps p.tables e below (T.setTop (mkF m pc Ls (av.reverse ++ rest))) t := by
  obtain ⟨v, _, ⟨T2, L2, k2, n2⟩, -, X2, ⟨Lc2, hQ2, l2, y2, z2⟩, st2⟩ := Jvm.LawKit.callS X hx (y := y) hown (mvT hZ w1) (mvT hZ w2) (mvT hZ w3) (mvT hZ w4) hy (backOf (W := W) hM hZ w4 w3 hf hl) (g := mkF m pc Ls (av.reverse ++ rest)) rfl hsize (argsL := av) (rest := rest) (lenOf hp hlen) rfl (by show 2 * 0 + _ ≤ _; rw [Nat.mul_zero, Nat.zero_add]; exact hW) hd (fun _ _ => ⟨rfl, eT, hc, hs⟩)
  dsimp only [Pt.U, Pt.locs, Pt.cells, Pt.slots] at X2 l2 y2 z2 st2 hQ2
  subst l2 y2 z2
  exact ⟨v, T2, Lc2, X2, hQ2, st2⟩
/-- a static method that writes and makes nothing -/
theorem callS0 (X : Stand p l e R s m args below meth c T locs cells slots) (hx : p.tables.exec = Jvm.exec) (hZ : Z.Warmed39 s.vm) {own : String} {index : Nat} {y : MethodName} {bytes : ByteArray} {maxL : Nat} {rt : Option FieldType} {fr lo : Nat} {v : Option Value}
    (hown : s.vm.findClass own = some m.cls) (w1 : (Jvm.Cond.methodLink own index y).before a0 Z = true) (w2 : (Jvm.Cond.static y).before a0 Z = true) (w3 : (Jvm.Cond.initialized y.cls).before a0 Z = true) (w4 : (Jvm.Cond.code y bytes maxL rt).before a0 Z = true)
    (hy : y.cls ≠ "java/lang/invoke/MethodHandle" ∧ y.cls ≠ "java/lang/invoke/VarHandle") {av : List Value} (hM : Meets l Z y bytes maxL rt [] ({ frames := fr, cells := 0, slots := 0, locals := lo } : Room) av.toArray h (PureR v h)) (eT : T.heap = h)
    {pc : Nat} {Ls : Array Slot} {rest : List Value} {ps : List FieldType} {r : Option FieldType} (hsize : Ls.size = c.maxLocals) (hp : parseMethodDescriptor y.desc = some ⟨ps, r⟩) (hlen : av.length = ps.length)
    (W : Nat) (hW : (rest.map fun v => v.category).sum ≤ W) (hf : fr + 1 ≤ R.frames) (hl : W + (maxL + 11) + lo ≤ R.locals) (hc : cells ≤ R.cells) (hs : slots ≤ R.slots) (hd : decode c.code pc = .ok (.invokestatic index, 3)) :
    ∃ T', Stand p l e R s m args below meth c T' locs cells slots ∧ T'.heap = h ∧
      ∀ t, Steps p.tables e below (T'.setTop (mkF m (pc + 3) Ls (v.toList ++ rest))) t → Steps p.tables e below (T.setTop (mkF m pc Ls (av.reverse ++ rest))) t := by
  obtain ⟨_, T2, _, X2, ⟨rfl, h2, rfl⟩, st2⟩ := callSQ X hx hZ hown w1 w2 w3 w4 hy hM eT hsize hp hlen W hW hf hl hc hs hd
  rw [List.append_nil] at X2
  exact ⟨T2, X2, h2, st2⟩
end OwnKit
section OwnKit2
variable {p : Program} {l : Launch} {e : Env} {R : Room} {s : State} {m : MethodId} {args : Array Value} {below : List Frame} {meth : Method} {c : Code} {T : State} {locs : List Loc} {cells slots : Nat} {Z : State} {h h0 : Heap} {ce sl : Nat} {Q : Option Value → Heap → List Loc → Prop} {U U' : State} {a0 : Array Value}
/-- an instance method by its contract, the resolved one being the selected one -/
theorem callVQ (X : Stand p l e R s m args below meth c T locs cells slots) (hx : p.tables.exec = Jvm.exec) (hZ : Z.Warmed39 s.vm) {own C : String} {index : Nat} {y : MethodName} {bytes : ByteArray} {maxL : Nat} {rt : Option FieldType} {rm : Room}
    (hown : s.vm.findClass own = some m.cls) (w1 : (Jvm.Cond.methodLink own index y).before a0 Z = true) (w2 : (Jvm.Cond.declares y).before a0 Z = true) (w3 : (Jvm.Cond.selects C y y).before a0 Z = true) (w5 : (Jvm.Cond.instanceMethod y).before a0 Z = true) (w6 : (Jvm.Cond.initialized y.cls).before a0 Z = true) (w4 : (Jvm.Cond.code y bytes maxL rt).before a0 Z = true)
    (hy : y.cls ≠ "java/lang/invoke/MethodHandle" ∧ y.cls ≠ "java/lang/invoke/VarHandle") {b : Addr} {av : List Value} (hE : Exa Z h b C) (hM : Meets l Z y bytes maxL rt [] rm (.ref b :: av).toArray h Q) (eT : T.heap = h)
    {pc : Nat} {Ls : Array Slot} {rest : List Value} {ps : List FieldType} {r : Option FieldType} (hsize : Ls.size = c.maxLocals) (hp : parseMethodDescriptor y.desc = some ⟨ps, r⟩) (hlen : av.length = ps.length)
    (W : Nat) (hW : (rest.map fun v => v.category).sum ≤ W) (hf : rm.frames + 1 ≤ R.frames) (hl : W + (maxL + 11) + rm.locals ≤ R.locals) (hc : cells + rm.cells ≤ R.cells) (hs : slots + rm.slots ≤ R.slots) (hd : decode c.code pc = .ok (.invokevirtual index, 3)) :
    ∃ v T' L, Stand p l e R s m args below meth c T' (locs ++ L) (cells + rm.cells) (slots + rm.slots) ∧ Q v T'.heap L ∧
      ∀ t, Steps p.tables e below (T'.setTop (mkF m (pc + 3) Ls (v.toList ++ rest))) t → Steps p.tables e below (T.setTop (mkF m pc Ls (av.reverse ++ .ref b :: rest))) t := by
  obtain ⟨cq, kq, qa, qb, qc⟩ := isOf hZ eT hE
  obtain ⟨v, _, ⟨T2, L2, k2, n2⟩, -, X2, ⟨Lc2, hQ2, l2, y2, z2⟩, st2⟩ := X.virtualBack hx (y := y) (z := y) hown (mvT hZ w1) (mvT hZ w2) (notFace_of_selects (args := #[]) (mvT hZ w3)) (mvT hZ w3) (mvT hZ w5) hy (backOf (W := W) hM hZ w4 w6 hf hl) qa qc (g := mkF m pc Ls (av.reverse ++ .ref b :: rest)) rfl hsize (Steps.refl _) (argsL := av) (rest := rest) (lenOf hp hlen) rfl (by show 2 * 0 + _ ≤ _; rw [Nat.mul_zero, Nat.zero_add]; exact hW) hd (fun _ _ => ⟨rfl, eT, hc, hs⟩)
  dsimp only [Pt.U, Pt.locs, Pt.cells, Pt.slots] at X2 l2 y2 z2 st2 hQ2
  subst l2 y2 z2
  exact ⟨v, T2, Lc2, X2, hQ2, fun t k => st2.trans k⟩
theorem callV0 (X : Stand p l e R s m args below meth c T locs cells slots) (hx : p.tables.exec = Jvm.exec) (hZ : Z.Warmed39 s.vm) {own C : String} {index : Nat} {y : MethodName} {bytes : ByteArray} {maxL : Nat} {rt : Option FieldType} {fr lo : Nat} {v : Option Value}
    (hown : s.vm.findClass own = some m.cls) (w1 : (Jvm.Cond.methodLink own index y).before a0 Z = true) (w2 : (Jvm.Cond.declares y).before a0 Z = true) (w3 : (Jvm.Cond.selects C y y).before a0 Z = true) (w5 : (Jvm.Cond.instanceMethod y).before a0 Z = true) (w6 : (Jvm.Cond.initialized y.cls).before a0 Z = true) (w4 : (Jvm.Cond.code y bytes maxL rt).before a0 Z = true)
    (hy : y.cls ≠ "java/lang/invoke/MethodHandle" ∧ y.cls ≠ "java/lang/invoke/VarHandle") {b : Addr} {av : List Value} (hE : Exa Z h b C) (hM : Meets l Z y bytes maxL rt [] ({ frames := fr, cells := 0, slots := 0, locals := lo } : Room) (.ref b :: av).toArray h (PureR v h)) (eT : T.heap = h)
    {pc : Nat} {Ls : Array Slot} {rest : List Value} {ps : List FieldType} {r : Option FieldType} (hsize : Ls.size = c.maxLocals) (hp : parseMethodDescriptor y.desc = some ⟨ps, r⟩) (hlen : av.length = ps.length)
    (W : Nat) (hW : (rest.map fun v => v.category).sum ≤ W) (hf : fr + 1 ≤ R.frames) (hl : W + (maxL + 11) + lo ≤ R.locals) (hc : cells ≤ R.cells) (hs : slots ≤ R.slots) (hd : decode c.code pc = .ok (.invokevirtual index, 3)) :
    ∃ T', Stand p l e R s m args below meth c T' locs cells slots ∧ T'.heap = h ∧
      ∀ t, Steps p.tables e below (T'.setTop (mkF m (pc + 3) Ls (v.toList ++ rest))) t → Steps p.tables e below (T.setTop (mkF m pc Ls (av.reverse ++ .ref b :: rest))) t := by
  obtain ⟨_, T2, _, X2, ⟨rfl, h2, rfl⟩, st2⟩ := callVQ X hx hZ hown w1 w2 w3 w5 w6 w4 hy hE hM eT hsize hp hlen W hW hf hl hc hs hd
  rw [List.append_nil] at X2
  exact ⟨T2, X2, h2, st2⟩
/-- a constructor by its contract -/
theorem callIQ (X : Stand p l e R s m args below meth c T locs cells slots) (hx : p.tables.exec = Jvm.exec) (hZ : Z.Warmed39 s.vm) {own : String} {index : Nat} {y : MethodName} {bytes : ByteArray} {maxL : Nat} {rm : Room} (hy1 : y.name = "<init>")
    (hown : s.vm.findClass own = some m.cls) (w1 : (Jvm.Cond.methodLink own index y).before a0 Z = true) (w5 : (Jvm.Cond.instanceMethod y).before a0 Z = true) (w6 : (Jvm.Cond.initialized y.cls).before a0 Z = true) (w4 : (Jvm.Cond.code y bytes maxL none).before a0 Z = true)
    (hy : y.cls ≠ "java/lang/invoke/MethodHandle" ∧ y.cls ≠ "java/lang/invoke/VarHandle") {b : Addr} {av : List Value} (hM : Meets l Z y bytes maxL none [] rm (.ref b :: av).toArray h Q) (eT : T.heap = h)
    {pc : Nat} {Ls : Array Slot} {rest : List Value} {ps : List FieldType} {r : Option FieldType} (hsize : Ls.size = c.maxLocals) (hp : parseMethodDescriptor y.desc = some ⟨ps, r⟩) (hlen : av.length = ps.length)
    (W : Nat) (hW : (rest.map fun v => v.category).sum ≤ W) (hf : rm.frames + 1 ≤ R.frames) (hl : W + (maxL + 11) + rm.locals ≤ R.locals) (hc : cells + rm.cells ≤ R.cells) (hs : slots + rm.slots ≤ R.slots) (hd : decode c.code pc = .ok (.invokespecial index, 3)) :
    ∃ v T' L, Stand p l e R s m args below meth c T' (locs ++ L) (cells + rm.cells) (slots + rm.slots) ∧ Q v T'.heap L ∧
      ∀ t, Steps p.tables e below (T'.setTop (mkF m (pc + 3) Ls (v.toList ++ rest))) t → Steps p.tables e below (T.setTop (mkF m pc Ls (av.reverse ++ .ref b :: rest))) t := by
  obtain ⟨v, _, ⟨T2, L2, k2, n2⟩, -, X2, ⟨Lc2, hQ2, l2, y2, z2⟩, st2⟩ := X.specialBack hx (y := y) hy1 hown (mvT hZ w1) (mvT hZ w5) (mvT hZ w4) hy (backOf (W := W) hM hZ w4 w6 hf hl) (g := mkF m pc Ls (av.reverse ++ .ref b :: rest)) rfl hsize (Steps.refl _) (a := b) (argsL := av) (rest := rest) (lenOf hp hlen) rfl (by show 2 * 0 + _ ≤ _; rw [Nat.mul_zero, Nat.zero_add]; exact hW) hd (fun _ _ => ⟨rfl, eT, hc, hs⟩)
  dsimp only [Pt.U, Pt.locs, Pt.cells, Pt.slots] at X2 l2 y2 z2 st2 hQ2
  subst l2 y2 z2
  exact ⟨v, T2, Lc2, X2, hQ2, fun t k => st2.trans k⟩
end OwnKit2
section OwnKit3
variable {args : Array Value} {first s : State} {o : Option Outcome} {idx : List Nat} {a b : Term}
theorem own_eqI {k : Int32} (h : (Jvm.Cond.eq a (.int k)).value args first o s idx = some true) : a.eval args first o idx s = some (.int k) := by
  obtain ⟨x, y, hx, hy, -, hk⟩ := cmp_v (Or.inl h)
  rw [Term.int_eval] at hy
  cases hy
  obtain ⟨z, rfl⟩ := hk
  have q := gotT (Cond.eq_ints hx (Term.int_eval k)) h
  rw [hx, q]
theorem own_eqR {b' : Addr} (h : (Jvm.Cond.eq a b).value args first o s idx = some true) (hb : b.eval args first o idx s = some (.ref b')) : a.eval args first o idx s = some (.ref b') := by
  obtain ⟨x, y, hx, hy, -, hk⟩ := cmp_v (Or.inl h)
  rw [hb] at hy
  cases hy
  have hk' : x.isRef = true := hk.2
  have q := gotT (eq_R hx hb hk' rfl) h
  rw [hx, q]
end OwnKit3
theorem own_k0 (m : MethodId) (x0 : Int32) : entryFrame m #[(.int x0)] 1 = mkF m 0 #[.val (.int x0)] [] := by first | (simp [entryFrame, mkF, argsToLocals, Value.category]; done) | rfl
theorem own_k1 : decode method_3_code 0 = .ok (.iload_n 0, 1) := by decide +kernel
theorem own_k2 : decode method_3_code 1 = .ok (.ifCond .ne 7, 3) := by decide +kernel
theorem own_k3 : decode method_3_code 4 = .ok (.getstatic 19, 3) := by decide +kernel
theorem own_k4 : decode method_3_code 7 = .ok (.areturn, 1) := by decide +kernel
theorem own_k5 : decode method_3_code 8 = .ok (.iload_n 0, 1) := by decide +kernel
theorem own_k6 : decode method_3_code 9 = .ok (.iconst 1, 1) := by decide +kernel
theorem own_k7 : decode method_3_code 10 = .ok (.if_icmp .ne 7, 3) := by decide +kernel
theorem own_k8 : decode method_3_code 13 = .ok (.getstatic 23, 3) := by decide +kernel
theorem own_k9 : decode method_3_code 16 = .ok (.areturn, 1) := by decide +kernel
theorem own_k10 : decode method_3_code 17 = .ok (.iload_n 0, 1) := by decide +kernel
theorem own_k11 : decode method_3_code 18 = .ok (.iconst 2, 1) := by decide +kernel
theorem own_k12 : decode method_3_code 19 = .ok (.if_icmp .ne 7, 3) := by decide +kernel
theorem own_k13 : decode method_3_code 22 = .ok (.getstatic 26, 3) := by decide +kernel
theorem own_k14 : decode method_3_code 25 = .ok (.areturn, 1) := by decide +kernel
theorem own_k15 : decode method_3_code 26 = .ok (.iload_n 0, 1) := by decide +kernel
theorem own_k16 : decode method_3_code 27 = .ok (.iconst 3, 1) := by decide +kernel
theorem own_k17 : decode method_3_code 28 = .ok (.if_icmp .ne 7, 3) := by decide +kernel
theorem own_k18 : decode method_3_code 31 = .ok (.getstatic 29, 3) := by decide +kernel
theorem own_k19 : decode method_3_code 34 = .ok (.areturn, 1) := by decide +kernel
theorem own_k20 : decode method_3_code 35 = .ok (.iload_n 0, 1) := by decide +kernel
theorem own_k21 : decode method_3_code 36 = .ok (.iconst 4, 1) := by decide +kernel
theorem own_k22 : decode method_3_code 37 = .ok (.if_icmp .ne 7, 3) := by decide +kernel
theorem own_k23 : decode method_3_code 40 = .ok (.getstatic 32, 3) := by decide +kernel
theorem own_k24 : decode method_3_code 43 = .ok (.areturn, 1) := by decide +kernel
theorem own_k25 : decode method_3_code 44 = .ok (.iload_n 0, 1) := by decide +kernel
theorem own_k26 : decode method_3_code 45 = .ok (.iconst 5, 1) := by decide +kernel
theorem own_k27 : decode method_3_code 46 = .ok (.if_icmp .ne 7, 3) := by decide +kernel
theorem own_k28 : decode method_3_code 49 = .ok (.getstatic 35, 3) := by decide +kernel
theorem own_k29 : decode method_3_code 52 = .ok (.areturn, 1) := by decide +kernel
theorem own_k30 : decode method_3_code 53 = .ok (.iload_n 0, 1) := by decide +kernel
theorem own_k31 : decode method_3_code 54 = .ok (.bipush 6, 2) := by decide +kernel
theorem own_k32 : decode method_3_code 56 = .ok (.if_icmp .ne 7, 3) := by decide +kernel
theorem own_k33 : decode method_3_code 59 = .ok (.getstatic 38, 3) := by decide +kernel
theorem own_k34 : decode method_3_code 62 = .ok (.areturn, 1) := by decide +kernel
theorem own_k35 : decode method_3_code 63 = .ok (.getstatic 41, 3) := by decide +kernel
theorem own_k36 : decode method_3_code 66 = .ok (.areturn, 1) := by decide +kernel
theorem own_k37 : plainName "com/example/sneinton/sneinton/FieldIsRecordPinLaw" = true := by first | (simp [plainName, overriddenIn]; done) | decide +kernel
def own_f1 (x0 : Int32) (a_USER_AGENT : Addr) (a_ALLOW : Addr) (a_DISALLOW : Addr) (a_SITEMAP : Addr) (a_HOST : Addr) (a_CLEAN_PARAM : Addr) (a_CRAWL_DELAY : Addr) (a_OTHER : Addr) : Addr := (if x0 = (0 : Int32) then a_USER_AGENT else (if x0 = (1 : Int32) then a_ALLOW else (if x0 = (2 : Int32) then a_DISALLOW else (if x0 = (3 : Int32) then a_SITEMAP else (if x0 = (4 : Int32) then a_HOST else (if x0 = (5 : Int32) then a_CLEAN_PARAM else (if x0 = (6 : Int32) then a_CRAWL_DELAY else a_OTHER)))))))
set_option maxRecDepth 65536 in
set_option maxHeartbeats 40000000 in
theorem own_rm1 (l : Launch) (Z : State) (a0 : Array Value) (hw : ∀ d ∈ tables_1, d.before a0 Z = true) (ws : List Jvm.Cond) (x0 : Int32) (a_USER_AGENT : Addr) (a_ALLOW : Addr) (a_DISALLOW : Addr) (a_SITEMAP : Addr) (a_HOST : Addr) (a_CLEAN_PARAM : Addr) (a_CRAWL_DELAY : Addr) (a_OTHER : Addr) (h0 : Heap) (S_USER_AGENT : Sta Z h0 "com/example/sneinton/sneinton/RobotsLine$Field" "USER_AGENT" "Lcom/example/sneinton/sneinton/RobotsLine$Field;" (.ref a_USER_AGENT)) (S_ALLOW : Sta Z h0 "com/example/sneinton/sneinton/RobotsLine$Field" "ALLOW" "Lcom/example/sneinton/sneinton/RobotsLine$Field;" (.ref a_ALLOW)) (S_DISALLOW : Sta Z h0 "com/example/sneinton/sneinton/RobotsLine$Field" "DISALLOW" "Lcom/example/sneinton/sneinton/RobotsLine$Field;" (.ref a_DISALLOW)) (S_SITEMAP : Sta Z h0 "com/example/sneinton/sneinton/RobotsLine$Field" "SITEMAP" "Lcom/example/sneinton/sneinton/RobotsLine$Field;" (.ref a_SITEMAP)) (S_HOST : Sta Z h0 "com/example/sneinton/sneinton/RobotsLine$Field" "HOST" "Lcom/example/sneinton/sneinton/RobotsLine$Field;" (.ref a_HOST)) (S_CLEAN_PARAM : Sta Z h0 "com/example/sneinton/sneinton/RobotsLine$Field" "CLEAN_PARAM" "Lcom/example/sneinton/sneinton/RobotsLine$Field;" (.ref a_CLEAN_PARAM)) (S_CRAWL_DELAY : Sta Z h0 "com/example/sneinton/sneinton/RobotsLine$Field" "CRAWL_DELAY" "Lcom/example/sneinton/sneinton/RobotsLine$Field;" (.ref a_CRAWL_DELAY)) (S_OTHER : Sta Z h0 "com/example/sneinton/sneinton/RobotsLine$Field" "OTHER" "Lcom/example/sneinton/sneinton/RobotsLine$Field;" (.ref a_OTHER)) : Meets l Z (⟨"com/example/sneinton/sneinton/FieldIsRecordPinLaw", "pick", "(I)Lcom/example/sneinton/sneinton/RobotsLine$Field;"⟩ : MethodName) method_3_code 1 (some (.object "com/example/sneinton/sneinton/RobotsLine$Field")) ws ({ frames := 0, cells := 0, slots := 0, locals := 0 } : Room) #[(.int x0)] h0 (PureR (some (.ref (own_f1 x0 a_USER_AGENT a_ALLOW a_DISALLOW a_SITEMAP a_HOST a_CLEAN_PARAM a_CRAWL_DELAY a_OTHER))) h0) := by
  refine meets_of (plainFor_of_name own_k37) ?_
  intro p e s m below meth c s₁ X0 hx hZ hby hml hret hlk hown hnm e0
  replace hml : c.maxLocals = 1 := hml
  replace hown : s.vm.findClass "com/example/sneinton/sneinton/FieldIsRecordPinLaw" = some m.cls := hown
  refine Go.cast (own_k0 m x0) ?_
  refine Go.via (U' := s₁.setTop (mkF m 1 #[.val (.int x0)] [(.int x0)])) (fun tG kG => XS.iloadN X0.here hx rfl (hb hby own_k1) rfl kG) ?_
  by_cases hc1 : x0 = (0 : Int32)
  · refine Go.via (U' := s₁.setTop (mkF m 4 #[.val (.int x0)] [])) (fun tG kG => XS.ifNo X0.here hx rfl (hb hby own_k2) rfl ((if0 _ _).trans (teq hc1).2) kG) ?_
    obtain ⟨T1, X1, e1, st1⟩ := getS2 X0 hx hZ hown (host := "") (Or.inl (hw _ (List.mem_of_getElem? (i := 4) rfl))) Via.refl e0 S_USER_AGENT (g := (mkF m 4 #[.val (.int x0)] [])) rfl (hb hby own_k3)
    refine Go.via (U' := T1.setTop (mkF m 7 #[.val (.int x0)] [(.ref a_USER_AGENT)])) (fun tG kG => st1 tG kG) ?_
    exact go_retA X1 hx hlk hret rfl rfl rfl (hb hby own_k4) e1 ⟨(congrArg (fun z => some (Value.ref z)) (show a_USER_AGENT = (own_f1 x0 a_USER_AGENT a_ALLOW a_DISALLOW a_SITEMAP a_HOST a_CLEAN_PARAM a_CRAWL_DELAY a_OTHER) from by unfold own_f1; simp only [if_pos hc1])), rfl, rfl⟩ (by decide) (by decide)
  · refine Go.via (U' := s₁.setTop (mkF m 8 #[.val (.int x0)] [])) (fun tG kG => XS.ifYes X0.here hx rfl (pc0 := 1) (pc' := 8) rfl (hb hby own_k2) rfl ((if0 _ _).trans (feq hc1).2) (by decide) (by decide) kG) ?_
    refine Go.via (U' := s₁.setTop (mkF m 9 #[.val (.int x0)] [(.int x0)])) (fun tG kG => XS.iloadN X0.here hx rfl (hb hby own_k5) rfl kG) ?_
    refine Go.via (U' := s₁.setTop (mkF m 10 #[.val (.int x0)] [(.int (1 : Int32)), (.int x0)])) (fun tG kG => XS.iconst X0.here hx rfl (hb hby own_k6) kG) ?_
    by_cases hc10 : x0 = (1 : Int32)
    · refine Go.via (U' := s₁.setTop (mkF m 13 #[.val (.int x0)] [])) (fun tG kG => XS.icmpNo X0.here hx rfl (hb hby own_k7) rfl (teq hc10).2 kG) ?_
      obtain ⟨T2, X2, e2, st2⟩ := getS2 X0 hx hZ hown (host := "") (Or.inl (hw _ (List.mem_of_getElem? (i := 26) rfl))) Via.refl e0 S_ALLOW (g := (mkF m 13 #[.val (.int x0)] [])) rfl (hb hby own_k8)
      refine Go.via (U' := T2.setTop (mkF m 16 #[.val (.int x0)] [(.ref a_ALLOW)])) (fun tG kG => st2 tG kG) ?_
      exact go_retA X2 hx hlk hret rfl rfl rfl (hb hby own_k9) e2 ⟨(congrArg (fun z => some (Value.ref z)) (show a_ALLOW = (own_f1 x0 a_USER_AGENT a_ALLOW a_DISALLOW a_SITEMAP a_HOST a_CLEAN_PARAM a_CRAWL_DELAY a_OTHER) from by unfold own_f1; simp only [if_neg hc1, if_pos hc10])), rfl, rfl⟩ (by decide) (by decide)
    · refine Go.via (U' := s₁.setTop (mkF m 17 #[.val (.int x0)] [])) (fun tG kG => XS.icmpYes X0.here hx rfl (pc0 := 10) (pc' := 17) rfl (hb hby own_k7) rfl (feq hc10).2 (by decide) (by decide) kG) ?_
      refine Go.via (U' := s₁.setTop (mkF m 18 #[.val (.int x0)] [(.int x0)])) (fun tG kG => XS.iloadN X0.here hx rfl (hb hby own_k10) rfl kG) ?_
      refine Go.via (U' := s₁.setTop (mkF m 19 #[.val (.int x0)] [(.int (2 : Int32)), (.int x0)])) (fun tG kG => XS.iconst X0.here hx rfl (hb hby own_k11) kG) ?_
      by_cases hc19 : x0 = (2 : Int32)
      · refine Go.via (U' := s₁.setTop (mkF m 22 #[.val (.int x0)] [])) (fun tG kG => XS.icmpNo X0.here hx rfl (hb hby own_k12) rfl (teq hc19).2 kG) ?_
        obtain ⟨T3, X3, e3, st3⟩ := getS2 X0 hx hZ hown (host := "") (Or.inl (hw _ (List.mem_of_getElem? (i := 24) rfl))) Via.refl e0 S_DISALLOW (g := (mkF m 22 #[.val (.int x0)] [])) rfl (hb hby own_k13)
        refine Go.via (U' := T3.setTop (mkF m 25 #[.val (.int x0)] [(.ref a_DISALLOW)])) (fun tG kG => st3 tG kG) ?_
        exact go_retA X3 hx hlk hret rfl rfl rfl (hb hby own_k14) e3 ⟨(congrArg (fun z => some (Value.ref z)) (show a_DISALLOW = (own_f1 x0 a_USER_AGENT a_ALLOW a_DISALLOW a_SITEMAP a_HOST a_CLEAN_PARAM a_CRAWL_DELAY a_OTHER) from by unfold own_f1; simp only [if_neg hc1, if_neg hc10, if_pos hc19])), rfl, rfl⟩ (by decide) (by decide)
      · refine Go.via (U' := s₁.setTop (mkF m 26 #[.val (.int x0)] [])) (fun tG kG => XS.icmpYes X0.here hx rfl (pc0 := 19) (pc' := 26) rfl (hb hby own_k12) rfl (feq hc19).2 (by decide) (by decide) kG) ?_
        refine Go.via (U' := s₁.setTop (mkF m 27 #[.val (.int x0)] [(.int x0)])) (fun tG kG => XS.iloadN X0.here hx rfl (hb hby own_k15) rfl kG) ?_
        refine Go.via (U' := s₁.setTop (mkF m 28 #[.val (.int x0)] [(.int (3 : Int32)), (.int x0)])) (fun tG kG => XS.iconst X0.here hx rfl (hb hby own_k16) kG) ?_
        by_cases hc28 : x0 = (3 : Int32)
        · refine Go.via (U' := s₁.setTop (mkF m 31 #[.val (.int x0)] [])) (fun tG kG => XS.icmpNo X0.here hx rfl (hb hby own_k17) rfl (teq hc28).2 kG) ?_
          obtain ⟨T4, X4, e4, st4⟩ := getS2 X0 hx hZ hown (host := "") (Or.inl (hw _ (List.mem_of_getElem? (i := 20) rfl))) Via.refl e0 S_SITEMAP (g := (mkF m 31 #[.val (.int x0)] [])) rfl (hb hby own_k18)
          refine Go.via (U' := T4.setTop (mkF m 34 #[.val (.int x0)] [(.ref a_SITEMAP)])) (fun tG kG => st4 tG kG) ?_
          exact go_retA X4 hx hlk hret rfl rfl rfl (hb hby own_k19) e4 ⟨(congrArg (fun z => some (Value.ref z)) (show a_SITEMAP = (own_f1 x0 a_USER_AGENT a_ALLOW a_DISALLOW a_SITEMAP a_HOST a_CLEAN_PARAM a_CRAWL_DELAY a_OTHER) from by unfold own_f1; simp only [if_neg hc1, if_neg hc10, if_neg hc19, if_pos hc28])), rfl, rfl⟩ (by decide) (by decide)
        · refine Go.via (U' := s₁.setTop (mkF m 35 #[.val (.int x0)] [])) (fun tG kG => XS.icmpYes X0.here hx rfl (pc0 := 28) (pc' := 35) rfl (hb hby own_k17) rfl (feq hc28).2 (by decide) (by decide) kG) ?_
          refine Go.via (U' := s₁.setTop (mkF m 36 #[.val (.int x0)] [(.int x0)])) (fun tG kG => XS.iloadN X0.here hx rfl (hb hby own_k20) rfl kG) ?_
          refine Go.via (U' := s₁.setTop (mkF m 37 #[.val (.int x0)] [(.int (4 : Int32)), (.int x0)])) (fun tG kG => XS.iconst X0.here hx rfl (hb hby own_k21) kG) ?_
          by_cases hc37 : x0 = (4 : Int32)
          · refine Go.via (U' := s₁.setTop (mkF m 40 #[.val (.int x0)] [])) (fun tG kG => XS.icmpNo X0.here hx rfl (hb hby own_k22) rfl (teq hc37).2 kG) ?_
            obtain ⟨T5, X5, e5, st5⟩ := getS2 X0 hx hZ hown (host := "") (Or.inl (hw _ (List.mem_of_getElem? (i := 28) rfl))) Via.refl e0 S_HOST (g := (mkF m 40 #[.val (.int x0)] [])) rfl (hb hby own_k23)
            refine Go.via (U' := T5.setTop (mkF m 43 #[.val (.int x0)] [(.ref a_HOST)])) (fun tG kG => st5 tG kG) ?_
            exact go_retA X5 hx hlk hret rfl rfl rfl (hb hby own_k24) e5 ⟨(congrArg (fun z => some (Value.ref z)) (show a_HOST = (own_f1 x0 a_USER_AGENT a_ALLOW a_DISALLOW a_SITEMAP a_HOST a_CLEAN_PARAM a_CRAWL_DELAY a_OTHER) from by unfold own_f1; simp only [if_neg hc1, if_neg hc10, if_neg hc19, if_neg hc28, if_pos hc37])), rfl, rfl⟩ (by decide) (by decide)
          · refine Go.via (U' := s₁.setTop (mkF m 44 #[.val (.int x0)] [])) (fun tG kG => XS.icmpYes X0.here hx rfl (pc0 := 37) (pc' := 44) rfl (hb hby own_k22) rfl (feq hc37).2 (by decide) (by decide) kG) ?_
            refine Go.via (U' := s₁.setTop (mkF m 45 #[.val (.int x0)] [(.int x0)])) (fun tG kG => XS.iloadN X0.here hx rfl (hb hby own_k25) rfl kG) ?_
            refine Go.via (U' := s₁.setTop (mkF m 46 #[.val (.int x0)] [(.int (5 : Int32)), (.int x0)])) (fun tG kG => XS.iconst X0.here hx rfl (hb hby own_k26) kG) ?_
            by_cases hc46 : x0 = (5 : Int32)
            · refine Go.via (U' := s₁.setTop (mkF m 49 #[.val (.int x0)] [])) (fun tG kG => XS.icmpNo X0.here hx rfl (hb hby own_k27) rfl (teq hc46).2 kG) ?_
              obtain ⟨T6, X6, e6, st6⟩ := getS2 X0 hx hZ hown (host := "") (Or.inl (hw _ (List.mem_of_getElem? (i := 29) rfl))) Via.refl e0 S_CLEAN_PARAM (g := (mkF m 49 #[.val (.int x0)] [])) rfl (hb hby own_k28)
              refine Go.via (U' := T6.setTop (mkF m 52 #[.val (.int x0)] [(.ref a_CLEAN_PARAM)])) (fun tG kG => st6 tG kG) ?_
              exact go_retA X6 hx hlk hret rfl rfl rfl (hb hby own_k29) e6 ⟨(congrArg (fun z => some (Value.ref z)) (show a_CLEAN_PARAM = (own_f1 x0 a_USER_AGENT a_ALLOW a_DISALLOW a_SITEMAP a_HOST a_CLEAN_PARAM a_CRAWL_DELAY a_OTHER) from by unfold own_f1; simp only [if_neg hc1, if_neg hc10, if_neg hc19, if_neg hc28, if_neg hc37, if_pos hc46])), rfl, rfl⟩ (by decide) (by decide)
            · refine Go.via (U' := s₁.setTop (mkF m 53 #[.val (.int x0)] [])) (fun tG kG => XS.icmpYes X0.here hx rfl (pc0 := 46) (pc' := 53) rfl (hb hby own_k27) rfl (feq hc46).2 (by decide) (by decide) kG) ?_
              refine Go.via (U' := s₁.setTop (mkF m 54 #[.val (.int x0)] [(.int x0)])) (fun tG kG => XS.iloadN X0.here hx rfl (hb hby own_k30) rfl kG) ?_
              refine Go.via (U' := s₁.setTop (mkF m 56 #[.val (.int x0)] [(.int (6 : Int32)), (.int x0)])) (fun tG kG => XS.bipush X0.here hx rfl (hb hby own_k31) kG) ?_
              by_cases hc56 : x0 = (6 : Int32)
              · refine Go.via (U' := s₁.setTop (mkF m 59 #[.val (.int x0)] [])) (fun tG kG => XS.icmpNo X0.here hx rfl (hb hby own_k32) rfl (teq hc56).2 kG) ?_
                obtain ⟨T7, X7, e7, st7⟩ := getS2 X0 hx hZ hown (host := "") (Or.inl (hw _ (List.mem_of_getElem? (i := 21) rfl))) Via.refl e0 S_CRAWL_DELAY (g := (mkF m 59 #[.val (.int x0)] [])) rfl (hb hby own_k33)
                refine Go.via (U' := T7.setTop (mkF m 62 #[.val (.int x0)] [(.ref a_CRAWL_DELAY)])) (fun tG kG => st7 tG kG) ?_
                exact go_retA X7 hx hlk hret rfl rfl rfl (hb hby own_k34) e7 ⟨(congrArg (fun z => some (Value.ref z)) (show a_CRAWL_DELAY = (own_f1 x0 a_USER_AGENT a_ALLOW a_DISALLOW a_SITEMAP a_HOST a_CLEAN_PARAM a_CRAWL_DELAY a_OTHER) from by unfold own_f1; simp only [if_neg hc1, if_neg hc10, if_neg hc19, if_neg hc28, if_neg hc37, if_neg hc46, if_pos hc56])), rfl, rfl⟩ (by decide) (by decide)
              · refine Go.via (U' := s₁.setTop (mkF m 63 #[.val (.int x0)] [])) (fun tG kG => XS.icmpYes X0.here hx rfl (pc0 := 56) (pc' := 63) rfl (hb hby own_k32) rfl (feq hc56).2 (by decide) (by decide) kG) ?_
                obtain ⟨T8, X8, e8, st8⟩ := getS2 X0 hx hZ hown (host := "") (Or.inl (hw _ (List.mem_of_getElem? (i := 22) rfl))) Via.refl e0 S_OTHER (g := (mkF m 63 #[.val (.int x0)] [])) rfl (hb hby own_k35)
                refine Go.via (U' := T8.setTop (mkF m 66 #[.val (.int x0)] [(.ref a_OTHER)])) (fun tG kG => st8 tG kG) ?_
                exact go_retA X8 hx hlk hret rfl rfl rfl (hb hby own_k36) e8 ⟨(congrArg (fun z => some (Value.ref z)) (show a_OTHER = (own_f1 x0 a_USER_AGENT a_ALLOW a_DISALLOW a_SITEMAP a_HOST a_CLEAN_PARAM a_CRAWL_DELAY a_OTHER) from by unfold own_f1; simp only [if_neg hc1, if_neg hc10, if_neg hc19, if_neg hc28, if_neg hc37, if_neg hc46, if_neg hc56])), rfl, rfl⟩ (by decide) (by decide)
theorem own_pickP {P : Addr → Prop} (x0 : Int32) (a_USER_AGENT a_ALLOW a_DISALLOW a_SITEMAP a_HOST a_CLEAN_PARAM a_CRAWL_DELAY a_OTHER : Addr) (h0 : P a_USER_AGENT) (h1 : P a_ALLOW) (h2 : P a_DISALLOW) (h3 : P a_SITEMAP) (h4 : P a_HOST) (h5 : P a_CLEAN_PARAM) (h6 : P a_CRAWL_DELAY) (h7 : P a_OTHER) : P (own_f1 x0 a_USER_AGENT a_ALLOW a_DISALLOW a_SITEMAP a_HOST a_CLEAN_PARAM a_CRAWL_DELAY a_OTHER) := by
  unfold own_f1
  repeat' split
  all_goals assumption
theorem own_k38 (m : MethodId) (a : Addr) : entryFrame m #[(.ref a)] 1 = mkF m 0 #[.val (.ref a)] [] := by first | (simp [entryFrame, mkF, argsToLocals, Value.category]; done) | rfl
theorem own_k39 : decode prog_20_method_5_code 0 = .ok (.aload_n 0, 1) := by decide +kernel
theorem own_k40 : decode prog_20_method_5_code 1 = .ok (.getstatic 13, 3) := by decide +kernel
theorem own_k41 : decode prog_20_method_5_code 4 = .ok (.if_acmp .eq 24, 3) := by decide +kernel
theorem own_k42 : decode prog_20_method_5_code 28 = .ok (.iconst 1, 1) := by decide +kernel
theorem own_k43 : decode prog_20_method_5_code 29 = .ok (.goto 4, 3) := by decide +kernel
theorem own_k44 : decode prog_20_method_5_code 33 = .ok (.ireturn, 1) := by decide +kernel
theorem own_k45 : decode prog_20_method_5_code 7 = .ok (.aload_n 0, 1) := by decide +kernel
theorem own_k46 : decode prog_20_method_5_code 8 = .ok (.getstatic 16, 3) := by decide +kernel
theorem own_k47 : decode prog_20_method_5_code 11 = .ok (.if_acmp .eq 17, 3) := by decide +kernel
theorem own_k48 : decode prog_20_method_5_code 14 = .ok (.aload_n 0, 1) := by decide +kernel
theorem own_k49 : decode prog_20_method_5_code 15 = .ok (.getstatic 19, 3) := by decide +kernel
theorem own_k50 : decode prog_20_method_5_code 18 = .ok (.if_acmp .eq 10, 3) := by decide +kernel
theorem own_k51 : decode prog_20_method_5_code 21 = .ok (.aload_n 0, 1) := by decide +kernel
theorem own_k52 : decode prog_20_method_5_code 22 = .ok (.getstatic 22, 3) := by decide +kernel
theorem own_k53 : decode prog_20_method_5_code 25 = .ok (.if_acmp .ne 7, 3) := by decide +kernel
theorem own_k54 : decode prog_20_method_5_code 32 = .ok (.iconst 0, 1) := by decide +kernel
theorem own_k55 : plainName "com/example/sneinton/sneinton/RobotsLine$Field" = true := by first | (simp [plainName, overriddenIn]; done) | decide +kernel
def own_f2 (a : Addr) (a_SITEMAP : Addr) (a_HOST : Addr) (a_CLEAN_PARAM : Addr) (a_CRAWL_DELAY : Addr) : Int32 := (if a = a_SITEMAP then (1 : Int32) else (if a = a_HOST then (1 : Int32) else (if a = a_CLEAN_PARAM then (1 : Int32) else (if a = a_CRAWL_DELAY then (1 : Int32) else (0 : Int32)))))
set_option maxRecDepth 65536 in
set_option maxHeartbeats 40000000 in
theorem own_rm2 (l : Launch) (Z : State) (a0 : Array Value) (hw : ∀ d ∈ tables_1, d.before a0 Z = true) (ws : List Jvm.Cond) (a : Addr) (a_SITEMAP : Addr) (a_HOST : Addr) (a_CLEAN_PARAM : Addr) (a_CRAWL_DELAY : Addr) (h0 : Heap) (S_SITEMAP : Sta Z h0 "com/example/sneinton/sneinton/RobotsLine$Field" "SITEMAP" "Lcom/example/sneinton/sneinton/RobotsLine$Field;" (.ref a_SITEMAP)) (S_HOST : Sta Z h0 "com/example/sneinton/sneinton/RobotsLine$Field" "HOST" "Lcom/example/sneinton/sneinton/RobotsLine$Field;" (.ref a_HOST)) (S_CLEAN_PARAM : Sta Z h0 "com/example/sneinton/sneinton/RobotsLine$Field" "CLEAN_PARAM" "Lcom/example/sneinton/sneinton/RobotsLine$Field;" (.ref a_CLEAN_PARAM)) (S_CRAWL_DELAY : Sta Z h0 "com/example/sneinton/sneinton/RobotsLine$Field" "CRAWL_DELAY" "Lcom/example/sneinton/sneinton/RobotsLine$Field;" (.ref a_CRAWL_DELAY)) : Meets l Z (⟨"com/example/sneinton/sneinton/RobotsLine$Field", "isRecord", "()Z"⟩ : MethodName) prog_20_method_5_code 1 (some .boolean) ws ({ frames := 0, cells := 0, slots := 0, locals := 0 } : Room) #[(.ref a)] h0 (PureR (some (.int (own_f2 a a_SITEMAP a_HOST a_CLEAN_PARAM a_CRAWL_DELAY))) h0) := by
  refine meets_of (plainFor_of_name own_k55) ?_
  intro p e s m below meth c s₁ X0 hx hZ hby hml hret hlk hown hnm e0
  replace hml : c.maxLocals = 1 := hml
  replace hown : s.vm.findClass "com/example/sneinton/sneinton/RobotsLine$Field" = some m.cls := hown
  refine Go.cast (own_k38 m a) ?_
  refine Go.via (U' := s₁.setTop (mkF m 1 #[.val (.ref a)] [(.ref a)])) (fun tG kG => XS.aloadN X0.here hx rfl (hb hby own_k39) rfl rfl kG) ?_
  obtain ⟨T1, X1, e1, st1⟩ := getS2 X0 hx hZ hown (host := "") (Or.inl (hw _ (List.mem_of_getElem? (i := 12) rfl))) Via.refl e0 S_SITEMAP (g := (mkF m 1 #[.val (.ref a)] [(.ref a)])) rfl (hb hby own_k40)
  refine Go.via (U' := T1.setTop (mkF m 4 #[.val (.ref a)] [(.ref a_SITEMAP), (.ref a)])) (fun tG kG => st1 tG kG) ?_
  by_cases ha4 : a = a_SITEMAP
  · refine Go.via (U' := T1.setTop (mkF m 28 #[.val (.ref a)] [])) (fun tG kG => Jvm.RoadKit.acmp (g := (mkF m 4 #[.val (.ref a)] [(.ref a_SITEMAP), (.ref a)])) X1 hx rfl rfl rfl (pc0 := 4) (pc' := 28) (same := true) rfl (hb hby own_k41) rfl (decide_eq_true (congrArg Value.ref ha4)) (by decide) (by decide) kG) ?_
    refine Go.via (U' := T1.setTop (mkF m 29 #[.val (.ref a)] [(.int (1 : Int32))])) (fun tG kG => XS.iconst X1.here hx rfl (hb hby own_k42) kG) ?_
    refine Go.via (U' := T1.setTop (mkF m 33 #[.val (.ref a)] [(.int (1 : Int32))])) (fun tG kG => XS.goto X1.here hx rfl (pc0 := 29) (pc' := 33) rfl (hb hby own_k43) (by decide) (by decide) kG) ?_
    exact go_retN X1 hx hlk (t := .boolean) hret (by simp) (hb hby own_k44) e1 ⟨(congrArg (fun z => some (Value.int z)) (show nar .boolean (1 : Int32) = (own_f2 a a_SITEMAP a_HOST a_CLEAN_PARAM a_CRAWL_DELAY) from by unfold own_f2; simp only [if_pos ha4] <;> rfl)), rfl, rfl⟩ (by decide) (by decide)
  · refine Go.via (U' := T1.setTop (mkF m 7 #[.val (.ref a)] [])) (fun tG kG => Jvm.RoadKit.acmp (g := (mkF m 4 #[.val (.ref a)] [(.ref a_SITEMAP), (.ref a)])) X1 hx rfl rfl rfl (pc0 := 4) (pc' := 7) (same := false) rfl (hb hby own_k41) rfl (decide_eq_false fun q => ha4 (Value.ref.inj q)) (by decide) (by decide) kG) ?_
    refine Go.via (U' := T1.setTop (mkF m 8 #[.val (.ref a)] [(.ref a)])) (fun tG kG => XS.aloadN X1.here hx rfl (hb hby own_k45) rfl rfl kG) ?_
    obtain ⟨T2, X2, e2, st2⟩ := getS2 X1 hx hZ hown (host := "") (Or.inl (hw _ (List.mem_of_getElem? (i := 14) rfl))) Via.refl e1 S_HOST (g := (mkF m 8 #[.val (.ref a)] [(.ref a)])) rfl (hb hby own_k46)
    refine Go.via (U' := T2.setTop (mkF m 11 #[.val (.ref a)] [(.ref a_HOST), (.ref a)])) (fun tG kG => st2 tG kG) ?_
    by_cases ha11 : a = a_HOST
    · refine Go.via (U' := T2.setTop (mkF m 28 #[.val (.ref a)] [])) (fun tG kG => Jvm.RoadKit.acmp (g := (mkF m 11 #[.val (.ref a)] [(.ref a_HOST), (.ref a)])) X2 hx rfl rfl rfl (pc0 := 11) (pc' := 28) (same := true) rfl (hb hby own_k47) rfl (decide_eq_true (congrArg Value.ref ha11)) (by decide) (by decide) kG) ?_
      refine Go.via (U' := T2.setTop (mkF m 29 #[.val (.ref a)] [(.int (1 : Int32))])) (fun tG kG => XS.iconst X2.here hx rfl (hb hby own_k42) kG) ?_
      refine Go.via (U' := T2.setTop (mkF m 33 #[.val (.ref a)] [(.int (1 : Int32))])) (fun tG kG => XS.goto X2.here hx rfl (pc0 := 29) (pc' := 33) rfl (hb hby own_k43) (by decide) (by decide) kG) ?_
      exact go_retN X2 hx hlk (t := .boolean) hret (by simp) (hb hby own_k44) e2 ⟨(congrArg (fun z => some (Value.int z)) (show nar .boolean (1 : Int32) = (own_f2 a a_SITEMAP a_HOST a_CLEAN_PARAM a_CRAWL_DELAY) from by unfold own_f2; simp only [if_neg ha4, if_pos ha11] <;> rfl)), rfl, rfl⟩ (by decide) (by decide)
    · refine Go.via (U' := T2.setTop (mkF m 14 #[.val (.ref a)] [])) (fun tG kG => Jvm.RoadKit.acmp (g := (mkF m 11 #[.val (.ref a)] [(.ref a_HOST), (.ref a)])) X2 hx rfl rfl rfl (pc0 := 11) (pc' := 14) (same := false) rfl (hb hby own_k47) rfl (decide_eq_false fun q => ha11 (Value.ref.inj q)) (by decide) (by decide) kG) ?_
      refine Go.via (U' := T2.setTop (mkF m 15 #[.val (.ref a)] [(.ref a)])) (fun tG kG => XS.aloadN X2.here hx rfl (hb hby own_k48) rfl rfl kG) ?_
      obtain ⟨T3, X3, e3, st3⟩ := getS2 X2 hx hZ hown (host := "") (Or.inl (hw _ (List.mem_of_getElem? (i := 16) rfl))) Via.refl e2 S_CLEAN_PARAM (g := (mkF m 15 #[.val (.ref a)] [(.ref a)])) rfl (hb hby own_k49)
      refine Go.via (U' := T3.setTop (mkF m 18 #[.val (.ref a)] [(.ref a_CLEAN_PARAM), (.ref a)])) (fun tG kG => st3 tG kG) ?_
      by_cases ha18 : a = a_CLEAN_PARAM
      · refine Go.via (U' := T3.setTop (mkF m 28 #[.val (.ref a)] [])) (fun tG kG => Jvm.RoadKit.acmp (g := (mkF m 18 #[.val (.ref a)] [(.ref a_CLEAN_PARAM), (.ref a)])) X3 hx rfl rfl rfl (pc0 := 18) (pc' := 28) (same := true) rfl (hb hby own_k50) rfl (decide_eq_true (congrArg Value.ref ha18)) (by decide) (by decide) kG) ?_
        refine Go.via (U' := T3.setTop (mkF m 29 #[.val (.ref a)] [(.int (1 : Int32))])) (fun tG kG => XS.iconst X3.here hx rfl (hb hby own_k42) kG) ?_
        refine Go.via (U' := T3.setTop (mkF m 33 #[.val (.ref a)] [(.int (1 : Int32))])) (fun tG kG => XS.goto X3.here hx rfl (pc0 := 29) (pc' := 33) rfl (hb hby own_k43) (by decide) (by decide) kG) ?_
        exact go_retN X3 hx hlk (t := .boolean) hret (by simp) (hb hby own_k44) e3 ⟨(congrArg (fun z => some (Value.int z)) (show nar .boolean (1 : Int32) = (own_f2 a a_SITEMAP a_HOST a_CLEAN_PARAM a_CRAWL_DELAY) from by unfold own_f2; simp only [if_neg ha4, if_neg ha11, if_pos ha18] <;> rfl)), rfl, rfl⟩ (by decide) (by decide)
      · refine Go.via (U' := T3.setTop (mkF m 21 #[.val (.ref a)] [])) (fun tG kG => Jvm.RoadKit.acmp (g := (mkF m 18 #[.val (.ref a)] [(.ref a_CLEAN_PARAM), (.ref a)])) X3 hx rfl rfl rfl (pc0 := 18) (pc' := 21) (same := false) rfl (hb hby own_k50) rfl (decide_eq_false fun q => ha18 (Value.ref.inj q)) (by decide) (by decide) kG) ?_
        refine Go.via (U' := T3.setTop (mkF m 22 #[.val (.ref a)] [(.ref a)])) (fun tG kG => XS.aloadN X3.here hx rfl (hb hby own_k51) rfl rfl kG) ?_
        obtain ⟨T4, X4, e4, st4⟩ := getS2 X3 hx hZ hown (host := "") (Or.inl (hw _ (List.mem_of_getElem? (i := 18) rfl))) Via.refl e3 S_CRAWL_DELAY (g := (mkF m 22 #[.val (.ref a)] [(.ref a)])) rfl (hb hby own_k52)
        refine Go.via (U' := T4.setTop (mkF m 25 #[.val (.ref a)] [(.ref a_CRAWL_DELAY), (.ref a)])) (fun tG kG => st4 tG kG) ?_
        by_cases ha25 : a = a_CRAWL_DELAY
        · refine Go.via (U' := T4.setTop (mkF m 28 #[.val (.ref a)] [])) (fun tG kG => Jvm.RoadKit.acmp (g := (mkF m 25 #[.val (.ref a)] [(.ref a_CRAWL_DELAY), (.ref a)])) X4 hx rfl rfl rfl (pc0 := 25) (pc' := 28) (same := true) rfl (hb hby own_k53) rfl (decide_eq_true (congrArg Value.ref ha25)) (by decide) (by decide) kG) ?_
          refine Go.via (U' := T4.setTop (mkF m 29 #[.val (.ref a)] [(.int (1 : Int32))])) (fun tG kG => XS.iconst X4.here hx rfl (hb hby own_k42) kG) ?_
          refine Go.via (U' := T4.setTop (mkF m 33 #[.val (.ref a)] [(.int (1 : Int32))])) (fun tG kG => XS.goto X4.here hx rfl (pc0 := 29) (pc' := 33) rfl (hb hby own_k43) (by decide) (by decide) kG) ?_
          exact go_retN X4 hx hlk (t := .boolean) hret (by simp) (hb hby own_k44) e4 ⟨(congrArg (fun z => some (Value.int z)) (show nar .boolean (1 : Int32) = (own_f2 a a_SITEMAP a_HOST a_CLEAN_PARAM a_CRAWL_DELAY) from by unfold own_f2; simp only [if_neg ha4, if_neg ha11, if_neg ha18, if_pos ha25] <;> rfl)), rfl, rfl⟩ (by decide) (by decide)
        · refine Go.via (U' := T4.setTop (mkF m 32 #[.val (.ref a)] [])) (fun tG kG => Jvm.RoadKit.acmp (g := (mkF m 25 #[.val (.ref a)] [(.ref a_CRAWL_DELAY), (.ref a)])) X4 hx rfl rfl rfl (pc0 := 25) (pc' := 32) (same := false) rfl (hb hby own_k53) rfl (decide_eq_false fun q => ha25 (Value.ref.inj q)) (by decide) (by decide) kG) ?_
          refine Go.via (U' := T4.setTop (mkF m 33 #[.val (.ref a)] [(.int (0 : Int32))])) (fun tG kG => XS.iconst X4.here hx rfl (hb hby own_k54) kG) ?_
          exact go_retN X4 hx hlk (t := .boolean) hret (by simp) (hb hby own_k44) e4 ⟨(congrArg (fun z => some (Value.int z)) (show nar .boolean (0 : Int32) = (own_f2 a a_SITEMAP a_HOST a_CLEAN_PARAM a_CRAWL_DELAY) from by unfold own_f2; simp only [if_neg ha4, if_neg ha11, if_neg ha18, if_neg ha25] <;> rfl)), rfl, rfl⟩ (by decide) (by decide)
theorem own_k56 (m : MethodId) (x0 : Int32) : entryFrame m #[(.int x0)] maxLocals = mkF m 0 #[.val (.int x0), .unset, .unset, .unset] [] := by first | (simp [entryFrame, mkF, argsToLocals, Value.category, maxLocals]; done) | rfl
theorem own_k57 : parseMethodDescriptor "(I)Lcom/example/sneinton/sneinton/RobotsLine$Field;" = some ⟨[.int], some (.object "com/example/sneinton/sneinton/RobotsLine$Field")⟩ := by decide +kernel
def own_j0_12_s0 (x0 : Int32) : Int32 := (if (x0 &&& (7 : Int32)) < (3 : Int32) then (0 : Int32) else (if (6 : Int32) < (x0 &&& (7 : Int32)) then (0 : Int32) else (1 : Int32)))
theorem own_k58 : parseMethodDescriptor "()Z" = some ⟨[], some .boolean⟩ := by decide +kernel
def own_f0 (x0 : Int32) (a_USER_AGENT : Addr) (a_ALLOW : Addr) (a_DISALLOW : Addr) (a_SITEMAP : Addr) (a_HOST : Addr) (a_CLEAN_PARAM : Addr) (a_CRAWL_DELAY : Addr) (a_OTHER : Addr) : Int32 := (if (own_f2 (own_f1 (x0 &&& (7 : Int32)) a_USER_AGENT a_ALLOW a_DISALLOW a_SITEMAP a_HOST a_CLEAN_PARAM a_CRAWL_DELAY a_OTHER) a_SITEMAP a_HOST a_CLEAN_PARAM a_CRAWL_DELAY) = (own_j0_12_s0 x0) then (1 : Int32) else (0 : Int32))
set_option maxRecDepth 65536 in
set_option maxHeartbeats 40000000 in
theorem own_rm0 (l : Launch) (Z : State) (a0 : Array Value) (hw : ∀ d ∈ tables_1, d.before a0 Z = true) (ws : List Jvm.Cond) (x0 : Int32) (a_USER_AGENT : Addr) (a_SITEMAP : Addr) (a_HOST : Addr) (a_CLEAN_PARAM : Addr) (a_CRAWL_DELAY : Addr) (a_OTHER : Addr) (a_DISALLOW : Addr) (a_ALLOW : Addr) (h0 : Heap) (E_a_USER_AGENT : Exa Z h0 a_USER_AGENT "com/example/sneinton/sneinton/RobotsLine$Field") (F_a_USER_AGENT_ordinal : Fld Z h0 a_USER_AGENT "java/lang/Enum" "ordinal" "I" (.int (0 : Int32))) (E_a_SITEMAP : Exa Z h0 a_SITEMAP "com/example/sneinton/sneinton/RobotsLine$Field") (F_a_SITEMAP_ordinal : Fld Z h0 a_SITEMAP "java/lang/Enum" "ordinal" "I" (.int (3 : Int32))) (E_a_HOST : Exa Z h0 a_HOST "com/example/sneinton/sneinton/RobotsLine$Field") (F_a_HOST_ordinal : Fld Z h0 a_HOST "java/lang/Enum" "ordinal" "I" (.int (4 : Int32))) (E_a_CLEAN_PARAM : Exa Z h0 a_CLEAN_PARAM "com/example/sneinton/sneinton/RobotsLine$Field") (F_a_CLEAN_PARAM_ordinal : Fld Z h0 a_CLEAN_PARAM "java/lang/Enum" "ordinal" "I" (.int (5 : Int32))) (E_a_CRAWL_DELAY : Exa Z h0 a_CRAWL_DELAY "com/example/sneinton/sneinton/RobotsLine$Field") (F_a_CRAWL_DELAY_ordinal : Fld Z h0 a_CRAWL_DELAY "java/lang/Enum" "ordinal" "I" (.int (6 : Int32))) (E_a_OTHER : Exa Z h0 a_OTHER "com/example/sneinton/sneinton/RobotsLine$Field") (F_a_OTHER_ordinal : Fld Z h0 a_OTHER "java/lang/Enum" "ordinal" "I" (.int (7 : Int32))) (E_a_DISALLOW : Exa Z h0 a_DISALLOW "com/example/sneinton/sneinton/RobotsLine$Field") (F_a_DISALLOW_ordinal : Fld Z h0 a_DISALLOW "java/lang/Enum" "ordinal" "I" (.int (2 : Int32))) (E_a_ALLOW : Exa Z h0 a_ALLOW "com/example/sneinton/sneinton/RobotsLine$Field") (F_a_ALLOW_ordinal : Fld Z h0 a_ALLOW "java/lang/Enum" "ordinal" "I" (.int (1 : Int32))) (S_USER_AGENT : Sta Z h0 "com/example/sneinton/sneinton/RobotsLine$Field" "USER_AGENT" "Lcom/example/sneinton/sneinton/RobotsLine$Field;" (.ref a_USER_AGENT)) (S_SITEMAP : Sta Z h0 "com/example/sneinton/sneinton/RobotsLine$Field" "SITEMAP" "Lcom/example/sneinton/sneinton/RobotsLine$Field;" (.ref a_SITEMAP)) (S_HOST : Sta Z h0 "com/example/sneinton/sneinton/RobotsLine$Field" "HOST" "Lcom/example/sneinton/sneinton/RobotsLine$Field;" (.ref a_HOST)) (S_CLEAN_PARAM : Sta Z h0 "com/example/sneinton/sneinton/RobotsLine$Field" "CLEAN_PARAM" "Lcom/example/sneinton/sneinton/RobotsLine$Field;" (.ref a_CLEAN_PARAM)) (S_CRAWL_DELAY : Sta Z h0 "com/example/sneinton/sneinton/RobotsLine$Field" "CRAWL_DELAY" "Lcom/example/sneinton/sneinton/RobotsLine$Field;" (.ref a_CRAWL_DELAY)) (S_OTHER : Sta Z h0 "com/example/sneinton/sneinton/RobotsLine$Field" "OTHER" "Lcom/example/sneinton/sneinton/RobotsLine$Field;" (.ref a_OTHER)) (S_DISALLOW : Sta Z h0 "com/example/sneinton/sneinton/RobotsLine$Field" "DISALLOW" "Lcom/example/sneinton/sneinton/RobotsLine$Field;" (.ref a_DISALLOW)) (S_ALLOW : Sta Z h0 "com/example/sneinton/sneinton/RobotsLine$Field" "ALLOW" "Lcom/example/sneinton/sneinton/RobotsLine$Field;" (.ref a_ALLOW)) : Meets l Z x code maxLocals ret ws room_1 #[(.int x0)] h0 (PureR (some (.int (own_f0 x0 a_USER_AGENT a_ALLOW a_DISALLOW a_SITEMAP a_HOST a_CLEAN_PARAM a_CRAWL_DELAY a_OTHER))) h0) := by
  refine meets_of (plainFor_of_name own_k37) ?_
  intro p e s m below meth c s₁ X0 hx hZ hby hml hret hlk hown hnm e0
  replace hml : c.maxLocals = 4 := hml
  replace hown : s.vm.findClass "com/example/sneinton/sneinton/FieldIsRecordPinLaw" = some m.cls := hown
  refine Go.cast (own_k56 m x0) ?_
  refine Go.via (U' := s₁.setTop (mkF m 1 #[.val (.int x0), .unset, .unset, .unset] [(.int x0)])) (fun tG kG => XS.iloadN X0.here hx rfl (hb hby at_0) rfl kG) ?_
  refine Go.via (U' := s₁.setTop (mkF m 3 #[.val (.int x0), .unset, .unset, .unset] [(.int (7 : Int32)), (.int x0)])) (fun tG kG => XS.bipush X0.here hx rfl (hb hby at_1) kG) ?_
  refine Go.via (U' := s₁.setTop (mkF m 4 #[.val (.int x0), .unset, .unset, .unset] [(.int (x0 &&& (7 : Int32)))])) (fun tG kG => XS.iand X0.here hx rfl (hb hby at_3) rfl kG) ?_
  refine Go.via (U' := s₁.setTop (mkF m 5 #[.val (.int x0), .val (.int (x0 &&& (7 : Int32))), .unset, .unset] [])) (fun tG kG => XS.istoreN X0.here hx rfl (hb hby at_4) rfl (l' := #[.val (.int x0), .val (.int (x0 &&& (7 : Int32))), .unset, .unset]) rfl kG) ?_
  refine Go.via (U' := s₁.setTop (mkF m 6 #[.val (.int x0), .val (.int (x0 &&& (7 : Int32))), .unset, .unset] [(.int (x0 &&& (7 : Int32)))])) (fun tG kG => XS.iloadN X0.here hx rfl (hb hby at_5) rfl kG) ?_
  obtain ⟨T1, X1, e1, st1⟩ := callS0 X0 hx hZ hown (hw _ (List.mem_of_getElem? (i := 0) rfl)) (hw _ (List.mem_of_getElem? (i := 1) rfl)) (hw _ (List.mem_of_getElem? (i := 2) rfl)) (hw _ (List.mem_of_getElem? (i := 3) rfl)) (by decide) (av := [(.int (x0 &&& (7 : Int32)))]) (own_rm1 l Z a0 hw [] (x0 &&& (7 : Int32)) a_USER_AGENT a_ALLOW a_DISALLOW a_SITEMAP a_HOST a_CLEAN_PARAM a_CRAWL_DELAY a_OTHER h0 S_USER_AGENT S_ALLOW S_DISALLOW S_SITEMAP S_HOST S_CLEAN_PARAM S_CRAWL_DELAY S_OTHER) e0 (pc := 6) (Ls := #[.val (.int x0), .val (.int (x0 &&& (7 : Int32))), .unset, .unset]) (rest := []) (by rw [hml]; rfl) own_k57 rfl 0 (Nat.le_of_eq rfl) (by decide) (by decide) (by decide) (by decide) (hb hby at_6)
  refine Go.via (U' := T1.setTop (mkF m 9 #[.val (.int x0), .val (.int (x0 &&& (7 : Int32))), .unset, .unset] [(.ref (own_f1 (x0 &&& (7 : Int32)) a_USER_AGENT a_ALLOW a_DISALLOW a_SITEMAP a_HOST a_CLEAN_PARAM a_CRAWL_DELAY a_OTHER))])) (fun tG kG => st1 tG kG) ?_
  refine Go.via (U' := T1.setTop (mkF m 10 #[.val (.int x0), .val (.int (x0 &&& (7 : Int32))), .val (.ref (own_f1 (x0 &&& (7 : Int32)) a_USER_AGENT a_ALLOW a_DISALLOW a_SITEMAP a_HOST a_CLEAN_PARAM a_CRAWL_DELAY a_OTHER)), .unset] [])) (fun tG kG => XS.astoreN X1.here hx rfl (hb hby at_9) rfl rfl (l' := #[.val (.int x0), .val (.int (x0 &&& (7 : Int32))), .val (.ref (own_f1 (x0 &&& (7 : Int32)) a_USER_AGENT a_ALLOW a_DISALLOW a_SITEMAP a_HOST a_CLEAN_PARAM a_CRAWL_DELAY a_OTHER)), .unset]) rfl kG) ?_
  refine Go.via (U' := T1.setTop (mkF m 11 #[.val (.int x0), .val (.int (x0 &&& (7 : Int32))), .val (.ref (own_f1 (x0 &&& (7 : Int32)) a_USER_AGENT a_ALLOW a_DISALLOW a_SITEMAP a_HOST a_CLEAN_PARAM a_CRAWL_DELAY a_OTHER)), .unset] [(.int (x0 &&& (7 : Int32)))])) (fun tG kG => XS.iloadN X1.here hx rfl (hb hby at_10) rfl kG) ?_
  refine Go.via (U' := T1.setTop (mkF m 12 #[.val (.int x0), .val (.int (x0 &&& (7 : Int32))), .val (.ref (own_f1 (x0 &&& (7 : Int32)) a_USER_AGENT a_ALLOW a_DISALLOW a_SITEMAP a_HOST a_CLEAN_PARAM a_CRAWL_DELAY a_OTHER)), .unset] [(.int (3 : Int32)), (.int (x0 &&& (7 : Int32)))])) (fun tG kG => XS.iconst X1.here hx rfl (hb hby at_11) kG) ?_
  have J2 : ∀ T', Stand p l e room_1 s m #[(.int x0)] below meth c T' [] 0 0 → T'.heap = h0 → Go p e below s room_1.cells room_1.slots (PureR (some (.int (own_f0 x0 a_USER_AGENT a_ALLOW a_DISALLOW a_SITEMAP a_HOST a_CLEAN_PARAM a_CRAWL_DELAY a_OTHER))) h0) (T'.setTop (mkF m 26 #[.val (.int x0), .val (.int (x0 &&& (7 : Int32))), .val (.ref (own_f1 (x0 &&& (7 : Int32)) a_USER_AGENT a_ALLOW a_DISALLOW a_SITEMAP a_HOST a_CLEAN_PARAM a_CRAWL_DELAY a_OTHER)), .unset] [(.int (own_j0_12_s0 x0))])) := by
    intro T3 X4 e5
    refine Go.via (U' := T3.setTop (mkF m 27 #[.val (.int x0), .val (.int (x0 &&& (7 : Int32))), .val (.ref (own_f1 (x0 &&& (7 : Int32)) a_USER_AGENT a_ALLOW a_DISALLOW a_SITEMAP a_HOST a_CLEAN_PARAM a_CRAWL_DELAY a_OTHER)), .val (.int (own_j0_12_s0 x0))] [])) (fun tG kG => XS.istoreN X4.here hx rfl (hb hby at_26) rfl (l' := #[.val (.int x0), .val (.int (x0 &&& (7 : Int32))), .val (.ref (own_f1 (x0 &&& (7 : Int32)) a_USER_AGENT a_ALLOW a_DISALLOW a_SITEMAP a_HOST a_CLEAN_PARAM a_CRAWL_DELAY a_OTHER)), .val (.int (own_j0_12_s0 x0))]) rfl kG) ?_
    refine Go.via (U' := T3.setTop (mkF m 28 #[.val (.int x0), .val (.int (x0 &&& (7 : Int32))), .val (.ref (own_f1 (x0 &&& (7 : Int32)) a_USER_AGENT a_ALLOW a_DISALLOW a_SITEMAP a_HOST a_CLEAN_PARAM a_CRAWL_DELAY a_OTHER)), .val (.int (own_j0_12_s0 x0))] [(.ref (own_f1 (x0 &&& (7 : Int32)) a_USER_AGENT a_ALLOW a_DISALLOW a_SITEMAP a_HOST a_CLEAN_PARAM a_CRAWL_DELAY a_OTHER))])) (fun tG kG => XS.aloadN X4.here hx rfl (hb hby at_27) rfl rfl kG) ?_
    have E_A : Exa Z h0 (own_f1 (x0 &&& (7 : Int32)) a_USER_AGENT a_ALLOW a_DISALLOW a_SITEMAP a_HOST a_CLEAN_PARAM a_CRAWL_DELAY a_OTHER) "com/example/sneinton/sneinton/RobotsLine$Field" := own_pickP (P := fun a => Exa Z h0 a "com/example/sneinton/sneinton/RobotsLine$Field") _ a_USER_AGENT a_ALLOW a_DISALLOW a_SITEMAP a_HOST a_CLEAN_PARAM a_CRAWL_DELAY a_OTHER E_a_USER_AGENT E_a_ALLOW E_a_DISALLOW E_a_SITEMAP E_a_HOST E_a_CLEAN_PARAM E_a_CRAWL_DELAY E_a_OTHER
    obtain ⟨T6, X6, e6, st6⟩ := callV0 X4 hx hZ hown (hw _ (List.mem_of_getElem? (i := 7) rfl)) (hw _ (List.mem_of_getElem? (i := 8) rfl)) (hw _ (List.mem_of_getElem? (i := 10) rfl)) (hw _ (List.mem_of_getElem? (i := 9) rfl)) (hw _ (List.mem_of_getElem? (i := 5) rfl)) (hw _ (List.mem_of_getElem? (i := 11) rfl)) (by decide) (b := (own_f1 (x0 &&& (7 : Int32)) a_USER_AGENT a_ALLOW a_DISALLOW a_SITEMAP a_HOST a_CLEAN_PARAM a_CRAWL_DELAY a_OTHER)) (av := []) E_A (own_rm2 l Z a0 hw [] (own_f1 (x0 &&& (7 : Int32)) a_USER_AGENT a_ALLOW a_DISALLOW a_SITEMAP a_HOST a_CLEAN_PARAM a_CRAWL_DELAY a_OTHER) a_SITEMAP a_HOST a_CLEAN_PARAM a_CRAWL_DELAY h0 S_SITEMAP S_HOST S_CLEAN_PARAM S_CRAWL_DELAY) e5 (pc := 28) (Ls := #[.val (.int x0), .val (.int (x0 &&& (7 : Int32))), .val (.ref (own_f1 (x0 &&& (7 : Int32)) a_USER_AGENT a_ALLOW a_DISALLOW a_SITEMAP a_HOST a_CLEAN_PARAM a_CRAWL_DELAY a_OTHER)), .val (.int (own_j0_12_s0 x0))]) (rest := []) (by rw [hml]; rfl) own_k58 rfl 0 (Nat.le_of_eq rfl) (by decide) (by decide) (by decide) (by decide) (hb hby at_28)
    refine Go.via (U' := T6.setTop (mkF m 31 #[.val (.int x0), .val (.int (x0 &&& (7 : Int32))), .val (.ref (own_f1 (x0 &&& (7 : Int32)) a_USER_AGENT a_ALLOW a_DISALLOW a_SITEMAP a_HOST a_CLEAN_PARAM a_CRAWL_DELAY a_OTHER)), .val (.int (own_j0_12_s0 x0))] [(.int (own_f2 (own_f1 (x0 &&& (7 : Int32)) a_USER_AGENT a_ALLOW a_DISALLOW a_SITEMAP a_HOST a_CLEAN_PARAM a_CRAWL_DELAY a_OTHER) a_SITEMAP a_HOST a_CLEAN_PARAM a_CRAWL_DELAY))])) (fun tG kG => st6 tG kG) ?_
    refine Go.via (U' := T6.setTop (mkF m 32 #[.val (.int x0), .val (.int (x0 &&& (7 : Int32))), .val (.ref (own_f1 (x0 &&& (7 : Int32)) a_USER_AGENT a_ALLOW a_DISALLOW a_SITEMAP a_HOST a_CLEAN_PARAM a_CRAWL_DELAY a_OTHER)), .val (.int (own_j0_12_s0 x0))] [(.int (own_j0_12_s0 x0)), (.int (own_f2 (own_f1 (x0 &&& (7 : Int32)) a_USER_AGENT a_ALLOW a_DISALLOW a_SITEMAP a_HOST a_CLEAN_PARAM a_CRAWL_DELAY a_OTHER) a_SITEMAP a_HOST a_CLEAN_PARAM a_CRAWL_DELAY))])) (fun tG kG => XS.iloadN X6.here hx rfl (hb hby at_31) rfl kG) ?_
    by_cases hc32 : (own_f2 (own_f1 (x0 &&& (7 : Int32)) a_USER_AGENT a_ALLOW a_DISALLOW a_SITEMAP a_HOST a_CLEAN_PARAM a_CRAWL_DELAY a_OTHER) a_SITEMAP a_HOST a_CLEAN_PARAM a_CRAWL_DELAY) = (own_j0_12_s0 x0)
    · refine Go.via (U' := T6.setTop (mkF m 35 #[.val (.int x0), .val (.int (x0 &&& (7 : Int32))), .val (.ref (own_f1 (x0 &&& (7 : Int32)) a_USER_AGENT a_ALLOW a_DISALLOW a_SITEMAP a_HOST a_CLEAN_PARAM a_CRAWL_DELAY a_OTHER)), .val (.int (own_j0_12_s0 x0))] [])) (fun tG kG => XS.icmpNo X6.here hx rfl (hb hby at_32) rfl (teq hc32).2 kG) ?_
      refine Go.via (U' := T6.setTop (mkF m 36 #[.val (.int x0), .val (.int (x0 &&& (7 : Int32))), .val (.ref (own_f1 (x0 &&& (7 : Int32)) a_USER_AGENT a_ALLOW a_DISALLOW a_SITEMAP a_HOST a_CLEAN_PARAM a_CRAWL_DELAY a_OTHER)), .val (.int (own_j0_12_s0 x0))] [(.int (1 : Int32))])) (fun tG kG => XS.iconst X6.here hx rfl (hb hby at_35) kG) ?_
      refine Go.via (U' := T6.setTop (mkF m 40 #[.val (.int x0), .val (.int (x0 &&& (7 : Int32))), .val (.ref (own_f1 (x0 &&& (7 : Int32)) a_USER_AGENT a_ALLOW a_DISALLOW a_SITEMAP a_HOST a_CLEAN_PARAM a_CRAWL_DELAY a_OTHER)), .val (.int (own_j0_12_s0 x0))] [(.int (1 : Int32))])) (fun tG kG => XS.goto X6.here hx rfl (pc0 := 36) (pc' := 40) rfl (hb hby at_36) (by decide) (by decide) kG) ?_
      exact go_retN X6 hx hlk (t := .boolean) hret (by simp) (hb hby at_40) e6 ⟨(congrArg (fun z => some (Value.int z)) (show nar .boolean (1 : Int32) = (own_f0 x0 a_USER_AGENT a_ALLOW a_DISALLOW a_SITEMAP a_HOST a_CLEAN_PARAM a_CRAWL_DELAY a_OTHER) from by unfold own_f0; simp only [if_pos hc32] <;> rfl)), rfl, rfl⟩ (by decide) (by decide)
    · refine Go.via (U' := T6.setTop (mkF m 39 #[.val (.int x0), .val (.int (x0 &&& (7 : Int32))), .val (.ref (own_f1 (x0 &&& (7 : Int32)) a_USER_AGENT a_ALLOW a_DISALLOW a_SITEMAP a_HOST a_CLEAN_PARAM a_CRAWL_DELAY a_OTHER)), .val (.int (own_j0_12_s0 x0))] [])) (fun tG kG => XS.icmpYes X6.here hx rfl (pc0 := 32) (pc' := 39) rfl (hb hby at_32) rfl (feq hc32).2 (by decide) (by decide) kG) ?_
      refine Go.via (U' := T6.setTop (mkF m 40 #[.val (.int x0), .val (.int (x0 &&& (7 : Int32))), .val (.ref (own_f1 (x0 &&& (7 : Int32)) a_USER_AGENT a_ALLOW a_DISALLOW a_SITEMAP a_HOST a_CLEAN_PARAM a_CRAWL_DELAY a_OTHER)), .val (.int (own_j0_12_s0 x0))] [(.int (0 : Int32))])) (fun tG kG => XS.iconst X6.here hx rfl (hb hby at_39) kG) ?_
      exact go_retN X6 hx hlk (t := .boolean) hret (by simp) (hb hby at_40) e6 ⟨(congrArg (fun z => some (Value.int z)) (show nar .boolean (0 : Int32) = (own_f0 x0 a_USER_AGENT a_ALLOW a_DISALLOW a_SITEMAP a_HOST a_CLEAN_PARAM a_CRAWL_DELAY a_OTHER) from by unfold own_f0; simp only [if_neg hc32] <;> rfl)), rfl, rfl⟩ (by decide) (by decide)
  by_cases hc12 : (x0 &&& (7 : Int32)) < (3 : Int32)
  · refine Go.via (U' := T1.setTop (mkF m 25 #[.val (.int x0), .val (.int (x0 &&& (7 : Int32))), .val (.ref (own_f1 (x0 &&& (7 : Int32)) a_USER_AGENT a_ALLOW a_DISALLOW a_SITEMAP a_HOST a_CLEAN_PARAM a_CRAWL_DELAY a_OTHER)), .unset] [])) (fun tG kG => XS.icmpYes X1.here hx rfl (pc0 := 12) (pc' := 25) rfl (hb hby at_12) rfl (tlt hc12).1 (by decide) (by decide) kG) ?_
    refine Go.via (U' := T1.setTop (mkF m 26 #[.val (.int x0), .val (.int (x0 &&& (7 : Int32))), .val (.ref (own_f1 (x0 &&& (7 : Int32)) a_USER_AGENT a_ALLOW a_DISALLOW a_SITEMAP a_HOST a_CLEAN_PARAM a_CRAWL_DELAY a_OTHER)), .unset] [(.int (0 : Int32))])) (fun tG kG => XS.iconst X1.here hx rfl (hb hby at_25) kG) ?_
    have q_own_j0_12_s0 : (own_j0_12_s0 x0) = (0 : Int32) := by unfold own_j0_12_s0; simp only [if_pos hc12]
    have q_J := J2 T1 X1 e1
    rw [q_own_j0_12_s0] at q_J
    exact q_J
  · refine Go.via (U' := T1.setTop (mkF m 15 #[.val (.int x0), .val (.int (x0 &&& (7 : Int32))), .val (.ref (own_f1 (x0 &&& (7 : Int32)) a_USER_AGENT a_ALLOW a_DISALLOW a_SITEMAP a_HOST a_CLEAN_PARAM a_CRAWL_DELAY a_OTHER)), .unset] [])) (fun tG kG => XS.icmpNo X1.here hx rfl (hb hby at_12) rfl (flt hc12).1 kG) ?_
    refine Go.via (U' := T1.setTop (mkF m 16 #[.val (.int x0), .val (.int (x0 &&& (7 : Int32))), .val (.ref (own_f1 (x0 &&& (7 : Int32)) a_USER_AGENT a_ALLOW a_DISALLOW a_SITEMAP a_HOST a_CLEAN_PARAM a_CRAWL_DELAY a_OTHER)), .unset] [(.int (x0 &&& (7 : Int32)))])) (fun tG kG => XS.iloadN X1.here hx rfl (hb hby at_15) rfl kG) ?_
    refine Go.via (U' := T1.setTop (mkF m 18 #[.val (.int x0), .val (.int (x0 &&& (7 : Int32))), .val (.ref (own_f1 (x0 &&& (7 : Int32)) a_USER_AGENT a_ALLOW a_DISALLOW a_SITEMAP a_HOST a_CLEAN_PARAM a_CRAWL_DELAY a_OTHER)), .unset] [(.int (6 : Int32)), (.int (x0 &&& (7 : Int32)))])) (fun tG kG => XS.bipush X1.here hx rfl (hb hby at_16) kG) ?_
    by_cases hc18 : (6 : Int32) < (x0 &&& (7 : Int32))
    · refine Go.via (U' := T1.setTop (mkF m 25 #[.val (.int x0), .val (.int (x0 &&& (7 : Int32))), .val (.ref (own_f1 (x0 &&& (7 : Int32)) a_USER_AGENT a_ALLOW a_DISALLOW a_SITEMAP a_HOST a_CLEAN_PARAM a_CRAWL_DELAY a_OTHER)), .unset] [])) (fun tG kG => XS.icmpYes X1.here hx rfl (pc0 := 18) (pc' := 25) rfl (hb hby at_18) rfl (tlt hc18).2.2.1 (by decide) (by decide) kG) ?_
      refine Go.via (U' := T1.setTop (mkF m 26 #[.val (.int x0), .val (.int (x0 &&& (7 : Int32))), .val (.ref (own_f1 (x0 &&& (7 : Int32)) a_USER_AGENT a_ALLOW a_DISALLOW a_SITEMAP a_HOST a_CLEAN_PARAM a_CRAWL_DELAY a_OTHER)), .unset] [(.int (0 : Int32))])) (fun tG kG => XS.iconst X1.here hx rfl (hb hby at_25) kG) ?_
      have q_own_j0_12_s0 : (own_j0_12_s0 x0) = (0 : Int32) := by unfold own_j0_12_s0; simp only [if_neg hc12, if_pos hc18]
      have q_J := J2 T1 X1 e1
      rw [q_own_j0_12_s0] at q_J
      exact q_J
    · refine Go.via (U' := T1.setTop (mkF m 21 #[.val (.int x0), .val (.int (x0 &&& (7 : Int32))), .val (.ref (own_f1 (x0 &&& (7 : Int32)) a_USER_AGENT a_ALLOW a_DISALLOW a_SITEMAP a_HOST a_CLEAN_PARAM a_CRAWL_DELAY a_OTHER)), .unset] [])) (fun tG kG => XS.icmpNo X1.here hx rfl (hb hby at_18) rfl (flt hc18).2.2.1 kG) ?_
      refine Go.via (U' := T1.setTop (mkF m 22 #[.val (.int x0), .val (.int (x0 &&& (7 : Int32))), .val (.ref (own_f1 (x0 &&& (7 : Int32)) a_USER_AGENT a_ALLOW a_DISALLOW a_SITEMAP a_HOST a_CLEAN_PARAM a_CRAWL_DELAY a_OTHER)), .unset] [(.int (1 : Int32))])) (fun tG kG => XS.iconst X1.here hx rfl (hb hby at_21) kG) ?_
      refine Go.via (U' := T1.setTop (mkF m 26 #[.val (.int x0), .val (.int (x0 &&& (7 : Int32))), .val (.ref (own_f1 (x0 &&& (7 : Int32)) a_USER_AGENT a_ALLOW a_DISALLOW a_SITEMAP a_HOST a_CLEAN_PARAM a_CRAWL_DELAY a_OTHER)), .unset] [(.int (1 : Int32))])) (fun tG kG => XS.goto X1.here hx rfl (pc0 := 22) (pc' := 26) rfl (hb hby at_22) (by decide) (by decide) kG) ?_
      have q_own_j0_12_s0 : (own_j0_12_s0 x0) = (1 : Int32) := by unfold own_j0_12_s0; simp only [if_neg hc12, if_neg hc18]
      have q_J := J2 T1 X1 e1
      rw [q_own_j0_12_s0] at q_J
      exact q_J
theorem own_plain (x0 : Int32) (a_USER_AGENT a_ALLOW a_DISALLOW a_SITEMAP a_HOST a_CLEAN_PARAM a_CRAWL_DELAY a_OTHER : Addr) (h0 : a_USER_AGENT ≠ a_SITEMAP) (h1 : a_USER_AGENT ≠ a_HOST) (h2 : a_USER_AGENT ≠ a_CLEAN_PARAM) (h3 : a_USER_AGENT ≠ a_CRAWL_DELAY) (h4 : a_ALLOW ≠ a_SITEMAP) (h5 : a_ALLOW ≠ a_HOST) (h6 : a_ALLOW ≠ a_CLEAN_PARAM) (h7 : a_ALLOW ≠ a_CRAWL_DELAY) (h8 : a_DISALLOW ≠ a_SITEMAP) (h9 : a_DISALLOW ≠ a_HOST) (h10 : a_DISALLOW ≠ a_CLEAN_PARAM) (h11 : a_DISALLOW ≠ a_CRAWL_DELAY) (h12 : a_SITEMAP ≠ a_HOST) (h13 : a_SITEMAP ≠ a_CLEAN_PARAM) (h14 : a_SITEMAP ≠ a_CRAWL_DELAY) (h15 : a_SITEMAP ≠ a_OTHER) (h16 : a_HOST ≠ a_CLEAN_PARAM) (h17 : a_HOST ≠ a_CRAWL_DELAY) (h18 : a_HOST ≠ a_OTHER) (h19 : a_CLEAN_PARAM ≠ a_CRAWL_DELAY) (h20 : a_CLEAN_PARAM ≠ a_OTHER) (h21 : a_CRAWL_DELAY ≠ a_OTHER) : own_f0 x0 a_USER_AGENT a_ALLOW a_DISALLOW a_SITEMAP a_HOST a_CLEAN_PARAM a_CRAWL_DELAY a_OTHER = 1 := by
  have m := c_mask x0 7 3 (by decide) (by decide)
  unfold own_f0 own_j0_12_s0
  generalize x0 &&& 7 = i at *
  have hi : i = 0 ∨ i = 1 ∨ i = 2 ∨ i = 3 ∨ i = 4 ∨ i = 5 ∨ i = 6 ∨ i = 7 := by
    simp only [← Int32.toInt_inj, show (0 : Int32).toInt = 0 from rfl, show (1 : Int32).toInt = 1 from rfl, show (2 : Int32).toInt = 2 from rfl, show (3 : Int32).toInt = 3 from rfl, show (4 : Int32).toInt = 4 from rfl, show (5 : Int32).toInt = 5 from rfl, show (6 : Int32).toInt = 6 from rfl, show (7 : Int32).toInt = 7 from rfl]
    omega
  unfold own_f1 own_f2
  rcases hi with rfl | rfl | rfl | rfl | rfl | rfl | rfl | rfl
  all_goals simp +decide [h0, h0.symm, h1, h1.symm, h2, h2.symm, h3, h3.symm, h4, h4.symm, h5, h5.symm, h6, h6.symm, h7, h7.symm, h8, h8.symm, h9, h9.symm, h10, h10.symm, h11, h11.symm, h12, h12.symm, h13, h13.symm, h14, h14.symm, h15, h15.symm, h16, h16.symm, h17, h17.symm, h18, h18.symm, h19, h19.symm, h20, h20.symm, h21, h21.symm]
set_option maxRecDepth 65536 in
set_option maxHeartbeats 40000000 in
theorem own_comes {Post : Tables → Env → Array Value → State → Outcome → State → Prop} (hpost : ∀ tb e args s v u, (limb_1_1.after args s (.returned v) u = true ∧ limb_1_2.after args s (.returned v) u = true) → FrameEnd s (.returned v) u (Jvm.fieldLocs frame_1_writes args s ++ Jvm.arrayLocs frame_1_arrays args s ++ Jvm.staticLocs frame_1_statics s) 0 0 → Post tb e args s (.returned v) u) :
    ArmFor flags0 classFile x code maxLocals ret World_1 tables_1 room_1 Calls_1 rest_1 Pre_1 Post := by
  intro l hfl _ _ p e ha hc hk s m args below hf hA hF happ hP
  obtain ⟨hcalls, hrest, hpre⟩ := hP
  obtain ⟨-, -, -, hnamed, -, -, -, hat⟩ := (Spec.applies_iff hf).mp happ
  obtain ⟨hg, hn⟩ := and_e (Cond.before_iff.mp (show (Jvm.Cond.and given_1 narrow_1).before args s = true from hpre))
  obtain ⟨hcnt, hg⟩ := and_e hg
  obtain ⟨w0, rfl⟩ : ∃ w0 : Value, args = #[w0] := by
    have hs : args.size = 1 := by simpa [Cond.value, given_1] using hcnt
    obtain ⟨L⟩ := args
    match L, hs with
    | [w0], _ => exact ⟨w0, rfl⟩
  have hw := fun d (hd : d ∈ tables_1) => atoms_spec (ws := Jvm.Cond.code x code maxLocals ret :: tables_1) hat d (List.mem_cons_of_mem _ hd)
  have hfit : Fit s := fun {y c} hc i hi => by
    obtain ⟨ha, rfl⟩ := Array.getElem?_eq_some_iff.mp hc
    have q := List.all_eq_true.mp ((Array.all_eq_true_iff_forall_mem.mp hF) _ (Array.getElem_mem ha)) i (List.mem_range.mpr hi)
    simpa [Array.getElem?_eq_getElem hi] using q
  obtain ⟨i0, ei0⟩ := is_v hg
  obtain rfl : w0 = (.int i0) := Option.some.inj ei0
  obtain ⟨hn1, hn2⟩ := and_e hn
  obtain ⟨hn3, hn4⟩ := and_e hn2
  obtain ⟨hn5, hn6⟩ := and_e hn4
  obtain ⟨hn7, hn8⟩ := and_e hn6
  obtain ⟨hn9, hn10⟩ := and_e hn8
  obtain ⟨hn11, hn12⟩ := and_e hn10
  obtain ⟨hn13, hn14⟩ := and_e hn12
  obtain ⟨hn15, hn16⟩ := and_e hn14
  obtain ⟨hn17, hn18⟩ := and_e hn16
  obtain ⟨hn19, hn20⟩ := and_e hn18
  obtain ⟨hn21, hn22⟩ := and_e hn20
  obtain ⟨hn23, hn24⟩ := and_e hn22
  obtain ⟨hn25, hn26⟩ := and_e hn24
  obtain ⟨hn27, hn28⟩ := and_e hn26
  obtain ⟨hn29, hn30⟩ := and_e hn28
  obtain ⟨a_USER_AGENT, ev_USER_AGENT⟩ := exa_v hn1
  have E_USER_AGENT := Exa.start ev_USER_AGENT hn1
  have S_USER_AGENT := Sta.start ev_USER_AGENT (Or.inr ⟨(hw _ (List.mem_of_getElem? (i := 5) rfl)), (hw _ (List.mem_of_getElem? (i := 6) rfl))⟩)
  obtain ⟨a_SITEMAP, ev_SITEMAP⟩ := exa_v hn3
  have E_SITEMAP := Exa.start ev_SITEMAP hn3
  have S_SITEMAP := Sta.start ev_SITEMAP (Or.inr ⟨(hw _ (List.mem_of_getElem? (i := 5) rfl)), (hw _ (List.mem_of_getElem? (i := 13) rfl))⟩)
  obtain ⟨a_HOST, ev_HOST⟩ := exa_v hn9
  have E_HOST := Exa.start ev_HOST hn9
  have S_HOST := Sta.start ev_HOST (Or.inr ⟨(hw _ (List.mem_of_getElem? (i := 5) rfl)), (hw _ (List.mem_of_getElem? (i := 15) rfl))⟩)
  obtain ⟨a_CLEAN_PARAM, ev_CLEAN_PARAM⟩ := exa_v hn13
  have E_CLEAN_PARAM := Exa.start ev_CLEAN_PARAM hn13
  have S_CLEAN_PARAM := Sta.start ev_CLEAN_PARAM (Or.inr ⟨(hw _ (List.mem_of_getElem? (i := 5) rfl)), (hw _ (List.mem_of_getElem? (i := 17) rfl))⟩)
  obtain ⟨a_CRAWL_DELAY, ev_CRAWL_DELAY⟩ := exa_v hn17
  have E_CRAWL_DELAY := Exa.start ev_CRAWL_DELAY hn17
  have S_CRAWL_DELAY := Sta.start ev_CRAWL_DELAY (Or.inr ⟨(hw _ (List.mem_of_getElem? (i := 5) rfl)), (hw _ (List.mem_of_getElem? (i := 19) rfl))⟩)
  obtain ⟨a_OTHER, ev_OTHER⟩ := exa_v hn21
  have E_OTHER := Exa.start ev_OTHER hn21
  have S_OTHER := Sta.start ev_OTHER (Or.inr ⟨(hw _ (List.mem_of_getElem? (i := 5) rfl)), (hw _ (List.mem_of_getElem? (i := 23) rfl))⟩)
  obtain ⟨a_DISALLOW, ev_DISALLOW⟩ := exa_v hn25
  have E_DISALLOW := Exa.start ev_DISALLOW hn25
  have S_DISALLOW := Sta.start ev_DISALLOW (Or.inr ⟨(hw _ (List.mem_of_getElem? (i := 5) rfl)), (hw _ (List.mem_of_getElem? (i := 25) rfl))⟩)
  obtain ⟨a_ALLOW, ev_ALLOW⟩ := exa_v hn29
  have E_ALLOW := Exa.start ev_ALLOW hn29
  have S_ALLOW := Sta.start ev_ALLOW (Or.inr ⟨(hw _ (List.mem_of_getElem? (i := 5) rfl)), (hw _ (List.mem_of_getElem? (i := 27) rfl))⟩)
  have F_USER_AGENT_ordinal := Fld.start ((fld_at ev_USER_AGENT).symm.trans (own_eqI hn5))
  have F_SITEMAP_ordinal := Fld.start ((fld_at ev_SITEMAP).symm.trans (own_eqI hn7))
  have F_HOST_ordinal := Fld.start ((fld_at ev_HOST).symm.trans (own_eqI hn11))
  have F_CLEAN_PARAM_ordinal := Fld.start ((fld_at ev_CLEAN_PARAM).symm.trans (own_eqI hn15))
  have F_CRAWL_DELAY_ordinal := Fld.start ((fld_at ev_CRAWL_DELAY).symm.trans (own_eqI hn19))
  have F_OTHER_ordinal := Fld.start ((fld_at ev_OTHER).symm.trans (own_eqI hn23))
  have F_DISALLOW_ordinal := Fld.start ((fld_at ev_DISALLOW).symm.trans (own_eqI hn27))
  have F_ALLOW_ordinal := Fld.start ((fld_at ev_ALLOW).symm.trans (own_eqI hn30))
  obtain ⟨n, o, h1, h2, h3, _, L, rfl, ⟨rfl, -, rfl⟩, hq⟩ := own_rm0 l s _ hw tables_1 i0 a_USER_AGENT a_SITEMAP a_HOST a_CLEAN_PARAM a_CRAWL_DELAY a_OTHER a_DISALLOW a_ALLOW s.heap E_USER_AGENT F_USER_AGENT_ordinal E_SITEMAP F_SITEMAP_ordinal E_HOST F_HOST_ordinal E_CLEAN_PARAM F_CLEAN_PARAM_ordinal E_CRAWL_DELAY F_CRAWL_DELAY_ordinal E_OTHER F_OTHER_ordinal E_DISALLOW F_DISALLOW_ordinal E_ALLOW F_ALLOW_ordinal S_USER_AGENT S_SITEMAP S_HOST S_CLEAN_PARAM S_CRAWL_DELAY S_OTHER S_DISALLOW S_ALLOW p e ha hc hk s m _ below hf ((Spec.applies_iff_loose hf).mp happ).1 ⟨rfl, State.Warmed39.refl s, rfl⟩ trivial
  refine ⟨n, _, h1, h2, h3, hpost _ _ _ _ _ _ ⟨Cond.after_iff.mpr rfl, Cond.after_iff.mpr (eq_i res_at (Term.int_eval (1)) (congrArg Value.int (own_plain i0 a_USER_AGENT a_ALLOW a_DISALLOW a_SITEMAP a_HOST a_CLEAN_PARAM a_CRAWL_DELAY a_OTHER (Fld.ne F_USER_AGENT_ordinal F_SITEMAP_ordinal (by decide)) (Fld.ne F_USER_AGENT_ordinal F_HOST_ordinal (by decide)) (Fld.ne F_USER_AGENT_ordinal F_CLEAN_PARAM_ordinal (by decide)) (Fld.ne F_USER_AGENT_ordinal F_CRAWL_DELAY_ordinal (by decide)) (Fld.ne F_ALLOW_ordinal F_SITEMAP_ordinal (by decide)) (Fld.ne F_ALLOW_ordinal F_HOST_ordinal (by decide)) (Fld.ne F_ALLOW_ordinal F_CLEAN_PARAM_ordinal (by decide)) (Fld.ne F_ALLOW_ordinal F_CRAWL_DELAY_ordinal (by decide)) (Fld.ne F_DISALLOW_ordinal F_SITEMAP_ordinal (by decide)) (Fld.ne F_DISALLOW_ordinal F_HOST_ordinal (by decide)) (Fld.ne F_DISALLOW_ordinal F_CLEAN_PARAM_ordinal (by decide)) (Fld.ne F_DISALLOW_ordinal F_CRAWL_DELAY_ordinal (by decide)) (Fld.ne F_SITEMAP_ordinal F_HOST_ordinal (by decide)) (Fld.ne F_SITEMAP_ordinal F_CLEAN_PARAM_ordinal (by decide)) (Fld.ne F_SITEMAP_ordinal F_CRAWL_DELAY_ordinal (by decide)) (Fld.ne F_SITEMAP_ordinal F_OTHER_ordinal (by decide)) (Fld.ne F_HOST_ordinal F_CLEAN_PARAM_ordinal (by decide)) (Fld.ne F_HOST_ordinal F_CRAWL_DELAY_ordinal (by decide)) (Fld.ne F_HOST_ordinal F_OTHER_ordinal (by decide)) (Fld.ne F_CLEAN_PARAM_ordinal F_CRAWL_DELAY_ordinal (by decide)) (Fld.ne F_CLEAN_PARAM_ordinal F_OTHER_ordinal (by decide)) (Fld.ne F_CRAWL_DELAY_ordinal F_OTHER_ordinal (by decide)))))⟩ ⟨hq.1, hq.2.1, (hq.2.2.sift fun y hy => Or.inr (Fr.nil s.heap.size y hy)).mono (by decide) (by decide)⟩⟩
theorem main_1_1 : Claimed_1_1 := own_comes fun _ _ _ _ _ _ h hF => ⟨h.1, hF⟩
theorem main_1_2 : Claimed_1_2 := own_comes fun _ _ _ _ _ _ h hF => ⟨h.2, hF⟩
end Jvm.Pilot.@@N@@
namespace Jvm.Pilot.@@N@@
open Jvm Jvm.ClassFile Sem Op Lib Jvm.Free Jvm.Stand Jvm.Pilot.@@N@@.Jvm.D
/-! MADE BY PROGRAM (witnessworld.py) out of the Statement's table words and the real class files: 12 classes; the members and pool entries that the words name. The judged class is class 1, her method 1. -/
namespace start1
open Jvm.ClassFile
def u (s : String) : CpInfo := .utf8 (stringToUtf16 s)
/-- a pool by its gaps: so many unusable entries, then the entry; so many at the end -/
def gap : Nat → List CpInfo → List CpInfo
  | 0, r => r
  | n + 1, r => .unusable :: gap n r
def poolList (es : List (Nat × CpInfo)) (last : Nat) : List CpInfo := es.foldr (fun e r => gap e.1 (e.2 :: r)) (gap last [])
def pool (es : List (Nat × CpInfo)) (last : Nat) : Array CpInfo := ⟨poolList es last⟩
def fileOf (pool : Array CpInfo) (this : Nat) (attrs : Array Attribute := #[]) (ms : Array MethodInfo := #[]) (fl : Nat := 33) (sup : Nat := 0) (ifs : Array Nat := #[]) (fds : Array FieldInfo := #[]) : ClassFile where
  minorVersion := 0
  majorVersion := 65
  constantPool := pool
  accessFlags := fl
  thisClass := this
  superClass := sup
  interfaces := ifs
  fields := fds
  methods := ms
  attributes := attrs
def plain (name : String) (sup : Option ClassId) : Class where
  name := name
  kind := .ordinary
  loader := none
  accessFlags := 33
  super := sup
  interfaces := #[]
  cf := none
  fields := #[]
  methods := #[]
  instanceTypes := #[]
  staticTypes := #[]
  resolved := #[]
  callSites := []
  init := .initialized
  statics := none
  mirror := none

def pool0 : Array CpInfo := pool [(5, u "<init>"), (0, u "()V"), (1, .class_ 10), (1, u "java/lang/Object")] 113

def k0m0 : Method := { name := "<init>", desc := "()V", sig := { parameters := [], returnType := none }, accessFlags := 1, code := none }
/-- java/lang/Object -/
def k0 : Class := { plain "java/lang/Object" none with
  accessFlags := 33
  interfaces := #[]
  cf := some (fileOf pool0 8 #[] #[{ accessFlags := 1, nameIndex := 5, descriptorIndex := 6, attributes := #[] }] 33 0 #[] #[])
  fields := #[]
  methods := #[k0m0]
  instanceTypes := #[]
  staticTypes := #[]
  resolved := Array.replicate 124 none
  statics := none }

def pool1 : Array CpInfo := pool [(2, .class_ 4), (1, u "java/lang/Object"), (0, u "<init>"), (0, u "()V"), (0, .methodref 8 9), (0, .class_ 10), (0, .nameAndType 11 12), (0, u "com/example/sneinton/sneinton/FieldIsRecordPinLaw"), (0, u "pick"), (0, u "(I)Lcom/example/sneinton/sneinton/RobotsLine$Field;"), (0, .methodref 14 15), (0, .class_ 16), (0, .nameAndType 17 18), (0, u "com/example/sneinton/sneinton/RobotsLine$Field"), (0, u "isRecord"), (0, u "()Z"), (0, .fieldref 14 20), (0, .nameAndType 21 22), (0, u "USER_AGENT"), (0, u "Lcom/example/sneinton/sneinton/RobotsLine$Field;"), (0, .fieldref 14 24), (0, .nameAndType 25 22), (0, u "ALLOW"), (0, .fieldref 14 27), (0, .nameAndType 28 22), (0, u "DISALLOW"), (0, .fieldref 14 30), (0, .nameAndType 31 22), (0, u "SITEMAP"), (0, .fieldref 14 33), (0, .nameAndType 34 22), (0, u "HOST"), (0, .fieldref 14 36), (0, .nameAndType 37 22), (0, u "CLEAN_PARAM"), (0, .fieldref 14 39), (0, .nameAndType 40 22), (0, u "CRAWL_DELAY"), (0, .fieldref 14 42), (0, .nameAndType 43 22), (0, u "OTHER"), (2, u "law"), (0, u "(I)Z")] 7

def k1m0 : Method := { name := "<init>", desc := "()V", sig := { parameters := [], returnType := none }, accessFlags := 2, code := none }
def k1c1 : Code := { maxStack := 2, maxLocals := 4, code := code, exceptionTable := #[], attributes := #[] }
def k1m1 : Method := { name := "law", desc := "(I)Z", sig := { parameters := [.int], returnType := some .boolean }, accessFlags := 9, code := some k1c1 }
def k1c2 : Code := { maxStack := 2, maxLocals := 1, code := method_3_code, exceptionTable := #[], attributes := #[] }
def k1m2 : Method := { name := "pick", desc := "(I)Lcom/example/sneinton/sneinton/RobotsLine$Field;", sig := { parameters := [.int], returnType := some (.object "com/example/sneinton/sneinton/RobotsLine$Field") }, accessFlags := 10, code := some k1c2 }
/-- com/example/sneinton/sneinton/FieldIsRecordPinLaw -/
def k1 : Class := { plain "com/example/sneinton/sneinton/FieldIsRecordPinLaw" (some 0) with
  accessFlags := 49
  interfaces := #[]
  cf := some (fileOf pool1 8 #[] #[{ accessFlags := 2, nameIndex := 5, descriptorIndex := 6, attributes := #[] }, { accessFlags := 9, nameIndex := 46, descriptorIndex := 47, attributes := #[] }, { accessFlags := 10, nameIndex := 11, descriptorIndex := 12, attributes := #[] }] 49 2 #[] #[])
  fields := #[]
  methods := #[k1m0, k1m1, k1m2]
  instanceTypes := #[]
  staticTypes := #[]
  resolved := Array.replicate 55 none
  statics := none }

def pool2 : Array CpInfo := pool [(1, .class_ 2), (0, u "java/lang/constant/Constable"), (0, .class_ 4), (0, u "java/lang/Object")] 6

/-- java/lang/constant/Constable -/
def k2 : Class := { plain "java/lang/constant/Constable" (some 0) with
  accessFlags := 1537
  interfaces := #[]
  cf := some (fileOf pool2 1 #[] #[] 1537 3 #[] #[])
  fields := #[]
  methods := #[]
  instanceTypes := #[]
  staticTypes := #[]
  resolved := Array.replicate 11 none
  statics := none }

def pool3 : Array CpInfo := pool [(1, .class_ 2), (0, u "java/lang/Comparable"), (0, .class_ 4), (0, u "java/lang/Object")] 7

/-- java/lang/Comparable -/
def k3 : Class := { plain "java/lang/Comparable" (some 0) with
  accessFlags := 1537
  interfaces := #[]
  cf := some (fileOf pool3 1 #[] #[] 1537 3 #[] #[])
  fields := #[]
  methods := #[]
  instanceTypes := #[]
  staticTypes := #[]
  resolved := Array.replicate 12 none
  statics := none }

def pool4 : Array CpInfo := pool [(1, .class_ 2), (0, u "java/io/Serializable"), (0, .class_ 4), (0, u "java/lang/Object")] 2

/-- java/io/Serializable -/
def k4 : Class := { plain "java/io/Serializable" (some 0) with
  accessFlags := 1537
  interfaces := #[]
  cf := some (fileOf pool4 1 #[] #[] 1537 3 #[] #[])
  fields := #[]
  methods := #[]
  instanceTypes := #[]
  staticTypes := #[]
  resolved := Array.replicate 7 none
  statics := none }

def pool5 : Array CpInfo := pool [(2, .class_ 4), (1, u "java/lang/Enum"), (0, u "name"), (0, u "Ljava/lang/String;"), (2, u "ordinal"), (0, u "I"), (1, .class_ 14), (1, u "java/lang/Object"), (4, u "hash"), (86, .class_ 108), (1, u "java/lang/Enum$EnumDesc"), (2, .class_ 112), (0, u "java/lang/constant/Constable"), (0, .class_ 114), (0, u "java/lang/Comparable"), (0, .class_ 116), (0, u "java/io/Serializable")] 87

/-- java/lang/Enum -/
def k5 : Class := { plain "java/lang/Enum" (some 0) with
  accessFlags := 1057
  interfaces := #[2, 3, 4]
  cf := some (fileOf pool5 2 #[.nestMembers #[106]] #[] 1057 12 #[111, 113, 115] #[{ accessFlags := 18, nameIndex := 5, descriptorIndex := 6, attributes := #[] }, { accessFlags := 18, nameIndex := 9, descriptorIndex := 10, attributes := #[] }, { accessFlags := 2, nameIndex := 19, descriptorIndex := 10, attributes := #[] }])
  fields := #[{ name := "name", type := (.object "java/lang/String"), accessFlags := 18, slot := 0, constantValue := 0 }, { name := "ordinal", type := .int, accessFlags := 18, slot := 1, constantValue := 0 }, { name := "hash", type := .int, accessFlags := 2, slot := 2, constantValue := 0 }]
  methods := #[]
  instanceTypes := #[(.object "java/lang/String"), .int, .int]
  staticTypes := #[]
  resolved := Array.replicate 204 none
  statics := none }

def pool6 : Array CpInfo := pool [(1, .class_ 2), (0, u "com/example/sneinton/sneinton/RobotsLine$Field"), (2, u "USER_AGENT"), (0, u "Lcom/example/sneinton/sneinton/RobotsLine$Field;"), (2, u "ALLOW"), (2, u "DISALLOW"), (0, .fieldref 1 14), (0, .nameAndType 15 6), (0, u "SITEMAP"), (0, .fieldref 1 17), (0, .nameAndType 18 6), (0, u "HOST"), (0, .fieldref 1 20), (0, .nameAndType 21 6), (0, u "CLEAN_PARAM"), (0, .fieldref 1 23), (0, .nameAndType 24 6), (0, u "CRAWL_DELAY"), (2, u "OTHER"), (2, u "$VALUES"), (0, u "[Lcom/example/sneinton/sneinton/RobotsLine$Field;"), (6, .class_ 40), (1, u "java/lang/Enum"), (14, u "spellings"), (0, u "Ljava/util/List;"), (13, u "()Z"), (66, u "isRecord"), (6, .class_ 145), (0, u "com/example/sneinton/sneinton/RobotsLine")] 2

def k6c0 : Code := { maxStack := 2, maxLocals := 1, code := prog_20_method_5_code, exceptionTable := #[], attributes := #[] }
def k6m0 : Method := { name := "isRecord", desc := "()Z", sig := { parameters := [], returnType := some .boolean }, accessFlags := 0, code := some k6c0 }
/-- com/example/sneinton/sneinton/RobotsLine$Field -/
def k6 : Class := { plain "com/example/sneinton/sneinton/RobotsLine$Field" (some 5) with
  accessFlags := 16432
  interfaces := #[]
  cf := some (fileOf pool6 1 #[.nestHost 144] #[{ accessFlags := 0, nameIndex := 137, descriptorIndex := 70, attributes := #[] }] 16432 38 #[] #[{ accessFlags := 16409, nameIndex := 5, descriptorIndex := 6, attributes := #[] }, { accessFlags := 16409, nameIndex := 9, descriptorIndex := 6, attributes := #[] }, { accessFlags := 16409, nameIndex := 12, descriptorIndex := 6, attributes := #[] }, { accessFlags := 16409, nameIndex := 15, descriptorIndex := 6, attributes := #[] }, { accessFlags := 16409, nameIndex := 18, descriptorIndex := 6, attributes := #[] }, { accessFlags := 16409, nameIndex := 21, descriptorIndex := 6, attributes := #[] }, { accessFlags := 16409, nameIndex := 24, descriptorIndex := 6, attributes := #[] }, { accessFlags := 16409, nameIndex := 27, descriptorIndex := 6, attributes := #[] }, { accessFlags := 18, nameIndex := 55, descriptorIndex := 56, attributes := #[] }, { accessFlags := 4122, nameIndex := 30, descriptorIndex := 31, attributes := #[] }])
  fields := #[{ name := "USER_AGENT", type := (.object "com/example/sneinton/sneinton/RobotsLine$Field"), accessFlags := 16409, slot := 0, constantValue := 0 }, { name := "ALLOW", type := (.object "com/example/sneinton/sneinton/RobotsLine$Field"), accessFlags := 16409, slot := 1, constantValue := 0 }, { name := "DISALLOW", type := (.object "com/example/sneinton/sneinton/RobotsLine$Field"), accessFlags := 16409, slot := 2, constantValue := 0 }, { name := "SITEMAP", type := (.object "com/example/sneinton/sneinton/RobotsLine$Field"), accessFlags := 16409, slot := 3, constantValue := 0 }, { name := "HOST", type := (.object "com/example/sneinton/sneinton/RobotsLine$Field"), accessFlags := 16409, slot := 4, constantValue := 0 }, { name := "CLEAN_PARAM", type := (.object "com/example/sneinton/sneinton/RobotsLine$Field"), accessFlags := 16409, slot := 5, constantValue := 0 }, { name := "CRAWL_DELAY", type := (.object "com/example/sneinton/sneinton/RobotsLine$Field"), accessFlags := 16409, slot := 6, constantValue := 0 }, { name := "OTHER", type := (.object "com/example/sneinton/sneinton/RobotsLine$Field"), accessFlags := 16409, slot := 7, constantValue := 0 }, { name := "spellings", type := (.object "java/util/List"), accessFlags := 18, slot := 3, constantValue := 0 }, { name := "$VALUES", type := (.array (.object "com/example/sneinton/sneinton/RobotsLine$Field")), accessFlags := 4122, slot := 8, constantValue := 0 }]
  methods := #[k6m0]
  instanceTypes := #[(.object "java/lang/String"), .int, .int, (.object "java/util/List")]
  staticTypes := #[(.object "com/example/sneinton/sneinton/RobotsLine$Field"), (.object "com/example/sneinton/sneinton/RobotsLine$Field"), (.object "com/example/sneinton/sneinton/RobotsLine$Field"), (.object "com/example/sneinton/sneinton/RobotsLine$Field"), (.object "com/example/sneinton/sneinton/RobotsLine$Field"), (.object "com/example/sneinton/sneinton/RobotsLine$Field"), (.object "com/example/sneinton/sneinton/RobotsLine$Field"), (.object "com/example/sneinton/sneinton/RobotsLine$Field"), (.array (.object "com/example/sneinton/sneinton/RobotsLine$Field"))]
  resolved := Array.replicate 148 none
  statics := some 0 }

def pool7 : Array CpInfo := pool [(1, u "java/lang/Cloneable"), (0, .class_ 1), (0, u "java/lang/Object"), (0, .class_ 3)] 3

/-- java/lang/Cloneable -/
def k7 : Class := { plain "java/lang/Cloneable" (some 0) with
  accessFlags := 1537
  interfaces := #[]
  cf := some (fileOf pool7 2 #[] #[] 1537 4 #[] #[])
  fields := #[]
  methods := #[]
  instanceTypes := #[]
  staticTypes := #[]
  resolved := Array.replicate 8 none
  statics := none }

/-- the primitive byte -/
def k8 : Class := { plain "byte" none with kind := .primitive 'B', accessFlags := 0x411 }
/-- [B -/
def k9 : Class := { plain "[B" (some 0) with kind := .array 8 .byte, interfaces := #[7, 4], accessFlags := 1041 }

/-- the primitive int -/
def k10 : Class := { plain "int" none with kind := .primitive 'I', accessFlags := 0x411 }
/-- [I -/
def k11 : Class := { plain "[I" (some 0) with kind := .array 10 .int, interfaces := #[7, 4], accessFlags := 1041 }

def heap : Heap := #[{ cls := 6, slots := #[.ref 1, .ref 2, .ref 3, .ref 4, .ref 5, .ref 6, .ref 7, .ref 8, .null], vm := .statics 6 },
  { cls := 6, slots := #[.null, .int 0, .int 0, .null], vm := .none },
  { cls := 6, slots := #[.null, .int 1, .int 0, .null], vm := .none },
  { cls := 6, slots := #[.null, .int 2, .int 0, .null], vm := .none },
  { cls := 6, slots := #[.null, .int 3, .int 0, .null], vm := .none },
  { cls := 6, slots := #[.null, .int 4, .int 0, .null], vm := .none },
  { cls := 6, slots := #[.null, .int 5, .int 0, .null], vm := .none },
  { cls := 6, slots := #[.null, .int 6, .int 0, .null], vm := .none },
  { cls := 6, slots := #[.null, .int 7, .int 0, .null], vm := .none }]
def classes : Array Class := #[k0, k1, k2, k3, k4, k5, k6, k7, k8, k9, k10, k11]
def interned : List (Array UInt16 × Addr) := []
def slotsUsed : Nat := 41
def theMethod : MethodId := ⟨1, 1⟩
def args0 : Array Value := #[.int 5]
def aboutOver (below : List Frame) : State where
  vm := { classes := classes, interned := interned.toArray }
  heap := heap
  slotsUsed := slotsUsed
  threads := #[{ frames := .invoking theMethod args0 :: below }]
def below0 : List Frame := [.native { method := ⟨0, 0⟩, args := #[] }]
def about1 : State := aboutOver below0
def p0 : Program := .bare "" "" ""
def e0 : Env := launch0.env 0 0 0
theorem w_frames : about1.frames = Frame.invoking theMethod args0 :: below0 := rfl
set_option maxRecDepth 65536 in
theorem w_args : argsFit about1.vm theMethod args0 = true := by decide +kernel
set_option maxRecDepth 65536 in
theorem w_heap : heapFits about1 = true := by decide +kernel
set_option maxRecDepth 65536 in
theorem w_runnable : about1.curStatus? = some .runnable := by decide +kernel
set_option maxRecDepth 65536 in
theorem w_alone : about1.alone = true := by decide +kernel
set_option maxRecDepth 65536 in
theorem w_named : about1.methodNamed? x = some theMethod := by decide +kernel
set_option maxRecDepth 65536 in
theorem w_hears : about1.hears theMethod below0 = true := by decide +kernel
set_option maxRecDepth 65536 in
theorem w_ripe : about1.ripe theMethod args0 below0 = true := by decide +kernel
theorem w_running : about1.status = .running := rfl
set_option maxRecDepth 65536 in
theorem w_room : about1.hasRoom e0.platform room_1 = true :=
  launch0.hasRoom_least _ room_1 (by decide +kernel) (by decide +kernel) (by decide +kernel) (by decide +kernel) (by decide +kernel) (by decide +kernel)
theorem allAtoms_all (ts : List Jvm.Cond) (a : Array Jvm.Value) (st : Jvm.State) : (allAtoms ts).before a st = ts.all (fun c => c.before a st) := by
  induction ts with
  | nil => rfl
  | cons c t ih =>
    show (Jvm.Cond.and c (allAtoms t)).before a st = _
    rw [Jvm.Cond.before_and, ih, List.all_cons]
def words1 : List Jvm.Cond := Jvm.Cond.code x code maxLocals ret :: tables_1
/-- a 'code' word, met by the world's own term for the bytes: nothing is compared byte by byte -/
theorem code_word {y : MethodName} {bytes : ByteArray} {mx : Nat} {rt : Option FieldType} {a : Array Value} {s : State} {m : MethodId} {meth : Method} {c : Code} (h1 : s.methodNamed? y = some m) (h2 : s.vm.method? m = some meth) (h3 : meth.code = some c) (h4 : c.code = bytes)
    (h5 : (c.maxLocals == mx && c.exceptionTable.isEmpty && decide (c.maxStack ≤ mostOperands) && decide (meth.sig.returnType = rt) && !meth.locks && decide (parseMethodDescriptor y.desc = some meth.sig)) = true) : (Jvm.Cond.code y bytes mx rt).before a s = true := by
  simp only [Bool.and_eq_true, beq_iff_eq, Bool.not_eq_true', decide_eq_true_eq] at h5
  obtain ⟨⟨⟨⟨⟨g1, g2⟩, g3⟩, g4⟩, g5⟩, g6⟩ := h5
  simp [Cond.before, Cond.holds, Cond.value, h1, h2, h3, h4, g1, g2, g3, g4, g5, g6]
def isCode : Jvm.Cond → Bool
  | .code _ _ _ _ => true
  | _ => false
theorem all_split {L : List Jvm.Cond} {P : Jvm.Cond → Bool} (h1 : L.all (fun c => isCode c || P c) = true) (h2 : ∀ c ∈ L.filter isCode, P c = true) : L.all P = true := by
  refine List.all_eq_true.mpr fun c hc => ?_
  have h := List.all_eq_true.mp h1 c hc
  rcases Bool.eq_false_or_eq_true (isCode c) with hi | hi
  · exact h2 c (List.mem_filter.mpr ⟨hc, hi⟩)
  · simpa [hi] using h
set_option maxRecDepth 65536 in
theorem w_c0 : (Jvm.Cond.code x code maxLocals ret).before args0 about1 = true := code_word (m := ⟨1, 1⟩) (meth := k1m1) (c := k1c1) (by decide +kernel) rfl rfl rfl (by decide +kernel)
set_option maxRecDepth 65536 in
theorem w_c1 : (Jvm.Cond.code ({ cls := "com/example/sneinton/sneinton/FieldIsRecordPinLaw", name := "pick", desc := "(I)Lcom/example/sneinton/sneinton/RobotsLine$Field;" } : Jvm.MethodName) method_3_code (1 : Nat) (Option.some (Jvm.ClassFile.FieldType.object "com/example/sneinton/sneinton/RobotsLine$Field"))).before args0 about1 = true := code_word (m := ⟨1, 2⟩) (meth := k1m2) (c := k1c2) (by decide +kernel) rfl rfl rfl (by decide +kernel)
set_option maxRecDepth 65536 in
theorem w_c2 : (Jvm.Cond.code ({ cls := "com/example/sneinton/sneinton/RobotsLine$Field", name := "isRecord", desc := "()Z" } : Jvm.MethodName) prog_20_method_5_code (1 : Nat) (Option.some Jvm.ClassFile.FieldType.boolean)).before args0 about1 = true := code_word (m := ⟨6, 0⟩) (meth := k6m0) (c := k6c0) (by decide +kernel) rfl rfl rfl (by decide +kernel)
def codes1 : List Jvm.Cond := [Jvm.Cond.code x code maxLocals ret, Jvm.Cond.code ({ cls := "com/example/sneinton/sneinton/FieldIsRecordPinLaw", name := "pick", desc := "(I)Lcom/example/sneinton/sneinton/RobotsLine$Field;" } : Jvm.MethodName) method_3_code (1 : Nat) (Option.some (Jvm.ClassFile.FieldType.object "com/example/sneinton/sneinton/RobotsLine$Field")), Jvm.Cond.code ({ cls := "com/example/sneinton/sneinton/RobotsLine$Field", name := "isRecord", desc := "()Z" } : Jvm.MethodName) prog_20_method_5_code (1 : Nat) (Option.some Jvm.ClassFile.FieldType.boolean)]
set_option maxRecDepth 65536 in
theorem codes_eq : words1.filter isCode = codes1 := rfl
theorem w_codes : ∀ c ∈ words1.filter isCode, c.before args0 about1 = true := by
  rw [codes_eq]
  intro c hc
  simp only [codes1, List.mem_cons, List.not_mem_nil, or_false] at hc
  rcases hc with rfl | rfl | rfl
  · exact w_c0
  · exact w_c1
  · exact w_c2
set_option maxRecDepth 65536 in
theorem w_t1 : (words1.take 24).all (fun c => isCode c || c.before args0 about1) = true := by decide +kernel
set_option maxRecDepth 65536 in
theorem w_t2 : (words1.drop 24).all (fun c => isCode c || c.before args0 about1) = true := by decide +kernel
theorem w_tables : (allAtoms (Jvm.Cond.code x code maxLocals ret :: tables_1)).before args0 about1 = true := by
  rw [allAtoms_all]
  show words1.all (fun c => c.before args0 about1) = true
  refine all_split ?_ w_codes
  rw [← List.take_append_drop 24 words1, List.all_append, w_t1, w_t2]
  rfl
set_option maxRecDepth 65536 in
theorem w_case : (Jvm.Cond.and given_1 narrow_1).before args0 about1 = true := by decide +kernel
theorem w_applies : (headSpec (Jvm.Cond.code x code maxLocals ret :: tables_1) room_1).applies x e0.platform about1 = true :=
  (Spec.applies_iff w_frames).mpr ⟨w_running, w_runnable, w_alone, w_named, w_hears, w_ripe, w_room, w_tables⟩
theorem atStart : AtStart classFile x code maxLocals ret World_1 tables_1 room_1 Calls_1 rest_1 Pre_1 launch0 p0 e0 about1 theMethod args0 below0 :=
  ⟨lists_1, trivial, launch0.admits_env _ _ _, launch0.least_env, fairChoices_fair.cas, fairChoices_fair.clock, w_frames, w_args, w_heap, w_applies, trivial, trivial, w_case⟩
end start1
theorem witness_1 : WitnessClaimed_1 := ⟨start1.p0, start1.e0, start1.about1, start1.theMethod, start1.args0, start1.below0, start1.atStart⟩
end Jvm.Pilot.@@N@@

import JvmDerived
import JvmDerived.Pilot.@@N@@Statement
import JvmDerived.Pilot.@@N@@Code
set_option linter.unusedVariables false
set_option linter.unusedSimpArgs false
namespace Jvm.Pilot.@@N@@
open Jvm Jvm.ClassFile Sem Op Lib Jvm.Free Jvm.Stand Jvm.LawKit Jvm.RoadKit Bundle Jvm.Pilot.@@N@@.Jvm.D
def own_ushr (x y : Int32) : Int32 := (x.toUInt32 >>> (y &&& 31).toUInt32).toInt32
def own_ushrL (x : Int64) (y : Int32) : Int64 := (x.toUInt64 >>> (y &&& 0x3f).toInt64.toUInt64).toInt64
section OwnKit
variable {p : Program} {l : Launch} {e : Env} {R : Room} {s : State} {m : MethodId} {args : Array Value} {below : List Frame} {meth : Method} {c : Code} {T : State} {locs : List Loc} {cells slots : Nat} {Z : State} {h h0 : Heap} {ce sl : Nat} {Q : Option Value → Heap → List Loc → Prop} {U U' : State} {a0 : Array Value}
/-- from U the walk comes to its return, and what it leaves is Q -/
def Go (p : Program) (e : Env) (below : List Frame) (s : State) (ce sl : Nat) (Q : Option Value → Heap → List Loc → Prop) (U : State) : Prop :=
  ∃ s₂ o, Steps p.tables e below U s₂ ∧ s₂.status = .running ∧ Ended s₂ below o ∧ ∃ v L, o = .returned v ∧ Q v s₂.heap L ∧ FrameEnd s o s₂ L ce sl
theorem Go.via (h : ∀ t, Steps p.tables e below U' t → Steps p.tables e below U t) (g : Go p e below s ce sl Q U') : Go p e below s ce sl Q U := by
  obtain ⟨s₂, o, h1, h2⟩ := g
  exact ⟨s₂, o, h _ h1, h2⟩
theorem Go.cast {g g' : JFrame} (q : g = g') (k : Go p e below s ce sl Q (T.setTop g')) : Go p e below s ce sl Q (T.setTop g) := q ▸ k
/-- the contract of a body: called with as', over the heap h0, it returns and leaves Q -/
def Meets (l : Launch) (Z : State) (y : MethodName) (bytes : ByteArray) (maxL : Nat) (rt : Option FieldType) (ws : List Jvm.Cond) (rm : Room) (as' : Array Value) (h0 : Heap) (Q : Option Value → Heap → List Loc → Prop) : Prop :=
  MetFree l y (head1 (Jvm.Cond.code y bytes maxL rt :: ws) rm) (fun a U => a = as' ∧ Z.Warmed39 U.vm ∧ U.heap = h0) (fun _ _ _ _ _ => True) (fun _ U o U' => ∃ v L, o = .returned v ∧ Q v U'.heap L ∧ FrameEnd U o U' L rm.cells rm.slots)
theorem meets_of {y : MethodName} {bytes : ByteArray} {maxL : Nat} {rt : Option FieldType} {ws : List Jvm.Cond} {rm : Room} {as' : Array Value} (hpl : plainFor y = true)
    (body : ∀ p e s m below meth c s₁, Stand p l e rm s m as' below meth c s₁ [] 0 0 → p.tables.exec = Jvm.exec → Z.Warmed39 s.vm → c.code = bytes → c.maxLocals = maxL → meth.sig.returnType = rt → meth.locks = false → s.vm.findClass y.cls = some m.cls → meth.name = y.name → s₁.heap = h0 →
      Go p e below s rm.cells rm.slots Q (s₁.setTop (entryFrame m as' maxL))) : Meets l Z y bytes maxL rt ws rm as' h0 Q := by
  refine MetFree.of_bodySF hpl hisR ?_
  intro p e s m args below meth c s₁ Bd hml hP hK
  obtain ⟨rfl, hZ, hh⟩ := hP
  exact body p e s m below meth c s₁ (Stand.of_body Bd) Bd.exec hZ Bd.bytes hml Bd.returns Bd.notSynchronized (findClass_of_methodNamed Bd.named) (name_of_methodNamed Bd.named Bd.method).1 (by rw [← hh, Bd.state]; rfl)
theorem go_ret (X : Stand p l e R s m args below meth c T locs cells slots) (hlk : meth.locks = false) {v : Option Value} (hv : meth.sig.returnType = none → v = none) (eT : T.heap = h) (hQ : Q v h locs) (hc : cells ≤ ce) (hs : slots ≤ sl)
    (st : ∀ fs, (∀ (f : JFrame) (acts : List Action), f.method = m → f.locked = none → f.entered = [] → (doReturn e (T.setTop f) acts v).1 = T.setFrames fs) → Steps p.tables e below U (T.setFrames fs)) : Go p e below s ce sl Q U := by
  obtain ⟨fs, hr, hrun, hended, hW, hsame⟩ := X.leave hv hlk
  exact ⟨_, _, st fs hr, hrun, hended, v, locs, rfl, (by show Q v T.heap locs; rw [eT]; exact hQ), ⟨_, rfl⟩, hW, hsame.mono hc hs⟩
theorem go_retN (X : Stand p l e R s m args below meth c T locs cells slots) (hx : p.tables.exec = Jvm.exec) (hlk : meth.locks = false) {t : FieldType} (hret : meth.sig.returnType = some t) (ht : t = .boolean ∨ t = .byte ∨ t = .char ∨ t = .short) {pc : Nat} {Ls : Array Slot} {z : Int32} {rest : List Value}
    (hd : decode c.code pc = .ok (.ireturn, 1)) (eT : T.heap = h) (hQ : Q (some (.int (nar t z))) h locs) (hc : cells ≤ ce) (hs : slots ≤ sl) : Go p e below s ce sl Q (T.setTop (mkF m pc Ls (.int z :: rest))) :=
  go_ret X hlk (fun h => by rw [hret] at h; cases h) eT hQ hc hs (fun fs hr => retN X hx hret ht hd hr)
theorem go_retI (X : Stand p l e R s m args below meth c T locs cells slots) (hx : p.tables.exec = Jvm.exec) (hlk : meth.locks = false) (hret : meth.sig.returnType = some .int) {pc : Nat} {Ls : Array Slot} {z : Int32} {rest : List Value}
    (hd : decode c.code pc = .ok (.ireturn, 1)) (eT : T.heap = h) (hQ : Q (some (.int z)) h locs) (hc : cells ≤ ce) (hs : slots ≤ sl) : Go p e below s ce sl Q (T.setTop (mkF m pc Ls (.int z :: rest))) :=
  go_ret X hlk (fun h => by rw [hret] at h; cases h) eT hQ hc hs (fun fs hr => retOut X hx hret rfl (Or.inl ⟨rfl, Or.inl rfl, z, rfl⟩) hd hr)
theorem go_retJ (X : Stand p l e R s m args below meth c T locs cells slots) (hx : p.tables.exec = Jvm.exec) (hlk : meth.locks = false) (hret : meth.sig.returnType = some .long) {pc : Nat} {Ls : Array Slot} {z : Int64} {rest : List Value}
    (hd : decode c.code pc = .ok (.lreturn, 1)) (eT : T.heap = h) (hQ : Q (some (.long z)) h locs) (hc : cells ≤ ce) (hs : slots ≤ sl) : Go p e below s ce sl Q (T.setTop (mkF m pc Ls (.long z :: rest))) :=
  go_ret X hlk (fun h => by rw [hret] at h; cases h) eT hQ hc hs (fun fs hr => retOut X hx hret rfl (Or.inr (Or.inl ⟨rfl, rfl, z, rfl⟩)) hd hr)
theorem go_retA (X : Stand p l e R s m args below meth c T locs cells slots) (hx : p.tables.exec = Jvm.exec) (hlk : meth.locks = false) {t : FieldType} (hret : meth.sig.returnType = some t) (ht : t.isReference = true) {pc : Nat} {Ls : Array Slot} {w : Value} (hw : w.isRef = true) (hn : narrow t w = w) {rest : List Value}
    (hd : decode c.code pc = .ok (.areturn, 1)) (eT : T.heap = h) (hQ : Q (some w) h locs) (hc : cells ≤ ce) (hs : slots ≤ sl) : Go p e below s ce sl Q (T.setTop (mkF m pc Ls (w :: rest))) :=
  go_ret X hlk (fun h => by rw [hret] at h; cases h) eT hQ hc hs (fun fs hr => retOut X hx hret hn (Or.inr (Or.inr (Or.inr (Or.inr ⟨rfl, ht, hw⟩)))) hd hr)
theorem go_retV (X : Stand p l e R s m args below meth c T locs cells slots) (hx : p.tables.exec = Jvm.exec) (hlk : meth.locks = false) (hret : meth.sig.returnType = none) {pc : Nat} {Ls : Array Slot}
    (hd : decode c.code pc = .ok (.return_, 1)) (eT : T.heap = h) (hQ : Q none h locs) (hc : cells ≤ ce) (hs : slots ≤ sl) : Go p e below s ce sl Q (T.setTop (mkF m pc Ls [])) :=
  go_ret X hlk (fun _ => rfl) eT hQ hc hs (fun fs hr => X.returnOut hx hret hd hr)
/-- it returned v, wrote nothing and made nothing -/
def PureR (v : Option Value) (h0 : Heap) : Option Value → Heap → List Loc → Prop := fun v' h L => v' = v ∧ h = h0 ∧ L = []
/-- a static method by its contract -/
theorem callSQ (X : Stand p l e R s m args below meth c T locs cells slots) (hx : p.tables.exec = Jvm.exec) (hZ : Z.Warmed39 s.vm) {own : String} {index : Nat} {y : MethodName} {bytes : ByteArray} {maxL : Nat} {rt : Option FieldType} {rm : Room}
    (hown : s.vm.findClass own = some m.cls) (w1 : (Jvm.Cond.methodLink own index y).before a0 Z = true) (w2 : (Jvm.Cond.static y).before a0 Z = true) (w3 : (Jvm.Cond.initialized y.cls).before a0 Z = true) (w4 : (Jvm.Cond.code y bytes maxL rt).before a0 Z = true)
    (hy : y.cls ≠ "java/lang/invoke/MethodHandle" ∧ y.cls ≠ "java/lang/invoke/VarHandle") {av : List Value} (hM : Meets l Z y bytes maxL rt [] rm av.toArray h Q) (eT : T.heap = h)
    {pc : Nat} {Ls : Array Slot} {rest : List Value} {ps : List FieldType} {r : Option FieldType} (hsize : Ls.size = c.maxLocals) (hp : parseMethodDescriptor y.desc = some ⟨ps, r⟩) (hlen : av.length = ps.length)
    (W : Nat) (hW : (rest.map fun v => v.category).sum ≤ W) (hf : rm.frames + 1 ≤ R.frames) (hl : W + (maxL + 11) + rm.locals ≤ R.locals) (hc : cells + rm.cells ≤ R.cells) (hs : slots + rm.slots ≤ R.slots) (hd : decode c.code pc = .ok (.invokestatic index, 3)) :
    ∃ v T' L, Stand p l e R s m args below meth c T' (locs ++ L) (cells + rm.cells) (slots + rm.slots) ∧ Q v T'.heap L ∧
      ∀ t, Steps p.tables e below (T'.setTop (mkF m (pc + 3) Ls (v.toList ++ rest))) t → Steps p.tables e below (T.setTop (mkF m pc Ls (av.reverse ++ rest))) t := by
  obtain ⟨v, _, ⟨T2, L2, k2, n2⟩, -, X2, ⟨Lc2, hQ2, l2, y2, z2⟩, st2⟩ := Jvm.LawKit.callS X hx (y := y) hown (mvT hZ w1) (mvT hZ w2) (mvT hZ w3) (mvT hZ w4) hy (backOf (W := W) hM hZ w4 w3 hf hl) (g := mkF m pc Ls (av.reverse ++ rest)) rfl hsize (argsL := av) (rest := rest) (lenOf hp hlen) rfl (by show 2 * 0 + _ ≤ _; rw [Nat.mul_zero, Nat.zero_add]; exact hW) hd (fun _ _ => ⟨rfl, eT, hc, hs⟩)
  dsimp only [Pt.U, Pt.locs, Pt.cells, Pt.slots] at X2 l2 y2 z2 st2 hQ2
  subst l2 y2 z2
  exact ⟨v, T2, Lc2, X2, hQ2, st2⟩
/-- a static method that writes and makes nothing -/
theorem callS0 (X : Stand p l e R s m args below meth c T locs cells slots) (hx : p.tables.exec = Jvm.exec) (hZ : Z.Warmed39 s.vm) {own : String} {index : Nat} {y : MethodName} {bytes : ByteArray} {maxL : Nat} {rt : Option FieldType} {fr lo : Nat} {v : Option Value}
    (hown : s.vm.findClass own = some m.cls) (w1 : (Jvm.Cond.methodLink own index y).before a0 Z = true) (w2 : (Jvm.Cond.static y).before a0 Z = true) (w3 : (Jvm.Cond.initialized y.cls).before a0 Z = true) (w4 : (Jvm.Cond.code y bytes maxL rt).before a0 Z = true)
    (hy : y.cls ≠ "java/lang/invoke/MethodHandle" ∧ y.cls ≠ "java/lang/invoke/VarHandle") {av : List Value} (hM : Meets l Z y bytes maxL rt [] ({ frames := fr, cells := 0, slots := 0, locals := lo } : Room) av.toArray h (PureR v h)) (eT : T.heap = h)
    {pc : Nat} {Ls : Array Slot} {rest : List Value} {ps : List FieldType} {r : Option FieldType} (hsize : Ls.size = c.maxLocals) (hp : parseMethodDescriptor y.desc = some ⟨ps, r⟩) (hlen : av.length = ps.length)
    (W : Nat) (hW : (rest.map fun v => v.category).sum ≤ W) (hf : fr + 1 ≤ R.frames) (hl : W + (maxL + 11) + lo ≤ R.locals) (hc : cells ≤ R.cells) (hs : slots ≤ R.slots) (hd : decode c.code pc = .ok (.invokestatic index, 3)) :
    ∃ T', Stand p l e R s m args below meth c T' locs cells slots ∧ T'.heap = h ∧
      ∀ t, Steps p.tables e below (T'.setTop (mkF m (pc + 3) Ls (v.toList ++ rest))) t → Steps p.tables e below (T.setTop (mkF m pc Ls (av.reverse ++ rest))) t := by
  obtain ⟨_, T2, _, X2, ⟨rfl, h2, rfl⟩, st2⟩ := callSQ X hx hZ hown w1 w2 w3 w4 hy hM eT hsize hp hlen W hW hf hl hc hs hd
  rw [List.append_nil] at X2
  exact ⟨T2, X2, h2, st2⟩
end OwnKit
section OwnKit2
variable {p : Program} {l : Launch} {e : Env} {R : Room} {s : State} {m : MethodId} {args : Array Value} {below : List Frame} {meth : Method} {c : Code} {T : State} {locs : List Loc} {cells slots : Nat} {Z : State} {h h0 : Heap} {ce sl : Nat} {Q : Option Value → Heap → List Loc → Prop} {U U' : State} {a0 : Array Value}
/-- an instance method by its contract, the resolved one being the selected one -/
theorem callVQ (X : Stand p l e R s m args below meth c T locs cells slots) (hx : p.tables.exec = Jvm.exec) (hZ : Z.Warmed39 s.vm) {own C : String} {index : Nat} {y : MethodName} {bytes : ByteArray} {maxL : Nat} {rt : Option FieldType} {rm : Room}
    (hown : s.vm.findClass own = some m.cls) (w1 : (Jvm.Cond.methodLink own index y).before a0 Z = true) (w2 : (Jvm.Cond.declares y).before a0 Z = true) (w3 : (Jvm.Cond.selects C y y).before a0 Z = true) (w5 : (Jvm.Cond.instanceMethod y).before a0 Z = true) (w6 : (Jvm.Cond.initialized y.cls).before a0 Z = true) (w4 : (Jvm.Cond.code y bytes maxL rt).before a0 Z = true)
    (hy : y.cls ≠ "java/lang/invoke/MethodHandle" ∧ y.cls ≠ "java/lang/invoke/VarHandle") {b : Addr} {av : List Value} (hE : Exa Z h b C) (hM : Meets l Z y bytes maxL rt [] rm (.ref b :: av).toArray h Q) (eT : T.heap = h)
    {pc : Nat} {Ls : Array Slot} {rest : List Value} {ps : List FieldType} {r : Option FieldType} (hsize : Ls.size = c.maxLocals) (hp : parseMethodDescriptor y.desc = some ⟨ps, r⟩) (hlen : av.length = ps.length)
    (W : Nat) (hW : (rest.map fun v => v.category).sum ≤ W) (hf : rm.frames + 1 ≤ R.frames) (hl : W + (maxL + 11) + rm.locals ≤ R.locals) (hc : cells + rm.cells ≤ R.cells) (hs : slots + rm.slots ≤ R.slots) (hd : decode c.code pc = .ok (.invokevirtual index, 3)) :
    ∃ v T' L, Stand p l e R s m args below meth c T' (locs ++ L) (cells + rm.cells) (slots + rm.slots) ∧ Q v T'.heap L ∧
      ∀ t, Steps p.tables e below (T'.setTop (mkF m (pc + 3) Ls (v.toList ++ rest))) t → Steps p.tables e below (T.setTop (mkF m pc Ls (av.reverse ++ .ref b :: rest))) t := by
  obtain ⟨cq, kq, qa, qb, qc⟩ := isOf hZ eT hE
  obtain ⟨v, _, ⟨T2, L2, k2, n2⟩, -, X2, ⟨Lc2, hQ2, l2, y2, z2⟩, st2⟩ := X.virtualBack hx (y := y) (z := y) hown (mvT hZ w1) (mvT hZ w2) (notFace_of_selects (args := #[]) (mvT hZ w3)) (mvT hZ w3) (mvT hZ w5) hy (backOf (W := W) hM hZ w4 w6 hf hl) qa qc (g := mkF m pc Ls (av.reverse ++ .ref b :: rest)) rfl hsize (Steps.refl _) (argsL := av) (rest := rest) (lenOf hp hlen) rfl (by show 2 * 0 + _ ≤ _; rw [Nat.mul_zero, Nat.zero_add]; exact hW) hd (fun _ _ => ⟨rfl, eT, hc, hs⟩)
  dsimp only [Pt.U, Pt.locs, Pt.cells, Pt.slots] at X2 l2 y2 z2 st2 hQ2
  subst l2 y2 z2
  exact ⟨v, T2, Lc2, X2, hQ2, fun t k => st2.trans k⟩
theorem callV0 (X : Stand p l e R s m args below meth c T locs cells slots) (hx : p.tables.exec = Jvm.exec) (hZ : Z.Warmed39 s.vm) {own C : String} {index : Nat} {y : MethodName} {bytes : ByteArray} {maxL : Nat} {rt : Option FieldType} {fr lo : Nat} {v : Option Value}
    (hown : s.vm.findClass own = some m.cls) (w1 : (Jvm.Cond.methodLink own index y).before a0 Z = true) (w2 : (Jvm.Cond.declares y).before a0 Z = true) (w3 : (Jvm.Cond.selects C y y).before a0 Z = true) (w5 : (Jvm.Cond.instanceMethod y).before a0 Z = true) (w6 : (Jvm.Cond.initialized y.cls).before a0 Z = true) (w4 : (Jvm.Cond.code y bytes maxL rt).before a0 Z = true)
    (hy : y.cls ≠ "java/lang/invoke/MethodHandle" ∧ y.cls ≠ "java/lang/invoke/VarHandle") {b : Addr} {av : List Value} (hE : Exa Z h b C) (hM : Meets l Z y bytes maxL rt [] ({ frames := fr, cells := 0, slots := 0, locals := lo } : Room) (.ref b :: av).toArray h (PureR v h)) (eT : T.heap = h)
    {pc : Nat} {Ls : Array Slot} {rest : List Value} {ps : List FieldType} {r : Option FieldType} (hsize : Ls.size = c.maxLocals) (hp : parseMethodDescriptor y.desc = some ⟨ps, r⟩) (hlen : av.length = ps.length)
    (W : Nat) (hW : (rest.map fun v => v.category).sum ≤ W) (hf : fr + 1 ≤ R.frames) (hl : W + (maxL + 11) + lo ≤ R.locals) (hc : cells ≤ R.cells) (hs : slots ≤ R.slots) (hd : decode c.code pc = .ok (.invokevirtual index, 3)) :
    ∃ T', Stand p l e R s m args below meth c T' locs cells slots ∧ T'.heap = h ∧
      ∀ t, Steps p.tables e below (T'.setTop (mkF m (pc + 3) Ls (v.toList ++ rest))) t → Steps p.tables e below (T.setTop (mkF m pc Ls (av.reverse ++ .ref b :: rest))) t := by
  obtain ⟨_, T2, _, X2, ⟨rfl, h2, rfl⟩, st2⟩ := callVQ X hx hZ hown w1 w2 w3 w5 w6 w4 hy hE hM eT hsize hp hlen W hW hf hl hc hs hd
  rw [List.append_nil] at X2
  exact ⟨T2, X2, h2, st2⟩
/-- a constructor by its contract -/
theorem callIQ (X : Stand p l e R s m args below meth c T locs cells slots) (hx : p.tables.exec = Jvm.exec) (hZ : Z.Warmed39 s.vm) {own : String} {index : Nat} {y : MethodName} {bytes : ByteArray} {maxL : Nat} {rm : Room} (hy1 : y.name = "<init>")
    (hown : s.vm.findClass own = some m.cls) (w1 : (Jvm.Cond.methodLink own index y).before a0 Z = true) (w5 : (Jvm.Cond.instanceMethod y).before a0 Z = true) (w6 : (Jvm.Cond.initialized y.cls).before a0 Z = true) (w4 : (Jvm.Cond.code y bytes maxL none).before a0 Z = true)
    (hy : y.cls ≠ "java/lang/invoke/MethodHandle" ∧ y.cls ≠ "java/lang/invoke/VarHandle") {b : Addr} {av : List Value} (hM : Meets l Z y bytes maxL none [] rm (.ref b :: av).toArray h Q) (eT : T.heap = h)
    {pc : Nat} {Ls : Array Slot} {rest : List Value} {ps : List FieldType} {r : Option FieldType} (hsize : Ls.size = c.maxLocals) (hp : parseMethodDescriptor y.desc = some ⟨ps, r⟩) (hlen : av.length = ps.length)
    (W : Nat) (hW : (rest.map fun v => v.category).sum ≤ W) (hf : rm.frames + 1 ≤ R.frames) (hl : W + (maxL + 11) + rm.locals ≤ R.locals) (hc : cells + rm.cells ≤ R.cells) (hs : slots + rm.slots ≤ R.slots) (hd : decode c.code pc = .ok (.invokespecial index, 3)) :
    ∃ v T' L, Stand p l e R s m args below meth c T' (locs ++ L) (cells + rm.cells) (slots + rm.slots) ∧ Q v T'.heap L ∧
      ∀ t, Steps p.tables e below (T'.setTop (mkF m (pc + 3) Ls (v.toList ++ rest))) t → Steps p.tables e below (T.setTop (mkF m pc Ls (av.reverse ++ .ref b :: rest))) t := by
  obtain ⟨v, _, ⟨T2, L2, k2, n2⟩, -, X2, ⟨Lc2, hQ2, l2, y2, z2⟩, st2⟩ := X.specialBack hx (y := y) hy1 hown (mvT hZ w1) (mvT hZ w5) (mvT hZ w4) hy (backOf (W := W) hM hZ w4 w6 hf hl) (g := mkF m pc Ls (av.reverse ++ .ref b :: rest)) rfl hsize (Steps.refl _) (a := b) (argsL := av) (rest := rest) (lenOf hp hlen) rfl (by show 2 * 0 + _ ≤ _; rw [Nat.mul_zero, Nat.zero_add]; exact hW) hd (fun _ _ => ⟨rfl, eT, hc, hs⟩)
  dsimp only [Pt.U, Pt.locs, Pt.cells, Pt.slots] at X2 l2 y2 z2 st2 hQ2
  subst l2 y2 z2
  exact ⟨v, T2, Lc2, X2, hQ2, fun t k => st2.trans k⟩
end OwnKit2
section OwnKit3
variable {args : Array Value} {first s : State} {o : Option Outcome} {idx : List Nat} {a b : Term}
theorem own_eqI {k : Int32} (h : (Jvm.Cond.eq a (.int k)).value args first o s idx = some true) : a.eval args first o idx s = some (.int k) := by
  obtain ⟨x, y, hx, hy, -, hk⟩ := cmp_v (Or.inl h)
  rw [Term.int_eval] at hy
  cases hy
  obtain ⟨z, rfl⟩ := hk
  have q := gotT (Cond.eq_ints hx (Term.int_eval k)) h
  rw [hx, q]
theorem own_eqR {b' : Addr} (h : (Jvm.Cond.eq a b).value args first o s idx = some true) (hb : b.eval args first o idx s = some (.ref b')) : a.eval args first o idx s = some (.ref b') := by
  obtain ⟨x, y, hx, hy, -, hk⟩ := cmp_v (Or.inl h)
  rw [hb] at hy
  cases hy
  have hk' : x.isRef = true := hk.2
  have q := gotT (eq_R hx hb hk' rfl) h
  rw [hx, q]
end OwnKit3
theorem own_k0 (m : MethodId) (x0 : Int32) : entryFrame m #[(.int x0)] 1 = mkF m 0 #[.val (.int x0)] [] := by first | (simp [entryFrame, mkF, argsToLocals, Value.category]; done) | rfl
theorem own_k1 : decode method_2_code 0 = .ok (.iload_n 0, 1) := by decide +kernel
theorem own_k2 : decode method_2_code 1 = .ok (.ifCond .ne 7, 3) := by decide +kernel
theorem own_k3 : decode method_2_code 4 = .ok (.getstatic 7, 3) := by decide +kernel
theorem own_k4 : decode method_2_code 7 = .ok (.areturn, 1) := by decide +kernel
theorem own_k5 : decode method_2_code 8 = .ok (.iload_n 0, 1) := by decide +kernel
theorem own_k6 : decode method_2_code 9 = .ok (.iconst 1, 1) := by decide +kernel
theorem own_k7 : decode method_2_code 10 = .ok (.if_icmp .ne 7, 3) := by decide +kernel
theorem own_k8 : decode method_2_code 13 = .ok (.getstatic 13, 3) := by decide +kernel
theorem own_k9 : decode method_2_code 16 = .ok (.areturn, 1) := by decide +kernel
theorem own_k10 : decode method_2_code 17 = .ok (.iload_n 0, 1) := by decide +kernel
theorem own_k11 : decode method_2_code 18 = .ok (.iconst 2, 1) := by decide +kernel
theorem own_k12 : decode method_2_code 19 = .ok (.if_icmp .ne 7, 3) := by decide +kernel
theorem own_k13 : decode method_2_code 22 = .ok (.getstatic 16, 3) := by decide +kernel
theorem own_k14 : decode method_2_code 25 = .ok (.areturn, 1) := by decide +kernel
theorem own_k15 : decode method_2_code 26 = .ok (.iload_n 0, 1) := by decide +kernel
theorem own_k16 : decode method_2_code 27 = .ok (.iconst 3, 1) := by decide +kernel
theorem own_k17 : decode method_2_code 28 = .ok (.if_icmp .ne 7, 3) := by decide +kernel
theorem own_k18 : decode method_2_code 31 = .ok (.getstatic 19, 3) := by decide +kernel
theorem own_k19 : decode method_2_code 34 = .ok (.areturn, 1) := by decide +kernel
theorem own_k20 : decode method_2_code 35 = .ok (.iload_n 0, 1) := by decide +kernel
theorem own_k21 : decode method_2_code 36 = .ok (.iconst 4, 1) := by decide +kernel
theorem own_k22 : decode method_2_code 37 = .ok (.if_icmp .ne 7, 3) := by decide +kernel
theorem own_k23 : decode method_2_code 40 = .ok (.getstatic 22, 3) := by decide +kernel
theorem own_k24 : decode method_2_code 43 = .ok (.areturn, 1) := by decide +kernel
theorem own_k25 : decode method_2_code 44 = .ok (.iload_n 0, 1) := by decide +kernel
theorem own_k26 : decode method_2_code 45 = .ok (.iconst 5, 1) := by decide +kernel
theorem own_k27 : decode method_2_code 46 = .ok (.if_icmp .ne 7, 3) := by decide +kernel
theorem own_k28 : decode method_2_code 49 = .ok (.getstatic 25, 3) := by decide +kernel
theorem own_k29 : decode method_2_code 52 = .ok (.areturn, 1) := by decide +kernel
theorem own_k30 : decode method_2_code 53 = .ok (.iload_n 0, 1) := by decide +kernel
theorem own_k31 : decode method_2_code 54 = .ok (.bipush 6, 2) := by decide +kernel
theorem own_k32 : decode method_2_code 56 = .ok (.if_icmp .ne 7, 3) := by decide +kernel
theorem own_k33 : decode method_2_code 59 = .ok (.getstatic 28, 3) := by decide +kernel
theorem own_k34 : decode method_2_code 62 = .ok (.areturn, 1) := by decide +kernel
theorem own_k35 : decode method_2_code 63 = .ok (.iload_n 0, 1) := by decide +kernel
theorem own_k36 : decode method_2_code 64 = .ok (.bipush 7, 2) := by decide +kernel
theorem own_k37 : decode method_2_code 66 = .ok (.if_icmp .ne 7, 3) := by decide +kernel
theorem own_k38 : decode method_2_code 69 = .ok (.getstatic 31, 3) := by decide +kernel
theorem own_k39 : decode method_2_code 72 = .ok (.areturn, 1) := by decide +kernel
theorem own_k40 : decode method_2_code 73 = .ok (.iload_n 0, 1) := by decide +kernel
theorem own_k41 : decode method_2_code 74 = .ok (.bipush 8, 2) := by decide +kernel
theorem own_k42 : decode method_2_code 76 = .ok (.if_icmp .ne 7, 3) := by decide +kernel
theorem own_k43 : decode method_2_code 79 = .ok (.getstatic 34, 3) := by decide +kernel
theorem own_k44 : decode method_2_code 82 = .ok (.areturn, 1) := by decide +kernel
theorem own_k45 : decode method_2_code 83 = .ok (.iload_n 0, 1) := by decide +kernel
theorem own_k46 : decode method_2_code 84 = .ok (.bipush 9, 2) := by decide +kernel
theorem own_k47 : decode method_2_code 86 = .ok (.if_icmp .ne 7, 3) := by decide +kernel
theorem own_k48 : decode method_2_code 89 = .ok (.getstatic 37, 3) := by decide +kernel
theorem own_k49 : decode method_2_code 92 = .ok (.areturn, 1) := by decide +kernel
theorem own_k50 : decode method_2_code 93 = .ok (.iload_n 0, 1) := by decide +kernel
theorem own_k51 : decode method_2_code 94 = .ok (.bipush 10, 2) := by decide +kernel
theorem own_k52 : decode method_2_code 96 = .ok (.if_icmp .ne 7, 3) := by decide +kernel
theorem own_k53 : decode method_2_code 99 = .ok (.getstatic 40, 3) := by decide +kernel
theorem own_k54 : decode method_2_code 102 = .ok (.areturn, 1) := by decide +kernel
theorem own_k55 : decode method_2_code 103 = .ok (.iload_n 0, 1) := by decide +kernel
theorem own_k56 : decode method_2_code 104 = .ok (.bipush 11, 2) := by decide +kernel
theorem own_k57 : decode method_2_code 106 = .ok (.if_icmp .ne 7, 3) := by decide +kernel
theorem own_k58 : decode method_2_code 109 = .ok (.getstatic 43, 3) := by decide +kernel
theorem own_k59 : decode method_2_code 112 = .ok (.areturn, 1) := by decide +kernel
theorem own_k60 : decode method_2_code 113 = .ok (.iload_n 0, 1) := by decide +kernel
theorem own_k61 : decode method_2_code 114 = .ok (.bipush 12, 2) := by decide +kernel
theorem own_k62 : decode method_2_code 116 = .ok (.if_icmp .ne 7, 3) := by decide +kernel
theorem own_k63 : decode method_2_code 119 = .ok (.getstatic 46, 3) := by decide +kernel
theorem own_k64 : decode method_2_code 122 = .ok (.areturn, 1) := by decide +kernel
theorem own_k65 : decode method_2_code 123 = .ok (.getstatic 49, 3) := by decide +kernel
theorem own_k66 : decode method_2_code 126 = .ok (.areturn, 1) := by decide +kernel
theorem own_k67 : plainName "com/example/libhazy/libhazy/FormKindIsKeyedPinLaw" = true := by first | (simp [plainName, overriddenIn]; done) | decide +kernel
def own_f1 (x0 : Int32) (a_BLOOM_FILTER : Addr) (a_HYPERLOGLOG : Addr) (a_MINHASH : Addr) (a_KEYED_BLOOM_FILTER : Addr) (a_KEYED_HYPERLOGLOG : Addr) (a_COUNT_MIN_SKETCH : Addr) (a_AMS_SKETCH : Addr) (a_ULTRALOGLOG : Addr) (a_KEYED_ULTRALOGLOG : Addr) (a_CONSERVATIVE_COUNT_MIN_SKETCH : Addr) (a_HEAVY_HITTERS : Addr) (a_QUANTILE_SKETCH : Addr) (a_COUNTING_BLOOM_FILTER : Addr) (a_KEYED_COUNTING_BLOOM_FILTER : Addr) : Addr := (if x0 = (0 : Int32) then a_BLOOM_FILTER else (if x0 = (1 : Int32) then a_HYPERLOGLOG else (if x0 = (2 : Int32) then a_MINHASH else (if x0 = (3 : Int32) then a_KEYED_BLOOM_FILTER else (if x0 = (4 : Int32) then a_KEYED_HYPERLOGLOG else (if x0 = (5 : Int32) then a_COUNT_MIN_SKETCH else (if x0 = (6 : Int32) then a_AMS_SKETCH else (if x0 = (7 : Int32) then a_ULTRALOGLOG else (if x0 = (8 : Int32) then a_KEYED_ULTRALOGLOG else (if x0 = (9 : Int32) then a_CONSERVATIVE_COUNT_MIN_SKETCH else (if x0 = (10 : Int32) then a_HEAVY_HITTERS else (if x0 = (11 : Int32) then a_QUANTILE_SKETCH else (if x0 = (12 : Int32) then a_COUNTING_BLOOM_FILTER else a_KEYED_COUNTING_BLOOM_FILTER)))))))))))))
set_option maxRecDepth 65536 in
set_option maxHeartbeats 40000000 in
theorem own_rm1 (l : Launch) (Z : State) (a0 : Array Value) (hw : ∀ d ∈ tables_1, d.before a0 Z = true) (ws : List Jvm.Cond) (x0 : Int32) (a_BLOOM_FILTER : Addr) (a_HYPERLOGLOG : Addr) (a_MINHASH : Addr) (a_KEYED_BLOOM_FILTER : Addr) (a_KEYED_HYPERLOGLOG : Addr) (a_COUNT_MIN_SKETCH : Addr) (a_AMS_SKETCH : Addr) (a_ULTRALOGLOG : Addr) (a_KEYED_ULTRALOGLOG : Addr) (a_CONSERVATIVE_COUNT_MIN_SKETCH : Addr) (a_HEAVY_HITTERS : Addr) (a_QUANTILE_SKETCH : Addr) (a_COUNTING_BLOOM_FILTER : Addr) (a_KEYED_COUNTING_BLOOM_FILTER : Addr) (h0 : Heap) (S_BLOOM_FILTER : Sta Z h0 "com/example/libhazy/libhazy/FormKind" "BLOOM_FILTER" "Lcom/example/libhazy/libhazy/FormKind;" (.ref a_BLOOM_FILTER)) (S_HYPERLOGLOG : Sta Z h0 "com/example/libhazy/libhazy/FormKind" "HYPERLOGLOG" "Lcom/example/libhazy/libhazy/FormKind;" (.ref a_HYPERLOGLOG)) (S_MINHASH : Sta Z h0 "com/example/libhazy/libhazy/FormKind" "MINHASH" "Lcom/example/libhazy/libhazy/FormKind;" (.ref a_MINHASH)) (S_KEYED_BLOOM_FILTER : Sta Z h0 "com/example/libhazy/libhazy/FormKind" "KEYED_BLOOM_FILTER" "Lcom/example/libhazy/libhazy/FormKind;" (.ref a_KEYED_BLOOM_FILTER)) (S_KEYED_HYPERLOGLOG : Sta Z h0 "com/example/libhazy/libhazy/FormKind" "KEYED_HYPERLOGLOG" "Lcom/example/libhazy/libhazy/FormKind;" (.ref a_KEYED_HYPERLOGLOG)) (S_COUNT_MIN_SKETCH : Sta Z h0 "com/example/libhazy/libhazy/FormKind" "COUNT_MIN_SKETCH" "Lcom/example/libhazy/libhazy/FormKind;" (.ref a_COUNT_MIN_SKETCH)) (S_AMS_SKETCH : Sta Z h0 "com/example/libhazy/libhazy/FormKind" "AMS_SKETCH" "Lcom/example/libhazy/libhazy/FormKind;" (.ref a_AMS_SKETCH)) (S_ULTRALOGLOG : Sta Z h0 "com/example/libhazy/libhazy/FormKind" "ULTRALOGLOG" "Lcom/example/libhazy/libhazy/FormKind;" (.ref a_ULTRALOGLOG)) (S_KEYED_ULTRALOGLOG : Sta Z h0 "com/example/libhazy/libhazy/FormKind" "KEYED_ULTRALOGLOG" "Lcom/example/libhazy/libhazy/FormKind;" (.ref a_KEYED_ULTRALOGLOG)) (S_CONSERVATIVE_COUNT_MIN_SKETCH : Sta Z h0 "com/example/libhazy/libhazy/FormKind" "CONSERVATIVE_COUNT_MIN_SKETCH" "Lcom/example/libhazy/libhazy/FormKind;" (.ref a_CONSERVATIVE_COUNT_MIN_SKETCH)) (S_HEAVY_HITTERS : Sta Z h0 "com/example/libhazy/libhazy/FormKind" "HEAVY_HITTERS" "Lcom/example/libhazy/libhazy/FormKind;" (.ref a_HEAVY_HITTERS)) (S_QUANTILE_SKETCH : Sta Z h0 "com/example/libhazy/libhazy/FormKind" "QUANTILE_SKETCH" "Lcom/example/libhazy/libhazy/FormKind;" (.ref a_QUANTILE_SKETCH)) (S_COUNTING_BLOOM_FILTER : Sta Z h0 "com/example/libhazy/libhazy/FormKind" "COUNTING_BLOOM_FILTER" "Lcom/example/libhazy/libhazy/FormKind;" (.ref a_COUNTING_BLOOM_FILTER)) (S_KEYED_COUNTING_BLOOM_FILTER : Sta Z h0 "com/example/libhazy/libhazy/FormKind" "KEYED_COUNTING_BLOOM_FILTER" "Lcom/example/libhazy/libhazy/FormKind;" (.ref a_KEYED_COUNTING_BLOOM_FILTER)) : Meets l Z (⟨"com/example/libhazy/libhazy/FormKindIsKeyedPinLaw", "pick", "(I)Lcom/example/libhazy/libhazy/FormKind;"⟩ : MethodName) method_2_code 1 (some (.object "com/example/libhazy/libhazy/FormKind")) ws ({ frames := 0, cells := 0, slots := 0, locals := 0 } : Room) #[(.int x0)] h0 (PureR (some (.ref (own_f1 x0 a_BLOOM_FILTER a_HYPERLOGLOG a_MINHASH a_KEYED_BLOOM_FILTER a_KEYED_HYPERLOGLOG a_COUNT_MIN_SKETCH a_AMS_SKETCH a_ULTRALOGLOG a_KEYED_ULTRALOGLOG a_CONSERVATIVE_COUNT_MIN_SKETCH a_HEAVY_HITTERS a_QUANTILE_SKETCH a_COUNTING_BLOOM_FILTER a_KEYED_COUNTING_BLOOM_FILTER))) h0) := by
  refine meets_of (plainFor_of_name own_k67) ?_
  intro p e s m below meth c s₁ X0 hx hZ hby hml hret hlk hown hnm e0
  replace hml : c.maxLocals = 1 := hml
  replace hown : s.vm.findClass "com/example/libhazy/libhazy/FormKindIsKeyedPinLaw" = some m.cls := hown
  refine Go.cast (own_k0 m x0) ?_
  refine Go.via (U' := s₁.setTop (mkF m 1 #[.val (.int x0)] [(.int x0)])) (fun tG kG => XS.iloadN X0.here hx rfl (hb hby own_k1) rfl kG) ?_
  by_cases hc1 : x0 = (0 : Int32)
  · refine Go.via (U' := s₁.setTop (mkF m 4 #[.val (.int x0)] [])) (fun tG kG => XS.ifNo X0.here hx rfl (hb hby own_k2) rfl ((if0 _ _).trans (teq hc1).2) kG) ?_
    obtain ⟨T1, X1, e1, st1⟩ := getS2 X0 hx hZ hown (host := "") (Or.inl (hw _ (List.mem_of_getElem? (i := 5) rfl))) Via.refl e0 S_BLOOM_FILTER (g := (mkF m 4 #[.val (.int x0)] [])) rfl (hb hby own_k3)
    refine Go.via (U' := T1.setTop (mkF m 7 #[.val (.int x0)] [(.ref a_BLOOM_FILTER)])) (fun tG kG => st1 tG kG) ?_
    exact go_retA X1 hx hlk hret rfl rfl rfl (hb hby own_k4) e1 ⟨(congrArg (fun z => some (Value.ref z)) (show a_BLOOM_FILTER = (own_f1 x0 a_BLOOM_FILTER a_HYPERLOGLOG a_MINHASH a_KEYED_BLOOM_FILTER a_KEYED_HYPERLOGLOG a_COUNT_MIN_SKETCH a_AMS_SKETCH a_ULTRALOGLOG a_KEYED_ULTRALOGLOG a_CONSERVATIVE_COUNT_MIN_SKETCH a_HEAVY_HITTERS a_QUANTILE_SKETCH a_COUNTING_BLOOM_FILTER a_KEYED_COUNTING_BLOOM_FILTER) from by unfold own_f1; simp only [if_pos hc1])), rfl, rfl⟩ (by decide) (by decide)
  · refine Go.via (U' := s₁.setTop (mkF m 8 #[.val (.int x0)] [])) (fun tG kG => XS.ifYes X0.here hx rfl (pc0 := 1) (pc' := 8) rfl (hb hby own_k2) rfl ((if0 _ _).trans (feq hc1).2) (by decide) (by decide) kG) ?_
    refine Go.via (U' := s₁.setTop (mkF m 9 #[.val (.int x0)] [(.int x0)])) (fun tG kG => XS.iloadN X0.here hx rfl (hb hby own_k5) rfl kG) ?_
    refine Go.via (U' := s₁.setTop (mkF m 10 #[.val (.int x0)] [(.int (1 : Int32)), (.int x0)])) (fun tG kG => XS.iconst X0.here hx rfl (hb hby own_k6) kG) ?_
    by_cases hc10 : x0 = (1 : Int32)
    · refine Go.via (U' := s₁.setTop (mkF m 13 #[.val (.int x0)] [])) (fun tG kG => XS.icmpNo X0.here hx rfl (hb hby own_k7) rfl (teq hc10).2 kG) ?_
      obtain ⟨T2, X2, e2, st2⟩ := getS2 X0 hx hZ hown (host := "") (Or.inl (hw _ (List.mem_of_getElem? (i := 34) rfl))) Via.refl e0 S_HYPERLOGLOG (g := (mkF m 13 #[.val (.int x0)] [])) rfl (hb hby own_k8)
      refine Go.via (U' := T2.setTop (mkF m 16 #[.val (.int x0)] [(.ref a_HYPERLOGLOG)])) (fun tG kG => st2 tG kG) ?_
      exact go_retA X2 hx hlk hret rfl rfl rfl (hb hby own_k9) e2 ⟨(congrArg (fun z => some (Value.ref z)) (show a_HYPERLOGLOG = (own_f1 x0 a_BLOOM_FILTER a_HYPERLOGLOG a_MINHASH a_KEYED_BLOOM_FILTER a_KEYED_HYPERLOGLOG a_COUNT_MIN_SKETCH a_AMS_SKETCH a_ULTRALOGLOG a_KEYED_ULTRALOGLOG a_CONSERVATIVE_COUNT_MIN_SKETCH a_HEAVY_HITTERS a_QUANTILE_SKETCH a_COUNTING_BLOOM_FILTER a_KEYED_COUNTING_BLOOM_FILTER) from by unfold own_f1; simp only [if_neg hc1, if_pos hc10])), rfl, rfl⟩ (by decide) (by decide)
    · refine Go.via (U' := s₁.setTop (mkF m 17 #[.val (.int x0)] [])) (fun tG kG => XS.icmpYes X0.here hx rfl (pc0 := 10) (pc' := 17) rfl (hb hby own_k7) rfl (feq hc10).2 (by decide) (by decide) kG) ?_
      refine Go.via (U' := s₁.setTop (mkF m 18 #[.val (.int x0)] [(.int x0)])) (fun tG kG => XS.iloadN X0.here hx rfl (hb hby own_k10) rfl kG) ?_
      refine Go.via (U' := s₁.setTop (mkF m 19 #[.val (.int x0)] [(.int (2 : Int32)), (.int x0)])) (fun tG kG => XS.iconst X0.here hx rfl (hb hby own_k11) kG) ?_
      by_cases hc19 : x0 = (2 : Int32)
      · refine Go.via (U' := s₁.setTop (mkF m 22 #[.val (.int x0)] [])) (fun tG kG => XS.icmpNo X0.here hx rfl (hb hby own_k12) rfl (teq hc19).2 kG) ?_
        obtain ⟨T3, X3, e3, st3⟩ := getS2 X0 hx hZ hown (host := "") (Or.inl (hw _ (List.mem_of_getElem? (i := 26) rfl))) Via.refl e0 S_MINHASH (g := (mkF m 22 #[.val (.int x0)] [])) rfl (hb hby own_k13)
        refine Go.via (U' := T3.setTop (mkF m 25 #[.val (.int x0)] [(.ref a_MINHASH)])) (fun tG kG => st3 tG kG) ?_
        exact go_retA X3 hx hlk hret rfl rfl rfl (hb hby own_k14) e3 ⟨(congrArg (fun z => some (Value.ref z)) (show a_MINHASH = (own_f1 x0 a_BLOOM_FILTER a_HYPERLOGLOG a_MINHASH a_KEYED_BLOOM_FILTER a_KEYED_HYPERLOGLOG a_COUNT_MIN_SKETCH a_AMS_SKETCH a_ULTRALOGLOG a_KEYED_ULTRALOGLOG a_CONSERVATIVE_COUNT_MIN_SKETCH a_HEAVY_HITTERS a_QUANTILE_SKETCH a_COUNTING_BLOOM_FILTER a_KEYED_COUNTING_BLOOM_FILTER) from by unfold own_f1; simp only [if_neg hc1, if_neg hc10, if_pos hc19])), rfl, rfl⟩ (by decide) (by decide)
      · refine Go.via (U' := s₁.setTop (mkF m 26 #[.val (.int x0)] [])) (fun tG kG => XS.icmpYes X0.here hx rfl (pc0 := 19) (pc' := 26) rfl (hb hby own_k12) rfl (feq hc19).2 (by decide) (by decide) kG) ?_
        refine Go.via (U' := s₁.setTop (mkF m 27 #[.val (.int x0)] [(.int x0)])) (fun tG kG => XS.iloadN X0.here hx rfl (hb hby own_k15) rfl kG) ?_
        refine Go.via (U' := s₁.setTop (mkF m 28 #[.val (.int x0)] [(.int (3 : Int32)), (.int x0)])) (fun tG kG => XS.iconst X0.here hx rfl (hb hby own_k16) kG) ?_
        by_cases hc28 : x0 = (3 : Int32)
        · refine Go.via (U' := s₁.setTop (mkF m 31 #[.val (.int x0)] [])) (fun tG kG => XS.icmpNo X0.here hx rfl (hb hby own_k17) rfl (teq hc28).2 kG) ?_
          obtain ⟨T4, X4, e4, st4⟩ := getS2 X0 hx hZ hown (host := "") (Or.inl (hw _ (List.mem_of_getElem? (i := 15) rfl))) Via.refl e0 S_KEYED_BLOOM_FILTER (g := (mkF m 31 #[.val (.int x0)] [])) rfl (hb hby own_k18)
          refine Go.via (U' := T4.setTop (mkF m 34 #[.val (.int x0)] [(.ref a_KEYED_BLOOM_FILTER)])) (fun tG kG => st4 tG kG) ?_
          exact go_retA X4 hx hlk hret rfl rfl rfl (hb hby own_k19) e4 ⟨(congrArg (fun z => some (Value.ref z)) (show a_KEYED_BLOOM_FILTER = (own_f1 x0 a_BLOOM_FILTER a_HYPERLOGLOG a_MINHASH a_KEYED_BLOOM_FILTER a_KEYED_HYPERLOGLOG a_COUNT_MIN_SKETCH a_AMS_SKETCH a_ULTRALOGLOG a_KEYED_ULTRALOGLOG a_CONSERVATIVE_COUNT_MIN_SKETCH a_HEAVY_HITTERS a_QUANTILE_SKETCH a_COUNTING_BLOOM_FILTER a_KEYED_COUNTING_BLOOM_FILTER) from by unfold own_f1; simp only [if_neg hc1, if_neg hc10, if_neg hc19, if_pos hc28])), rfl, rfl⟩ (by decide) (by decide)
        · refine Go.via (U' := s₁.setTop (mkF m 35 #[.val (.int x0)] [])) (fun tG kG => XS.icmpYes X0.here hx rfl (pc0 := 28) (pc' := 35) rfl (hb hby own_k17) rfl (feq hc28).2 (by decide) (by decide) kG) ?_
          refine Go.via (U' := s₁.setTop (mkF m 36 #[.val (.int x0)] [(.int x0)])) (fun tG kG => XS.iloadN X0.here hx rfl (hb hby own_k20) rfl kG) ?_
          refine Go.via (U' := s₁.setTop (mkF m 37 #[.val (.int x0)] [(.int (4 : Int32)), (.int x0)])) (fun tG kG => XS.iconst X0.here hx rfl (hb hby own_k21) kG) ?_
          by_cases hc37 : x0 = (4 : Int32)
          · refine Go.via (U' := s₁.setTop (mkF m 40 #[.val (.int x0)] [])) (fun tG kG => XS.icmpNo X0.here hx rfl (hb hby own_k22) rfl (teq hc37).2 kG) ?_
            obtain ⟨T5, X5, e5, st5⟩ := getS2 X0 hx hZ hown (host := "") (Or.inl (hw _ (List.mem_of_getElem? (i := 21) rfl))) Via.refl e0 S_KEYED_HYPERLOGLOG (g := (mkF m 40 #[.val (.int x0)] [])) rfl (hb hby own_k23)
            refine Go.via (U' := T5.setTop (mkF m 43 #[.val (.int x0)] [(.ref a_KEYED_HYPERLOGLOG)])) (fun tG kG => st5 tG kG) ?_
            exact go_retA X5 hx hlk hret rfl rfl rfl (hb hby own_k24) e5 ⟨(congrArg (fun z => some (Value.ref z)) (show a_KEYED_HYPERLOGLOG = (own_f1 x0 a_BLOOM_FILTER a_HYPERLOGLOG a_MINHASH a_KEYED_BLOOM_FILTER a_KEYED_HYPERLOGLOG a_COUNT_MIN_SKETCH a_AMS_SKETCH a_ULTRALOGLOG a_KEYED_ULTRALOGLOG a_CONSERVATIVE_COUNT_MIN_SKETCH a_HEAVY_HITTERS a_QUANTILE_SKETCH a_COUNTING_BLOOM_FILTER a_KEYED_COUNTING_BLOOM_FILTER) from by unfold own_f1; simp only [if_neg hc1, if_neg hc10, if_neg hc19, if_neg hc28, if_pos hc37])), rfl, rfl⟩ (by decide) (by decide)
          · refine Go.via (U' := s₁.setTop (mkF m 44 #[.val (.int x0)] [])) (fun tG kG => XS.icmpYes X0.here hx rfl (pc0 := 37) (pc' := 44) rfl (hb hby own_k22) rfl (feq hc37).2 (by decide) (by decide) kG) ?_
            refine Go.via (U' := s₁.setTop (mkF m 45 #[.val (.int x0)] [(.int x0)])) (fun tG kG => XS.iloadN X0.here hx rfl (hb hby own_k25) rfl kG) ?_
            refine Go.via (U' := s₁.setTop (mkF m 46 #[.val (.int x0)] [(.int (5 : Int32)), (.int x0)])) (fun tG kG => XS.iconst X0.here hx rfl (hb hby own_k26) kG) ?_
            by_cases hc46 : x0 = (5 : Int32)
            · refine Go.via (U' := s₁.setTop (mkF m 49 #[.val (.int x0)] [])) (fun tG kG => XS.icmpNo X0.here hx rfl (hb hby own_k27) rfl (teq hc46).2 kG) ?_
              obtain ⟨T6, X6, e6, st6⟩ := getS2 X0 hx hZ hown (host := "") (Or.inl (hw _ (List.mem_of_getElem? (i := 37) rfl))) Via.refl e0 S_COUNT_MIN_SKETCH (g := (mkF m 49 #[.val (.int x0)] [])) rfl (hb hby own_k28)
              refine Go.via (U' := T6.setTop (mkF m 52 #[.val (.int x0)] [(.ref a_COUNT_MIN_SKETCH)])) (fun tG kG => st6 tG kG) ?_
              exact go_retA X6 hx hlk hret rfl rfl rfl (hb hby own_k29) e6 ⟨(congrArg (fun z => some (Value.ref z)) (show a_COUNT_MIN_SKETCH = (own_f1 x0 a_BLOOM_FILTER a_HYPERLOGLOG a_MINHASH a_KEYED_BLOOM_FILTER a_KEYED_HYPERLOGLOG a_COUNT_MIN_SKETCH a_AMS_SKETCH a_ULTRALOGLOG a_KEYED_ULTRALOGLOG a_CONSERVATIVE_COUNT_MIN_SKETCH a_HEAVY_HITTERS a_QUANTILE_SKETCH a_COUNTING_BLOOM_FILTER a_KEYED_COUNTING_BLOOM_FILTER) from by unfold own_f1; simp only [if_neg hc1, if_neg hc10, if_neg hc19, if_neg hc28, if_neg hc37, if_pos hc46])), rfl, rfl⟩ (by decide) (by decide)
            · refine Go.via (U' := s₁.setTop (mkF m 53 #[.val (.int x0)] [])) (fun tG kG => XS.icmpYes X0.here hx rfl (pc0 := 46) (pc' := 53) rfl (hb hby own_k27) rfl (feq hc46).2 (by decide) (by decide) kG) ?_
              refine Go.via (U' := s₁.setTop (mkF m 54 #[.val (.int x0)] [(.int x0)])) (fun tG kG => XS.iloadN X0.here hx rfl (hb hby own_k30) rfl kG) ?_
              refine Go.via (U' := s₁.setTop (mkF m 56 #[.val (.int x0)] [(.int (6 : Int32)), (.int x0)])) (fun tG kG => XS.bipush X0.here hx rfl (hb hby own_k31) kG) ?_
              by_cases hc56 : x0 = (6 : Int32)
              · refine Go.via (U' := s₁.setTop (mkF m 59 #[.val (.int x0)] [])) (fun tG kG => XS.icmpNo X0.here hx rfl (hb hby own_k32) rfl (teq hc56).2 kG) ?_
                obtain ⟨T7, X7, e7, st7⟩ := getS2 X0 hx hZ hown (host := "") (Or.inl (hw _ (List.mem_of_getElem? (i := 39) rfl))) Via.refl e0 S_AMS_SKETCH (g := (mkF m 59 #[.val (.int x0)] [])) rfl (hb hby own_k33)
                refine Go.via (U' := T7.setTop (mkF m 62 #[.val (.int x0)] [(.ref a_AMS_SKETCH)])) (fun tG kG => st7 tG kG) ?_
                exact go_retA X7 hx hlk hret rfl rfl rfl (hb hby own_k34) e7 ⟨(congrArg (fun z => some (Value.ref z)) (show a_AMS_SKETCH = (own_f1 x0 a_BLOOM_FILTER a_HYPERLOGLOG a_MINHASH a_KEYED_BLOOM_FILTER a_KEYED_HYPERLOGLOG a_COUNT_MIN_SKETCH a_AMS_SKETCH a_ULTRALOGLOG a_KEYED_ULTRALOGLOG a_CONSERVATIVE_COUNT_MIN_SKETCH a_HEAVY_HITTERS a_QUANTILE_SKETCH a_COUNTING_BLOOM_FILTER a_KEYED_COUNTING_BLOOM_FILTER) from by unfold own_f1; simp only [if_neg hc1, if_neg hc10, if_neg hc19, if_neg hc28, if_neg hc37, if_neg hc46, if_pos hc56])), rfl, rfl⟩ (by decide) (by decide)
              · refine Go.via (U' := s₁.setTop (mkF m 63 #[.val (.int x0)] [])) (fun tG kG => XS.icmpYes X0.here hx rfl (pc0 := 56) (pc' := 63) rfl (hb hby own_k32) rfl (feq hc56).2 (by decide) (by decide) kG) ?_
                refine Go.via (U' := s₁.setTop (mkF m 64 #[.val (.int x0)] [(.int x0)])) (fun tG kG => XS.iloadN X0.here hx rfl (hb hby own_k35) rfl kG) ?_
                refine Go.via (U' := s₁.setTop (mkF m 66 #[.val (.int x0)] [(.int (7 : Int32)), (.int x0)])) (fun tG kG => XS.bipush X0.here hx rfl (hb hby own_k36) kG) ?_
                by_cases hc66 : x0 = (7 : Int32)
                · refine Go.via (U' := s₁.setTop (mkF m 69 #[.val (.int x0)] [])) (fun tG kG => XS.icmpNo X0.here hx rfl (hb hby own_k37) rfl (teq hc66).2 kG) ?_
                  obtain ⟨T8, X8, e8, st8⟩ := getS2 X0 hx hZ hown (host := "") (Or.inl (hw _ (List.mem_of_getElem? (i := 24) rfl))) Via.refl e0 S_ULTRALOGLOG (g := (mkF m 69 #[.val (.int x0)] [])) rfl (hb hby own_k38)
                  refine Go.via (U' := T8.setTop (mkF m 72 #[.val (.int x0)] [(.ref a_ULTRALOGLOG)])) (fun tG kG => st8 tG kG) ?_
                  exact go_retA X8 hx hlk hret rfl rfl rfl (hb hby own_k39) e8 ⟨(congrArg (fun z => some (Value.ref z)) (show a_ULTRALOGLOG = (own_f1 x0 a_BLOOM_FILTER a_HYPERLOGLOG a_MINHASH a_KEYED_BLOOM_FILTER a_KEYED_HYPERLOGLOG a_COUNT_MIN_SKETCH a_AMS_SKETCH a_ULTRALOGLOG a_KEYED_ULTRALOGLOG a_CONSERVATIVE_COUNT_MIN_SKETCH a_HEAVY_HITTERS a_QUANTILE_SKETCH a_COUNTING_BLOOM_FILTER a_KEYED_COUNTING_BLOOM_FILTER) from by unfold own_f1; simp only [if_neg hc1, if_neg hc10, if_neg hc19, if_neg hc28, if_neg hc37, if_neg hc46, if_neg hc56, if_pos hc66])), rfl, rfl⟩ (by decide) (by decide)
                · refine Go.via (U' := s₁.setTop (mkF m 73 #[.val (.int x0)] [])) (fun tG kG => XS.icmpYes X0.here hx rfl (pc0 := 66) (pc' := 73) rfl (hb hby own_k37) rfl (feq hc66).2 (by decide) (by decide) kG) ?_
                  refine Go.via (U' := s₁.setTop (mkF m 74 #[.val (.int x0)] [(.int x0)])) (fun tG kG => XS.iloadN X0.here hx rfl (hb hby own_k40) rfl kG) ?_
                  refine Go.via (U' := s₁.setTop (mkF m 76 #[.val (.int x0)] [(.int (8 : Int32)), (.int x0)])) (fun tG kG => XS.bipush X0.here hx rfl (hb hby own_k41) kG) ?_
                  by_cases hc76 : x0 = (8 : Int32)
                  · refine Go.via (U' := s₁.setTop (mkF m 79 #[.val (.int x0)] [])) (fun tG kG => XS.icmpNo X0.here hx rfl (hb hby own_k42) rfl (teq hc76).2 kG) ?_
                    obtain ⟨T9, X9, e9, st9⟩ := getS2 X0 hx hZ hown (host := "") (Or.inl (hw _ (List.mem_of_getElem? (i := 32) rfl))) Via.refl e0 S_KEYED_ULTRALOGLOG (g := (mkF m 79 #[.val (.int x0)] [])) rfl (hb hby own_k43)
                    refine Go.via (U' := T9.setTop (mkF m 82 #[.val (.int x0)] [(.ref a_KEYED_ULTRALOGLOG)])) (fun tG kG => st9 tG kG) ?_
                    exact go_retA X9 hx hlk hret rfl rfl rfl (hb hby own_k44) e9 ⟨(congrArg (fun z => some (Value.ref z)) (show a_KEYED_ULTRALOGLOG = (own_f1 x0 a_BLOOM_FILTER a_HYPERLOGLOG a_MINHASH a_KEYED_BLOOM_FILTER a_KEYED_HYPERLOGLOG a_COUNT_MIN_SKETCH a_AMS_SKETCH a_ULTRALOGLOG a_KEYED_ULTRALOGLOG a_CONSERVATIVE_COUNT_MIN_SKETCH a_HEAVY_HITTERS a_QUANTILE_SKETCH a_COUNTING_BLOOM_FILTER a_KEYED_COUNTING_BLOOM_FILTER) from by unfold own_f1; simp only [if_neg hc1, if_neg hc10, if_neg hc19, if_neg hc28, if_neg hc37, if_neg hc46, if_neg hc56, if_neg hc66, if_pos hc76])), rfl, rfl⟩ (by decide) (by decide)
                  · refine Go.via (U' := s₁.setTop (mkF m 83 #[.val (.int x0)] [])) (fun tG kG => XS.icmpYes X0.here hx rfl (pc0 := 76) (pc' := 83) rfl (hb hby own_k42) rfl (feq hc76).2 (by decide) (by decide) kG) ?_
                    refine Go.via (U' := s₁.setTop (mkF m 84 #[.val (.int x0)] [(.int x0)])) (fun tG kG => XS.iloadN X0.here hx rfl (hb hby own_k45) rfl kG) ?_
                    refine Go.via (U' := s₁.setTop (mkF m 86 #[.val (.int x0)] [(.int (9 : Int32)), (.int x0)])) (fun tG kG => XS.bipush X0.here hx rfl (hb hby own_k46) kG) ?_
                    by_cases hc86 : x0 = (9 : Int32)
                    · refine Go.via (U' := s₁.setTop (mkF m 89 #[.val (.int x0)] [])) (fun tG kG => XS.icmpNo X0.here hx rfl (hb hby own_k47) rfl (teq hc86).2 kG) ?_
                      obtain ⟨T10, X10, e10, st10⟩ := getS2 X0 hx hZ hown (host := "") (Or.inl (hw _ (List.mem_of_getElem? (i := 35) rfl))) Via.refl e0 S_CONSERVATIVE_COUNT_MIN_SKETCH (g := (mkF m 89 #[.val (.int x0)] [])) rfl (hb hby own_k48)
                      refine Go.via (U' := T10.setTop (mkF m 92 #[.val (.int x0)] [(.ref a_CONSERVATIVE_COUNT_MIN_SKETCH)])) (fun tG kG => st10 tG kG) ?_
                      exact go_retA X10 hx hlk hret rfl rfl rfl (hb hby own_k49) e10 ⟨(congrArg (fun z => some (Value.ref z)) (show a_CONSERVATIVE_COUNT_MIN_SKETCH = (own_f1 x0 a_BLOOM_FILTER a_HYPERLOGLOG a_MINHASH a_KEYED_BLOOM_FILTER a_KEYED_HYPERLOGLOG a_COUNT_MIN_SKETCH a_AMS_SKETCH a_ULTRALOGLOG a_KEYED_ULTRALOGLOG a_CONSERVATIVE_COUNT_MIN_SKETCH a_HEAVY_HITTERS a_QUANTILE_SKETCH a_COUNTING_BLOOM_FILTER a_KEYED_COUNTING_BLOOM_FILTER) from by unfold own_f1; simp only [if_neg hc1, if_neg hc10, if_neg hc19, if_neg hc28, if_neg hc37, if_neg hc46, if_neg hc56, if_neg hc66, if_neg hc76, if_pos hc86])), rfl, rfl⟩ (by decide) (by decide)
                    · refine Go.via (U' := s₁.setTop (mkF m 93 #[.val (.int x0)] [])) (fun tG kG => XS.icmpYes X0.here hx rfl (pc0 := 86) (pc' := 93) rfl (hb hby own_k47) rfl (feq hc86).2 (by decide) (by decide) kG) ?_
                      refine Go.via (U' := s₁.setTop (mkF m 94 #[.val (.int x0)] [(.int x0)])) (fun tG kG => XS.iloadN X0.here hx rfl (hb hby own_k50) rfl kG) ?_
                      refine Go.via (U' := s₁.setTop (mkF m 96 #[.val (.int x0)] [(.int (10 : Int32)), (.int x0)])) (fun tG kG => XS.bipush X0.here hx rfl (hb hby own_k51) kG) ?_
                      by_cases hc96 : x0 = (10 : Int32)
                      · refine Go.via (U' := s₁.setTop (mkF m 99 #[.val (.int x0)] [])) (fun tG kG => XS.icmpNo X0.here hx rfl (hb hby own_k52) rfl (teq hc96).2 kG) ?_
                        obtain ⟨T11, X11, e11, st11⟩ := getS2 X0 hx hZ hown (host := "") (Or.inl (hw _ (List.mem_of_getElem? (i := 30) rfl))) Via.refl e0 S_HEAVY_HITTERS (g := (mkF m 99 #[.val (.int x0)] [])) rfl (hb hby own_k53)
                        refine Go.via (U' := T11.setTop (mkF m 102 #[.val (.int x0)] [(.ref a_HEAVY_HITTERS)])) (fun tG kG => st11 tG kG) ?_
                        exact go_retA X11 hx hlk hret rfl rfl rfl (hb hby own_k54) e11 ⟨(congrArg (fun z => some (Value.ref z)) (show a_HEAVY_HITTERS = (own_f1 x0 a_BLOOM_FILTER a_HYPERLOGLOG a_MINHASH a_KEYED_BLOOM_FILTER a_KEYED_HYPERLOGLOG a_COUNT_MIN_SKETCH a_AMS_SKETCH a_ULTRALOGLOG a_KEYED_ULTRALOGLOG a_CONSERVATIVE_COUNT_MIN_SKETCH a_HEAVY_HITTERS a_QUANTILE_SKETCH a_COUNTING_BLOOM_FILTER a_KEYED_COUNTING_BLOOM_FILTER) from by unfold own_f1; simp only [if_neg hc1, if_neg hc10, if_neg hc19, if_neg hc28, if_neg hc37, if_neg hc46, if_neg hc56, if_neg hc66, if_neg hc76, if_neg hc86, if_pos hc96])), rfl, rfl⟩ (by decide) (by decide)
                      · refine Go.via (U' := s₁.setTop (mkF m 103 #[.val (.int x0)] [])) (fun tG kG => XS.icmpYes X0.here hx rfl (pc0 := 96) (pc' := 103) rfl (hb hby own_k52) rfl (feq hc96).2 (by decide) (by decide) kG) ?_
                        refine Go.via (U' := s₁.setTop (mkF m 104 #[.val (.int x0)] [(.int x0)])) (fun tG kG => XS.iloadN X0.here hx rfl (hb hby own_k55) rfl kG) ?_
                        refine Go.via (U' := s₁.setTop (mkF m 106 #[.val (.int x0)] [(.int (11 : Int32)), (.int x0)])) (fun tG kG => XS.bipush X0.here hx rfl (hb hby own_k56) kG) ?_
                        by_cases hc106 : x0 = (11 : Int32)
                        · refine Go.via (U' := s₁.setTop (mkF m 109 #[.val (.int x0)] [])) (fun tG kG => XS.icmpNo X0.here hx rfl (hb hby own_k57) rfl (teq hc106).2 kG) ?_
                          obtain ⟨T12, X12, e12, st12⟩ := getS2 X0 hx hZ hown (host := "") (Or.inl (hw _ (List.mem_of_getElem? (i := 28) rfl))) Via.refl e0 S_QUANTILE_SKETCH (g := (mkF m 109 #[.val (.int x0)] [])) rfl (hb hby own_k58)
                          refine Go.via (U' := T12.setTop (mkF m 112 #[.val (.int x0)] [(.ref a_QUANTILE_SKETCH)])) (fun tG kG => st12 tG kG) ?_
                          exact go_retA X12 hx hlk hret rfl rfl rfl (hb hby own_k59) e12 ⟨(congrArg (fun z => some (Value.ref z)) (show a_QUANTILE_SKETCH = (own_f1 x0 a_BLOOM_FILTER a_HYPERLOGLOG a_MINHASH a_KEYED_BLOOM_FILTER a_KEYED_HYPERLOGLOG a_COUNT_MIN_SKETCH a_AMS_SKETCH a_ULTRALOGLOG a_KEYED_ULTRALOGLOG a_CONSERVATIVE_COUNT_MIN_SKETCH a_HEAVY_HITTERS a_QUANTILE_SKETCH a_COUNTING_BLOOM_FILTER a_KEYED_COUNTING_BLOOM_FILTER) from by unfold own_f1; simp only [if_neg hc1, if_neg hc10, if_neg hc19, if_neg hc28, if_neg hc37, if_neg hc46, if_neg hc56, if_neg hc66, if_neg hc76, if_neg hc86, if_neg hc96, if_pos hc106])), rfl, rfl⟩ (by decide) (by decide)
                        · refine Go.via (U' := s₁.setTop (mkF m 113 #[.val (.int x0)] [])) (fun tG kG => XS.icmpYes X0.here hx rfl (pc0 := 106) (pc' := 113) rfl (hb hby own_k57) rfl (feq hc106).2 (by decide) (by decide) kG) ?_
                          refine Go.via (U' := s₁.setTop (mkF m 114 #[.val (.int x0)] [(.int x0)])) (fun tG kG => XS.iloadN X0.here hx rfl (hb hby own_k60) rfl kG) ?_
                          refine Go.via (U' := s₁.setTop (mkF m 116 #[.val (.int x0)] [(.int (12 : Int32)), (.int x0)])) (fun tG kG => XS.bipush X0.here hx rfl (hb hby own_k61) kG) ?_
                          by_cases hc116 : x0 = (12 : Int32)
                          · refine Go.via (U' := s₁.setTop (mkF m 119 #[.val (.int x0)] [])) (fun tG kG => XS.icmpNo X0.here hx rfl (hb hby own_k62) rfl (teq hc116).2 kG) ?_
                            obtain ⟨T13, X13, e13, st13⟩ := getS2 X0 hx hZ hown (host := "") (Or.inl (hw _ (List.mem_of_getElem? (i := 17) rfl))) Via.refl e0 S_COUNTING_BLOOM_FILTER (g := (mkF m 119 #[.val (.int x0)] [])) rfl (hb hby own_k63)
                            refine Go.via (U' := T13.setTop (mkF m 122 #[.val (.int x0)] [(.ref a_COUNTING_BLOOM_FILTER)])) (fun tG kG => st13 tG kG) ?_
                            exact go_retA X13 hx hlk hret rfl rfl rfl (hb hby own_k64) e13 ⟨(congrArg (fun z => some (Value.ref z)) (show a_COUNTING_BLOOM_FILTER = (own_f1 x0 a_BLOOM_FILTER a_HYPERLOGLOG a_MINHASH a_KEYED_BLOOM_FILTER a_KEYED_HYPERLOGLOG a_COUNT_MIN_SKETCH a_AMS_SKETCH a_ULTRALOGLOG a_KEYED_ULTRALOGLOG a_CONSERVATIVE_COUNT_MIN_SKETCH a_HEAVY_HITTERS a_QUANTILE_SKETCH a_COUNTING_BLOOM_FILTER a_KEYED_COUNTING_BLOOM_FILTER) from by unfold own_f1; simp only [if_neg hc1, if_neg hc10, if_neg hc19, if_neg hc28, if_neg hc37, if_neg hc46, if_neg hc56, if_neg hc66, if_neg hc76, if_neg hc86, if_neg hc96, if_neg hc106, if_pos hc116])), rfl, rfl⟩ (by decide) (by decide)
                          · refine Go.via (U' := s₁.setTop (mkF m 123 #[.val (.int x0)] [])) (fun tG kG => XS.icmpYes X0.here hx rfl (pc0 := 116) (pc' := 123) rfl (hb hby own_k62) rfl (feq hc116).2 (by decide) (by decide) kG) ?_
                            obtain ⟨T14, X14, e14, st14⟩ := getS2 X0 hx hZ hown (host := "") (Or.inl (hw _ (List.mem_of_getElem? (i := 19) rfl))) Via.refl e0 S_KEYED_COUNTING_BLOOM_FILTER (g := (mkF m 123 #[.val (.int x0)] [])) rfl (hb hby own_k65)
                            refine Go.via (U' := T14.setTop (mkF m 126 #[.val (.int x0)] [(.ref a_KEYED_COUNTING_BLOOM_FILTER)])) (fun tG kG => st14 tG kG) ?_
                            exact go_retA X14 hx hlk hret rfl rfl rfl (hb hby own_k66) e14 ⟨(congrArg (fun z => some (Value.ref z)) (show a_KEYED_COUNTING_BLOOM_FILTER = (own_f1 x0 a_BLOOM_FILTER a_HYPERLOGLOG a_MINHASH a_KEYED_BLOOM_FILTER a_KEYED_HYPERLOGLOG a_COUNT_MIN_SKETCH a_AMS_SKETCH a_ULTRALOGLOG a_KEYED_ULTRALOGLOG a_CONSERVATIVE_COUNT_MIN_SKETCH a_HEAVY_HITTERS a_QUANTILE_SKETCH a_COUNTING_BLOOM_FILTER a_KEYED_COUNTING_BLOOM_FILTER) from by unfold own_f1; simp only [if_neg hc1, if_neg hc10, if_neg hc19, if_neg hc28, if_neg hc37, if_neg hc46, if_neg hc56, if_neg hc66, if_neg hc76, if_neg hc86, if_neg hc96, if_neg hc106, if_neg hc116])), rfl, rfl⟩ (by decide) (by decide)
def own_seed (x0 : Int32) (a_BLOOM_FILTER a_HYPERLOGLOG a_MINHASH a_KEYED_BLOOM_FILTER a_KEYED_HYPERLOGLOG a_COUNT_MIN_SKETCH a_AMS_SKETCH a_ULTRALOGLOG a_KEYED_ULTRALOGLOG a_CONSERVATIVE_COUNT_MIN_SKETCH a_HEAVY_HITTERS a_QUANTILE_SKETCH a_COUNTING_BLOOM_FILTER a_KEYED_COUNTING_BLOOM_FILTER : Addr) : Value := (if x0 = (0 : Int32) then (.null : Value) else (if x0 = (1 : Int32) then (.null : Value) else (if x0 = (2 : Int32) then (.null : Value) else (if x0 = (3 : Int32) then ((.ref a_BLOOM_FILTER) : Value) else (if x0 = (4 : Int32) then ((.ref a_HYPERLOGLOG) : Value) else (if x0 = (5 : Int32) then (.null : Value) else (if x0 = (6 : Int32) then (.null : Value) else (if x0 = (7 : Int32) then (.null : Value) else (if x0 = (8 : Int32) then ((.ref a_ULTRALOGLOG) : Value) else (if x0 = (9 : Int32) then (.null : Value) else (if x0 = (10 : Int32) then (.null : Value) else (if x0 = (11 : Int32) then (.null : Value) else (if x0 = (12 : Int32) then (.null : Value) else (.ref a_COUNTING_BLOOM_FILTER))))))))))))))
theorem own_pickP {P : Addr → Value → Prop} (x0 : Int32) (a_BLOOM_FILTER a_HYPERLOGLOG a_MINHASH a_KEYED_BLOOM_FILTER a_KEYED_HYPERLOGLOG a_COUNT_MIN_SKETCH a_AMS_SKETCH a_ULTRALOGLOG a_KEYED_ULTRALOGLOG a_CONSERVATIVE_COUNT_MIN_SKETCH a_HEAVY_HITTERS a_QUANTILE_SKETCH a_COUNTING_BLOOM_FILTER a_KEYED_COUNTING_BLOOM_FILTER : Addr) (h0 : P a_BLOOM_FILTER (.null)) (h1 : P a_HYPERLOGLOG (.null)) (h2 : P a_MINHASH (.null)) (h3 : P a_KEYED_BLOOM_FILTER ((.ref a_BLOOM_FILTER))) (h4 : P a_KEYED_HYPERLOGLOG ((.ref a_HYPERLOGLOG))) (h5 : P a_COUNT_MIN_SKETCH (.null)) (h6 : P a_AMS_SKETCH (.null)) (h7 : P a_ULTRALOGLOG (.null)) (h8 : P a_KEYED_ULTRALOGLOG ((.ref a_ULTRALOGLOG))) (h9 : P a_CONSERVATIVE_COUNT_MIN_SKETCH (.null)) (h10 : P a_HEAVY_HITTERS (.null)) (h11 : P a_QUANTILE_SKETCH (.null)) (h12 : P a_COUNTING_BLOOM_FILTER (.null)) (h13 : P a_KEYED_COUNTING_BLOOM_FILTER ((.ref a_COUNTING_BLOOM_FILTER))) : P (own_f1 x0 a_BLOOM_FILTER a_HYPERLOGLOG a_MINHASH a_KEYED_BLOOM_FILTER a_KEYED_HYPERLOGLOG a_COUNT_MIN_SKETCH a_AMS_SKETCH a_ULTRALOGLOG a_KEYED_ULTRALOGLOG a_CONSERVATIVE_COUNT_MIN_SKETCH a_HEAVY_HITTERS a_QUANTILE_SKETCH a_COUNTING_BLOOM_FILTER a_KEYED_COUNTING_BLOOM_FILTER) (own_seed x0 a_BLOOM_FILTER a_HYPERLOGLOG a_MINHASH a_KEYED_BLOOM_FILTER a_KEYED_HYPERLOGLOG a_COUNT_MIN_SKETCH a_AMS_SKETCH a_ULTRALOGLOG a_KEYED_ULTRALOGLOG a_CONSERVATIVE_COUNT_MIN_SKETCH a_HEAVY_HITTERS a_QUANTILE_SKETCH a_COUNTING_BLOOM_FILTER a_KEYED_COUNTING_BLOOM_FILTER) := by
  unfold own_f1 own_seed
  by_cases q0 : x0 = (0 : Int32)
  · simp only [if_pos q0]; exact h0
  by_cases q1 : x0 = (1 : Int32)
  · simp only [if_pos q1, if_neg q0]; exact h1
  by_cases q2 : x0 = (2 : Int32)
  · simp only [if_pos q2, if_neg q0, if_neg q1]; exact h2
  by_cases q3 : x0 = (3 : Int32)
  · simp only [if_pos q3, if_neg q0, if_neg q1, if_neg q2]; exact h3
  by_cases q4 : x0 = (4 : Int32)
  · simp only [if_pos q4, if_neg q0, if_neg q1, if_neg q2, if_neg q3]; exact h4
  by_cases q5 : x0 = (5 : Int32)
  · simp only [if_pos q5, if_neg q0, if_neg q1, if_neg q2, if_neg q3, if_neg q4]; exact h5
  by_cases q6 : x0 = (6 : Int32)
  · simp only [if_pos q6, if_neg q0, if_neg q1, if_neg q2, if_neg q3, if_neg q4, if_neg q5]; exact h6
  by_cases q7 : x0 = (7 : Int32)
  · simp only [if_pos q7, if_neg q0, if_neg q1, if_neg q2, if_neg q3, if_neg q4, if_neg q5, if_neg q6]; exact h7
  by_cases q8 : x0 = (8 : Int32)
  · simp only [if_pos q8, if_neg q0, if_neg q1, if_neg q2, if_neg q3, if_neg q4, if_neg q5, if_neg q6, if_neg q7]; exact h8
  by_cases q9 : x0 = (9 : Int32)
  · simp only [if_pos q9, if_neg q0, if_neg q1, if_neg q2, if_neg q3, if_neg q4, if_neg q5, if_neg q6, if_neg q7, if_neg q8]; exact h9
  by_cases q10 : x0 = (10 : Int32)
  · simp only [if_pos q10, if_neg q0, if_neg q1, if_neg q2, if_neg q3, if_neg q4, if_neg q5, if_neg q6, if_neg q7, if_neg q8, if_neg q9]; exact h10
  by_cases q11 : x0 = (11 : Int32)
  · simp only [if_pos q11, if_neg q0, if_neg q1, if_neg q2, if_neg q3, if_neg q4, if_neg q5, if_neg q6, if_neg q7, if_neg q8, if_neg q9, if_neg q10]; exact h11
  by_cases q12 : x0 = (12 : Int32)
  · simp only [if_pos q12, if_neg q0, if_neg q1, if_neg q2, if_neg q3, if_neg q4, if_neg q5, if_neg q6, if_neg q7, if_neg q8, if_neg q9, if_neg q10, if_neg q11]; exact h12
  simp only [if_neg q0, if_neg q1, if_neg q2, if_neg q3, if_neg q4, if_neg q5, if_neg q6, if_neg q7, if_neg q8, if_neg q9, if_neg q10, if_neg q11, if_neg q12]; exact h13
theorem own_k68 (m : MethodId) (a : Addr) : entryFrame m #[(.ref a)] 1 = mkF m 0 #[.val (.ref a)] [] := by first | (simp [entryFrame, mkF, argsToLocals, Value.category]; done) | rfl
theorem own_k69 : decode prog_20_method_7_code 0 = .ok (.aload_n 0, 1) := by decide +kernel
theorem own_k70 : decode prog_20_method_7_code 1 = .ok (.getfield 76, 3) := by decide +kernel
theorem own_k71 : decode prog_20_method_7_code 4 = .ok (.ifnull 7, 3) := by decide +kernel
theorem own_k72 : decode prog_20_method_7_code 11 = .ok (.iconst 0, 1) := by decide +kernel
theorem own_k73 : decode prog_20_method_7_code 12 = .ok (.ireturn, 1) := by decide +kernel
theorem own_k74 : decode prog_20_method_7_code 7 = .ok (.iconst 1, 1) := by decide +kernel
theorem own_k75 : decode prog_20_method_7_code 8 = .ok (.goto 4, 3) := by decide +kernel
theorem own_k76 : plainName "com/example/libhazy/libhazy/FormKind" = true := by first | (simp [plainName, overriddenIn]; done) | decide +kernel
def own_f2 (v : Value) : Int32 := (if v = Value.null then (0 : Int32) else (1 : Int32))
set_option maxRecDepth 65536 in
set_option maxHeartbeats 40000000 in
theorem own_rm2 (l : Launch) (Z : State) (a0 : Array Value) (hw : ∀ d ∈ tables_1, d.before a0 Z = true) (ws : List Jvm.Cond) (a : Addr) (v : Value) (h0 : Heap) (F_a_seeded : Fld Z h0 a "com/example/libhazy/libhazy/FormKind" "seeded" "Lcom/example/libhazy/libhazy/FormKind;" v) (hr : v.isRef = true) : Meets l Z (⟨"com/example/libhazy/libhazy/FormKind", "isKeyed", "()Z"⟩ : MethodName) prog_20_method_7_code 1 (some .boolean) ws ({ frames := 0, cells := 0, slots := 0, locals := 0 } : Room) #[(.ref a)] h0 (PureR (some (.int (own_f2 v))) h0) := by
  refine meets_of (plainFor_of_name own_k76) ?_
  intro p e s m below meth c s₁ X0 hx hZ hby hml hret hlk hown hnm e0
  replace hml : c.maxLocals = 1 := hml
  replace hown : s.vm.findClass "com/example/libhazy/libhazy/FormKind" = some m.cls := hown
  refine Go.cast (own_k68 m a) ?_
  refine Go.via (U' := s₁.setTop (mkF m 1 #[.val (.ref a)] [(.ref a)])) (fun tG kG => XS.aloadN X0.here hx rfl (hb hby own_k69) rfl rfl kG) ?_
  obtain ⟨T1, X1, e1, st1⟩ := getF X0 hx hZ hown (host := "") (Or.inl (hw _ (List.mem_of_getElem? (i := 13) rfl))) Via.refl e0 F_a_seeded (g := (mkF m 1 #[.val (.ref a)] [(.ref a)])) rfl rfl (hb hby own_k70)
  refine Go.via (U' := T1.setTop (mkF m 4 #[.val (.ref a)] [v])) (fun tG kG => st1 tG kG) ?_
  rcases ref_cases hr with hv | ⟨b, hv⟩
  · refine Go.cast (g' := (mkF m 4 #[.val (.ref a)] [.null])) (by rw [hv]) ?_
    refine Go.via (U' := T1.setTop (mkF m 11 #[.val (.ref a)] [])) (fun tG kG => XS.ifnullYes X1.here hx rfl (pc0 := 4) (pc' := 11) rfl (hb hby own_k71) rfl (by decide) (by decide) kG) ?_
    refine Go.via (U' := T1.setTop (mkF m 12 #[.val (.ref a)] [(.int (0 : Int32))])) (fun tG kG => XS.iconst X1.here hx rfl (hb hby own_k72) kG) ?_
    exact go_retN X1 hx hlk (t := .boolean) hret (by simp) (hb hby own_k73) e1 ⟨(congrArg (fun z => some (Value.int z)) (show nar .boolean (0 : Int32) = (own_f2 v) from by unfold own_f2; simp only [if_pos hv] <;> rfl)), rfl, rfl⟩ (by decide) (by decide)
  · have hv' : ¬ (v = Value.null) := by rw [hv]; nofun
    refine Go.cast (g' := (mkF m 4 #[.val (.ref a)] [(.ref b)])) (by rw [hv]) ?_
    refine Go.via (U' := T1.setTop (mkF m 7 #[.val (.ref a)] [])) (fun tG kG => XS.ifnullNo X1.here hx rfl (hb hby own_k71) rfl kG) ?_
    refine Go.via (U' := T1.setTop (mkF m 8 #[.val (.ref a)] [(.int (1 : Int32))])) (fun tG kG => XS.iconst X1.here hx rfl (hb hby own_k74) kG) ?_
    refine Go.via (U' := T1.setTop (mkF m 12 #[.val (.ref a)] [(.int (1 : Int32))])) (fun tG kG => XS.goto X1.here hx rfl (pc0 := 8) (pc' := 12) rfl (hb hby own_k75) (by decide) (by decide) kG) ?_
    exact go_retN X1 hx hlk (t := .boolean) hret (by simp) (hb hby own_k73) e1 ⟨(congrArg (fun z => some (Value.int z)) (show nar .boolean (1 : Int32) = (own_f2 v) from by unfold own_f2; simp only [if_neg hv'] <;> rfl)), rfl, rfl⟩ (by decide) (by decide)
theorem own_k77 (m : MethodId) (x0 : Int32) : entryFrame m #[(.int x0)] maxLocals = mkF m 0 #[.val (.int x0), .unset, .unset, .unset] [] := by first | (simp [entryFrame, mkF, argsToLocals, Value.category, maxLocals]; done) | rfl
theorem own_k78 : parseMethodDescriptor "(I)Lcom/example/libhazy/libhazy/FormKind;" = some ⟨[.int], some (.object "com/example/libhazy/libhazy/FormKind")⟩ := by decide +kernel
def own_j0_15_s0 (x0 : Int32) : Int32 := (if ((x0 &&& (2147483647 : Int32)) % (14 : Int32)) = (3 : Int32) then (1 : Int32) else (if ((x0 &&& (2147483647 : Int32)) % (14 : Int32)) = (4 : Int32) then (1 : Int32) else (if ((x0 &&& (2147483647 : Int32)) % (14 : Int32)) = (8 : Int32) then (1 : Int32) else (if ((x0 &&& (2147483647 : Int32)) % (14 : Int32)) = (13 : Int32) then (1 : Int32) else (0 : Int32)))))
theorem own_k79 : parseMethodDescriptor "()Z" = some ⟨[], some .boolean⟩ := by decide +kernel
def own_f0 (x0 : Int32) (a_BLOOM_FILTER : Addr) (a_HYPERLOGLOG : Addr) (a_MINHASH : Addr) (a_KEYED_BLOOM_FILTER : Addr) (a_KEYED_HYPERLOGLOG : Addr) (a_COUNT_MIN_SKETCH : Addr) (a_AMS_SKETCH : Addr) (a_ULTRALOGLOG : Addr) (a_KEYED_ULTRALOGLOG : Addr) (a_CONSERVATIVE_COUNT_MIN_SKETCH : Addr) (a_HEAVY_HITTERS : Addr) (a_QUANTILE_SKETCH : Addr) (a_COUNTING_BLOOM_FILTER : Addr) (a_KEYED_COUNTING_BLOOM_FILTER : Addr) : Int32 := (if (own_f2 (own_seed ((x0 &&& (2147483647 : Int32)) % (14 : Int32)) a_BLOOM_FILTER a_HYPERLOGLOG a_MINHASH a_KEYED_BLOOM_FILTER a_KEYED_HYPERLOGLOG a_COUNT_MIN_SKETCH a_AMS_SKETCH a_ULTRALOGLOG a_KEYED_ULTRALOGLOG a_CONSERVATIVE_COUNT_MIN_SKETCH a_HEAVY_HITTERS a_QUANTILE_SKETCH a_COUNTING_BLOOM_FILTER a_KEYED_COUNTING_BLOOM_FILTER)) = (own_j0_15_s0 x0) then (1 : Int32) else (0 : Int32))
set_option maxRecDepth 65536 in
set_option maxHeartbeats 40000000 in
theorem own_rm0 (l : Launch) (Z : State) (a0 : Array Value) (hw : ∀ d ∈ tables_1, d.before a0 Z = true) (ws : List Jvm.Cond) (x0 : Int32) (a_BLOOM_FILTER : Addr) (a_COUNTING_BLOOM_FILTER : Addr) (a_HYPERLOGLOG : Addr) (a_ULTRALOGLOG : Addr) (a_KEYED_BLOOM_FILTER : Addr) (a_KEYED_COUNTING_BLOOM_FILTER : Addr) (a_KEYED_HYPERLOGLOG : Addr) (a_MINHASH : Addr) (a_QUANTILE_SKETCH : Addr) (a_HEAVY_HITTERS : Addr) (a_KEYED_ULTRALOGLOG : Addr) (a_CONSERVATIVE_COUNT_MIN_SKETCH : Addr) (a_COUNT_MIN_SKETCH : Addr) (a_AMS_SKETCH : Addr) (h0 : Heap) (E_a_BLOOM_FILTER : Exa Z h0 a_BLOOM_FILTER "com/example/libhazy/libhazy/FormKind") (F_a_BLOOM_FILTER_seeded : Fld Z h0 a_BLOOM_FILTER "com/example/libhazy/libhazy/FormKind" "seeded" "Lcom/example/libhazy/libhazy/FormKind;" .null) (E_a_KEYED_BLOOM_FILTER : Exa Z h0 a_KEYED_BLOOM_FILTER "com/example/libhazy/libhazy/FormKind") (F_a_KEYED_BLOOM_FILTER_seeded : Fld Z h0 a_KEYED_BLOOM_FILTER "com/example/libhazy/libhazy/FormKind" "seeded" "Lcom/example/libhazy/libhazy/FormKind;" (.ref a_BLOOM_FILTER)) (E_a_COUNTING_BLOOM_FILTER : Exa Z h0 a_COUNTING_BLOOM_FILTER "com/example/libhazy/libhazy/FormKind") (F_a_COUNTING_BLOOM_FILTER_seeded : Fld Z h0 a_COUNTING_BLOOM_FILTER "com/example/libhazy/libhazy/FormKind" "seeded" "Lcom/example/libhazy/libhazy/FormKind;" .null) (E_a_KEYED_COUNTING_BLOOM_FILTER : Exa Z h0 a_KEYED_COUNTING_BLOOM_FILTER "com/example/libhazy/libhazy/FormKind") (F_a_KEYED_COUNTING_BLOOM_FILTER_seeded : Fld Z h0 a_KEYED_COUNTING_BLOOM_FILTER "com/example/libhazy/libhazy/FormKind" "seeded" "Lcom/example/libhazy/libhazy/FormKind;" (.ref a_COUNTING_BLOOM_FILTER)) (E_a_KEYED_HYPERLOGLOG : Exa Z h0 a_KEYED_HYPERLOGLOG "com/example/libhazy/libhazy/FormKind") (F_a_KEYED_HYPERLOGLOG_seeded : Fld Z h0 a_KEYED_HYPERLOGLOG "com/example/libhazy/libhazy/FormKind" "seeded" "Lcom/example/libhazy/libhazy/FormKind;" (.ref a_HYPERLOGLOG)) (E_a_HYPERLOGLOG : Exa Z h0 a_HYPERLOGLOG "com/example/libhazy/libhazy/FormKind") (F_a_HYPERLOGLOG_seeded : Fld Z h0 a_HYPERLOGLOG "com/example/libhazy/libhazy/FormKind" "seeded" "Lcom/example/libhazy/libhazy/FormKind;" .null) (E_a_ULTRALOGLOG : Exa Z h0 a_ULTRALOGLOG "com/example/libhazy/libhazy/FormKind") (F_a_ULTRALOGLOG_seeded : Fld Z h0 a_ULTRALOGLOG "com/example/libhazy/libhazy/FormKind" "seeded" "Lcom/example/libhazy/libhazy/FormKind;" .null) (E_a_MINHASH : Exa Z h0 a_MINHASH "com/example/libhazy/libhazy/FormKind") (F_a_MINHASH_seeded : Fld Z h0 a_MINHASH "com/example/libhazy/libhazy/FormKind" "seeded" "Lcom/example/libhazy/libhazy/FormKind;" .null) (E_a_QUANTILE_SKETCH : Exa Z h0 a_QUANTILE_SKETCH "com/example/libhazy/libhazy/FormKind") (F_a_QUANTILE_SKETCH_seeded : Fld Z h0 a_QUANTILE_SKETCH "com/example/libhazy/libhazy/FormKind" "seeded" "Lcom/example/libhazy/libhazy/FormKind;" .null) (E_a_HEAVY_HITTERS : Exa Z h0 a_HEAVY_HITTERS "com/example/libhazy/libhazy/FormKind") (F_a_HEAVY_HITTERS_seeded : Fld Z h0 a_HEAVY_HITTERS "com/example/libhazy/libhazy/FormKind" "seeded" "Lcom/example/libhazy/libhazy/FormKind;" .null) (E_a_KEYED_ULTRALOGLOG : Exa Z h0 a_KEYED_ULTRALOGLOG "com/example/libhazy/libhazy/FormKind") (F_a_KEYED_ULTRALOGLOG_seeded : Fld Z h0 a_KEYED_ULTRALOGLOG "com/example/libhazy/libhazy/FormKind" "seeded" "Lcom/example/libhazy/libhazy/FormKind;" (.ref a_ULTRALOGLOG)) (E_a_CONSERVATIVE_COUNT_MIN_SKETCH : Exa Z h0 a_CONSERVATIVE_COUNT_MIN_SKETCH "com/example/libhazy/libhazy/FormKind") (F_a_CONSERVATIVE_COUNT_MIN_SKETCH_seeded : Fld Z h0 a_CONSERVATIVE_COUNT_MIN_SKETCH "com/example/libhazy/libhazy/FormKind" "seeded" "Lcom/example/libhazy/libhazy/FormKind;" .null) (E_a_COUNT_MIN_SKETCH : Exa Z h0 a_COUNT_MIN_SKETCH "com/example/libhazy/libhazy/FormKind") (F_a_COUNT_MIN_SKETCH_seeded : Fld Z h0 a_COUNT_MIN_SKETCH "com/example/libhazy/libhazy/FormKind" "seeded" "Lcom/example/libhazy/libhazy/FormKind;" .null) (E_a_AMS_SKETCH : Exa Z h0 a_AMS_SKETCH "com/example/libhazy/libhazy/FormKind") (F_a_AMS_SKETCH_seeded : Fld Z h0 a_AMS_SKETCH "com/example/libhazy/libhazy/FormKind" "seeded" "Lcom/example/libhazy/libhazy/FormKind;" .null) (S_BLOOM_FILTER : Sta Z h0 "com/example/libhazy/libhazy/FormKind" "BLOOM_FILTER" "Lcom/example/libhazy/libhazy/FormKind;" (.ref a_BLOOM_FILTER)) (S_KEYED_BLOOM_FILTER : Sta Z h0 "com/example/libhazy/libhazy/FormKind" "KEYED_BLOOM_FILTER" "Lcom/example/libhazy/libhazy/FormKind;" (.ref a_KEYED_BLOOM_FILTER)) (S_COUNTING_BLOOM_FILTER : Sta Z h0 "com/example/libhazy/libhazy/FormKind" "COUNTING_BLOOM_FILTER" "Lcom/example/libhazy/libhazy/FormKind;" (.ref a_COUNTING_BLOOM_FILTER)) (S_KEYED_COUNTING_BLOOM_FILTER : Sta Z h0 "com/example/libhazy/libhazy/FormKind" "KEYED_COUNTING_BLOOM_FILTER" "Lcom/example/libhazy/libhazy/FormKind;" (.ref a_KEYED_COUNTING_BLOOM_FILTER)) (S_KEYED_HYPERLOGLOG : Sta Z h0 "com/example/libhazy/libhazy/FormKind" "KEYED_HYPERLOGLOG" "Lcom/example/libhazy/libhazy/FormKind;" (.ref a_KEYED_HYPERLOGLOG)) (S_HYPERLOGLOG : Sta Z h0 "com/example/libhazy/libhazy/FormKind" "HYPERLOGLOG" "Lcom/example/libhazy/libhazy/FormKind;" (.ref a_HYPERLOGLOG)) (S_ULTRALOGLOG : Sta Z h0 "com/example/libhazy/libhazy/FormKind" "ULTRALOGLOG" "Lcom/example/libhazy/libhazy/FormKind;" (.ref a_ULTRALOGLOG)) (S_MINHASH : Sta Z h0 "com/example/libhazy/libhazy/FormKind" "MINHASH" "Lcom/example/libhazy/libhazy/FormKind;" (.ref a_MINHASH)) (S_QUANTILE_SKETCH : Sta Z h0 "com/example/libhazy/libhazy/FormKind" "QUANTILE_SKETCH" "Lcom/example/libhazy/libhazy/FormKind;" (.ref a_QUANTILE_SKETCH)) (S_HEAVY_HITTERS : Sta Z h0 "com/example/libhazy/libhazy/FormKind" "HEAVY_HITTERS" "Lcom/example/libhazy/libhazy/FormKind;" (.ref a_HEAVY_HITTERS)) (S_KEYED_ULTRALOGLOG : Sta Z h0 "com/example/libhazy/libhazy/FormKind" "KEYED_ULTRALOGLOG" "Lcom/example/libhazy/libhazy/FormKind;" (.ref a_KEYED_ULTRALOGLOG)) (S_CONSERVATIVE_COUNT_MIN_SKETCH : Sta Z h0 "com/example/libhazy/libhazy/FormKind" "CONSERVATIVE_COUNT_MIN_SKETCH" "Lcom/example/libhazy/libhazy/FormKind;" (.ref a_CONSERVATIVE_COUNT_MIN_SKETCH)) (S_COUNT_MIN_SKETCH : Sta Z h0 "com/example/libhazy/libhazy/FormKind" "COUNT_MIN_SKETCH" "Lcom/example/libhazy/libhazy/FormKind;" (.ref a_COUNT_MIN_SKETCH)) (S_AMS_SKETCH : Sta Z h0 "com/example/libhazy/libhazy/FormKind" "AMS_SKETCH" "Lcom/example/libhazy/libhazy/FormKind;" (.ref a_AMS_SKETCH)) : Meets l Z x code maxLocals ret ws room_1 #[(.int x0)] h0 (PureR (some (.int (own_f0 x0 a_BLOOM_FILTER a_HYPERLOGLOG a_MINHASH a_KEYED_BLOOM_FILTER a_KEYED_HYPERLOGLOG a_COUNT_MIN_SKETCH a_AMS_SKETCH a_ULTRALOGLOG a_KEYED_ULTRALOGLOG a_CONSERVATIVE_COUNT_MIN_SKETCH a_HEAVY_HITTERS a_QUANTILE_SKETCH a_COUNTING_BLOOM_FILTER a_KEYED_COUNTING_BLOOM_FILTER))) h0) := by
  refine meets_of (plainFor_of_name own_k67) ?_
  intro p e s m below meth c s₁ X0 hx hZ hby hml hret hlk hown hnm e0
  replace hml : c.maxLocals = 4 := hml
  replace hown : s.vm.findClass "com/example/libhazy/libhazy/FormKindIsKeyedPinLaw" = some m.cls := hown
  refine Go.cast (own_k77 m x0) ?_
  refine Go.via (U' := s₁.setTop (mkF m 1 #[.val (.int x0), .unset, .unset, .unset] [(.int x0)])) (fun tG kG => XS.iloadN X0.here hx rfl (hb hby at_0) rfl kG) ?_
  refine Go.via (U' := s₁.setTop (mkF m 3 #[.val (.int x0), .unset, .unset, .unset] [(.int (2147483647 : Int32)), (.int x0)])) (fun tG kG => X0.ldcInt hx hown (mvT hZ (hw _ (List.mem_of_getElem? (i := 0) rfl))) (g := (mkF m 1 #[.val (.int x0), .unset, .unset, .unset] [(.int x0)])) rfl (hb hby at_1) tG kG) ?_
  refine Go.via (U' := s₁.setTop (mkF m 4 #[.val (.int x0), .unset, .unset, .unset] [(.int (x0 &&& (2147483647 : Int32)))])) (fun tG kG => XS.iand X0.here hx rfl (hb hby at_3) rfl kG) ?_
  refine Go.via (U' := s₁.setTop (mkF m 6 #[.val (.int x0), .unset, .unset, .unset] [(.int (14 : Int32)), (.int (x0 &&& (2147483647 : Int32)))])) (fun tG kG => XS.bipush X0.here hx rfl (hb hby at_4) kG) ?_
  refine Go.via (U' := s₁.setTop (mkF m 7 #[.val (.int x0), .unset, .unset, .unset] [(.int ((x0 &&& (2147483647 : Int32)) % (14 : Int32)))])) (fun tG kG => iremM X0 hx rfl (hb hby at_6) rfl (by decide) kG) ?_
  refine Go.via (U' := s₁.setTop (mkF m 8 #[.val (.int x0), .val (.int ((x0 &&& (2147483647 : Int32)) % (14 : Int32))), .unset, .unset] [])) (fun tG kG => XS.istoreN X0.here hx rfl (hb hby at_7) rfl (l' := #[.val (.int x0), .val (.int ((x0 &&& (2147483647 : Int32)) % (14 : Int32))), .unset, .unset]) rfl kG) ?_
  refine Go.via (U' := s₁.setTop (mkF m 9 #[.val (.int x0), .val (.int ((x0 &&& (2147483647 : Int32)) % (14 : Int32))), .unset, .unset] [(.int ((x0 &&& (2147483647 : Int32)) % (14 : Int32)))])) (fun tG kG => XS.iloadN X0.here hx rfl (hb hby at_8) rfl kG) ?_
  obtain ⟨T1, X1, e1, st1⟩ := callS0 X0 hx hZ hown (hw _ (List.mem_of_getElem? (i := 1) rfl)) (hw _ (List.mem_of_getElem? (i := 2) rfl)) (hw _ (List.mem_of_getElem? (i := 3) rfl)) (hw _ (List.mem_of_getElem? (i := 4) rfl)) (by decide) (av := [(.int ((x0 &&& (2147483647 : Int32)) % (14 : Int32)))]) (own_rm1 l Z a0 hw [] ((x0 &&& (2147483647 : Int32)) % (14 : Int32)) a_BLOOM_FILTER a_HYPERLOGLOG a_MINHASH a_KEYED_BLOOM_FILTER a_KEYED_HYPERLOGLOG a_COUNT_MIN_SKETCH a_AMS_SKETCH a_ULTRALOGLOG a_KEYED_ULTRALOGLOG a_CONSERVATIVE_COUNT_MIN_SKETCH a_HEAVY_HITTERS a_QUANTILE_SKETCH a_COUNTING_BLOOM_FILTER a_KEYED_COUNTING_BLOOM_FILTER h0 S_BLOOM_FILTER S_HYPERLOGLOG S_MINHASH S_KEYED_BLOOM_FILTER S_KEYED_HYPERLOGLOG S_COUNT_MIN_SKETCH S_AMS_SKETCH S_ULTRALOGLOG S_KEYED_ULTRALOGLOG S_CONSERVATIVE_COUNT_MIN_SKETCH S_HEAVY_HITTERS S_QUANTILE_SKETCH S_COUNTING_BLOOM_FILTER S_KEYED_COUNTING_BLOOM_FILTER) e0 (pc := 9) (Ls := #[.val (.int x0), .val (.int ((x0 &&& (2147483647 : Int32)) % (14 : Int32))), .unset, .unset]) (rest := []) (by rw [hml]; rfl) own_k78 rfl 0 (Nat.le_of_eq rfl) (by decide) (by decide) (by decide) (by decide) (hb hby at_9)
  refine Go.via (U' := T1.setTop (mkF m 12 #[.val (.int x0), .val (.int ((x0 &&& (2147483647 : Int32)) % (14 : Int32))), .unset, .unset] [(.ref (own_f1 ((x0 &&& (2147483647 : Int32)) % (14 : Int32)) a_BLOOM_FILTER a_HYPERLOGLOG a_MINHASH a_KEYED_BLOOM_FILTER a_KEYED_HYPERLOGLOG a_COUNT_MIN_SKETCH a_AMS_SKETCH a_ULTRALOGLOG a_KEYED_ULTRALOGLOG a_CONSERVATIVE_COUNT_MIN_SKETCH a_HEAVY_HITTERS a_QUANTILE_SKETCH a_COUNTING_BLOOM_FILTER a_KEYED_COUNTING_BLOOM_FILTER))])) (fun tG kG => st1 tG kG) ?_
  refine Go.via (U' := T1.setTop (mkF m 13 #[.val (.int x0), .val (.int ((x0 &&& (2147483647 : Int32)) % (14 : Int32))), .val (.ref (own_f1 ((x0 &&& (2147483647 : Int32)) % (14 : Int32)) a_BLOOM_FILTER a_HYPERLOGLOG a_MINHASH a_KEYED_BLOOM_FILTER a_KEYED_HYPERLOGLOG a_COUNT_MIN_SKETCH a_AMS_SKETCH a_ULTRALOGLOG a_KEYED_ULTRALOGLOG a_CONSERVATIVE_COUNT_MIN_SKETCH a_HEAVY_HITTERS a_QUANTILE_SKETCH a_COUNTING_BLOOM_FILTER a_KEYED_COUNTING_BLOOM_FILTER)), .unset] [])) (fun tG kG => XS.astoreN X1.here hx rfl (hb hby at_12) rfl rfl (l' := #[.val (.int x0), .val (.int ((x0 &&& (2147483647 : Int32)) % (14 : Int32))), .val (.ref (own_f1 ((x0 &&& (2147483647 : Int32)) % (14 : Int32)) a_BLOOM_FILTER a_HYPERLOGLOG a_MINHASH a_KEYED_BLOOM_FILTER a_KEYED_HYPERLOGLOG a_COUNT_MIN_SKETCH a_AMS_SKETCH a_ULTRALOGLOG a_KEYED_ULTRALOGLOG a_CONSERVATIVE_COUNT_MIN_SKETCH a_HEAVY_HITTERS a_QUANTILE_SKETCH a_COUNTING_BLOOM_FILTER a_KEYED_COUNTING_BLOOM_FILTER)), .unset]) rfl kG) ?_
  refine Go.via (U' := T1.setTop (mkF m 14 #[.val (.int x0), .val (.int ((x0 &&& (2147483647 : Int32)) % (14 : Int32))), .val (.ref (own_f1 ((x0 &&& (2147483647 : Int32)) % (14 : Int32)) a_BLOOM_FILTER a_HYPERLOGLOG a_MINHASH a_KEYED_BLOOM_FILTER a_KEYED_HYPERLOGLOG a_COUNT_MIN_SKETCH a_AMS_SKETCH a_ULTRALOGLOG a_KEYED_ULTRALOGLOG a_CONSERVATIVE_COUNT_MIN_SKETCH a_HEAVY_HITTERS a_QUANTILE_SKETCH a_COUNTING_BLOOM_FILTER a_KEYED_COUNTING_BLOOM_FILTER)), .unset] [(.int ((x0 &&& (2147483647 : Int32)) % (14 : Int32)))])) (fun tG kG => XS.iloadN X1.here hx rfl (hb hby at_13) rfl kG) ?_
  refine Go.via (U' := T1.setTop (mkF m 15 #[.val (.int x0), .val (.int ((x0 &&& (2147483647 : Int32)) % (14 : Int32))), .val (.ref (own_f1 ((x0 &&& (2147483647 : Int32)) % (14 : Int32)) a_BLOOM_FILTER a_HYPERLOGLOG a_MINHASH a_KEYED_BLOOM_FILTER a_KEYED_HYPERLOGLOG a_COUNT_MIN_SKETCH a_AMS_SKETCH a_ULTRALOGLOG a_KEYED_ULTRALOGLOG a_CONSERVATIVE_COUNT_MIN_SKETCH a_HEAVY_HITTERS a_QUANTILE_SKETCH a_COUNTING_BLOOM_FILTER a_KEYED_COUNTING_BLOOM_FILTER)), .unset] [(.int (3 : Int32)), (.int ((x0 &&& (2147483647 : Int32)) % (14 : Int32)))])) (fun tG kG => XS.iconst X1.here hx rfl (hb hby at_14) kG) ?_
  have J2 : ∀ T', Stand p l e room_1 s m #[(.int x0)] below meth c T' [] 0 0 → T'.heap = h0 → Go p e below s room_1.cells room_1.slots (PureR (some (.int (own_f0 x0 a_BLOOM_FILTER a_HYPERLOGLOG a_MINHASH a_KEYED_BLOOM_FILTER a_KEYED_HYPERLOGLOG a_COUNT_MIN_SKETCH a_AMS_SKETCH a_ULTRALOGLOG a_KEYED_ULTRALOGLOG a_CONSERVATIVE_COUNT_MIN_SKETCH a_HEAVY_HITTERS a_QUANTILE_SKETCH a_COUNTING_BLOOM_FILTER a_KEYED_COUNTING_BLOOM_FILTER))) h0) (T'.setTop (mkF m 40 #[.val (.int x0), .val (.int ((x0 &&& (2147483647 : Int32)) % (14 : Int32))), .val (.ref (own_f1 ((x0 &&& (2147483647 : Int32)) % (14 : Int32)) a_BLOOM_FILTER a_HYPERLOGLOG a_MINHASH a_KEYED_BLOOM_FILTER a_KEYED_HYPERLOGLOG a_COUNT_MIN_SKETCH a_AMS_SKETCH a_ULTRALOGLOG a_KEYED_ULTRALOGLOG a_CONSERVATIVE_COUNT_MIN_SKETCH a_HEAVY_HITTERS a_QUANTILE_SKETCH a_COUNTING_BLOOM_FILTER a_KEYED_COUNTING_BLOOM_FILTER)), .unset] [(.int (own_j0_15_s0 x0))])) := by
    intro T3 X4 e5
    refine Go.via (U' := T3.setTop (mkF m 41 #[.val (.int x0), .val (.int ((x0 &&& (2147483647 : Int32)) % (14 : Int32))), .val (.ref (own_f1 ((x0 &&& (2147483647 : Int32)) % (14 : Int32)) a_BLOOM_FILTER a_HYPERLOGLOG a_MINHASH a_KEYED_BLOOM_FILTER a_KEYED_HYPERLOGLOG a_COUNT_MIN_SKETCH a_AMS_SKETCH a_ULTRALOGLOG a_KEYED_ULTRALOGLOG a_CONSERVATIVE_COUNT_MIN_SKETCH a_HEAVY_HITTERS a_QUANTILE_SKETCH a_COUNTING_BLOOM_FILTER a_KEYED_COUNTING_BLOOM_FILTER)), .val (.int (own_j0_15_s0 x0))] [])) (fun tG kG => XS.istoreN X4.here hx rfl (hb hby at_40) rfl (l' := #[.val (.int x0), .val (.int ((x0 &&& (2147483647 : Int32)) % (14 : Int32))), .val (.ref (own_f1 ((x0 &&& (2147483647 : Int32)) % (14 : Int32)) a_BLOOM_FILTER a_HYPERLOGLOG a_MINHASH a_KEYED_BLOOM_FILTER a_KEYED_HYPERLOGLOG a_COUNT_MIN_SKETCH a_AMS_SKETCH a_ULTRALOGLOG a_KEYED_ULTRALOGLOG a_CONSERVATIVE_COUNT_MIN_SKETCH a_HEAVY_HITTERS a_QUANTILE_SKETCH a_COUNTING_BLOOM_FILTER a_KEYED_COUNTING_BLOOM_FILTER)), .val (.int (own_j0_15_s0 x0))]) rfl kG) ?_
    refine Go.via (U' := T3.setTop (mkF m 42 #[.val (.int x0), .val (.int ((x0 &&& (2147483647 : Int32)) % (14 : Int32))), .val (.ref (own_f1 ((x0 &&& (2147483647 : Int32)) % (14 : Int32)) a_BLOOM_FILTER a_HYPERLOGLOG a_MINHASH a_KEYED_BLOOM_FILTER a_KEYED_HYPERLOGLOG a_COUNT_MIN_SKETCH a_AMS_SKETCH a_ULTRALOGLOG a_KEYED_ULTRALOGLOG a_CONSERVATIVE_COUNT_MIN_SKETCH a_HEAVY_HITTERS a_QUANTILE_SKETCH a_COUNTING_BLOOM_FILTER a_KEYED_COUNTING_BLOOM_FILTER)), .val (.int (own_j0_15_s0 x0))] [(.ref (own_f1 ((x0 &&& (2147483647 : Int32)) % (14 : Int32)) a_BLOOM_FILTER a_HYPERLOGLOG a_MINHASH a_KEYED_BLOOM_FILTER a_KEYED_HYPERLOGLOG a_COUNT_MIN_SKETCH a_AMS_SKETCH a_ULTRALOGLOG a_KEYED_ULTRALOGLOG a_CONSERVATIVE_COUNT_MIN_SKETCH a_HEAVY_HITTERS a_QUANTILE_SKETCH a_COUNTING_BLOOM_FILTER a_KEYED_COUNTING_BLOOM_FILTER))])) (fun tG kG => XS.aloadN X4.here hx rfl (hb hby at_41) rfl rfl kG) ?_
    have E_A : Exa Z h0 (own_f1 ((x0 &&& (2147483647 : Int32)) % (14 : Int32)) a_BLOOM_FILTER a_HYPERLOGLOG a_MINHASH a_KEYED_BLOOM_FILTER a_KEYED_HYPERLOGLOG a_COUNT_MIN_SKETCH a_AMS_SKETCH a_ULTRALOGLOG a_KEYED_ULTRALOGLOG a_CONSERVATIVE_COUNT_MIN_SKETCH a_HEAVY_HITTERS a_QUANTILE_SKETCH a_COUNTING_BLOOM_FILTER a_KEYED_COUNTING_BLOOM_FILTER) "com/example/libhazy/libhazy/FormKind" := own_pickP (P := fun a _ => Exa Z h0 a "com/example/libhazy/libhazy/FormKind") _ a_BLOOM_FILTER a_HYPERLOGLOG a_MINHASH a_KEYED_BLOOM_FILTER a_KEYED_HYPERLOGLOG a_COUNT_MIN_SKETCH a_AMS_SKETCH a_ULTRALOGLOG a_KEYED_ULTRALOGLOG a_CONSERVATIVE_COUNT_MIN_SKETCH a_HEAVY_HITTERS a_QUANTILE_SKETCH a_COUNTING_BLOOM_FILTER a_KEYED_COUNTING_BLOOM_FILTER E_a_BLOOM_FILTER E_a_HYPERLOGLOG E_a_MINHASH E_a_KEYED_BLOOM_FILTER E_a_KEYED_HYPERLOGLOG E_a_COUNT_MIN_SKETCH E_a_AMS_SKETCH E_a_ULTRALOGLOG E_a_KEYED_ULTRALOGLOG E_a_CONSERVATIVE_COUNT_MIN_SKETCH E_a_HEAVY_HITTERS E_a_QUANTILE_SKETCH E_a_COUNTING_BLOOM_FILTER E_a_KEYED_COUNTING_BLOOM_FILTER
    have F_A : Fld Z h0 (own_f1 ((x0 &&& (2147483647 : Int32)) % (14 : Int32)) a_BLOOM_FILTER a_HYPERLOGLOG a_MINHASH a_KEYED_BLOOM_FILTER a_KEYED_HYPERLOGLOG a_COUNT_MIN_SKETCH a_AMS_SKETCH a_ULTRALOGLOG a_KEYED_ULTRALOGLOG a_CONSERVATIVE_COUNT_MIN_SKETCH a_HEAVY_HITTERS a_QUANTILE_SKETCH a_COUNTING_BLOOM_FILTER a_KEYED_COUNTING_BLOOM_FILTER) "com/example/libhazy/libhazy/FormKind" "seeded" "Lcom/example/libhazy/libhazy/FormKind;" (own_seed ((x0 &&& (2147483647 : Int32)) % (14 : Int32)) a_BLOOM_FILTER a_HYPERLOGLOG a_MINHASH a_KEYED_BLOOM_FILTER a_KEYED_HYPERLOGLOG a_COUNT_MIN_SKETCH a_AMS_SKETCH a_ULTRALOGLOG a_KEYED_ULTRALOGLOG a_CONSERVATIVE_COUNT_MIN_SKETCH a_HEAVY_HITTERS a_QUANTILE_SKETCH a_COUNTING_BLOOM_FILTER a_KEYED_COUNTING_BLOOM_FILTER) := own_pickP (P := fun a v => Fld Z h0 a "com/example/libhazy/libhazy/FormKind" "seeded" "Lcom/example/libhazy/libhazy/FormKind;" v) _ a_BLOOM_FILTER a_HYPERLOGLOG a_MINHASH a_KEYED_BLOOM_FILTER a_KEYED_HYPERLOGLOG a_COUNT_MIN_SKETCH a_AMS_SKETCH a_ULTRALOGLOG a_KEYED_ULTRALOGLOG a_CONSERVATIVE_COUNT_MIN_SKETCH a_HEAVY_HITTERS a_QUANTILE_SKETCH a_COUNTING_BLOOM_FILTER a_KEYED_COUNTING_BLOOM_FILTER F_a_BLOOM_FILTER_seeded F_a_HYPERLOGLOG_seeded F_a_MINHASH_seeded F_a_KEYED_BLOOM_FILTER_seeded F_a_KEYED_HYPERLOGLOG_seeded F_a_COUNT_MIN_SKETCH_seeded F_a_AMS_SKETCH_seeded F_a_ULTRALOGLOG_seeded F_a_KEYED_ULTRALOGLOG_seeded F_a_CONSERVATIVE_COUNT_MIN_SKETCH_seeded F_a_HEAVY_HITTERS_seeded F_a_QUANTILE_SKETCH_seeded F_a_COUNTING_BLOOM_FILTER_seeded F_a_KEYED_COUNTING_BLOOM_FILTER_seeded
    have hr_A : ((own_seed ((x0 &&& (2147483647 : Int32)) % (14 : Int32)) a_BLOOM_FILTER a_HYPERLOGLOG a_MINHASH a_KEYED_BLOOM_FILTER a_KEYED_HYPERLOGLOG a_COUNT_MIN_SKETCH a_AMS_SKETCH a_ULTRALOGLOG a_KEYED_ULTRALOGLOG a_CONSERVATIVE_COUNT_MIN_SKETCH a_HEAVY_HITTERS a_QUANTILE_SKETCH a_COUNTING_BLOOM_FILTER a_KEYED_COUNTING_BLOOM_FILTER)).isRef = true := own_pickP (P := fun _ v => v.isRef = true) _ a_BLOOM_FILTER a_HYPERLOGLOG a_MINHASH a_KEYED_BLOOM_FILTER a_KEYED_HYPERLOGLOG a_COUNT_MIN_SKETCH a_AMS_SKETCH a_ULTRALOGLOG a_KEYED_ULTRALOGLOG a_CONSERVATIVE_COUNT_MIN_SKETCH a_HEAVY_HITTERS a_QUANTILE_SKETCH a_COUNTING_BLOOM_FILTER a_KEYED_COUNTING_BLOOM_FILTER rfl rfl rfl rfl rfl rfl rfl rfl rfl rfl rfl rfl rfl rfl
    obtain ⟨T6, X6, e6, st6⟩ := callV0 X4 hx hZ hown (hw _ (List.mem_of_getElem? (i := 8) rfl)) (hw _ (List.mem_of_getElem? (i := 9) rfl)) (hw _ (List.mem_of_getElem? (i := 11) rfl)) (hw _ (List.mem_of_getElem? (i := 10) rfl)) (hw _ (List.mem_of_getElem? (i := 6) rfl)) (hw _ (List.mem_of_getElem? (i := 12) rfl)) (by decide) (b := (own_f1 ((x0 &&& (2147483647 : Int32)) % (14 : Int32)) a_BLOOM_FILTER a_HYPERLOGLOG a_MINHASH a_KEYED_BLOOM_FILTER a_KEYED_HYPERLOGLOG a_COUNT_MIN_SKETCH a_AMS_SKETCH a_ULTRALOGLOG a_KEYED_ULTRALOGLOG a_CONSERVATIVE_COUNT_MIN_SKETCH a_HEAVY_HITTERS a_QUANTILE_SKETCH a_COUNTING_BLOOM_FILTER a_KEYED_COUNTING_BLOOM_FILTER)) (av := []) E_A (own_rm2 l Z a0 hw [] (own_f1 ((x0 &&& (2147483647 : Int32)) % (14 : Int32)) a_BLOOM_FILTER a_HYPERLOGLOG a_MINHASH a_KEYED_BLOOM_FILTER a_KEYED_HYPERLOGLOG a_COUNT_MIN_SKETCH a_AMS_SKETCH a_ULTRALOGLOG a_KEYED_ULTRALOGLOG a_CONSERVATIVE_COUNT_MIN_SKETCH a_HEAVY_HITTERS a_QUANTILE_SKETCH a_COUNTING_BLOOM_FILTER a_KEYED_COUNTING_BLOOM_FILTER) (own_seed ((x0 &&& (2147483647 : Int32)) % (14 : Int32)) a_BLOOM_FILTER a_HYPERLOGLOG a_MINHASH a_KEYED_BLOOM_FILTER a_KEYED_HYPERLOGLOG a_COUNT_MIN_SKETCH a_AMS_SKETCH a_ULTRALOGLOG a_KEYED_ULTRALOGLOG a_CONSERVATIVE_COUNT_MIN_SKETCH a_HEAVY_HITTERS a_QUANTILE_SKETCH a_COUNTING_BLOOM_FILTER a_KEYED_COUNTING_BLOOM_FILTER) h0 F_A hr_A) e5 (pc := 42) (Ls := #[.val (.int x0), .val (.int ((x0 &&& (2147483647 : Int32)) % (14 : Int32))), .val (.ref (own_f1 ((x0 &&& (2147483647 : Int32)) % (14 : Int32)) a_BLOOM_FILTER a_HYPERLOGLOG a_MINHASH a_KEYED_BLOOM_FILTER a_KEYED_HYPERLOGLOG a_COUNT_MIN_SKETCH a_AMS_SKETCH a_ULTRALOGLOG a_KEYED_ULTRALOGLOG a_CONSERVATIVE_COUNT_MIN_SKETCH a_HEAVY_HITTERS a_QUANTILE_SKETCH a_COUNTING_BLOOM_FILTER a_KEYED_COUNTING_BLOOM_FILTER)), .val (.int (own_j0_15_s0 x0))]) (rest := []) (by rw [hml]; rfl) own_k79 rfl 0 (Nat.le_of_eq rfl) (by decide) (by decide) (by decide) (by decide) (hb hby at_42)
    refine Go.via (U' := T6.setTop (mkF m 45 #[.val (.int x0), .val (.int ((x0 &&& (2147483647 : Int32)) % (14 : Int32))), .val (.ref (own_f1 ((x0 &&& (2147483647 : Int32)) % (14 : Int32)) a_BLOOM_FILTER a_HYPERLOGLOG a_MINHASH a_KEYED_BLOOM_FILTER a_KEYED_HYPERLOGLOG a_COUNT_MIN_SKETCH a_AMS_SKETCH a_ULTRALOGLOG a_KEYED_ULTRALOGLOG a_CONSERVATIVE_COUNT_MIN_SKETCH a_HEAVY_HITTERS a_QUANTILE_SKETCH a_COUNTING_BLOOM_FILTER a_KEYED_COUNTING_BLOOM_FILTER)), .val (.int (own_j0_15_s0 x0))] [(.int (own_f2 (own_seed ((x0 &&& (2147483647 : Int32)) % (14 : Int32)) a_BLOOM_FILTER a_HYPERLOGLOG a_MINHASH a_KEYED_BLOOM_FILTER a_KEYED_HYPERLOGLOG a_COUNT_MIN_SKETCH a_AMS_SKETCH a_ULTRALOGLOG a_KEYED_ULTRALOGLOG a_CONSERVATIVE_COUNT_MIN_SKETCH a_HEAVY_HITTERS a_QUANTILE_SKETCH a_COUNTING_BLOOM_FILTER a_KEYED_COUNTING_BLOOM_FILTER)))])) (fun tG kG => st6 tG kG) ?_
    refine Go.via (U' := T6.setTop (mkF m 46 #[.val (.int x0), .val (.int ((x0 &&& (2147483647 : Int32)) % (14 : Int32))), .val (.ref (own_f1 ((x0 &&& (2147483647 : Int32)) % (14 : Int32)) a_BLOOM_FILTER a_HYPERLOGLOG a_MINHASH a_KEYED_BLOOM_FILTER a_KEYED_HYPERLOGLOG a_COUNT_MIN_SKETCH a_AMS_SKETCH a_ULTRALOGLOG a_KEYED_ULTRALOGLOG a_CONSERVATIVE_COUNT_MIN_SKETCH a_HEAVY_HITTERS a_QUANTILE_SKETCH a_COUNTING_BLOOM_FILTER a_KEYED_COUNTING_BLOOM_FILTER)), .val (.int (own_j0_15_s0 x0))] [(.int (own_j0_15_s0 x0)), (.int (own_f2 (own_seed ((x0 &&& (2147483647 : Int32)) % (14 : Int32)) a_BLOOM_FILTER a_HYPERLOGLOG a_MINHASH a_KEYED_BLOOM_FILTER a_KEYED_HYPERLOGLOG a_COUNT_MIN_SKETCH a_AMS_SKETCH a_ULTRALOGLOG a_KEYED_ULTRALOGLOG a_CONSERVATIVE_COUNT_MIN_SKETCH a_HEAVY_HITTERS a_QUANTILE_SKETCH a_COUNTING_BLOOM_FILTER a_KEYED_COUNTING_BLOOM_FILTER)))])) (fun tG kG => XS.iloadN X6.here hx rfl (hb hby at_45) rfl kG) ?_
    by_cases hc46 : (own_f2 (own_seed ((x0 &&& (2147483647 : Int32)) % (14 : Int32)) a_BLOOM_FILTER a_HYPERLOGLOG a_MINHASH a_KEYED_BLOOM_FILTER a_KEYED_HYPERLOGLOG a_COUNT_MIN_SKETCH a_AMS_SKETCH a_ULTRALOGLOG a_KEYED_ULTRALOGLOG a_CONSERVATIVE_COUNT_MIN_SKETCH a_HEAVY_HITTERS a_QUANTILE_SKETCH a_COUNTING_BLOOM_FILTER a_KEYED_COUNTING_BLOOM_FILTER)) = (own_j0_15_s0 x0)
    · refine Go.via (U' := T6.setTop (mkF m 49 #[.val (.int x0), .val (.int ((x0 &&& (2147483647 : Int32)) % (14 : Int32))), .val (.ref (own_f1 ((x0 &&& (2147483647 : Int32)) % (14 : Int32)) a_BLOOM_FILTER a_HYPERLOGLOG a_MINHASH a_KEYED_BLOOM_FILTER a_KEYED_HYPERLOGLOG a_COUNT_MIN_SKETCH a_AMS_SKETCH a_ULTRALOGLOG a_KEYED_ULTRALOGLOG a_CONSERVATIVE_COUNT_MIN_SKETCH a_HEAVY_HITTERS a_QUANTILE_SKETCH a_COUNTING_BLOOM_FILTER a_KEYED_COUNTING_BLOOM_FILTER)), .val (.int (own_j0_15_s0 x0))] [])) (fun tG kG => XS.icmpNo X6.here hx rfl (hb hby at_46) rfl (teq hc46).2 kG) ?_
      refine Go.via (U' := T6.setTop (mkF m 50 #[.val (.int x0), .val (.int ((x0 &&& (2147483647 : Int32)) % (14 : Int32))), .val (.ref (own_f1 ((x0 &&& (2147483647 : Int32)) % (14 : Int32)) a_BLOOM_FILTER a_HYPERLOGLOG a_MINHASH a_KEYED_BLOOM_FILTER a_KEYED_HYPERLOGLOG a_COUNT_MIN_SKETCH a_AMS_SKETCH a_ULTRALOGLOG a_KEYED_ULTRALOGLOG a_CONSERVATIVE_COUNT_MIN_SKETCH a_HEAVY_HITTERS a_QUANTILE_SKETCH a_COUNTING_BLOOM_FILTER a_KEYED_COUNTING_BLOOM_FILTER)), .val (.int (own_j0_15_s0 x0))] [(.int (1 : Int32))])) (fun tG kG => XS.iconst X6.here hx rfl (hb hby at_49) kG) ?_
      refine Go.via (U' := T6.setTop (mkF m 54 #[.val (.int x0), .val (.int ((x0 &&& (2147483647 : Int32)) % (14 : Int32))), .val (.ref (own_f1 ((x0 &&& (2147483647 : Int32)) % (14 : Int32)) a_BLOOM_FILTER a_HYPERLOGLOG a_MINHASH a_KEYED_BLOOM_FILTER a_KEYED_HYPERLOGLOG a_COUNT_MIN_SKETCH a_AMS_SKETCH a_ULTRALOGLOG a_KEYED_ULTRALOGLOG a_CONSERVATIVE_COUNT_MIN_SKETCH a_HEAVY_HITTERS a_QUANTILE_SKETCH a_COUNTING_BLOOM_FILTER a_KEYED_COUNTING_BLOOM_FILTER)), .val (.int (own_j0_15_s0 x0))] [(.int (1 : Int32))])) (fun tG kG => XS.goto X6.here hx rfl (pc0 := 50) (pc' := 54) rfl (hb hby at_50) (by decide) (by decide) kG) ?_
      exact go_retN X6 hx hlk (t := .boolean) hret (by simp) (hb hby at_54) e6 ⟨(congrArg (fun z => some (Value.int z)) (show nar .boolean (1 : Int32) = (own_f0 x0 a_BLOOM_FILTER a_HYPERLOGLOG a_MINHASH a_KEYED_BLOOM_FILTER a_KEYED_HYPERLOGLOG a_COUNT_MIN_SKETCH a_AMS_SKETCH a_ULTRALOGLOG a_KEYED_ULTRALOGLOG a_CONSERVATIVE_COUNT_MIN_SKETCH a_HEAVY_HITTERS a_QUANTILE_SKETCH a_COUNTING_BLOOM_FILTER a_KEYED_COUNTING_BLOOM_FILTER) from by unfold own_f0; simp only [if_pos hc46] <;> rfl)), rfl, rfl⟩ (by decide) (by decide)
    · refine Go.via (U' := T6.setTop (mkF m 53 #[.val (.int x0), .val (.int ((x0 &&& (2147483647 : Int32)) % (14 : Int32))), .val (.ref (own_f1 ((x0 &&& (2147483647 : Int32)) % (14 : Int32)) a_BLOOM_FILTER a_HYPERLOGLOG a_MINHASH a_KEYED_BLOOM_FILTER a_KEYED_HYPERLOGLOG a_COUNT_MIN_SKETCH a_AMS_SKETCH a_ULTRALOGLOG a_KEYED_ULTRALOGLOG a_CONSERVATIVE_COUNT_MIN_SKETCH a_HEAVY_HITTERS a_QUANTILE_SKETCH a_COUNTING_BLOOM_FILTER a_KEYED_COUNTING_BLOOM_FILTER)), .val (.int (own_j0_15_s0 x0))] [])) (fun tG kG => XS.icmpYes X6.here hx rfl (pc0 := 46) (pc' := 53) rfl (hb hby at_46) rfl (feq hc46).2 (by decide) (by decide) kG) ?_
      refine Go.via (U' := T6.setTop (mkF m 54 #[.val (.int x0), .val (.int ((x0 &&& (2147483647 : Int32)) % (14 : Int32))), .val (.ref (own_f1 ((x0 &&& (2147483647 : Int32)) % (14 : Int32)) a_BLOOM_FILTER a_HYPERLOGLOG a_MINHASH a_KEYED_BLOOM_FILTER a_KEYED_HYPERLOGLOG a_COUNT_MIN_SKETCH a_AMS_SKETCH a_ULTRALOGLOG a_KEYED_ULTRALOGLOG a_CONSERVATIVE_COUNT_MIN_SKETCH a_HEAVY_HITTERS a_QUANTILE_SKETCH a_COUNTING_BLOOM_FILTER a_KEYED_COUNTING_BLOOM_FILTER)), .val (.int (own_j0_15_s0 x0))] [(.int (0 : Int32))])) (fun tG kG => XS.iconst X6.here hx rfl (hb hby at_53) kG) ?_
      exact go_retN X6 hx hlk (t := .boolean) hret (by simp) (hb hby at_54) e6 ⟨(congrArg (fun z => some (Value.int z)) (show nar .boolean (0 : Int32) = (own_f0 x0 a_BLOOM_FILTER a_HYPERLOGLOG a_MINHASH a_KEYED_BLOOM_FILTER a_KEYED_HYPERLOGLOG a_COUNT_MIN_SKETCH a_AMS_SKETCH a_ULTRALOGLOG a_KEYED_ULTRALOGLOG a_CONSERVATIVE_COUNT_MIN_SKETCH a_HEAVY_HITTERS a_QUANTILE_SKETCH a_COUNTING_BLOOM_FILTER a_KEYED_COUNTING_BLOOM_FILTER) from by unfold own_f0; simp only [if_neg hc46] <;> rfl)), rfl, rfl⟩ (by decide) (by decide)
  by_cases hc15 : ((x0 &&& (2147483647 : Int32)) % (14 : Int32)) = (3 : Int32)
  · refine Go.via (U' := T1.setTop (mkF m 35 #[.val (.int x0), .val (.int ((x0 &&& (2147483647 : Int32)) % (14 : Int32))), .val (.ref (own_f1 ((x0 &&& (2147483647 : Int32)) % (14 : Int32)) a_BLOOM_FILTER a_HYPERLOGLOG a_MINHASH a_KEYED_BLOOM_FILTER a_KEYED_HYPERLOGLOG a_COUNT_MIN_SKETCH a_AMS_SKETCH a_ULTRALOGLOG a_KEYED_ULTRALOGLOG a_CONSERVATIVE_COUNT_MIN_SKETCH a_HEAVY_HITTERS a_QUANTILE_SKETCH a_COUNTING_BLOOM_FILTER a_KEYED_COUNTING_BLOOM_FILTER)), .unset] [])) (fun tG kG => XS.icmpYes X1.here hx rfl (pc0 := 15) (pc' := 35) rfl (hb hby at_15) rfl (teq hc15).1 (by decide) (by decide) kG) ?_
    refine Go.via (U' := T1.setTop (mkF m 36 #[.val (.int x0), .val (.int ((x0 &&& (2147483647 : Int32)) % (14 : Int32))), .val (.ref (own_f1 ((x0 &&& (2147483647 : Int32)) % (14 : Int32)) a_BLOOM_FILTER a_HYPERLOGLOG a_MINHASH a_KEYED_BLOOM_FILTER a_KEYED_HYPERLOGLOG a_COUNT_MIN_SKETCH a_AMS_SKETCH a_ULTRALOGLOG a_KEYED_ULTRALOGLOG a_CONSERVATIVE_COUNT_MIN_SKETCH a_HEAVY_HITTERS a_QUANTILE_SKETCH a_COUNTING_BLOOM_FILTER a_KEYED_COUNTING_BLOOM_FILTER)), .unset] [(.int (1 : Int32))])) (fun tG kG => XS.iconst X1.here hx rfl (hb hby at_35) kG) ?_
    refine Go.via (U' := T1.setTop (mkF m 40 #[.val (.int x0), .val (.int ((x0 &&& (2147483647 : Int32)) % (14 : Int32))), .val (.ref (own_f1 ((x0 &&& (2147483647 : Int32)) % (14 : Int32)) a_BLOOM_FILTER a_HYPERLOGLOG a_MINHASH a_KEYED_BLOOM_FILTER a_KEYED_HYPERLOGLOG a_COUNT_MIN_SKETCH a_AMS_SKETCH a_ULTRALOGLOG a_KEYED_ULTRALOGLOG a_CONSERVATIVE_COUNT_MIN_SKETCH a_HEAVY_HITTERS a_QUANTILE_SKETCH a_COUNTING_BLOOM_FILTER a_KEYED_COUNTING_BLOOM_FILTER)), .unset] [(.int (1 : Int32))])) (fun tG kG => XS.goto X1.here hx rfl (pc0 := 36) (pc' := 40) rfl (hb hby at_36) (by decide) (by decide) kG) ?_
    have q_own_j0_15_s0 : (own_j0_15_s0 x0) = (1 : Int32) := by unfold own_j0_15_s0; simp only [if_pos hc15]
    have q_J := J2 T1 X1 e1
    rw [q_own_j0_15_s0] at q_J
    exact q_J
  · refine Go.via (U' := T1.setTop (mkF m 18 #[.val (.int x0), .val (.int ((x0 &&& (2147483647 : Int32)) % (14 : Int32))), .val (.ref (own_f1 ((x0 &&& (2147483647 : Int32)) % (14 : Int32)) a_BLOOM_FILTER a_HYPERLOGLOG a_MINHASH a_KEYED_BLOOM_FILTER a_KEYED_HYPERLOGLOG a_COUNT_MIN_SKETCH a_AMS_SKETCH a_ULTRALOGLOG a_KEYED_ULTRALOGLOG a_CONSERVATIVE_COUNT_MIN_SKETCH a_HEAVY_HITTERS a_QUANTILE_SKETCH a_COUNTING_BLOOM_FILTER a_KEYED_COUNTING_BLOOM_FILTER)), .unset] [])) (fun tG kG => XS.icmpNo X1.here hx rfl (hb hby at_15) rfl (feq hc15).1 kG) ?_
    refine Go.via (U' := T1.setTop (mkF m 19 #[.val (.int x0), .val (.int ((x0 &&& (2147483647 : Int32)) % (14 : Int32))), .val (.ref (own_f1 ((x0 &&& (2147483647 : Int32)) % (14 : Int32)) a_BLOOM_FILTER a_HYPERLOGLOG a_MINHASH a_KEYED_BLOOM_FILTER a_KEYED_HYPERLOGLOG a_COUNT_MIN_SKETCH a_AMS_SKETCH a_ULTRALOGLOG a_KEYED_ULTRALOGLOG a_CONSERVATIVE_COUNT_MIN_SKETCH a_HEAVY_HITTERS a_QUANTILE_SKETCH a_COUNTING_BLOOM_FILTER a_KEYED_COUNTING_BLOOM_FILTER)), .unset] [(.int ((x0 &&& (2147483647 : Int32)) % (14 : Int32)))])) (fun tG kG => XS.iloadN X1.here hx rfl (hb hby at_18) rfl kG) ?_
    refine Go.via (U' := T1.setTop (mkF m 20 #[.val (.int x0), .val (.int ((x0 &&& (2147483647 : Int32)) % (14 : Int32))), .val (.ref (own_f1 ((x0 &&& (2147483647 : Int32)) % (14 : Int32)) a_BLOOM_FILTER a_HYPERLOGLOG a_MINHASH a_KEYED_BLOOM_FILTER a_KEYED_HYPERLOGLOG a_COUNT_MIN_SKETCH a_AMS_SKETCH a_ULTRALOGLOG a_KEYED_ULTRALOGLOG a_CONSERVATIVE_COUNT_MIN_SKETCH a_HEAVY_HITTERS a_QUANTILE_SKETCH a_COUNTING_BLOOM_FILTER a_KEYED_COUNTING_BLOOM_FILTER)), .unset] [(.int (4 : Int32)), (.int ((x0 &&& (2147483647 : Int32)) % (14 : Int32)))])) (fun tG kG => XS.iconst X1.here hx rfl (hb hby at_19) kG) ?_
    by_cases hc20 : ((x0 &&& (2147483647 : Int32)) % (14 : Int32)) = (4 : Int32)
    · refine Go.via (U' := T1.setTop (mkF m 35 #[.val (.int x0), .val (.int ((x0 &&& (2147483647 : Int32)) % (14 : Int32))), .val (.ref (own_f1 ((x0 &&& (2147483647 : Int32)) % (14 : Int32)) a_BLOOM_FILTER a_HYPERLOGLOG a_MINHASH a_KEYED_BLOOM_FILTER a_KEYED_HYPERLOGLOG a_COUNT_MIN_SKETCH a_AMS_SKETCH a_ULTRALOGLOG a_KEYED_ULTRALOGLOG a_CONSERVATIVE_COUNT_MIN_SKETCH a_HEAVY_HITTERS a_QUANTILE_SKETCH a_COUNTING_BLOOM_FILTER a_KEYED_COUNTING_BLOOM_FILTER)), .unset] [])) (fun tG kG => XS.icmpYes X1.here hx rfl (pc0 := 20) (pc' := 35) rfl (hb hby at_20) rfl (teq hc20).1 (by decide) (by decide) kG) ?_
      refine Go.via (U' := T1.setTop (mkF m 36 #[.val (.int x0), .val (.int ((x0 &&& (2147483647 : Int32)) % (14 : Int32))), .val (.ref (own_f1 ((x0 &&& (2147483647 : Int32)) % (14 : Int32)) a_BLOOM_FILTER a_HYPERLOGLOG a_MINHASH a_KEYED_BLOOM_FILTER a_KEYED_HYPERLOGLOG a_COUNT_MIN_SKETCH a_AMS_SKETCH a_ULTRALOGLOG a_KEYED_ULTRALOGLOG a_CONSERVATIVE_COUNT_MIN_SKETCH a_HEAVY_HITTERS a_QUANTILE_SKETCH a_COUNTING_BLOOM_FILTER a_KEYED_COUNTING_BLOOM_FILTER)), .unset] [(.int (1 : Int32))])) (fun tG kG => XS.iconst X1.here hx rfl (hb hby at_35) kG) ?_
      refine Go.via (U' := T1.setTop (mkF m 40 #[.val (.int x0), .val (.int ((x0 &&& (2147483647 : Int32)) % (14 : Int32))), .val (.ref (own_f1 ((x0 &&& (2147483647 : Int32)) % (14 : Int32)) a_BLOOM_FILTER a_HYPERLOGLOG a_MINHASH a_KEYED_BLOOM_FILTER a_KEYED_HYPERLOGLOG a_COUNT_MIN_SKETCH a_AMS_SKETCH a_ULTRALOGLOG a_KEYED_ULTRALOGLOG a_CONSERVATIVE_COUNT_MIN_SKETCH a_HEAVY_HITTERS a_QUANTILE_SKETCH a_COUNTING_BLOOM_FILTER a_KEYED_COUNTING_BLOOM_FILTER)), .unset] [(.int (1 : Int32))])) (fun tG kG => XS.goto X1.here hx rfl (pc0 := 36) (pc' := 40) rfl (hb hby at_36) (by decide) (by decide) kG) ?_
      have q_own_j0_15_s0 : (own_j0_15_s0 x0) = (1 : Int32) := by unfold own_j0_15_s0; simp only [if_neg hc15, if_pos hc20]
      have q_J := J2 T1 X1 e1
      rw [q_own_j0_15_s0] at q_J
      exact q_J
    · refine Go.via (U' := T1.setTop (mkF m 23 #[.val (.int x0), .val (.int ((x0 &&& (2147483647 : Int32)) % (14 : Int32))), .val (.ref (own_f1 ((x0 &&& (2147483647 : Int32)) % (14 : Int32)) a_BLOOM_FILTER a_HYPERLOGLOG a_MINHASH a_KEYED_BLOOM_FILTER a_KEYED_HYPERLOGLOG a_COUNT_MIN_SKETCH a_AMS_SKETCH a_ULTRALOGLOG a_KEYED_ULTRALOGLOG a_CONSERVATIVE_COUNT_MIN_SKETCH a_HEAVY_HITTERS a_QUANTILE_SKETCH a_COUNTING_BLOOM_FILTER a_KEYED_COUNTING_BLOOM_FILTER)), .unset] [])) (fun tG kG => XS.icmpNo X1.here hx rfl (hb hby at_20) rfl (feq hc20).1 kG) ?_
      refine Go.via (U' := T1.setTop (mkF m 24 #[.val (.int x0), .val (.int ((x0 &&& (2147483647 : Int32)) % (14 : Int32))), .val (.ref (own_f1 ((x0 &&& (2147483647 : Int32)) % (14 : Int32)) a_BLOOM_FILTER a_HYPERLOGLOG a_MINHASH a_KEYED_BLOOM_FILTER a_KEYED_HYPERLOGLOG a_COUNT_MIN_SKETCH a_AMS_SKETCH a_ULTRALOGLOG a_KEYED_ULTRALOGLOG a_CONSERVATIVE_COUNT_MIN_SKETCH a_HEAVY_HITTERS a_QUANTILE_SKETCH a_COUNTING_BLOOM_FILTER a_KEYED_COUNTING_BLOOM_FILTER)), .unset] [(.int ((x0 &&& (2147483647 : Int32)) % (14 : Int32)))])) (fun tG kG => XS.iloadN X1.here hx rfl (hb hby at_23) rfl kG) ?_
      refine Go.via (U' := T1.setTop (mkF m 26 #[.val (.int x0), .val (.int ((x0 &&& (2147483647 : Int32)) % (14 : Int32))), .val (.ref (own_f1 ((x0 &&& (2147483647 : Int32)) % (14 : Int32)) a_BLOOM_FILTER a_HYPERLOGLOG a_MINHASH a_KEYED_BLOOM_FILTER a_KEYED_HYPERLOGLOG a_COUNT_MIN_SKETCH a_AMS_SKETCH a_ULTRALOGLOG a_KEYED_ULTRALOGLOG a_CONSERVATIVE_COUNT_MIN_SKETCH a_HEAVY_HITTERS a_QUANTILE_SKETCH a_COUNTING_BLOOM_FILTER a_KEYED_COUNTING_BLOOM_FILTER)), .unset] [(.int (8 : Int32)), (.int ((x0 &&& (2147483647 : Int32)) % (14 : Int32)))])) (fun tG kG => XS.bipush X1.here hx rfl (hb hby at_24) kG) ?_
      by_cases hc26 : ((x0 &&& (2147483647 : Int32)) % (14 : Int32)) = (8 : Int32)
      · refine Go.via (U' := T1.setTop (mkF m 35 #[.val (.int x0), .val (.int ((x0 &&& (2147483647 : Int32)) % (14 : Int32))), .val (.ref (own_f1 ((x0 &&& (2147483647 : Int32)) % (14 : Int32)) a_BLOOM_FILTER a_HYPERLOGLOG a_MINHASH a_KEYED_BLOOM_FILTER a_KEYED_HYPERLOGLOG a_COUNT_MIN_SKETCH a_AMS_SKETCH a_ULTRALOGLOG a_KEYED_ULTRALOGLOG a_CONSERVATIVE_COUNT_MIN_SKETCH a_HEAVY_HITTERS a_QUANTILE_SKETCH a_COUNTING_BLOOM_FILTER a_KEYED_COUNTING_BLOOM_FILTER)), .unset] [])) (fun tG kG => XS.icmpYes X1.here hx rfl (pc0 := 26) (pc' := 35) rfl (hb hby at_26) rfl (teq hc26).1 (by decide) (by decide) kG) ?_
        refine Go.via (U' := T1.setTop (mkF m 36 #[.val (.int x0), .val (.int ((x0 &&& (2147483647 : Int32)) % (14 : Int32))), .val (.ref (own_f1 ((x0 &&& (2147483647 : Int32)) % (14 : Int32)) a_BLOOM_FILTER a_HYPERLOGLOG a_MINHASH a_KEYED_BLOOM_FILTER a_KEYED_HYPERLOGLOG a_COUNT_MIN_SKETCH a_AMS_SKETCH a_ULTRALOGLOG a_KEYED_ULTRALOGLOG a_CONSERVATIVE_COUNT_MIN_SKETCH a_HEAVY_HITTERS a_QUANTILE_SKETCH a_COUNTING_BLOOM_FILTER a_KEYED_COUNTING_BLOOM_FILTER)), .unset] [(.int (1 : Int32))])) (fun tG kG => XS.iconst X1.here hx rfl (hb hby at_35) kG) ?_
        refine Go.via (U' := T1.setTop (mkF m 40 #[.val (.int x0), .val (.int ((x0 &&& (2147483647 : Int32)) % (14 : Int32))), .val (.ref (own_f1 ((x0 &&& (2147483647 : Int32)) % (14 : Int32)) a_BLOOM_FILTER a_HYPERLOGLOG a_MINHASH a_KEYED_BLOOM_FILTER a_KEYED_HYPERLOGLOG a_COUNT_MIN_SKETCH a_AMS_SKETCH a_ULTRALOGLOG a_KEYED_ULTRALOGLOG a_CONSERVATIVE_COUNT_MIN_SKETCH a_HEAVY_HITTERS a_QUANTILE_SKETCH a_COUNTING_BLOOM_FILTER a_KEYED_COUNTING_BLOOM_FILTER)), .unset] [(.int (1 : Int32))])) (fun tG kG => XS.goto X1.here hx rfl (pc0 := 36) (pc' := 40) rfl (hb hby at_36) (by decide) (by decide) kG) ?_
        have q_own_j0_15_s0 : (own_j0_15_s0 x0) = (1 : Int32) := by unfold own_j0_15_s0; simp only [if_neg hc15, if_neg hc20, if_pos hc26]
        have q_J := J2 T1 X1 e1
        rw [q_own_j0_15_s0] at q_J
        exact q_J
      · refine Go.via (U' := T1.setTop (mkF m 29 #[.val (.int x0), .val (.int ((x0 &&& (2147483647 : Int32)) % (14 : Int32))), .val (.ref (own_f1 ((x0 &&& (2147483647 : Int32)) % (14 : Int32)) a_BLOOM_FILTER a_HYPERLOGLOG a_MINHASH a_KEYED_BLOOM_FILTER a_KEYED_HYPERLOGLOG a_COUNT_MIN_SKETCH a_AMS_SKETCH a_ULTRALOGLOG a_KEYED_ULTRALOGLOG a_CONSERVATIVE_COUNT_MIN_SKETCH a_HEAVY_HITTERS a_QUANTILE_SKETCH a_COUNTING_BLOOM_FILTER a_KEYED_COUNTING_BLOOM_FILTER)), .unset] [])) (fun tG kG => XS.icmpNo X1.here hx rfl (hb hby at_26) rfl (feq hc26).1 kG) ?_
        refine Go.via (U' := T1.setTop (mkF m 30 #[.val (.int x0), .val (.int ((x0 &&& (2147483647 : Int32)) % (14 : Int32))), .val (.ref (own_f1 ((x0 &&& (2147483647 : Int32)) % (14 : Int32)) a_BLOOM_FILTER a_HYPERLOGLOG a_MINHASH a_KEYED_BLOOM_FILTER a_KEYED_HYPERLOGLOG a_COUNT_MIN_SKETCH a_AMS_SKETCH a_ULTRALOGLOG a_KEYED_ULTRALOGLOG a_CONSERVATIVE_COUNT_MIN_SKETCH a_HEAVY_HITTERS a_QUANTILE_SKETCH a_COUNTING_BLOOM_FILTER a_KEYED_COUNTING_BLOOM_FILTER)), .unset] [(.int ((x0 &&& (2147483647 : Int32)) % (14 : Int32)))])) (fun tG kG => XS.iloadN X1.here hx rfl (hb hby at_29) rfl kG) ?_
        refine Go.via (U' := T1.setTop (mkF m 32 #[.val (.int x0), .val (.int ((x0 &&& (2147483647 : Int32)) % (14 : Int32))), .val (.ref (own_f1 ((x0 &&& (2147483647 : Int32)) % (14 : Int32)) a_BLOOM_FILTER a_HYPERLOGLOG a_MINHASH a_KEYED_BLOOM_FILTER a_KEYED_HYPERLOGLOG a_COUNT_MIN_SKETCH a_AMS_SKETCH a_ULTRALOGLOG a_KEYED_ULTRALOGLOG a_CONSERVATIVE_COUNT_MIN_SKETCH a_HEAVY_HITTERS a_QUANTILE_SKETCH a_COUNTING_BLOOM_FILTER a_KEYED_COUNTING_BLOOM_FILTER)), .unset] [(.int (13 : Int32)), (.int ((x0 &&& (2147483647 : Int32)) % (14 : Int32)))])) (fun tG kG => XS.bipush X1.here hx rfl (hb hby at_30) kG) ?_
        by_cases hc32 : ((x0 &&& (2147483647 : Int32)) % (14 : Int32)) = (13 : Int32)
        · refine Go.via (U' := T1.setTop (mkF m 35 #[.val (.int x0), .val (.int ((x0 &&& (2147483647 : Int32)) % (14 : Int32))), .val (.ref (own_f1 ((x0 &&& (2147483647 : Int32)) % (14 : Int32)) a_BLOOM_FILTER a_HYPERLOGLOG a_MINHASH a_KEYED_BLOOM_FILTER a_KEYED_HYPERLOGLOG a_COUNT_MIN_SKETCH a_AMS_SKETCH a_ULTRALOGLOG a_KEYED_ULTRALOGLOG a_CONSERVATIVE_COUNT_MIN_SKETCH a_HEAVY_HITTERS a_QUANTILE_SKETCH a_COUNTING_BLOOM_FILTER a_KEYED_COUNTING_BLOOM_FILTER)), .unset] [])) (fun tG kG => XS.icmpNo X1.here hx rfl (hb hby at_32) rfl (teq hc32).2 kG) ?_
          refine Go.via (U' := T1.setTop (mkF m 36 #[.val (.int x0), .val (.int ((x0 &&& (2147483647 : Int32)) % (14 : Int32))), .val (.ref (own_f1 ((x0 &&& (2147483647 : Int32)) % (14 : Int32)) a_BLOOM_FILTER a_HYPERLOGLOG a_MINHASH a_KEYED_BLOOM_FILTER a_KEYED_HYPERLOGLOG a_COUNT_MIN_SKETCH a_AMS_SKETCH a_ULTRALOGLOG a_KEYED_ULTRALOGLOG a_CONSERVATIVE_COUNT_MIN_SKETCH a_HEAVY_HITTERS a_QUANTILE_SKETCH a_COUNTING_BLOOM_FILTER a_KEYED_COUNTING_BLOOM_FILTER)), .unset] [(.int (1 : Int32))])) (fun tG kG => XS.iconst X1.here hx rfl (hb hby at_35) kG) ?_
          refine Go.via (U' := T1.setTop (mkF m 40 #[.val (.int x0), .val (.int ((x0 &&& (2147483647 : Int32)) % (14 : Int32))), .val (.ref (own_f1 ((x0 &&& (2147483647 : Int32)) % (14 : Int32)) a_BLOOM_FILTER a_HYPERLOGLOG a_MINHASH a_KEYED_BLOOM_FILTER a_KEYED_HYPERLOGLOG a_COUNT_MIN_SKETCH a_AMS_SKETCH a_ULTRALOGLOG a_KEYED_ULTRALOGLOG a_CONSERVATIVE_COUNT_MIN_SKETCH a_HEAVY_HITTERS a_QUANTILE_SKETCH a_COUNTING_BLOOM_FILTER a_KEYED_COUNTING_BLOOM_FILTER)), .unset] [(.int (1 : Int32))])) (fun tG kG => XS.goto X1.here hx rfl (pc0 := 36) (pc' := 40) rfl (hb hby at_36) (by decide) (by decide) kG) ?_
          have q_own_j0_15_s0 : (own_j0_15_s0 x0) = (1 : Int32) := by unfold own_j0_15_s0; simp only [if_neg hc15, if_neg hc20, if_neg hc26, if_pos hc32]
          have q_J := J2 T1 X1 e1
          rw [q_own_j0_15_s0] at q_J
          exact q_J
        · refine Go.via (U' := T1.setTop (mkF m 39 #[.val (.int x0), .val (.int ((x0 &&& (2147483647 : Int32)) % (14 : Int32))), .val (.ref (own_f1 ((x0 &&& (2147483647 : Int32)) % (14 : Int32)) a_BLOOM_FILTER a_HYPERLOGLOG a_MINHASH a_KEYED_BLOOM_FILTER a_KEYED_HYPERLOGLOG a_COUNT_MIN_SKETCH a_AMS_SKETCH a_ULTRALOGLOG a_KEYED_ULTRALOGLOG a_CONSERVATIVE_COUNT_MIN_SKETCH a_HEAVY_HITTERS a_QUANTILE_SKETCH a_COUNTING_BLOOM_FILTER a_KEYED_COUNTING_BLOOM_FILTER)), .unset] [])) (fun tG kG => XS.icmpYes X1.here hx rfl (pc0 := 32) (pc' := 39) rfl (hb hby at_32) rfl (feq hc32).2 (by decide) (by decide) kG) ?_
          refine Go.via (U' := T1.setTop (mkF m 40 #[.val (.int x0), .val (.int ((x0 &&& (2147483647 : Int32)) % (14 : Int32))), .val (.ref (own_f1 ((x0 &&& (2147483647 : Int32)) % (14 : Int32)) a_BLOOM_FILTER a_HYPERLOGLOG a_MINHASH a_KEYED_BLOOM_FILTER a_KEYED_HYPERLOGLOG a_COUNT_MIN_SKETCH a_AMS_SKETCH a_ULTRALOGLOG a_KEYED_ULTRALOGLOG a_CONSERVATIVE_COUNT_MIN_SKETCH a_HEAVY_HITTERS a_QUANTILE_SKETCH a_COUNTING_BLOOM_FILTER a_KEYED_COUNTING_BLOOM_FILTER)), .unset] [(.int (0 : Int32))])) (fun tG kG => XS.iconst X1.here hx rfl (hb hby at_39) kG) ?_
          have q_own_j0_15_s0 : (own_j0_15_s0 x0) = (0 : Int32) := by unfold own_j0_15_s0; simp only [if_neg hc15, if_neg hc20, if_neg hc26, if_neg hc32]
          have q_J := J2 T1 X1 e1
          rw [q_own_j0_15_s0] at q_J
          exact q_J
theorem own_plain (x0 : Int32) (a_BLOOM_FILTER a_HYPERLOGLOG a_MINHASH a_KEYED_BLOOM_FILTER a_KEYED_HYPERLOGLOG a_COUNT_MIN_SKETCH a_AMS_SKETCH a_ULTRALOGLOG a_KEYED_ULTRALOGLOG a_CONSERVATIVE_COUNT_MIN_SKETCH a_HEAVY_HITTERS a_QUANTILE_SKETCH a_COUNTING_BLOOM_FILTER a_KEYED_COUNTING_BLOOM_FILTER : Addr) : own_f0 x0 a_BLOOM_FILTER a_HYPERLOGLOG a_MINHASH a_KEYED_BLOOM_FILTER a_KEYED_HYPERLOGLOG a_COUNT_MIN_SKETCH a_AMS_SKETCH a_ULTRALOGLOG a_KEYED_ULTRALOGLOG a_CONSERVATIVE_COUNT_MIN_SKETCH a_HEAVY_HITTERS a_QUANTILE_SKETCH a_COUNTING_BLOOM_FILTER a_KEYED_COUNTING_BLOOM_FILTER = 1 := by
  have m := c_mask x0 2147483647 31 (by decide) (by decide)
  have r := (c_irem (x0 &&& 2147483647) 14 14 rfl).1 (by omega)
  unfold own_f0 own_j0_15_s0
  generalize (x0 &&& 2147483647) % 14 = i at *
  have hi : i = 0 ∨ i = 1 ∨ i = 2 ∨ i = 3 ∨ i = 4 ∨ i = 5 ∨ i = 6 ∨ i = 7 ∨ i = 8 ∨ i = 9 ∨ i = 10 ∨ i = 11 ∨ i = 12 ∨ i = 13 := by
    simp only [← Int32.toInt_inj, show (0 : Int32).toInt = 0 from rfl, show (1 : Int32).toInt = 1 from rfl, show (2 : Int32).toInt = 2 from rfl, show (3 : Int32).toInt = 3 from rfl, show (4 : Int32).toInt = 4 from rfl, show (5 : Int32).toInt = 5 from rfl, show (6 : Int32).toInt = 6 from rfl, show (7 : Int32).toInt = 7 from rfl, show (8 : Int32).toInt = 8 from rfl, show (9 : Int32).toInt = 9 from rfl, show (10 : Int32).toInt = 10 from rfl, show (11 : Int32).toInt = 11 from rfl, show (12 : Int32).toInt = 12 from rfl, show (13 : Int32).toInt = 13 from rfl]
    omega
  unfold own_seed own_f2
  rcases hi with rfl | rfl | rfl | rfl | rfl | rfl | rfl | rfl | rfl | rfl | rfl | rfl | rfl | rfl
  all_goals simp +decide
set_option maxRecDepth 65536 in
set_option maxHeartbeats 40000000 in
theorem own_comes {Post : Tables → Env → Array Value → State → Outcome → State → Prop} (hpost : ∀ tb e args s v u, (limb_1_1.after args s (.returned v) u = true ∧ limb_1_2.after args s (.returned v) u = true) → FrameEnd s (.returned v) u (Jvm.fieldLocs frame_1_writes args s ++ Jvm.arrayLocs frame_1_arrays args s ++ Jvm.staticLocs frame_1_statics s) 0 0 → Post tb e args s (.returned v) u) :
    ArmFor flags0 classFile x code maxLocals ret World_1 tables_1 room_1 Calls_1 rest_1 Pre_1 Post := by
  intro l hfl _ _ p e ha hc hk s m args below hf hA hF happ hP
  obtain ⟨hcalls, hrest, hpre⟩ := hP
  obtain ⟨-, -, -, hnamed, -, -, -, hat⟩ := (Spec.applies_iff hf).mp happ
  obtain ⟨hg, hn⟩ := and_e (Cond.before_iff.mp (show (Jvm.Cond.and given_1 narrow_1).before args s = true from hpre))
  obtain ⟨hcnt, hg⟩ := and_e hg
  obtain ⟨w0, rfl⟩ : ∃ w0 : Value, args = #[w0] := by
    have hs : args.size = 1 := by simpa [Cond.value, given_1] using hcnt
    obtain ⟨L⟩ := args
    match L, hs with
    | [w0], _ => exact ⟨w0, rfl⟩
  have hw := fun d (hd : d ∈ tables_1) => atoms_spec (ws := Jvm.Cond.code x code maxLocals ret :: tables_1) hat d (List.mem_cons_of_mem _ hd)
  have hfit : Fit s := fun {y c} hc i hi => by
    obtain ⟨ha, rfl⟩ := Array.getElem?_eq_some_iff.mp hc
    have q := List.all_eq_true.mp ((Array.all_eq_true_iff_forall_mem.mp hF) _ (Array.getElem_mem ha)) i (List.mem_range.mpr hi)
    simpa [Array.getElem?_eq_getElem hi] using q
  obtain ⟨i0, ei0⟩ := is_v hg
  obtain rfl : w0 = (.int i0) := Option.some.inj ei0
  obtain ⟨hn1, hn2⟩ := and_e hn
  obtain ⟨hn3, hn4⟩ := and_e hn2
  obtain ⟨hn5, hn6⟩ := and_e hn4
  obtain ⟨hn7, hn8⟩ := and_e hn6
  obtain ⟨hn9, hn10⟩ := and_e hn8
  obtain ⟨hn11, hn12⟩ := and_e hn10
  obtain ⟨hn13, hn14⟩ := and_e hn12
  obtain ⟨hn15, hn16⟩ := and_e hn14
  obtain ⟨hn17, hn18⟩ := and_e hn16
  obtain ⟨hn19, hn20⟩ := and_e hn18
  obtain ⟨hn21, hn22⟩ := and_e hn20
  obtain ⟨hn23, hn24⟩ := and_e hn22
  obtain ⟨hn25, hn26⟩ := and_e hn24
  obtain ⟨hn27, hn28⟩ := and_e hn26
  obtain ⟨hn29, hn30⟩ := and_e hn28
  obtain ⟨hn31, hn32⟩ := and_e hn30
  obtain ⟨hn33, hn34⟩ := and_e hn32
  obtain ⟨hn35, hn36⟩ := and_e hn34
  obtain ⟨hn37, hn38⟩ := and_e hn36
  obtain ⟨hn39, hn40⟩ := and_e hn38
  obtain ⟨hn41, hn42⟩ := and_e hn40
  obtain ⟨hn43, hn44⟩ := and_e hn42
  obtain ⟨hn45, hn46⟩ := and_e hn44
  obtain ⟨hn47, hn48⟩ := and_e hn46
  obtain ⟨hn49, hn50⟩ := and_e hn48
  obtain ⟨hn51, hn52⟩ := and_e hn50
  obtain ⟨hn53, hn54⟩ := and_e hn52
  obtain ⟨a_BLOOM_FILTER, ev_BLOOM_FILTER⟩ := exa_v hn1
  have E_BLOOM_FILTER := Exa.start ev_BLOOM_FILTER hn1
  have S_BLOOM_FILTER := Sta.start ev_BLOOM_FILTER (Or.inr ⟨(hw _ (List.mem_of_getElem? (i := 6) rfl)), (hw _ (List.mem_of_getElem? (i := 7) rfl))⟩)
  obtain ⟨a_KEYED_BLOOM_FILTER, ev_KEYED_BLOOM_FILTER⟩ := exa_v hn5
  have E_KEYED_BLOOM_FILTER := Exa.start ev_KEYED_BLOOM_FILTER hn5
  have S_KEYED_BLOOM_FILTER := Sta.start ev_KEYED_BLOOM_FILTER (Or.inr ⟨(hw _ (List.mem_of_getElem? (i := 6) rfl)), (hw _ (List.mem_of_getElem? (i := 16) rfl))⟩)
  obtain ⟨a_COUNTING_BLOOM_FILTER, ev_COUNTING_BLOOM_FILTER⟩ := exa_v hn9
  have E_COUNTING_BLOOM_FILTER := Exa.start ev_COUNTING_BLOOM_FILTER hn9
  have S_COUNTING_BLOOM_FILTER := Sta.start ev_COUNTING_BLOOM_FILTER (Or.inr ⟨(hw _ (List.mem_of_getElem? (i := 6) rfl)), (hw _ (List.mem_of_getElem? (i := 18) rfl))⟩)
  obtain ⟨a_KEYED_COUNTING_BLOOM_FILTER, ev_KEYED_COUNTING_BLOOM_FILTER⟩ := exa_v hn13
  have E_KEYED_COUNTING_BLOOM_FILTER := Exa.start ev_KEYED_COUNTING_BLOOM_FILTER hn13
  have S_KEYED_COUNTING_BLOOM_FILTER := Sta.start ev_KEYED_COUNTING_BLOOM_FILTER (Or.inr ⟨(hw _ (List.mem_of_getElem? (i := 6) rfl)), (hw _ (List.mem_of_getElem? (i := 20) rfl))⟩)
  obtain ⟨a_KEYED_HYPERLOGLOG, ev_KEYED_HYPERLOGLOG⟩ := exa_v hn17
  have E_KEYED_HYPERLOGLOG := Exa.start ev_KEYED_HYPERLOGLOG hn17
  have S_KEYED_HYPERLOGLOG := Sta.start ev_KEYED_HYPERLOGLOG (Or.inr ⟨(hw _ (List.mem_of_getElem? (i := 6) rfl)), (hw _ (List.mem_of_getElem? (i := 22) rfl))⟩)
  obtain ⟨a_HYPERLOGLOG, ev_HYPERLOGLOG⟩ := exa_v hn19
  have E_HYPERLOGLOG := Exa.start ev_HYPERLOGLOG hn19
  have S_HYPERLOGLOG := Sta.start ev_HYPERLOGLOG (Or.inr ⟨(hw _ (List.mem_of_getElem? (i := 6) rfl)), (hw _ (List.mem_of_getElem? (i := 23) rfl))⟩)
  obtain ⟨a_ULTRALOGLOG, ev_ULTRALOGLOG⟩ := exa_v hn23
  have E_ULTRALOGLOG := Exa.start ev_ULTRALOGLOG hn23
  have S_ULTRALOGLOG := Sta.start ev_ULTRALOGLOG (Or.inr ⟨(hw _ (List.mem_of_getElem? (i := 6) rfl)), (hw _ (List.mem_of_getElem? (i := 25) rfl))⟩)
  obtain ⟨a_MINHASH, ev_MINHASH⟩ := exa_v hn27
  have E_MINHASH := Exa.start ev_MINHASH hn27
  have S_MINHASH := Sta.start ev_MINHASH (Or.inr ⟨(hw _ (List.mem_of_getElem? (i := 6) rfl)), (hw _ (List.mem_of_getElem? (i := 27) rfl))⟩)
  obtain ⟨a_QUANTILE_SKETCH, ev_QUANTILE_SKETCH⟩ := exa_v hn31
  have E_QUANTILE_SKETCH := Exa.start ev_QUANTILE_SKETCH hn31
  have S_QUANTILE_SKETCH := Sta.start ev_QUANTILE_SKETCH (Or.inr ⟨(hw _ (List.mem_of_getElem? (i := 6) rfl)), (hw _ (List.mem_of_getElem? (i := 29) rfl))⟩)
  obtain ⟨a_HEAVY_HITTERS, ev_HEAVY_HITTERS⟩ := exa_v hn35
  have E_HEAVY_HITTERS := Exa.start ev_HEAVY_HITTERS hn35
  have S_HEAVY_HITTERS := Sta.start ev_HEAVY_HITTERS (Or.inr ⟨(hw _ (List.mem_of_getElem? (i := 6) rfl)), (hw _ (List.mem_of_getElem? (i := 31) rfl))⟩)
  obtain ⟨a_KEYED_ULTRALOGLOG, ev_KEYED_ULTRALOGLOG⟩ := exa_v hn39
  have E_KEYED_ULTRALOGLOG := Exa.start ev_KEYED_ULTRALOGLOG hn39
  have S_KEYED_ULTRALOGLOG := Sta.start ev_KEYED_ULTRALOGLOG (Or.inr ⟨(hw _ (List.mem_of_getElem? (i := 6) rfl)), (hw _ (List.mem_of_getElem? (i := 33) rfl))⟩)
  obtain ⟨a_CONSERVATIVE_COUNT_MIN_SKETCH, ev_CONSERVATIVE_COUNT_MIN_SKETCH⟩ := exa_v hn45
  have E_CONSERVATIVE_COUNT_MIN_SKETCH := Exa.start ev_CONSERVATIVE_COUNT_MIN_SKETCH hn45
  have S_CONSERVATIVE_COUNT_MIN_SKETCH := Sta.start ev_CONSERVATIVE_COUNT_MIN_SKETCH (Or.inr ⟨(hw _ (List.mem_of_getElem? (i := 6) rfl)), (hw _ (List.mem_of_getElem? (i := 36) rfl))⟩)
  obtain ⟨a_COUNT_MIN_SKETCH, ev_COUNT_MIN_SKETCH⟩ := exa_v hn49
  have E_COUNT_MIN_SKETCH := Exa.start ev_COUNT_MIN_SKETCH hn49
  have S_COUNT_MIN_SKETCH := Sta.start ev_COUNT_MIN_SKETCH (Or.inr ⟨(hw _ (List.mem_of_getElem? (i := 6) rfl)), (hw _ (List.mem_of_getElem? (i := 38) rfl))⟩)
  obtain ⟨a_AMS_SKETCH, ev_AMS_SKETCH⟩ := exa_v hn53
  have E_AMS_SKETCH := Exa.start ev_AMS_SKETCH hn53
  have S_AMS_SKETCH := Sta.start ev_AMS_SKETCH (Or.inr ⟨(hw _ (List.mem_of_getElem? (i := 6) rfl)), (hw _ (List.mem_of_getElem? (i := 40) rfl))⟩)
  have F_BLOOM_FILTER_seeded := Fld.start ((fld_at ev_BLOOM_FILTER).symm.trans (null_v hn3))
  have F_KEYED_BLOOM_FILTER_seeded := Fld.start ((fld_at ev_KEYED_BLOOM_FILTER).symm.trans (own_eqR hn7 ev_BLOOM_FILTER))
  have F_COUNTING_BLOOM_FILTER_seeded := Fld.start ((fld_at ev_COUNTING_BLOOM_FILTER).symm.trans (null_v hn11))
  have F_KEYED_COUNTING_BLOOM_FILTER_seeded := Fld.start ((fld_at ev_KEYED_COUNTING_BLOOM_FILTER).symm.trans (own_eqR hn15 ev_COUNTING_BLOOM_FILTER))
  have F_KEYED_HYPERLOGLOG_seeded := Fld.start ((fld_at ev_KEYED_HYPERLOGLOG).symm.trans (own_eqR hn21 ev_HYPERLOGLOG))
  have F_ULTRALOGLOG_seeded := Fld.start ((fld_at ev_ULTRALOGLOG).symm.trans (null_v hn25))
  have F_MINHASH_seeded := Fld.start ((fld_at ev_MINHASH).symm.trans (null_v hn29))
  have F_QUANTILE_SKETCH_seeded := Fld.start ((fld_at ev_QUANTILE_SKETCH).symm.trans (null_v hn33))
  have F_HEAVY_HITTERS_seeded := Fld.start ((fld_at ev_HEAVY_HITTERS).symm.trans (null_v hn37))
  have F_KEYED_ULTRALOGLOG_seeded := Fld.start ((fld_at ev_KEYED_ULTRALOGLOG).symm.trans (own_eqR hn41 ev_ULTRALOGLOG))
  have F_HYPERLOGLOG_seeded := Fld.start ((fld_at ev_HYPERLOGLOG).symm.trans (null_v hn43))
  have F_CONSERVATIVE_COUNT_MIN_SKETCH_seeded := Fld.start ((fld_at ev_CONSERVATIVE_COUNT_MIN_SKETCH).symm.trans (null_v hn47))
  have F_COUNT_MIN_SKETCH_seeded := Fld.start ((fld_at ev_COUNT_MIN_SKETCH).symm.trans (null_v hn51))
  have F_AMS_SKETCH_seeded := Fld.start ((fld_at ev_AMS_SKETCH).symm.trans (null_v hn54))
  obtain ⟨n, o, h1, h2, h3, _, L, rfl, ⟨rfl, -, rfl⟩, hq⟩ := own_rm0 l s _ hw tables_1 i0 a_BLOOM_FILTER a_COUNTING_BLOOM_FILTER a_HYPERLOGLOG a_ULTRALOGLOG a_KEYED_BLOOM_FILTER a_KEYED_COUNTING_BLOOM_FILTER a_KEYED_HYPERLOGLOG a_MINHASH a_QUANTILE_SKETCH a_HEAVY_HITTERS a_KEYED_ULTRALOGLOG a_CONSERVATIVE_COUNT_MIN_SKETCH a_COUNT_MIN_SKETCH a_AMS_SKETCH s.heap E_BLOOM_FILTER F_BLOOM_FILTER_seeded E_KEYED_BLOOM_FILTER F_KEYED_BLOOM_FILTER_seeded E_COUNTING_BLOOM_FILTER F_COUNTING_BLOOM_FILTER_seeded E_KEYED_COUNTING_BLOOM_FILTER F_KEYED_COUNTING_BLOOM_FILTER_seeded E_KEYED_HYPERLOGLOG F_KEYED_HYPERLOGLOG_seeded E_HYPERLOGLOG F_HYPERLOGLOG_seeded E_ULTRALOGLOG F_ULTRALOGLOG_seeded E_MINHASH F_MINHASH_seeded E_QUANTILE_SKETCH F_QUANTILE_SKETCH_seeded E_HEAVY_HITTERS F_HEAVY_HITTERS_seeded E_KEYED_ULTRALOGLOG F_KEYED_ULTRALOGLOG_seeded E_CONSERVATIVE_COUNT_MIN_SKETCH F_CONSERVATIVE_COUNT_MIN_SKETCH_seeded E_COUNT_MIN_SKETCH F_COUNT_MIN_SKETCH_seeded E_AMS_SKETCH F_AMS_SKETCH_seeded S_BLOOM_FILTER S_KEYED_BLOOM_FILTER S_COUNTING_BLOOM_FILTER S_KEYED_COUNTING_BLOOM_FILTER S_KEYED_HYPERLOGLOG S_HYPERLOGLOG S_ULTRALOGLOG S_MINHASH S_QUANTILE_SKETCH S_HEAVY_HITTERS S_KEYED_ULTRALOGLOG S_CONSERVATIVE_COUNT_MIN_SKETCH S_COUNT_MIN_SKETCH S_AMS_SKETCH p e ha hc hk s m _ below hf ((Spec.applies_iff_loose hf).mp happ).1 ⟨rfl, State.Warmed39.refl s, rfl⟩ trivial
  refine ⟨n, _, h1, h2, h3, hpost _ _ _ _ _ _ ⟨Cond.after_iff.mpr rfl, Cond.after_iff.mpr (eq_i res_at (Term.int_eval (1)) (congrArg Value.int (own_plain i0 a_BLOOM_FILTER a_HYPERLOGLOG a_MINHASH a_KEYED_BLOOM_FILTER a_KEYED_HYPERLOGLOG a_COUNT_MIN_SKETCH a_AMS_SKETCH a_ULTRALOGLOG a_KEYED_ULTRALOGLOG a_CONSERVATIVE_COUNT_MIN_SKETCH a_HEAVY_HITTERS a_QUANTILE_SKETCH a_COUNTING_BLOOM_FILTER a_KEYED_COUNTING_BLOOM_FILTER)))⟩ ⟨hq.1, hq.2.1, (hq.2.2.sift fun y hy => Or.inr (Fr.nil s.heap.size y hy)).mono (by decide) (by decide)⟩⟩
theorem main_1_1 : Claimed_1_1 := own_comes fun _ _ _ _ _ _ h hF => ⟨h.1, hF⟩
theorem main_1_2 : Claimed_1_2 := own_comes fun _ _ _ _ _ _ h hF => ⟨h.2, hF⟩
end Jvm.Pilot.@@N@@
namespace Jvm.Pilot.@@N@@
open Jvm Jvm.ClassFile Sem Op Lib Jvm.Free Jvm.Stand Jvm.Pilot.@@N@@.Jvm.D
/-! MADE BY PROGRAM (witnessworld.py) out of the Statement's table words and the real class files: 12 classes; the members and pool entries that the words name. The judged class is class 1, her method 2. -/
namespace start1
open Jvm.ClassFile
def u (s : String) : CpInfo := .utf8 (stringToUtf16 s)
/-- a pool by its gaps: so many unusable entries, then the entry; so many at the end -/
def gap : Nat → List CpInfo → List CpInfo
  | 0, r => r
  | n + 1, r => .unusable :: gap n r
def poolList (es : List (Nat × CpInfo)) (last : Nat) : List CpInfo := es.foldr (fun e r => gap e.1 (e.2 :: r)) (gap last [])
def pool (es : List (Nat × CpInfo)) (last : Nat) : Array CpInfo := ⟨poolList es last⟩
def fileOf (pool : Array CpInfo) (this : Nat) (attrs : Array Attribute := #[]) (ms : Array MethodInfo := #[]) (fl : Nat := 33) (sup : Nat := 0) (ifs : Array Nat := #[]) (fds : Array FieldInfo := #[]) : ClassFile where
  minorVersion := 0
  majorVersion := 65
  constantPool := pool
  accessFlags := fl
  thisClass := this
  superClass := sup
  interfaces := ifs
  fields := fds
  methods := ms
  attributes := attrs
def plain (name : String) (sup : Option ClassId) : Class where
  name := name
  kind := .ordinary
  loader := none
  accessFlags := 33
  super := sup
  interfaces := #[]
  cf := none
  fields := #[]
  methods := #[]
  instanceTypes := #[]
  staticTypes := #[]
  resolved := #[]
  callSites := []
  init := .initialized
  statics := none
  mirror := none

def pool0 : Array CpInfo := pool [(5, u "<init>"), (0, u "()V"), (1, .class_ 10), (1, u "java/lang/Object")] 113

def k0m0 : Method := { name := "<init>", desc := "()V", sig := { parameters := [], returnType := none }, accessFlags := 1, code := none }
/-- java/lang/Object -/
def k0 : Class := { plain "java/lang/Object" none with
  accessFlags := 33
  interfaces := #[]
  cf := some (fileOf pool0 8 #[] #[{ accessFlags := 1, nameIndex := 5, descriptorIndex := 6, attributes := #[] }] 33 0 #[] #[])
  fields := #[]
  methods := #[k0m0]
  instanceTypes := #[]
  staticTypes := #[]
  resolved := Array.replicate 124 none
  statics := none }

def pool1 : Array CpInfo := pool [(2, .class_ 4), (1, u "java/lang/Object"), (0, u "<init>"), (0, u "()V"), (0, .fieldref 8 9), (0, .class_ 10), (0, .nameAndType 11 12), (0, u "com/example/libhazy/libhazy/FormKind"), (0, u "BLOOM_FILTER"), (0, u "Lcom/example/libhazy/libhazy/FormKind;"), (0, .fieldref 8 14), (0, .nameAndType 15 12), (0, u "HYPERLOGLOG"), (0, .fieldref 8 17), (0, .nameAndType 18 12), (0, u "MINHASH"), (0, .fieldref 8 20), (0, .nameAndType 21 12), (0, u "KEYED_BLOOM_FILTER"), (0, .fieldref 8 23), (0, .nameAndType 24 12), (0, u "KEYED_HYPERLOGLOG"), (0, .fieldref 8 26), (0, .nameAndType 27 12), (0, u "COUNT_MIN_SKETCH"), (0, .fieldref 8 29), (0, .nameAndType 30 12), (0, u "AMS_SKETCH"), (0, .fieldref 8 32), (0, .nameAndType 33 12), (0, u "ULTRALOGLOG"), (0, .fieldref 8 35), (0, .nameAndType 36 12), (0, u "KEYED_ULTRALOGLOG"), (0, .fieldref 8 38), (0, .nameAndType 39 12), (0, u "CONSERVATIVE_COUNT_MIN_SKETCH"), (0, .fieldref 8 41), (0, .nameAndType 42 12), (0, u "HEAVY_HITTERS"), (0, .fieldref 8 44), (0, .nameAndType 45 12), (0, u "QUANTILE_SKETCH"), (0, .fieldref 8 47), (0, .nameAndType 48 12), (0, u "COUNTING_BLOOM_FILTER"), (0, .fieldref 8 50), (0, .nameAndType 51 12), (0, u "KEYED_COUNTING_BLOOM_FILTER"), (0, .integer 2147483647), (0, .methodref 54 55), (0, .class_ 56), (0, .nameAndType 57 58), (0, u "com/example/libhazy/libhazy/FormKindIsKeyedPinLaw"), (0, u "pick"), (0, u "(I)Lcom/example/libhazy/libhazy/FormKind;"), (0, .methodref 8 60), (0, .nameAndType 61 62), (0, u "isKeyed"), (0, u "()Z"), (3, u "law"), (0, u "(I)Z")] 2

def k1m0 : Method := { name := "<init>", desc := "()V", sig := { parameters := [], returnType := none }, accessFlags := 2, code := none }
def k1c1 : Code := { maxStack := 2, maxLocals := 1, code := method_2_code, exceptionTable := #[], attributes := #[] }
def k1m1 : Method := { name := "pick", desc := "(I)Lcom/example/libhazy/libhazy/FormKind;", sig := { parameters := [.int], returnType := some (.object "com/example/libhazy/libhazy/FormKind") }, accessFlags := 10, code := some k1c1 }
def k1c2 : Code := { maxStack := 2, maxLocals := 4, code := code, exceptionTable := #[], attributes := #[] }
def k1m2 : Method := { name := "law", desc := "(I)Z", sig := { parameters := [.int], returnType := some .boolean }, accessFlags := 9, code := some k1c2 }
/-- com/example/libhazy/libhazy/FormKindIsKeyedPinLaw -/
def k1 : Class := { plain "com/example/libhazy/libhazy/FormKindIsKeyedPinLaw" (some 0) with
  accessFlags := 49
  interfaces := #[]
  cf := some (fileOf pool1 54 #[] #[{ accessFlags := 2, nameIndex := 5, descriptorIndex := 6, attributes := #[] }, { accessFlags := 10, nameIndex := 57, descriptorIndex := 58, attributes := #[] }, { accessFlags := 9, nameIndex := 66, descriptorIndex := 67, attributes := #[] }] 49 2 #[] #[])
  fields := #[]
  methods := #[k1m0, k1m1, k1m2]
  instanceTypes := #[]
  staticTypes := #[]
  resolved := Array.replicate 70 none
  statics := none }

def pool2 : Array CpInfo := pool [(1, .class_ 2), (0, u "java/lang/constant/Constable"), (0, .class_ 4), (0, u "java/lang/Object")] 6

/-- java/lang/constant/Constable -/
def k2 : Class := { plain "java/lang/constant/Constable" (some 0) with
  accessFlags := 1537
  interfaces := #[]
  cf := some (fileOf pool2 1 #[] #[] 1537 3 #[] #[])
  fields := #[]
  methods := #[]
  instanceTypes := #[]
  staticTypes := #[]
  resolved := Array.replicate 11 none
  statics := none }

def pool3 : Array CpInfo := pool [(1, .class_ 2), (0, u "java/lang/Comparable"), (0, .class_ 4), (0, u "java/lang/Object")] 7

/-- java/lang/Comparable -/
def k3 : Class := { plain "java/lang/Comparable" (some 0) with
  accessFlags := 1537
  interfaces := #[]
  cf := some (fileOf pool3 1 #[] #[] 1537 3 #[] #[])
  fields := #[]
  methods := #[]
  instanceTypes := #[]
  staticTypes := #[]
  resolved := Array.replicate 12 none
  statics := none }

def pool4 : Array CpInfo := pool [(1, .class_ 2), (0, u "java/io/Serializable"), (0, .class_ 4), (0, u "java/lang/Object")] 2

/-- java/io/Serializable -/
def k4 : Class := { plain "java/io/Serializable" (some 0) with
  accessFlags := 1537
  interfaces := #[]
  cf := some (fileOf pool4 1 #[] #[] 1537 3 #[] #[])
  fields := #[]
  methods := #[]
  instanceTypes := #[]
  staticTypes := #[]
  resolved := Array.replicate 7 none
  statics := none }

def pool5 : Array CpInfo := pool [(2, .class_ 4), (1, u "java/lang/Enum"), (0, u "name"), (0, u "Ljava/lang/String;"), (2, u "ordinal"), (0, u "I"), (1, .class_ 14), (1, u "java/lang/Object"), (4, u "hash"), (86, .class_ 108), (1, u "java/lang/Enum$EnumDesc"), (2, .class_ 112), (0, u "java/lang/constant/Constable"), (0, .class_ 114), (0, u "java/lang/Comparable"), (0, .class_ 116), (0, u "java/io/Serializable")] 87

/-- java/lang/Enum -/
def k5 : Class := { plain "java/lang/Enum" (some 0) with
  accessFlags := 1057
  interfaces := #[2, 3, 4]
  cf := some (fileOf pool5 2 #[.nestMembers #[106]] #[] 1057 12 #[111, 113, 115] #[{ accessFlags := 18, nameIndex := 5, descriptorIndex := 6, attributes := #[] }, { accessFlags := 18, nameIndex := 9, descriptorIndex := 10, attributes := #[] }, { accessFlags := 2, nameIndex := 19, descriptorIndex := 10, attributes := #[] }])
  fields := #[{ name := "name", type := (.object "java/lang/String"), accessFlags := 18, slot := 0, constantValue := 0 }, { name := "ordinal", type := .int, accessFlags := 18, slot := 1, constantValue := 0 }, { name := "hash", type := .int, accessFlags := 2, slot := 2, constantValue := 0 }]
  methods := #[]
  instanceTypes := #[(.object "java/lang/String"), .int, .int]
  staticTypes := #[]
  resolved := Array.replicate 204 none
  statics := none }

def pool6 : Array CpInfo := pool [(1, .class_ 2), (0, u "com/example/libhazy/libhazy/FormKind"), (2, u "BLOOM_FILTER"), (0, u "Lcom/example/libhazy/libhazy/FormKind;"), (2, u "HYPERLOGLOG"), (2, u "MINHASH"), (2, u "KEYED_BLOOM_FILTER"), (2, u "KEYED_HYPERLOGLOG"), (2, u "COUNT_MIN_SKETCH"), (2, u "AMS_SKETCH"), (2, u "ULTRALOGLOG"), (2, u "KEYED_ULTRALOGLOG"), (2, u "CONSERVATIVE_COUNT_MIN_SKETCH"), (2, u "HEAVY_HITTERS"), (2, u "QUANTILE_SKETCH"), (2, u "COUNTING_BLOOM_FILTER"), (2, u "KEYED_COUNTING_BLOOM_FILTER"), (2, u "$VALUES"), (0, u "[Lcom/example/libhazy/libhazy/FormKind;"), (6, .class_ 58), (1, u "java/lang/Enum"), (11, u "code"), (0, u "I"), (2, u "title"), (0, u "Ljava/lang/String;"), (0, .fieldref 1 77), (0, .nameAndType 78 6), (0, u "seeded"), (23, u "isKeyed"), (0, u "()Z")] 88

def k6c0 : Code := { maxStack := 1, maxLocals := 1, code := prog_20_method_7_code, exceptionTable := #[], attributes := #[] }
def k6m0 : Method := { name := "isKeyed", desc := "()Z", sig := { parameters := [], returnType := some .boolean }, accessFlags := 1, code := some k6c0 }
/-- com/example/libhazy/libhazy/FormKind -/
def k6 : Class := { plain "com/example/libhazy/libhazy/FormKind" (some 5) with
  accessFlags := 16433
  interfaces := #[]
  cf := some (fileOf pool6 1 #[] #[{ accessFlags := 1, nameIndex := 102, descriptorIndex := 103, attributes := #[] }] 16433 56 #[] #[{ accessFlags := 16409, nameIndex := 5, descriptorIndex := 6, attributes := #[] }, { accessFlags := 16409, nameIndex := 9, descriptorIndex := 6, attributes := #[] }, { accessFlags := 16409, nameIndex := 12, descriptorIndex := 6, attributes := #[] }, { accessFlags := 16409, nameIndex := 15, descriptorIndex := 6, attributes := #[] }, { accessFlags := 16409, nameIndex := 18, descriptorIndex := 6, attributes := #[] }, { accessFlags := 16409, nameIndex := 21, descriptorIndex := 6, attributes := #[] }, { accessFlags := 16409, nameIndex := 24, descriptorIndex := 6, attributes := #[] }, { accessFlags := 16409, nameIndex := 27, descriptorIndex := 6, attributes := #[] }, { accessFlags := 16409, nameIndex := 30, descriptorIndex := 6, attributes := #[] }, { accessFlags := 16409, nameIndex := 33, descriptorIndex := 6, attributes := #[] }, { accessFlags := 16409, nameIndex := 36, descriptorIndex := 6, attributes := #[] }, { accessFlags := 16409, nameIndex := 39, descriptorIndex := 6, attributes := #[] }, { accessFlags := 16409, nameIndex := 42, descriptorIndex := 6, attributes := #[] }, { accessFlags := 16409, nameIndex := 45, descriptorIndex := 6, attributes := #[] }, { accessFlags := 18, nameIndex := 70, descriptorIndex := 71, attributes := #[] }, { accessFlags := 18, nameIndex := 74, descriptorIndex := 75, attributes := #[] }, { accessFlags := 18, nameIndex := 78, descriptorIndex := 6, attributes := #[] }, { accessFlags := 4122, nameIndex := 48, descriptorIndex := 49, attributes := #[] }])
  fields := #[{ name := "BLOOM_FILTER", type := (.object "com/example/libhazy/libhazy/FormKind"), accessFlags := 16409, slot := 0, constantValue := 0 }, { name := "HYPERLOGLOG", type := (.object "com/example/libhazy/libhazy/FormKind"), accessFlags := 16409, slot := 1, constantValue := 0 }, { name := "MINHASH", type := (.object "com/example/libhazy/libhazy/FormKind"), accessFlags := 16409, slot := 2, constantValue := 0 }, { name := "KEYED_BLOOM_FILTER", type := (.object "com/example/libhazy/libhazy/FormKind"), accessFlags := 16409, slot := 3, constantValue := 0 }, { name := "KEYED_HYPERLOGLOG", type := (.object "com/example/libhazy/libhazy/FormKind"), accessFlags := 16409, slot := 4, constantValue := 0 }, { name := "COUNT_MIN_SKETCH", type := (.object "com/example/libhazy/libhazy/FormKind"), accessFlags := 16409, slot := 5, constantValue := 0 }, { name := "AMS_SKETCH", type := (.object "com/example/libhazy/libhazy/FormKind"), accessFlags := 16409, slot := 6, constantValue := 0 }, { name := "ULTRALOGLOG", type := (.object "com/example/libhazy/libhazy/FormKind"), accessFlags := 16409, slot := 7, constantValue := 0 }, { name := "KEYED_ULTRALOGLOG", type := (.object "com/example/libhazy/libhazy/FormKind"), accessFlags := 16409, slot := 8, constantValue := 0 }, { name := "CONSERVATIVE_COUNT_MIN_SKETCH", type := (.object "com/example/libhazy/libhazy/FormKind"), accessFlags := 16409, slot := 9, constantValue := 0 }, { name := "HEAVY_HITTERS", type := (.object "com/example/libhazy/libhazy/FormKind"), accessFlags := 16409, slot := 10, constantValue := 0 }, { name := "QUANTILE_SKETCH", type := (.object "com/example/libhazy/libhazy/FormKind"), accessFlags := 16409, slot := 11, constantValue := 0 }, { name := "COUNTING_BLOOM_FILTER", type := (.object "com/example/libhazy/libhazy/FormKind"), accessFlags := 16409, slot := 12, constantValue := 0 }, { name := "KEYED_COUNTING_BLOOM_FILTER", type := (.object "com/example/libhazy/libhazy/FormKind"), accessFlags := 16409, slot := 13, constantValue := 0 }, { name := "code", type := .int, accessFlags := 18, slot := 3, constantValue := 0 }, { name := "title", type := (.object "java/lang/String"), accessFlags := 18, slot := 4, constantValue := 0 }, { name := "seeded", type := (.object "com/example/libhazy/libhazy/FormKind"), accessFlags := 18, slot := 5, constantValue := 0 }, { name := "$VALUES", type := (.array (.object "com/example/libhazy/libhazy/FormKind")), accessFlags := 4122, slot := 14, constantValue := 0 }]
  methods := #[k6m0]
  instanceTypes := #[(.object "java/lang/String"), .int, .int, .int, (.object "java/lang/String"), (.object "com/example/libhazy/libhazy/FormKind")]
  staticTypes := #[(.object "com/example/libhazy/libhazy/FormKind"), (.object "com/example/libhazy/libhazy/FormKind"), (.object "com/example/libhazy/libhazy/FormKind"), (.object "com/example/libhazy/libhazy/FormKind"), (.object "com/example/libhazy/libhazy/FormKind"), (.object "com/example/libhazy/libhazy/FormKind"), (.object "com/example/libhazy/libhazy/FormKind"), (.object "com/example/libhazy/libhazy/FormKind"), (.object "com/example/libhazy/libhazy/FormKind"), (.object "com/example/libhazy/libhazy/FormKind"), (.object "com/example/libhazy/libhazy/FormKind"), (.object "com/example/libhazy/libhazy/FormKind"), (.object "com/example/libhazy/libhazy/FormKind"), (.object "com/example/libhazy/libhazy/FormKind"), (.array (.object "com/example/libhazy/libhazy/FormKind"))]
  resolved := Array.replicate 192 none
  statics := some 0 }

def pool7 : Array CpInfo := pool [(1, u "java/lang/Cloneable"), (0, .class_ 1), (0, u "java/lang/Object"), (0, .class_ 3)] 3

/-- java/lang/Cloneable -/
def k7 : Class := { plain "java/lang/Cloneable" (some 0) with
  accessFlags := 1537
  interfaces := #[]
  cf := some (fileOf pool7 2 #[] #[] 1537 4 #[] #[])
  fields := #[]
  methods := #[]
  instanceTypes := #[]
  staticTypes := #[]
  resolved := Array.replicate 8 none
  statics := none }

/-- the primitive byte -/
def k8 : Class := { plain "byte" none with kind := .primitive 'B', accessFlags := 0x411 }
/-- [B -/
def k9 : Class := { plain "[B" (some 0) with kind := .array 8 .byte, interfaces := #[7, 4], accessFlags := 1041 }

/-- the primitive int -/
def k10 : Class := { plain "int" none with kind := .primitive 'I', accessFlags := 0x411 }
/-- [I -/
def k11 : Class := { plain "[I" (some 0) with kind := .array 10 .int, interfaces := #[7, 4], accessFlags := 1041 }

def heap : Heap := #[{ cls := 6, slots := #[.ref 1, .ref 2, .ref 3, .ref 4, .ref 5, .ref 6, .ref 7, .ref 8, .ref 9, .ref 10, .ref 11, .ref 12, .ref 13, .ref 14, .null], vm := .statics 6 },
  { cls := 6, slots := #[.null, .int 0, .int 0, .int 0, .null, .null], vm := .none },
  { cls := 6, slots := #[.null, .int 1, .int 0, .int 0, .null, .null], vm := .none },
  { cls := 6, slots := #[.null, .int 2, .int 0, .int 0, .null, .null], vm := .none },
  { cls := 6, slots := #[.null, .int 3, .int 0, .int 0, .null, .ref 1], vm := .none },
  { cls := 6, slots := #[.null, .int 4, .int 0, .int 0, .null, .ref 2], vm := .none },
  { cls := 6, slots := #[.null, .int 5, .int 0, .int 0, .null, .null], vm := .none },
  { cls := 6, slots := #[.null, .int 6, .int 0, .int 0, .null, .null], vm := .none },
  { cls := 6, slots := #[.null, .int 7, .int 0, .int 0, .null, .null], vm := .none },
  { cls := 6, slots := #[.null, .int 8, .int 0, .int 0, .null, .ref 8], vm := .none },
  { cls := 6, slots := #[.null, .int 9, .int 0, .int 0, .null, .null], vm := .none },
  { cls := 6, slots := #[.null, .int 10, .int 0, .int 0, .null, .null], vm := .none },
  { cls := 6, slots := #[.null, .int 11, .int 0, .int 0, .null, .null], vm := .none },
  { cls := 6, slots := #[.null, .int 12, .int 0, .int 0, .null, .null], vm := .none },
  { cls := 6, slots := #[.null, .int 13, .int 0, .int 0, .null, .ref 13], vm := .none }]
def classes : Array Class := #[k0, k1, k2, k3, k4, k5, k6, k7, k8, k9, k10, k11]
def interned : List (Array UInt16 × Addr) := []
def slotsUsed : Nat := 99
def theMethod : MethodId := ⟨1, 2⟩
def args0 : Array Value := #[.int 5]
def aboutOver (below : List Frame) : State where
  vm := { classes := classes, interned := interned.toArray }
  heap := heap
  slotsUsed := slotsUsed
  threads := #[{ frames := .invoking theMethod args0 :: below }]
def below0 : List Frame := [.native { method := ⟨0, 0⟩, args := #[] }]
def about1 : State := aboutOver below0
def p0 : Program := .bare "" "" ""
def e0 : Env := launch0.env 0 0 0
theorem w_frames : about1.frames = Frame.invoking theMethod args0 :: below0 := rfl
set_option maxRecDepth 65536 in
theorem w_args : argsFit about1.vm theMethod args0 = true := by decide +kernel
set_option maxRecDepth 65536 in
theorem w_heap : heapFits about1 = true := by decide +kernel
set_option maxRecDepth 65536 in
theorem w_runnable : about1.curStatus? = some .runnable := by decide +kernel
set_option maxRecDepth 65536 in
theorem w_alone : about1.alone = true := by decide +kernel
set_option maxRecDepth 65536 in
theorem w_named : about1.methodNamed? x = some theMethod := by decide +kernel
set_option maxRecDepth 65536 in
theorem w_hears : about1.hears theMethod below0 = true := by decide +kernel
set_option maxRecDepth 65536 in
theorem w_ripe : about1.ripe theMethod args0 below0 = true := by decide +kernel
theorem w_running : about1.status = .running := rfl
set_option maxRecDepth 65536 in
theorem w_room : about1.hasRoom e0.platform room_1 = true :=
  launch0.hasRoom_least _ room_1 (by decide +kernel) (by decide +kernel) (by decide +kernel) (by decide +kernel) (by decide +kernel) (by decide +kernel)
theorem allAtoms_all (ts : List Jvm.Cond) (a : Array Jvm.Value) (st : Jvm.State) : (allAtoms ts).before a st = ts.all (fun c => c.before a st) := by
  induction ts with
  | nil => rfl
  | cons c t ih =>
    show (Jvm.Cond.and c (allAtoms t)).before a st = _
    rw [Jvm.Cond.before_and, ih, List.all_cons]
def words1 : List Jvm.Cond := Jvm.Cond.code x code maxLocals ret :: tables_1
/-- a 'code' word, met by the world's own term for the bytes: nothing is compared byte by byte -/
theorem code_word {y : MethodName} {bytes : ByteArray} {mx : Nat} {rt : Option FieldType} {a : Array Value} {s : State} {m : MethodId} {meth : Method} {c : Code} (h1 : s.methodNamed? y = some m) (h2 : s.vm.method? m = some meth) (h3 : meth.code = some c) (h4 : c.code = bytes)
    (h5 : (c.maxLocals == mx && c.exceptionTable.isEmpty && decide (c.maxStack ≤ mostOperands) && decide (meth.sig.returnType = rt) && !meth.locks && decide (parseMethodDescriptor y.desc = some meth.sig)) = true) : (Jvm.Cond.code y bytes mx rt).before a s = true := by
  simp only [Bool.and_eq_true, beq_iff_eq, Bool.not_eq_true', decide_eq_true_eq] at h5
  obtain ⟨⟨⟨⟨⟨g1, g2⟩, g3⟩, g4⟩, g5⟩, g6⟩ := h5
  simp [Cond.before, Cond.holds, Cond.value, h1, h2, h3, h4, g1, g2, g3, g4, g5, g6]
def isCode : Jvm.Cond → Bool
  | .code _ _ _ _ => true
  | _ => false
theorem all_split {L : List Jvm.Cond} {P : Jvm.Cond → Bool} (h1 : L.all (fun c => isCode c || P c) = true) (h2 : ∀ c ∈ L.filter isCode, P c = true) : L.all P = true := by
  refine List.all_eq_true.mpr fun c hc => ?_
  have h := List.all_eq_true.mp h1 c hc
  rcases Bool.eq_false_or_eq_true (isCode c) with hi | hi
  · exact h2 c (List.mem_filter.mpr ⟨hc, hi⟩)
  · simpa [hi] using h
set_option maxRecDepth 65536 in
theorem w_c0 : (Jvm.Cond.code x code maxLocals ret).before args0 about1 = true := code_word (m := ⟨1, 2⟩) (meth := k1m2) (c := k1c2) (by decide +kernel) rfl rfl rfl (by decide +kernel)
set_option maxRecDepth 65536 in
theorem w_c1 : (Jvm.Cond.code ({ cls := "com/example/libhazy/libhazy/FormKindIsKeyedPinLaw", name := "pick", desc := "(I)Lcom/example/libhazy/libhazy/FormKind;" } : Jvm.MethodName) method_2_code (1 : Nat) (Option.some (Jvm.ClassFile.FieldType.object "com/example/libhazy/libhazy/FormKind"))).before args0 about1 = true := code_word (m := ⟨1, 1⟩) (meth := k1m1) (c := k1c1) (by decide +kernel) rfl rfl rfl (by decide +kernel)
set_option maxRecDepth 65536 in
theorem w_c2 : (Jvm.Cond.code ({ cls := "com/example/libhazy/libhazy/FormKind", name := "isKeyed", desc := "()Z" } : Jvm.MethodName) prog_20_method_7_code (1 : Nat) (Option.some Jvm.ClassFile.FieldType.boolean)).before args0 about1 = true := code_word (m := ⟨6, 0⟩) (meth := k6m0) (c := k6c0) (by decide +kernel) rfl rfl rfl (by decide +kernel)
def codes1 : List Jvm.Cond := [Jvm.Cond.code x code maxLocals ret, Jvm.Cond.code ({ cls := "com/example/libhazy/libhazy/FormKindIsKeyedPinLaw", name := "pick", desc := "(I)Lcom/example/libhazy/libhazy/FormKind;" } : Jvm.MethodName) method_2_code (1 : Nat) (Option.some (Jvm.ClassFile.FieldType.object "com/example/libhazy/libhazy/FormKind")), Jvm.Cond.code ({ cls := "com/example/libhazy/libhazy/FormKind", name := "isKeyed", desc := "()Z" } : Jvm.MethodName) prog_20_method_7_code (1 : Nat) (Option.some Jvm.ClassFile.FieldType.boolean)]
set_option maxRecDepth 65536 in
theorem codes_eq : words1.filter isCode = codes1 := rfl
theorem w_codes : ∀ c ∈ words1.filter isCode, c.before args0 about1 = true := by
  rw [codes_eq]
  intro c hc
  simp only [codes1, List.mem_cons, List.not_mem_nil, or_false] at hc
  rcases hc with rfl | rfl | rfl
  · exact w_c0
  · exact w_c1
  · exact w_c2
set_option maxRecDepth 65536 in
theorem w_t1 : (words1.take 24).all (fun c => isCode c || c.before args0 about1) = true := by decide +kernel
set_option maxRecDepth 65536 in
theorem w_t2 : (words1.drop 24).all (fun c => isCode c || c.before args0 about1) = true := by decide +kernel
theorem w_tables : (allAtoms (Jvm.Cond.code x code maxLocals ret :: tables_1)).before args0 about1 = true := by
  rw [allAtoms_all]
  show words1.all (fun c => c.before args0 about1) = true
  refine all_split ?_ w_codes
  rw [← List.take_append_drop 24 words1, List.all_append, w_t1, w_t2]
  rfl
set_option maxRecDepth 65536 in
theorem w_case : (Jvm.Cond.and given_1 narrow_1).before args0 about1 = true := by decide +kernel
theorem w_applies : (headSpec (Jvm.Cond.code x code maxLocals ret :: tables_1) room_1).applies x e0.platform about1 = true :=
  (Spec.applies_iff w_frames).mpr ⟨w_running, w_runnable, w_alone, w_named, w_hears, w_ripe, w_room, w_tables⟩
theorem atStart : AtStart classFile x code maxLocals ret World_1 tables_1 room_1 Calls_1 rest_1 Pre_1 launch0 p0 e0 about1 theMethod args0 below0 :=
  ⟨lists_1, trivial, launch0.admits_env _ _ _, launch0.least_env, fairChoices_fair.cas, fairChoices_fair.clock, w_frames, w_args, w_heap, w_applies, trivial, trivial, w_case⟩
end start1
theorem witness_1 : WitnessClaimed_1 := ⟨start1.p0, start1.e0, start1.about1, start1.theMethod, start1.args0, start1.below0, start1.atStart⟩
end Jvm.Pilot.@@N@@

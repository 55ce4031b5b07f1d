import JvmDerived
import JvmDerived.Pilot.@@N@@Statement
import JvmDerived.Pilot.@@N@@Code
set_option linter.unusedVariables false
set_option linter.unusedSimpArgs false
namespace Jvm.Pilot.@@N@@
open Jvm Jvm.ClassFile Sem Op Lib Jvm.Free Jvm.Stand Jvm.LawKit Jvm.RoadKit Bundle Jvm.Pilot.@@N@@.Jvm.D
def own_ushr (x y : Int32) : Int32 := (x.toUInt32 >>> (y &&& 31).toUInt32).toInt32
def own_ushrL (x : Int64) (y : Int32) : Int64 := (x.toUInt64 >>> (y &&& 0x3f).toInt64.toUInt64).toInt64
section OwnKit
variable {p : Program} {l : Launch} {e : Env} {R : Room} {s : State} {m : MethodId} {args : Array Value} {below : List Frame} {meth : Method} {c : Code} {T : State} {locs : List Loc} {cells slots : Nat} {Z : State} {h h0 : Heap} {ce sl : Nat} {Q : Option Value → Heap → List Loc → Prop} {U U' : State} {a0 : Array Value}
/-- from U the walk comes to its return, and what it leaves is Q -/
def Go (p : Program) (e : Env) (below : List Frame) (s : State) (ce sl : Nat) (Q : Option Value → Heap → List Loc → Prop) (U : State) : Prop :=
  ∃ s₂ o, Steps p.tables e below U s₂ ∧ s₂.status = .running ∧ Ended s₂ below o ∧ ∃ v L, o = .returned v ∧ Q v s₂.heap L ∧ FrameEnd s o s₂ L ce sl
theorem Go.via (h : ∀ t, Steps p.tables e below U' t → Steps p.tables e below U t) (g : Go p e below s ce sl Q U') : Go p e below s ce sl Q U := by
  obtain ⟨s₂, o, h1, h2⟩ := g
  exact ⟨s₂, o, h _ h1, h2⟩
theorem Go.cast {g g' : JFrame} (q : g = g') (k : Go p e below s ce sl Q (T.setTop g')) : Go p e below s ce sl Q (T.setTop g) := q ▸ k
/-- the contract of a body: called with as', over the heap h0, it returns and leaves Q -/
def Meets (l : Launch) (Z : State) (y : MethodName) (bytes : ByteArray) (maxL : Nat) (rt : Option FieldType) (ws : List Jvm.Cond) (rm : Room) (as' : Array Value) (h0 : Heap) (Q : Option Value → Heap → List Loc → Prop) : Prop :=
  MetFree l y (head1 (Jvm.Cond.code y bytes maxL rt :: ws) rm) (fun a U => a = as' ∧ Z.Warmed39 U.vm ∧ U.heap = h0) (fun _ _ _ _ _ => True) (fun _ U o U' => ∃ v L, o = .returned v ∧ Q v U'.heap L ∧ FrameEnd U o U' L rm.cells rm.slots)
theorem meets_of {y : MethodName} {bytes : ByteArray} {maxL : Nat} {rt : Option FieldType} {ws : List Jvm.Cond} {rm : Room} {as' : Array Value} (hpl : plainFor y = true)
    (body : ∀ p e s m below meth c s₁, Stand p l e rm s m as' below meth c s₁ [] 0 0 → p.tables.exec = Jvm.exec → Z.Warmed39 s.vm → c.code = bytes → c.maxLocals = maxL → meth.sig.returnType = rt → meth.locks = false → s.vm.findClass y.cls = some m.cls → meth.name = y.name → s₁.heap = h0 →
      Go p e below s rm.cells rm.slots Q (s₁.setTop (entryFrame m as' maxL))) : Meets l Z y bytes maxL rt ws rm as' h0 Q := by
  refine MetFree.of_bodySF hpl hisR ?_
  intro p e s m args below meth c s₁ Bd hml hP hK
  obtain ⟨rfl, hZ, hh⟩ := hP
  exact body p e s m below meth c s₁ (Stand.of_body Bd) Bd.exec hZ Bd.bytes hml Bd.returns Bd.notSynchronized (findClass_of_methodNamed Bd.named) (name_of_methodNamed Bd.named Bd.method).1 (by rw [← hh, Bd.state]; rfl)
theorem go_ret (X : Stand p l e R s m args below meth c T locs cells slots) (hlk : meth.locks = false) {v : Option Value} (hv : meth.sig.returnType = none → v = none) (eT : T.heap = h) (hQ : Q v h locs) (hc : cells ≤ ce) (hs : slots ≤ sl)
    (st : ∀ fs, (∀ (f : JFrame) (acts : List Action), f.method = m → f.locked = none → f.entered = [] → (doReturn e (T.setTop f) acts v).1 = T.setFrames fs) → Steps p.tables e below U (T.setFrames fs)) : Go p e below s ce sl Q U := by
  obtain ⟨fs, hr, hrun, hended, hW, hsame⟩ := X.leave hv hlk
  exact ⟨_, _, st fs hr, hrun, hended, v, locs, rfl, (by show Q v T.heap locs; rw [eT]; exact hQ), ⟨_, rfl⟩, hW, hsame.mono hc hs⟩
theorem go_retN (X : Stand p l e R s m args below meth c T locs cells slots) (hx : p.tables.exec = Jvm.exec) (hlk : meth.locks = false) {t : FieldType} (hret : meth.sig.returnType = some t) (ht : t = .boolean ∨ t = .byte ∨ t = .char ∨ t = .short) {pc : Nat} {Ls : Array Slot} {z : Int32} {rest : List Value}
    (hd : decode c.code pc = .ok (.ireturn, 1)) (eT : T.heap = h) (hQ : Q (some (.int (nar t z))) h locs) (hc : cells ≤ ce) (hs : slots ≤ sl) : Go p e below s ce sl Q (T.setTop (mkF m pc Ls (.int z :: rest))) :=
  go_ret X hlk (fun h => by rw [hret] at h; cases h) eT hQ hc hs (fun fs hr => retN X hx hret ht hd hr)
theorem go_retI (X : Stand p l e R s m args below meth c T locs cells slots) (hx : p.tables.exec = Jvm.exec) (hlk : meth.locks = false) (hret : meth.sig.returnType = some .int) {pc : Nat} {Ls : Array Slot} {z : Int32} {rest : List Value}
    (hd : decode c.code pc = .ok (.ireturn, 1)) (eT : T.heap = h) (hQ : Q (some (.int z)) h locs) (hc : cells ≤ ce) (hs : slots ≤ sl) : Go p e below s ce sl Q (T.setTop (mkF m pc Ls (.int z :: rest))) :=
  go_ret X hlk (fun h => by rw [hret] at h; cases h) eT hQ hc hs (fun fs hr => retOut X hx hret rfl (Or.inl ⟨rfl, Or.inl rfl, z, rfl⟩) hd hr)
theorem go_retJ (X : Stand p l e R s m args below meth c T locs cells slots) (hx : p.tables.exec = Jvm.exec) (hlk : meth.locks = false) (hret : meth.sig.returnType = some .long) {pc : Nat} {Ls : Array Slot} {z : Int64} {rest : List Value}
    (hd : decode c.code pc = .ok (.lreturn, 1)) (eT : T.heap = h) (hQ : Q (some (.long z)) h locs) (hc : cells ≤ ce) (hs : slots ≤ sl) : Go p e below s ce sl Q (T.setTop (mkF m pc Ls (.long z :: rest))) :=
  go_ret X hlk (fun h => by rw [hret] at h; cases h) eT hQ hc hs (fun fs hr => retOut X hx hret rfl (Or.inr (Or.inl ⟨rfl, rfl, z, rfl⟩)) hd hr)
theorem go_retA (X : Stand p l e R s m args below meth c T locs cells slots) (hx : p.tables.exec = Jvm.exec) (hlk : meth.locks = false) {t : FieldType} (hret : meth.sig.returnType = some t) (ht : t.isReference = true) {pc : Nat} {Ls : Array Slot} {w : Value} (hw : w.isRef = true) (hn : narrow t w = w) {rest : List Value}
    (hd : decode c.code pc = .ok (.areturn, 1)) (eT : T.heap = h) (hQ : Q (some w) h locs) (hc : cells ≤ ce) (hs : slots ≤ sl) : Go p e below s ce sl Q (T.setTop (mkF m pc Ls (w :: rest))) :=
  go_ret X hlk (fun h => by rw [hret] at h; cases h) eT hQ hc hs (fun fs hr => retOut X hx hret hn (Or.inr (Or.inr (Or.inr (Or.inr ⟨rfl, ht, hw⟩)))) hd hr)
theorem go_retV (X : Stand p l e R s m args below meth c T locs cells slots) (hx : p.tables.exec = Jvm.exec) (hlk : meth.locks = false) (hret : meth.sig.returnType = none) {pc : Nat} {Ls : Array Slot}
    (hd : decode c.code pc = .ok (.return_, 1)) (eT : T.heap = h) (hQ : Q none h locs) (hc : cells ≤ ce) (hs : slots ≤ sl) : Go p e below s ce sl Q (T.setTop (mkF m pc Ls [])) :=
  go_ret X hlk (fun _ => rfl) eT hQ hc hs (fun fs hr => X.returnOut hx hret hd hr)
/-- it returned v, wrote nothing and made nothing -/
def PureR (v : Option Value) (h0 : Heap) : Option Value → Heap → List Loc → Prop := fun v' h L => v' = v ∧ h = h0 ∧ L = []
/-- a static method by its contract -/
theorem callSQ (X : Stand p l e R s m args below meth c T locs cells slots) (hx : p.tables.exec = Jvm.exec) (hZ : Z.Warmed39 s.vm) {own : String} {index : Nat} {y : MethodName} {bytes : ByteArray} {maxL : Nat} {rt : Option FieldType} {rm : Room}
    (hown : s.vm.findClass own = some m.cls) (w1 : (Jvm.Cond.methodLink own index y).before a0 Z = true) (w2 : (Jvm.Cond.static y).before a0 Z = true) (w3 : (Jvm.Cond.initialized y.cls).before a0 Z = true) (w4 : (Jvm.Cond.code y bytes maxL rt).before a0 Z = true)
    (hy : y.cls ≠ "java/lang/invoke/MethodHandle" ∧ y.cls ≠ "java/lang/invoke/VarHandle") {av : List Value} (hM : Meets l Z y bytes maxL rt [] rm av.toArray h Q) (eT : T.heap = h)
    {pc : Nat} {Ls : Array Slot} {rest : List Value} {ps : List FieldType} {r : Option FieldType} (hsize : Ls.size = c.maxLocals) (hp : parseMethodDescriptor y.desc = some ⟨ps, r⟩) (hlen : av.length = ps.length)
    (W : Nat) (hW : (rest.map fun v => v.category).sum ≤ W) (hf : rm.frames + 1 ≤ R.frames) (hl : W + (maxL + 11) + rm.locals ≤ R.locals) (hc : cells + rm.cells ≤ R.cells) (hs : slots + rm.slots ≤ R.slots) (hd : decode c.code pc = .ok (.invokestatic index, 3)) :
    ∃ v T' L, Stand p l e R s m args below meth c T' (locs ++ L) (cells + rm.cells) (slots + rm.slots) ∧ Q v T'.heap L ∧
      ∀ t, Steps p.tables e below (T'.setTop (mkF m (pc + 3) Ls (v.toList ++ rest))) t → Steps p.tables e below (T.setTop (mkF m pc Ls (av.reverse ++ rest))) t := by
  obtain ⟨v, _, ⟨T2, L2, k2, n2⟩, -, X2, ⟨Lc2, hQ2, l2, y2, z2⟩, st2⟩ := Jvm.LawKit.callS X hx (y := y) hown (mvT hZ w1) (mvT hZ w2) (mvT hZ w3) (mvT hZ w4) hy (backOf (W := W) hM hZ w4 w3 hf hl) (g := mkF m pc Ls (av.reverse ++ rest)) rfl hsize (argsL := av) (rest := rest) (lenOf hp hlen) rfl (by show 2 * 0 + _ ≤ _; rw [Nat.mul_zero, Nat.zero_add]; exact hW) hd (fun _ _ => ⟨rfl, eT, hc, hs⟩)
  dsimp only [Pt.U, Pt.locs, Pt.cells, Pt.slots] at X2 l2 y2 z2 st2 hQ2
  subst l2 y2 z2
  exact ⟨v, T2, Lc2, X2, hQ2, st2⟩
/-- a static method that writes and makes nothing -/
theorem callS0 (X : Stand p l e R s m args below meth c T locs cells slots) (hx : p.tables.exec = Jvm.exec) (hZ : Z.Warmed39 s.vm) {own : String} {index : Nat} {y : MethodName} {bytes : ByteArray} {maxL : Nat} {rt : Option FieldType} {fr lo : Nat} {v : Option Value}
    (hown : s.vm.findClass own = some m.cls) (w1 : (Jvm.Cond.methodLink own index y).before a0 Z = true) (w2 : (Jvm.Cond.static y).before a0 Z = true) (w3 : (Jvm.Cond.initialized y.cls).before a0 Z = true) (w4 : (Jvm.Cond.code y bytes maxL rt).before a0 Z = true)
    (hy : y.cls ≠ "java/lang/invoke/MethodHandle" ∧ y.cls ≠ "java/lang/invoke/VarHandle") {av : List Value} (hM : Meets l Z y bytes maxL rt [] ({ frames := fr, cells := 0, slots := 0, locals := lo } : Room) av.toArray h (PureR v h)) (eT : T.heap = h)
    {pc : Nat} {Ls : Array Slot} {rest : List Value} {ps : List FieldType} {r : Option FieldType} (hsize : Ls.size = c.maxLocals) (hp : parseMethodDescriptor y.desc = some ⟨ps, r⟩) (hlen : av.length = ps.length)
    (W : Nat) (hW : (rest.map fun v => v.category).sum ≤ W) (hf : fr + 1 ≤ R.frames) (hl : W + (maxL + 11) + lo ≤ R.locals) (hc : cells ≤ R.cells) (hs : slots ≤ R.slots) (hd : decode c.code pc = .ok (.invokestatic index, 3)) :
    ∃ T', Stand p l e R s m args below meth c T' locs cells slots ∧ T'.heap = h ∧
      ∀ t, Steps p.tables e below (T'.setTop (mkF m (pc + 3) Ls (v.toList ++ rest))) t → Steps p.tables e below (T.setTop (mkF m pc Ls (av.reverse ++ rest))) t := by
  obtain ⟨_, T2, _, X2, ⟨rfl, h2, rfl⟩, st2⟩ := callSQ X hx hZ hown w1 w2 w3 w4 hy hM eT hsize hp hlen W hW hf hl hc hs hd
  rw [List.append_nil] at X2
  exact ⟨T2, X2, h2, st2⟩
end OwnKit
section OwnKit2
variable {p : Program} {l : Launch} {e : Env} {R : Room} {s : State} {m : MethodId} {args : Array Value} {below : List Frame} {meth : Method} {c : Code} {T : State} {locs : List Loc} {cells slots : Nat} {Z : State} {h h0 : Heap} {ce sl : Nat} {Q : Option Value → Heap → List Loc → Prop} {U U' : State} {a0 : Array Value}
/-- an instance method by its contract, the resolved one being the selected one -/
theorem callVQ (X : Stand p l e R s m args below meth c T locs cells slots) (hx : p.tables.exec = Jvm.exec) (hZ : Z.Warmed39 s.vm) {own C : String} {index : Nat} {y : MethodName} {bytes : ByteArray} {maxL : Nat} {rt : Option FieldType} {rm : Room}
    (hown : s.vm.findClass own = some m.cls) (w1 : (Jvm.Cond.methodLink own index y).before a0 Z = true) (w2 : (Jvm.Cond.declares y).before a0 Z = true) (w3 : (Jvm.Cond.selects C y y).before a0 Z = true) (w5 : (Jvm.Cond.instanceMethod y).before a0 Z = true) (w6 : (Jvm.Cond.initialized y.cls).before a0 Z = true) (w4 : (Jvm.Cond.code y bytes maxL rt).before a0 Z = true)
    (hy : y.cls ≠ "java/lang/invoke/MethodHandle" ∧ y.cls ≠ "java/lang/invoke/VarHandle") {b : Addr} {av : List Value} (hE : Exa Z h b C) (hM : Meets l Z y bytes maxL rt [] rm (.ref b :: av).toArray h Q) (eT : T.heap = h)
    {pc : Nat} {Ls : Array Slot} {rest : List Value} {ps : List FieldType} {r : Option FieldType} (hsize : Ls.size = c.maxLocals) (hp : parseMethodDescriptor y.desc = some ⟨ps, r⟩) (hlen : av.length = ps.length)
    (W : Nat) (hW : (rest.map fun v => v.category).sum ≤ W) (hf : rm.frames + 1 ≤ R.frames) (hl : W + (maxL + 11) + rm.locals ≤ R.locals) (hc : cells + rm.cells ≤ R.cells) (hs : slots + rm.slots ≤ R.slots) (hd : decode c.code pc = .ok (.invokevirtual index, 3)) :
    ∃ v T' L, Stand p l e R s m args below meth c T' (locs ++ L) (cells + rm.cells) (slots + rm.slots) ∧ Q v T'.heap L ∧
      ∀ t, Steps p.tables e below (T'.setTop (mkF m (pc + 3) Ls (v.toList ++ rest))) t → Steps p.tables e below (T.setTop (mkF m pc Ls (av.reverse ++ .ref b :: rest))) t := by
  obtain ⟨cq, kq, qa, qb, qc⟩ := isOf hZ eT hE
  obtain ⟨v, _, ⟨T2, L2, k2, n2⟩, -, X2, ⟨Lc2, hQ2, l2, y2, z2⟩, st2⟩ := X.virtualBack hx (y := y) (z := y) hown (mvT hZ w1) (mvT hZ w2) (notFace_of_selects (args := #[]) (mvT hZ w3)) (mvT hZ w3) (mvT hZ w5) hy (backOf (W := W) hM hZ w4 w6 hf hl) qa qc (g := mkF m pc Ls (av.reverse ++ .ref b :: rest)) rfl hsize (Steps.refl _) (argsL := av) (rest := rest) (lenOf hp hlen) rfl (by show 2 * 0 + _ ≤ _; rw [Nat.mul_zero, Nat.zero_add]; exact hW) hd (fun _ _ => ⟨rfl, eT, hc, hs⟩)
  dsimp only [Pt.U, Pt.locs, Pt.cells, Pt.slots] at X2 l2 y2 z2 st2 hQ2
  subst l2 y2 z2
  exact ⟨v, T2, Lc2, X2, hQ2, fun t k => st2.trans k⟩
theorem callV0 (X : Stand p l e R s m args below meth c T locs cells slots) (hx : p.tables.exec = Jvm.exec) (hZ : Z.Warmed39 s.vm) {own C : String} {index : Nat} {y : MethodName} {bytes : ByteArray} {maxL : Nat} {rt : Option FieldType} {fr lo : Nat} {v : Option Value}
    (hown : s.vm.findClass own = some m.cls) (w1 : (Jvm.Cond.methodLink own index y).before a0 Z = true) (w2 : (Jvm.Cond.declares y).before a0 Z = true) (w3 : (Jvm.Cond.selects C y y).before a0 Z = true) (w5 : (Jvm.Cond.instanceMethod y).before a0 Z = true) (w6 : (Jvm.Cond.initialized y.cls).before a0 Z = true) (w4 : (Jvm.Cond.code y bytes maxL rt).before a0 Z = true)
    (hy : y.cls ≠ "java/lang/invoke/MethodHandle" ∧ y.cls ≠ "java/lang/invoke/VarHandle") {b : Addr} {av : List Value} (hE : Exa Z h b C) (hM : Meets l Z y bytes maxL rt [] ({ frames := fr, cells := 0, slots := 0, locals := lo } : Room) (.ref b :: av).toArray h (PureR v h)) (eT : T.heap = h)
    {pc : Nat} {Ls : Array Slot} {rest : List Value} {ps : List FieldType} {r : Option FieldType} (hsize : Ls.size = c.maxLocals) (hp : parseMethodDescriptor y.desc = some ⟨ps, r⟩) (hlen : av.length = ps.length)
    (W : Nat) (hW : (rest.map fun v => v.category).sum ≤ W) (hf : fr + 1 ≤ R.frames) (hl : W + (maxL + 11) + lo ≤ R.locals) (hc : cells ≤ R.cells) (hs : slots ≤ R.slots) (hd : decode c.code pc = .ok (.invokevirtual index, 3)) :
    ∃ T', Stand p l e R s m args below meth c T' locs cells slots ∧ T'.heap = h ∧
      ∀ t, Steps p.tables e below (T'.setTop (mkF m (pc + 3) Ls (v.toList ++ rest))) t → Steps p.tables e below (T.setTop (mkF m pc Ls (av.reverse ++ .ref b :: rest))) t := by
  obtain ⟨_, T2, _, X2, ⟨rfl, h2, rfl⟩, st2⟩ := callVQ X hx hZ hown w1 w2 w3 w5 w6 w4 hy hE hM eT hsize hp hlen W hW hf hl hc hs hd
  rw [List.append_nil] at X2
  exact ⟨T2, X2, h2, st2⟩
/-- a constructor by its contract -/
theorem callIQ (X : Stand p l e R s m args below meth c T locs cells slots) (hx : p.tables.exec = Jvm.exec) (hZ : Z.Warmed39 s.vm) {own : String} {index : Nat} {y : MethodName} {bytes : ByteArray} {maxL : Nat} {rm : Room} (hy1 : y.name = "<init>")
    (hown : s.vm.findClass own = some m.cls) (w1 : (Jvm.Cond.methodLink own index y).before a0 Z = true) (w5 : (Jvm.Cond.instanceMethod y).before a0 Z = true) (w6 : (Jvm.Cond.initialized y.cls).before a0 Z = true) (w4 : (Jvm.Cond.code y bytes maxL none).before a0 Z = true)
    (hy : y.cls ≠ "java/lang/invoke/MethodHandle" ∧ y.cls ≠ "java/lang/invoke/VarHandle") {b : Addr} {av : List Value} (hM : Meets l Z y bytes maxL none [] rm (.ref b :: av).toArray h Q) (eT : T.heap = h)
    {pc : Nat} {Ls : Array Slot} {rest : List Value} {ps : List FieldType} {r : Option FieldType} (hsize : Ls.size = c.maxLocals) (hp : parseMethodDescriptor y.desc = some ⟨ps, r⟩) (hlen : av.length = ps.length)
    (W : Nat) (hW : (rest.map fun v => v.category).sum ≤ W) (hf : rm.frames + 1 ≤ R.frames) (hl : W + (maxL + 11) + rm.locals ≤ R.locals) (hc : cells + rm.cells ≤ R.cells) (hs : slots + rm.slots ≤ R.slots) (hd : decode c.code pc = .ok (.invokespecial index, 3)) :
    ∃ v T' L, Stand p l e R s m args below meth c T' (locs ++ L) (cells + rm.cells) (slots + rm.slots) ∧ Q v T'.heap L ∧
      ∀ t, Steps p.tables e below (T'.setTop (mkF m (pc + 3) Ls (v.toList ++ rest))) t → Steps p.tables e below (T.setTop (mkF m pc Ls (av.reverse ++ .ref b :: rest))) t := by
  obtain ⟨v, _, ⟨T2, L2, k2, n2⟩, -, X2, ⟨Lc2, hQ2, l2, y2, z2⟩, st2⟩ := X.specialBack hx (y := y) hy1 hown (mvT hZ w1) (mvT hZ w5) (mvT hZ w4) hy (backOf (W := W) hM hZ w4 w6 hf hl) (g := mkF m pc Ls (av.reverse ++ .ref b :: rest)) rfl hsize (Steps.refl _) (a := b) (argsL := av) (rest := rest) (lenOf hp hlen) rfl (by show 2 * 0 + _ ≤ _; rw [Nat.mul_zero, Nat.zero_add]; exact hW) hd (fun _ _ => ⟨rfl, eT, hc, hs⟩)
  dsimp only [Pt.U, Pt.locs, Pt.cells, Pt.slots] at X2 l2 y2 z2 st2 hQ2
  subst l2 y2 z2
  exact ⟨v, T2, Lc2, X2, hQ2, fun t k => st2.trans k⟩
end OwnKit2
section OwnKit4
variable {p : Program} {l : Launch} {e : Env} {R : Room} {s : State} {m : MethodId} {args : Array Value} {below : List Frame} {meth : Method} {c : Code} {T : State} {locs : List Loc} {cells slots : Nat} {Z : State} {h h0 h' : Heap} {a b : Addr} {a0 : Array Value} {k : ClassId} {ty : FieldType} {z j x : Int32} {f : Nat → Int32} {ws : List Addr} {sl : Nat} {v : Value}
/-- an array of ints (or of a narrower kind), its length z, its elements by a function -/
def Arf (Z : State) (h : Heap) (a : Addr) (k : ClassId) (ty : FieldType) (z : Int32) (f : Nat → Int32) : Prop := ∃ c : Cell, Arr Z h a c ty ∧ c.cls = k ∧ c.slots.size = z.toNatClampNeg ∧ ¬ z < 0 ∧ (∀ i, i < c.slots.size → c.slots[i]? = some (.int (f i))) ∧ ∀ i, i < c.slots.size → fits ty (.int (f i)) = true
def own_upd (f : Nat → Int32) (j : Nat) (v : Int32) : Nat → Int32 := fun i => if i = j then v else f i
theorem Arf.lt (F : Arf Z h a k ty z f) : a < h.size := by obtain ⟨c, A, -⟩ := F; exact A.lt
theorem Arf.ext (F : Arf Z h a k ty z f) (E : Ext h h') : Arf Z h' a k ty z f := by obtain ⟨c, A, r⟩ := F; exact ⟨c, A.ext E, r⟩
theorem Arf.other (F : Arf Z h b k ty z f) (W : Wr h h' a sl v) (q : b ≠ a) : Arf Z h' b k ty z f := by obtain ⟨c, A, r⟩ := F; exact ⟨c, A.other W q, r⟩
theorem Arf.keep (F : Arf Z h a k ty z f) (K : Keep h h' ws) (q : a ∉ ws) : Arf Z h' a k ty z f := by obtain ⟨c, A, r⟩ := F; exact ⟨c, ⟨K.2.1 a c A.1 q, A.2⟩, r⟩
theorem Arf.congr {f' : Nat → Int32} (F : Arf Z h a k ty z f) (q : ∀ i, i < z.toNatClampNeg → f i = f' i) : Arf Z h a k ty z f' := by
  obtain ⟨c, A, q1, S, q3, H, G⟩ := F
  exact ⟨c, A, q1, S, q3, fun i hi => by rw [H i hi, q i (S ▸ hi)], fun i hi => by rw [← q i (S ▸ hi)]; exact G i hi⟩
theorem Arf.new (A : Arr Z h a (newA k ty z) ty) (q : ¬ z < 0) (hd : defaultValue ty = .int 0) (hf : fits ty (.int 0) = true) : Arf Z h a k ty z (fun _ => 0) :=
  ⟨_, A, rfl, sz_new _ _ _, q, fun i hi => by rw [sz_new] at hi; simp [newA, hd, hi], fun _ _ => hf⟩
theorem Arf.set {c : Cell} (A : Arr Z h a c ty) (q1 : c.cls = k) (S : c.slots.size = z.toNatClampNeg) (q3 : ¬ z < 0) (H : ∀ i, i < c.slots.size → c.slots[i]? = some (.int (f i))) (G : ∀ i, i < c.slots.size → fits ty (.int (f i)) = true) (hv : fits ty (.int x) = true) (W : Wr h h' a j.toNatClampNeg (.int x)) : Arf Z h' a k ty z (own_upd f j.toNatClampNeg x) := by
  refine ⟨c.setSlot j.toNatClampNeg (.int x), A.same W, q1, (sz_set _ _ _).trans S, q3, fun i hi => ?_, fun i hi => ?_⟩
  · rw [sz_set] at hi
    by_cases e : i = j.toNatClampNeg
    · subst e; simp [Cell.setSlot, own_upd, hi]
    · have e' : ¬ j.toNatClampNeg = i := fun q => e q.symm
      have := H i hi
      simp [Cell.setSlot, own_upd, e, e', this]
  · rw [sz_set] at hi
    by_cases e : i = j.toNatClampNeg
    · subst e; simp only [own_upd, if_pos rfl]; exact hv
    · simp only [own_upd, if_neg e]; exact G i hi
theorem Arf.arv (F : Arf Z h a k ty z f) : Arv Z h a k ty z ((List.range z.toNatClampNeg).map fun i => Value.int (f i)) (.int 0) := by
  obtain ⟨c, A, q1, S, q3, H, G⟩ := F
  have q : ∀ i, i < c.slots.size → ((List.range z.toNatClampNeg).map fun i => Value.int (f i)).getD i (.int 0) = .int (f i) := fun i hi => by rw [S] at hi; simp [List.getD, hi]
  exact ⟨c, A, q1, S, q3, fun i hi => by rw [q i hi]; exact H i hi, fun i hi => by rw [q i hi]; exact G i hi⟩
theorem Arf.of_arv {vs : List Value} {d : Value} (F : Arv Z h a k ty z vs d) (q : ∀ i, i < z.toNatClampNeg → vs.getD i d = .int (f i)) : Arf Z h a k ty z f := by
  obtain ⟨c, A, q1, S, q3, H, G⟩ := F
  exact ⟨c, A, q1, S, q3, fun i hi => by rw [H i hi, q i (S ▸ hi)], fun i hi => by rw [← q i (S ▸ hi)]; exact G i hi⟩
theorem own_inb (F : Arf Z h a k ty z f) (q : ¬ j < 0 ∧ j < z) : ∃ c : Cell, Arr Z h a c ty ∧ ¬ (j < 0 ∨ c.slots.size ≤ j.toNatClampNeg) ∧ c.slots[j.toNatClampNeg]? = some (.int (f j.toNatClampNeg)) ∧ fits ty (.int (f j.toNatClampNeg)) = true := by
  obtain ⟨c, A, q1, S, q3, H, G⟩ := F
  have hin := inb_of S q
  have hlt : j.toNatClampNeg < c.slots.size := Nat.lt_of_not_le fun y => hin (Or.inr y)
  exact ⟨c, A, hin, H _ hlt, G _ hlt⟩
theorem own_len (X : Stand p l e R s m args below meth c T locs cells slots) (hx : p.tables.exec = Jvm.exec) (hZ : Z.Warmed39 s.vm) (eT : T.heap = h) (F : Arf Z h a k ty z f) {pc : Nat} {Ls : Array Slot} {rest : List Value} (hd : decode c.code pc = .ok (.arraylength, 1)) :
    ∀ t, Steps p.tables e below (T.setTop (mkF m (pc + 1) Ls (.int z :: rest))) t → Steps p.tables e below (T.setTop (mkF m pc Ls (.ref a :: rest))) t := by
  obtain ⟨cl, A, q1, S, q3, H, G⟩ := F
  intro t k
  refine X.arraylength hx (by rw [eT]; exact A.1) (State.isArrayOf_alike hZ.alike A.2.1) (g := mkF m pc Ls (.ref a :: rest)) rfl rfl hd _ ?_
  rw [len_of S q3]
  exact k
theorem own_ldI (X : Stand p l e R s m args below meth c T locs cells slots) (hx : p.tables.exec = Jvm.exec) (hZ : Z.Warmed39 s.vm) (eT : T.heap = h) (F : Arf Z h a k .int z f) (q : ¬ j < 0 ∧ j < z) {pc : Nat} {Ls : Array Slot} {rest : List Value} (hd : decode c.code pc = .ok (.iaload, 1)) :
    ∀ t, Steps p.tables e below (T.setTop (mkF m (pc + 1) Ls (.int (f j.toNatClampNeg) :: rest))) t → Steps p.tables e below (T.setTop (mkF m pc Ls (.int j :: .ref a :: rest))) t := by
  obtain ⟨cl, A, hin, hat, -⟩ := own_inb F q
  exact fun t k => X.iaload hx (by rw [eT]; exact A.1) (State.isArrayOf_alike hZ.alike A.2.1) A.2.2 hin hat (g := mkF m pc Ls (.int j :: .ref a :: rest)) rfl rfl hd _ k
theorem own_ldB (X : Stand p l e R s m args below meth c T locs cells slots) (hx : p.tables.exec = Jvm.exec) (hZ : Z.Warmed39 s.vm) (eT : T.heap = h) (F : Arf Z h a k .byte z f) (q : ¬ j < 0 ∧ j < z) {pc : Nat} {Ls : Array Slot} {rest : List Value} (hd : decode c.code pc = .ok (.baload, 1)) :
    ∀ t, Steps p.tables e below (T.setTop (mkF m (pc + 1) Ls (.int (f j.toNatClampNeg) :: rest))) t → Steps p.tables e below (T.setTop (mkF m pc Ls (.int j :: .ref a :: rest))) t := by
  obtain ⟨cl, A, hin, hat, -⟩ := own_inb F q
  exact fun t k => X.baloadBytes hx (by rw [eT]; exact A.1) (State.isArrayOf_alike hZ.alike A.2.1) A.2.2 hin hat (g := mkF m pc Ls (.int j :: .ref a :: rest)) rfl rfl hd _ k
theorem own_ldZ (X : Stand p l e R s m args below meth c T locs cells slots) (hx : p.tables.exec = Jvm.exec) (hZ : Z.Warmed39 s.vm) (eT : T.heap = h) (F : Arf Z h a k .boolean z f) (q : ¬ j < 0 ∧ j < z) {pc : Nat} {Ls : Array Slot} {rest : List Value} (hd : decode c.code pc = .ok (.baload, 1)) :
    ∀ t, Steps p.tables e below (T.setTop (mkF m (pc + 1) Ls (.int (f j.toNatClampNeg) :: rest))) t → Steps p.tables e below (T.setTop (mkF m pc Ls (.int j :: .ref a :: rest))) t := by
  obtain ⟨cl, A, hin, hat, -⟩ := own_inb F q
  exact fun t k => X.baloadBooleans hx (by rw [eT]; exact A.1) (State.isArrayOf_alike hZ.alike A.2.1) A.2.2 hin hat (g := mkF m pc Ls (.int j :: .ref a :: rest)) rfl rfl hd _ k
theorem own_stI (X : Stand p l e R s m args below meth c T locs cells slots) (hx : p.tables.exec = Jvm.exec) (hZ : Z.Warmed39 s.vm) (eT : T.heap = h) (F : Arf Z h a k .int z f) (q : ¬ j < 0 ∧ j < z) {pc : Nat} {Ls : Array Slot} {rest : List Value} (hd : decode c.code pc = .ok (.iastore, 1)) :
    ∃ T' h', Stand p l e R s m args below meth c T' (locs ++ [⟨a, j.toNatClampNeg⟩]) cells slots ∧ T'.heap = h' ∧ Wr h h' a j.toNatClampNeg (.int x) ∧ Arf Z h' a k .int z (own_upd f j.toNatClampNeg x) ∧ ∀ t, Steps p.tables e below (T'.setTop (mkF m (pc + 1) Ls rest)) t → Steps p.tables e below (T.setTop (mkF m pc Ls (.int x :: .int j :: .ref a :: rest))) t := by
  obtain ⟨cl, A, q1, S, q3, H, G⟩ := F
  obtain ⟨T', h', X', e', W, st⟩ := stI X hx hZ eT A (j := j) (inb_of S q) (g := mkF m pc Ls (.int x :: .int j :: .ref a :: rest)) rfl rfl hd
  exact ⟨T', h', X', e', W, Arf.set A q1 S q3 H G rfl W, st⟩
theorem own_stB (X : Stand p l e R s m args below meth c T locs cells slots) (hx : p.tables.exec = Jvm.exec) (hZ : Z.Warmed39 s.vm) (eT : T.heap = h) (F : Arf Z h a k .byte z f) (q : ¬ j < 0 ∧ j < z) {pc : Nat} {Ls : Array Slot} {rest : List Value} (hd : decode c.code pc = .ok (.bastore, 1)) :
    ∃ T' h', Stand p l e R s m args below meth c T' (locs ++ [⟨a, j.toNatClampNeg⟩]) cells slots ∧ T'.heap = h' ∧ Wr h h' a j.toNatClampNeg (.int (nar .byte x)) ∧ Arf Z h' a k .byte z (own_upd f j.toNatClampNeg (nar .byte x)) ∧ ∀ t, Steps p.tables e below (T'.setTop (mkF m (pc + 1) Ls rest)) t → Steps p.tables e below (T.setTop (mkF m pc Ls (.int x :: .int j :: .ref a :: rest))) t := by
  obtain ⟨cl, A, q1, S, q3, H, G⟩ := F
  obtain ⟨T', h', X', e', W, st⟩ := stB X hx hZ eT A (j := j) (inb_of S q) (g := mkF m pc Ls (.int x :: .int j :: .ref a :: rest)) rfl rfl hd
  exact ⟨T', h', X', e', W, Arf.set A q1 S q3 H G (fits_nar_byte _) W, st⟩
theorem own_stZ (X : Stand p l e R s m args below meth c T locs cells slots) (hx : p.tables.exec = Jvm.exec) (hZ : Z.Warmed39 s.vm) (eT : T.heap = h) (F : Arf Z h a k .boolean z f) (q : ¬ j < 0 ∧ j < z) {pc : Nat} {Ls : Array Slot} {rest : List Value} (hd : decode c.code pc = .ok (.bastore, 1)) :
    ∃ T' h', Stand p l e R s m args below meth c T' (locs ++ [⟨a, j.toNatClampNeg⟩]) cells slots ∧ T'.heap = h' ∧ Wr h h' a j.toNatClampNeg (.int (nar .boolean x)) ∧ Arf Z h' a k .boolean z (own_upd f j.toNatClampNeg (nar .boolean x)) ∧ ∀ t, Steps p.tables e below (T'.setTop (mkF m (pc + 1) Ls rest)) t → Steps p.tables e below (T.setTop (mkF m pc Ls (.int x :: .int j :: .ref a :: rest))) t := by
  obtain ⟨cl, A, q1, S, q3, H, G⟩ := F
  obtain ⟨T', h', X', e', W, st⟩ := stZ X hx hZ eT A (j := j) (inb_of S q) (g := mkF m pc Ls (.int x :: .int j :: .ref a :: rest)) rfl rfl hd
  exact ⟨T', h', X', e', W, Arf.set A q1 S q3 H G (fits_nar_bool _) W, st⟩
end OwnKit4
section OwnKit5
variable {Z : State} {h : Heap} {a : Addr} {k : ClassId} {ty : FieldType} {z : Int32} {f : Nat → Int32}
theorem own_ofArh (F : Arh Z h a k ty z [] ((List.range z.toNatClampNeg).map fun i => Value.int (f i)) (.int 0)) : Arf Z h a k ty z f :=
  Arf.of_arv (vs := (List.range z.toNatClampNeg).map fun i => Value.int (f i)) (d := .int 0) F fun i hi => by simp [List.getD, hi]
end OwnKit5
theorem own_k0 (m : MethodId) (x0 : Int32) (x1 : Int32) : entryFrame m #[(.int x0), (.int x1)] 2 = mkF m 0 #[.val (.int x0), .val (.int x1)] [] := by first | (simp [entryFrame, mkF, argsToLocals, Value.category]; done) | rfl
theorem own_k1 : decode jdk_29_method_65_code 0 = .ok (.iload_n 0, 1) := by decide +kernel
theorem own_k2 : decode jdk_29_method_65_code 1 = .ok (.iload_n 1, 1) := by decide +kernel
theorem own_k3 : decode jdk_29_method_65_code 2 = .ok (.if_icmp .lt 7, 3) := by decide +kernel
theorem own_k4 : decode jdk_29_method_65_code 9 = .ok (.iload_n 1, 1) := by decide +kernel
theorem own_k5 : decode jdk_29_method_65_code 10 = .ok (.ireturn, 1) := by decide +kernel
theorem own_k6 : decode jdk_29_method_65_code 5 = .ok (.iload_n 0, 1) := by decide +kernel
theorem own_k7 : decode jdk_29_method_65_code 6 = .ok (.goto 4, 3) := by decide +kernel
def own_f1 (x0 : Int32) (x1 : Int32) : Int32 := (if x0 < x1 then x1 else x0)
set_option maxRecDepth 65536 in
set_option maxHeartbeats 40000000 in
theorem own_rm1 (l : Launch) (Z : State) (a0 : Array Value) (hw : ∀ d ∈ tables_1, d.before a0 Z = true) (ws : List Jvm.Cond) (x0 : Int32) (x1 : Int32) (h0 : Heap) : Meets l Z (⟨"java/lang/Math", "max", "(II)I"⟩ : MethodName) jdk_29_method_65_code 2 (some .int) ws ({ frames := 0, cells := 0, slots := 0, locals := 0 } : Room) #[(.int x0), (.int x1)] h0 (PureR (some (.int (own_f1 x0 x1))) h0) := by
  refine meets_of (Jvm.Free.JP.mathPlain rfl (by decide +kernel)) ?_
  intro p e s m below meth c s₁ X0 hx hZ hby hml hret hlk hown hnm e0
  replace hml : c.maxLocals = 2 := hml
  replace hown : s.vm.findClass "java/lang/Math" = some m.cls := hown
  refine Go.cast (own_k0 m x0 x1) ?_
  refine Go.via (U' := s₁.setTop (mkF m 1 #[.val (.int x0), .val (.int x1)] [(.int x0)])) (fun tG kG => XS.iloadN X0.here hx rfl (hb hby own_k1) rfl kG) ?_
  refine Go.via (U' := s₁.setTop (mkF m 2 #[.val (.int x0), .val (.int x1)] [(.int x1), (.int x0)])) (fun tG kG => XS.iloadN X0.here hx rfl (hb hby own_k2) rfl kG) ?_
  by_cases hc2 : x0 < x1
  · refine Go.via (U' := s₁.setTop (mkF m 9 #[.val (.int x0), .val (.int x1)] [])) (fun tG kG => XS.icmpYes X0.here hx rfl (pc0 := 2) (pc' := 9) rfl (hb hby own_k3) rfl (tlt hc2).1 (by decide) (by decide) kG) ?_
    refine Go.via (U' := s₁.setTop (mkF m 10 #[.val (.int x0), .val (.int x1)] [(.int x1)])) (fun tG kG => XS.iloadN X0.here hx rfl (hb hby own_k4) rfl kG) ?_
    exact go_retI X0 hx hlk hret (hb hby own_k5) e0 ⟨(congrArg (fun z => some (Value.int z)) (show x1 = (own_f1 x0 x1) from by unfold own_f1; simp only [if_pos hc2])), rfl, rfl⟩ (by decide) (by decide)
  · refine Go.via (U' := s₁.setTop (mkF m 5 #[.val (.int x0), .val (.int x1)] [])) (fun tG kG => XS.icmpNo X0.here hx rfl (hb hby own_k3) rfl (flt hc2).1 kG) ?_
    refine Go.via (U' := s₁.setTop (mkF m 6 #[.val (.int x0), .val (.int x1)] [(.int x0)])) (fun tG kG => XS.iloadN X0.here hx rfl (hb hby own_k6) rfl kG) ?_
    refine Go.via (U' := s₁.setTop (mkF m 10 #[.val (.int x0), .val (.int x1)] [(.int x0)])) (fun tG kG => XS.goto X0.here hx rfl (pc0 := 6) (pc' := 10) rfl (hb hby own_k7) (by decide) (by decide) kG) ?_
    exact go_retI X0 hx hlk hret (hb hby own_k5) e0 ⟨(congrArg (fun z => some (Value.int z)) (show x0 = (own_f1 x0 x1) from by unfold own_f1; simp only [if_neg hc2])), rfl, rfl⟩ (by decide) (by decide)
theorem own_k8 (m : MethodId) (x0 : Int32) (x1 : Int32) : entryFrame m #[(.int x0), (.int x1)] 2 = mkF m 0 #[.val (.int x0), .val (.int x1)] [] := by first | (simp [entryFrame, mkF, argsToLocals, Value.category]; done) | rfl
theorem own_k9 : decode jdk_29_method_69_code 0 = .ok (.iload_n 0, 1) := by decide +kernel
theorem own_k10 : decode jdk_29_method_69_code 1 = .ok (.iload_n 1, 1) := by decide +kernel
theorem own_k11 : decode jdk_29_method_69_code 2 = .ok (.if_icmp .gt 7, 3) := by decide +kernel
theorem own_k12 : decode jdk_29_method_69_code 9 = .ok (.iload_n 1, 1) := by decide +kernel
theorem own_k13 : decode jdk_29_method_69_code 10 = .ok (.ireturn, 1) := by decide +kernel
theorem own_k14 : decode jdk_29_method_69_code 5 = .ok (.iload_n 0, 1) := by decide +kernel
theorem own_k15 : decode jdk_29_method_69_code 6 = .ok (.goto 4, 3) := by decide +kernel
def own_f2 (x0 : Int32) (x1 : Int32) : Int32 := (if x1 < x0 then x1 else x0)
set_option maxRecDepth 65536 in
set_option maxHeartbeats 40000000 in
theorem own_rm2 (l : Launch) (Z : State) (a0 : Array Value) (hw : ∀ d ∈ tables_1, d.before a0 Z = true) (ws : List Jvm.Cond) (x0 : Int32) (x1 : Int32) (h0 : Heap) : Meets l Z (⟨"java/lang/Math", "min", "(II)I"⟩ : MethodName) jdk_29_method_69_code 2 (some .int) ws ({ frames := 0, cells := 0, slots := 0, locals := 0 } : Room) #[(.int x0), (.int x1)] h0 (PureR (some (.int (own_f2 x0 x1))) h0) := by
  refine meets_of (Jvm.Free.JP.mathPlain rfl (by decide +kernel)) ?_
  intro p e s m below meth c s₁ X0 hx hZ hby hml hret hlk hown hnm e0
  replace hml : c.maxLocals = 2 := hml
  replace hown : s.vm.findClass "java/lang/Math" = some m.cls := hown
  refine Go.cast (own_k8 m x0 x1) ?_
  refine Go.via (U' := s₁.setTop (mkF m 1 #[.val (.int x0), .val (.int x1)] [(.int x0)])) (fun tG kG => XS.iloadN X0.here hx rfl (hb hby own_k9) rfl kG) ?_
  refine Go.via (U' := s₁.setTop (mkF m 2 #[.val (.int x0), .val (.int x1)] [(.int x1), (.int x0)])) (fun tG kG => XS.iloadN X0.here hx rfl (hb hby own_k10) rfl kG) ?_
  by_cases hc2 : x1 < x0
  · refine Go.via (U' := s₁.setTop (mkF m 9 #[.val (.int x0), .val (.int x1)] [])) (fun tG kG => XS.icmpYes X0.here hx rfl (pc0 := 2) (pc' := 9) rfl (hb hby own_k11) rfl (tlt hc2).2.2.1 (by decide) (by decide) kG) ?_
    refine Go.via (U' := s₁.setTop (mkF m 10 #[.val (.int x0), .val (.int x1)] [(.int x1)])) (fun tG kG => XS.iloadN X0.here hx rfl (hb hby own_k12) rfl kG) ?_
    exact go_retI X0 hx hlk hret (hb hby own_k13) e0 ⟨(congrArg (fun z => some (Value.int z)) (show x1 = (own_f2 x0 x1) from by unfold own_f2; simp only [if_pos hc2])), rfl, rfl⟩ (by decide) (by decide)
  · refine Go.via (U' := s₁.setTop (mkF m 5 #[.val (.int x0), .val (.int x1)] [])) (fun tG kG => XS.icmpNo X0.here hx rfl (hb hby own_k11) rfl (flt hc2).2.2.1 kG) ?_
    refine Go.via (U' := s₁.setTop (mkF m 6 #[.val (.int x0), .val (.int x1)] [(.int x0)])) (fun tG kG => XS.iloadN X0.here hx rfl (hb hby own_k14) rfl kG) ?_
    refine Go.via (U' := s₁.setTop (mkF m 10 #[.val (.int x0), .val (.int x1)] [(.int x0)])) (fun tG kG => XS.goto X0.here hx rfl (pc0 := 6) (pc' := 10) rfl (hb hby own_k15) (by decide) (by decide) kG) ?_
    exact go_retI X0 hx hlk hret (hb hby own_k13) e0 ⟨(congrArg (fun z => some (Value.int z)) (show x0 = (own_f2 x0 x1) from by unfold own_f2; simp only [if_neg hc2])), rfl, rfl⟩ (by decide) (by decide)
theorem own_k16 (m : MethodId) (x0 : Int32) : entryFrame m #[(.int x0)] 1 = mkF m 0 #[.val (.int x0)] [] := by first | (simp [entryFrame, mkF, argsToLocals, Value.category]; done) | rfl
theorem own_k17 : decode prog_74_method_2_code 0 = .ok (.iload_n 0, 1) := by decide +kernel
theorem own_k18 : decode prog_74_method_2_code 1 = .ok (.bipush 9, 2) := by decide +kernel
theorem own_k19 : decode prog_74_method_2_code 3 = .ok (.if_icmp .eq 45, 3) := by decide +kernel
theorem own_k20 : decode prog_74_method_2_code 48 = .ok (.iconst 1, 1) := by decide +kernel
theorem own_k21 : decode prog_74_method_2_code 49 = .ok (.goto 4, 3) := by decide +kernel
theorem own_k22 : decode prog_74_method_2_code 53 = .ok (.ireturn, 1) := by decide +kernel
theorem own_k23 : decode prog_74_method_2_code 6 = .ok (.iload_n 0, 1) := by decide +kernel
theorem own_k24 : decode prog_74_method_2_code 7 = .ok (.bipush 10, 2) := by decide +kernel
theorem own_k25 : decode prog_74_method_2_code 9 = .ok (.if_icmp .eq 39, 3) := by decide +kernel
theorem own_k26 : decode prog_74_method_2_code 12 = .ok (.iload_n 0, 1) := by decide +kernel
theorem own_k27 : decode prog_74_method_2_code 13 = .ok (.bipush 13, 2) := by decide +kernel
theorem own_k28 : decode prog_74_method_2_code 15 = .ok (.if_icmp .eq 33, 3) := by decide +kernel
theorem own_k29 : decode prog_74_method_2_code 18 = .ok (.iload_n 0, 1) := by decide +kernel
theorem own_k30 : decode prog_74_method_2_code 19 = .ok (.bipush 32, 2) := by decide +kernel
theorem own_k31 : decode prog_74_method_2_code 21 = .ok (.if_icmp .lt 9, 3) := by decide +kernel
theorem own_k32 : decode prog_74_method_2_code 30 = .ok (.iload_n 0, 1) := by decide +kernel
theorem own_k33 : decode prog_74_method_2_code 31 = .ok (.ldc 8, 2) := by decide +kernel
theorem own_k34 : decode prog_74_method_2_code 33 = .ok (.if_icmp .lt 9, 3) := by decide +kernel
theorem own_k35 : decode prog_74_method_2_code 42 = .ok (.iload_n 0, 1) := by decide +kernel
theorem own_k36 : decode prog_74_method_2_code 43 = .ok (.ldc 10, 2) := by decide +kernel
theorem own_k37 : decode prog_74_method_2_code 45 = .ok (.if_icmp .lt 7, 3) := by decide +kernel
theorem own_k38 : decode prog_74_method_2_code 52 = .ok (.iconst 0, 1) := by decide +kernel
theorem own_k39 : decode prog_74_method_2_code 36 = .ok (.iload_n 0, 1) := by decide +kernel
theorem own_k40 : decode prog_74_method_2_code 37 = .ok (.ldc 9, 2) := by decide +kernel
theorem own_k41 : decode prog_74_method_2_code 39 = .ok (.if_icmp .le 9, 3) := by decide +kernel
theorem own_k42 : decode prog_74_method_2_code 24 = .ok (.iload_n 0, 1) := by decide +kernel
theorem own_k43 : decode prog_74_method_2_code 25 = .ok (.ldc 7, 2) := by decide +kernel
theorem own_k44 : decode prog_74_method_2_code 27 = .ok (.if_icmp .le 21, 3) := by decide +kernel
theorem own_k45 : plainName "com/example/dislope/dislope/io/XmlText" = true := by first | (simp [plainName, overriddenIn]; done) | decide +kernel
def own_f3 (x0 : Int32) : Int32 := (if x0 = (9 : Int32) then (1 : Int32) else (if x0 = (10 : Int32) then (1 : Int32) else (if x0 = (13 : Int32) then (1 : Int32) else (if x0 < (32 : Int32) then (if x0 < (57344 : Int32) then (if x0 < (65536 : Int32) then (0 : Int32) else (1 : Int32)) else (if (65533 : Int32) < x0 then (if x0 < (65536 : Int32) then (0 : Int32) else (1 : Int32)) else (1 : Int32))) else (if (55295 : Int32) < x0 then (if x0 < (57344 : Int32) then (if x0 < (65536 : Int32) then (0 : Int32) else (1 : Int32)) else (if (65533 : Int32) < x0 then (if x0 < (65536 : Int32) then (0 : Int32) else (1 : Int32)) else (1 : Int32))) else (1 : Int32))))))
set_option maxRecDepth 65536 in
set_option maxHeartbeats 40000000 in
theorem own_rm3 (l : Launch) (Z : State) (a0 : Array Value) (hw : ∀ d ∈ tables_1, d.before a0 Z = true) (ws : List Jvm.Cond) (x0 : Int32) (h0 : Heap) : Meets l Z (⟨"com/example/dislope/dislope/io/XmlText", "allows", "(I)Z"⟩ : MethodName) prog_74_method_2_code 1 (some .boolean) ws ({ frames := 0, cells := 0, slots := 0, locals := 0 } : Room) #[(.int x0)] h0 (PureR (some (.int (own_f3 x0))) h0) := by
  refine meets_of (plainFor_of_name own_k45) ?_
  intro p e s m below meth c s₁ X0 hx hZ hby hml hret hlk hown hnm e0
  replace hml : c.maxLocals = 1 := hml
  replace hown : s.vm.findClass "com/example/dislope/dislope/io/XmlText" = some m.cls := hown
  refine Go.cast (own_k16 m x0) ?_
  refine Go.via (U' := s₁.setTop (mkF m 1 #[.val (.int x0)] [(.int x0)])) (fun tG kG => XS.iloadN X0.here hx rfl (hb hby own_k17) rfl kG) ?_
  refine Go.via (U' := s₁.setTop (mkF m 3 #[.val (.int x0)] [(.int (9 : Int32)), (.int x0)])) (fun tG kG => XS.bipush X0.here hx rfl (hb hby own_k18) kG) ?_
  by_cases hc3 : x0 = (9 : Int32)
  · refine Go.via (U' := s₁.setTop (mkF m 48 #[.val (.int x0)] [])) (fun tG kG => XS.icmpYes X0.here hx rfl (pc0 := 3) (pc' := 48) rfl (hb hby own_k19) rfl (teq hc3).1 (by decide) (by decide) kG) ?_
    refine Go.via (U' := s₁.setTop (mkF m 49 #[.val (.int x0)] [(.int (1 : Int32))])) (fun tG kG => XS.iconst X0.here hx rfl (hb hby own_k20) kG) ?_
    refine Go.via (U' := s₁.setTop (mkF m 53 #[.val (.int x0)] [(.int (1 : Int32))])) (fun tG kG => XS.goto X0.here hx rfl (pc0 := 49) (pc' := 53) rfl (hb hby own_k21) (by decide) (by decide) kG) ?_
    exact go_retN X0 hx hlk (t := .boolean) hret (by simp) (hb hby own_k22) e0 ⟨(congrArg (fun z => some (Value.int z)) (show nar .boolean (1 : Int32) = (own_f3 x0) from by unfold own_f3; simp only [if_pos hc3] <;> rfl)), rfl, rfl⟩ (by decide) (by decide)
  · refine Go.via (U' := s₁.setTop (mkF m 6 #[.val (.int x0)] [])) (fun tG kG => XS.icmpNo X0.here hx rfl (hb hby own_k19) rfl (feq hc3).1 kG) ?_
    refine Go.via (U' := s₁.setTop (mkF m 7 #[.val (.int x0)] [(.int x0)])) (fun tG kG => XS.iloadN X0.here hx rfl (hb hby own_k23) rfl kG) ?_
    refine Go.via (U' := s₁.setTop (mkF m 9 #[.val (.int x0)] [(.int (10 : Int32)), (.int x0)])) (fun tG kG => XS.bipush X0.here hx rfl (hb hby own_k24) kG) ?_
    by_cases hc9 : x0 = (10 : Int32)
    · refine Go.via (U' := s₁.setTop (mkF m 48 #[.val (.int x0)] [])) (fun tG kG => XS.icmpYes X0.here hx rfl (pc0 := 9) (pc' := 48) rfl (hb hby own_k25) rfl (teq hc9).1 (by decide) (by decide) kG) ?_
      refine Go.via (U' := s₁.setTop (mkF m 49 #[.val (.int x0)] [(.int (1 : Int32))])) (fun tG kG => XS.iconst X0.here hx rfl (hb hby own_k20) kG) ?_
      refine Go.via (U' := s₁.setTop (mkF m 53 #[.val (.int x0)] [(.int (1 : Int32))])) (fun tG kG => XS.goto X0.here hx rfl (pc0 := 49) (pc' := 53) rfl (hb hby own_k21) (by decide) (by decide) kG) ?_
      exact go_retN X0 hx hlk (t := .boolean) hret (by simp) (hb hby own_k22) e0 ⟨(congrArg (fun z => some (Value.int z)) (show nar .boolean (1 : Int32) = (own_f3 x0) from by unfold own_f3; simp only [if_neg hc3, if_pos hc9] <;> rfl)), rfl, rfl⟩ (by decide) (by decide)
    · refine Go.via (U' := s₁.setTop (mkF m 12 #[.val (.int x0)] [])) (fun tG kG => XS.icmpNo X0.here hx rfl (hb hby own_k25) rfl (feq hc9).1 kG) ?_
      refine Go.via (U' := s₁.setTop (mkF m 13 #[.val (.int x0)] [(.int x0)])) (fun tG kG => XS.iloadN X0.here hx rfl (hb hby own_k26) rfl kG) ?_
      refine Go.via (U' := s₁.setTop (mkF m 15 #[.val (.int x0)] [(.int (13 : Int32)), (.int x0)])) (fun tG kG => XS.bipush X0.here hx rfl (hb hby own_k27) kG) ?_
      by_cases hc15 : x0 = (13 : Int32)
      · refine Go.via (U' := s₁.setTop (mkF m 48 #[.val (.int x0)] [])) (fun tG kG => XS.icmpYes X0.here hx rfl (pc0 := 15) (pc' := 48) rfl (hb hby own_k28) rfl (teq hc15).1 (by decide) (by decide) kG) ?_
        refine Go.via (U' := s₁.setTop (mkF m 49 #[.val (.int x0)] [(.int (1 : Int32))])) (fun tG kG => XS.iconst X0.here hx rfl (hb hby own_k20) kG) ?_
        refine Go.via (U' := s₁.setTop (mkF m 53 #[.val (.int x0)] [(.int (1 : Int32))])) (fun tG kG => XS.goto X0.here hx rfl (pc0 := 49) (pc' := 53) rfl (hb hby own_k21) (by decide) (by decide) kG) ?_
        exact go_retN X0 hx hlk (t := .boolean) hret (by simp) (hb hby own_k22) e0 ⟨(congrArg (fun z => some (Value.int z)) (show nar .boolean (1 : Int32) = (own_f3 x0) from by unfold own_f3; simp only [if_neg hc3, if_neg hc9, if_pos hc15] <;> rfl)), rfl, rfl⟩ (by decide) (by decide)
      · refine Go.via (U' := s₁.setTop (mkF m 18 #[.val (.int x0)] [])) (fun tG kG => XS.icmpNo X0.here hx rfl (hb hby own_k28) rfl (feq hc15).1 kG) ?_
        refine Go.via (U' := s₁.setTop (mkF m 19 #[.val (.int x0)] [(.int x0)])) (fun tG kG => XS.iloadN X0.here hx rfl (hb hby own_k29) rfl kG) ?_
        refine Go.via (U' := s₁.setTop (mkF m 21 #[.val (.int x0)] [(.int (32 : Int32)), (.int x0)])) (fun tG kG => XS.bipush X0.here hx rfl (hb hby own_k30) kG) ?_
        by_cases hc21 : x0 < (32 : Int32)
        · refine Go.via (U' := s₁.setTop (mkF m 30 #[.val (.int x0)] [])) (fun tG kG => XS.icmpYes X0.here hx rfl (pc0 := 21) (pc' := 30) rfl (hb hby own_k31) rfl (tlt hc21).1 (by decide) (by decide) kG) ?_
          refine Go.via (U' := s₁.setTop (mkF m 31 #[.val (.int x0)] [(.int x0)])) (fun tG kG => XS.iloadN X0.here hx rfl (hb hby own_k32) rfl kG) ?_
          refine Go.via (U' := s₁.setTop (mkF m 33 #[.val (.int x0)] [(.int (57344 : Int32)), (.int x0)])) (fun tG kG => X0.ldcInt hx hown (mvT hZ (hw _ (List.mem_of_getElem? (i := 21) rfl))) (g := (mkF m 31 #[.val (.int x0)] [(.int x0)])) rfl (hb hby own_k33) tG kG) ?_
          by_cases hc33 : x0 < (57344 : Int32)
          · refine Go.via (U' := s₁.setTop (mkF m 42 #[.val (.int x0)] [])) (fun tG kG => XS.icmpYes X0.here hx rfl (pc0 := 33) (pc' := 42) rfl (hb hby own_k34) rfl (tlt hc33).1 (by decide) (by decide) kG) ?_
            refine Go.via (U' := s₁.setTop (mkF m 43 #[.val (.int x0)] [(.int x0)])) (fun tG kG => XS.iloadN X0.here hx rfl (hb hby own_k35) rfl kG) ?_
            refine Go.via (U' := s₁.setTop (mkF m 45 #[.val (.int x0)] [(.int (65536 : Int32)), (.int x0)])) (fun tG kG => X0.ldcInt hx hown (mvT hZ (hw _ (List.mem_of_getElem? (i := 22) rfl))) (g := (mkF m 43 #[.val (.int x0)] [(.int x0)])) rfl (hb hby own_k36) tG kG) ?_
            by_cases hc45 : x0 < (65536 : Int32)
            · refine Go.via (U' := s₁.setTop (mkF m 52 #[.val (.int x0)] [])) (fun tG kG => XS.icmpYes X0.here hx rfl (pc0 := 45) (pc' := 52) rfl (hb hby own_k37) rfl (tlt hc45).1 (by decide) (by decide) kG) ?_
              refine Go.via (U' := s₁.setTop (mkF m 53 #[.val (.int x0)] [(.int (0 : Int32))])) (fun tG kG => XS.iconst X0.here hx rfl (hb hby own_k38) kG) ?_
              exact go_retN X0 hx hlk (t := .boolean) hret (by simp) (hb hby own_k22) e0 ⟨(congrArg (fun z => some (Value.int z)) (show nar .boolean (0 : Int32) = (own_f3 x0) from by unfold own_f3; simp only [if_neg hc3, if_neg hc9, if_neg hc15, if_pos hc21, if_pos hc33, if_pos hc45] <;> rfl)), rfl, rfl⟩ (by decide) (by decide)
            · refine Go.via (U' := s₁.setTop (mkF m 48 #[.val (.int x0)] [])) (fun tG kG => XS.icmpNo X0.here hx rfl (hb hby own_k37) rfl (flt hc45).1 kG) ?_
              refine Go.via (U' := s₁.setTop (mkF m 49 #[.val (.int x0)] [(.int (1 : Int32))])) (fun tG kG => XS.iconst X0.here hx rfl (hb hby own_k20) kG) ?_
              refine Go.via (U' := s₁.setTop (mkF m 53 #[.val (.int x0)] [(.int (1 : Int32))])) (fun tG kG => XS.goto X0.here hx rfl (pc0 := 49) (pc' := 53) rfl (hb hby own_k21) (by decide) (by decide) kG) ?_
              exact go_retN X0 hx hlk (t := .boolean) hret (by simp) (hb hby own_k22) e0 ⟨(congrArg (fun z => some (Value.int z)) (show nar .boolean (1 : Int32) = (own_f3 x0) from by unfold own_f3; simp only [if_neg hc3, if_neg hc9, if_neg hc15, if_pos hc21, if_pos hc33, if_neg hc45] <;> rfl)), rfl, rfl⟩ (by decide) (by decide)
          · refine Go.via (U' := s₁.setTop (mkF m 36 #[.val (.int x0)] [])) (fun tG kG => XS.icmpNo X0.here hx rfl (hb hby own_k34) rfl (flt hc33).1 kG) ?_
            refine Go.via (U' := s₁.setTop (mkF m 37 #[.val (.int x0)] [(.int x0)])) (fun tG kG => XS.iloadN X0.here hx rfl (hb hby own_k39) rfl kG) ?_
            refine Go.via (U' := s₁.setTop (mkF m 39 #[.val (.int x0)] [(.int (65533 : Int32)), (.int x0)])) (fun tG kG => X0.ldcInt hx hown (mvT hZ (hw _ (List.mem_of_getElem? (i := 30) rfl))) (g := (mkF m 37 #[.val (.int x0)] [(.int x0)])) rfl (hb hby own_k40) tG kG) ?_
            by_cases hc39 : (65533 : Int32) < x0
            · refine Go.via (U' := s₁.setTop (mkF m 42 #[.val (.int x0)] [])) (fun tG kG => XS.icmpNo X0.here hx rfl (hb hby own_k41) rfl (tlt hc39).2.2.2 kG) ?_
              refine Go.via (U' := s₁.setTop (mkF m 43 #[.val (.int x0)] [(.int x0)])) (fun tG kG => XS.iloadN X0.here hx rfl (hb hby own_k35) rfl kG) ?_
              refine Go.via (U' := s₁.setTop (mkF m 45 #[.val (.int x0)] [(.int (65536 : Int32)), (.int x0)])) (fun tG kG => X0.ldcInt hx hown (mvT hZ (hw _ (List.mem_of_getElem? (i := 22) rfl))) (g := (mkF m 43 #[.val (.int x0)] [(.int x0)])) rfl (hb hby own_k36) tG kG) ?_
              by_cases hc45 : x0 < (65536 : Int32)
              · refine Go.via (U' := s₁.setTop (mkF m 52 #[.val (.int x0)] [])) (fun tG kG => XS.icmpYes X0.here hx rfl (pc0 := 45) (pc' := 52) rfl (hb hby own_k37) rfl (tlt hc45).1 (by decide) (by decide) kG) ?_
                refine Go.via (U' := s₁.setTop (mkF m 53 #[.val (.int x0)] [(.int (0 : Int32))])) (fun tG kG => XS.iconst X0.here hx rfl (hb hby own_k38) kG) ?_
                exact go_retN X0 hx hlk (t := .boolean) hret (by simp) (hb hby own_k22) e0 ⟨(congrArg (fun z => some (Value.int z)) (show nar .boolean (0 : Int32) = (own_f3 x0) from by unfold own_f3; simp only [if_neg hc3, if_neg hc9, if_neg hc15, if_pos hc21, if_neg hc33, if_pos hc39, if_pos hc45] <;> rfl)), rfl, rfl⟩ (by decide) (by decide)
              · refine Go.via (U' := s₁.setTop (mkF m 48 #[.val (.int x0)] [])) (fun tG kG => XS.icmpNo X0.here hx rfl (hb hby own_k37) rfl (flt hc45).1 kG) ?_
                refine Go.via (U' := s₁.setTop (mkF m 49 #[.val (.int x0)] [(.int (1 : Int32))])) (fun tG kG => XS.iconst X0.here hx rfl (hb hby own_k20) kG) ?_
                refine Go.via (U' := s₁.setTop (mkF m 53 #[.val (.int x0)] [(.int (1 : Int32))])) (fun tG kG => XS.goto X0.here hx rfl (pc0 := 49) (pc' := 53) rfl (hb hby own_k21) (by decide) (by decide) kG) ?_
                exact go_retN X0 hx hlk (t := .boolean) hret (by simp) (hb hby own_k22) e0 ⟨(congrArg (fun z => some (Value.int z)) (show nar .boolean (1 : Int32) = (own_f3 x0) from by unfold own_f3; simp only [if_neg hc3, if_neg hc9, if_neg hc15, if_pos hc21, if_neg hc33, if_pos hc39, if_neg hc45] <;> rfl)), rfl, rfl⟩ (by decide) (by decide)
            · refine Go.via (U' := s₁.setTop (mkF m 48 #[.val (.int x0)] [])) (fun tG kG => XS.icmpYes X0.here hx rfl (pc0 := 39) (pc' := 48) rfl (hb hby own_k41) rfl (flt hc39).2.2.2 (by decide) (by decide) kG) ?_
              refine Go.via (U' := s₁.setTop (mkF m 49 #[.val (.int x0)] [(.int (1 : Int32))])) (fun tG kG => XS.iconst X0.here hx rfl (hb hby own_k20) kG) ?_
              refine Go.via (U' := s₁.setTop (mkF m 53 #[.val (.int x0)] [(.int (1 : Int32))])) (fun tG kG => XS.goto X0.here hx rfl (pc0 := 49) (pc' := 53) rfl (hb hby own_k21) (by decide) (by decide) kG) ?_
              exact go_retN X0 hx hlk (t := .boolean) hret (by simp) (hb hby own_k22) e0 ⟨(congrArg (fun z => some (Value.int z)) (show nar .boolean (1 : Int32) = (own_f3 x0) from by unfold own_f3; simp only [if_neg hc3, if_neg hc9, if_neg hc15, if_pos hc21, if_neg hc33, if_neg hc39] <;> rfl)), rfl, rfl⟩ (by decide) (by decide)
        · refine Go.via (U' := s₁.setTop (mkF m 24 #[.val (.int x0)] [])) (fun tG kG => XS.icmpNo X0.here hx rfl (hb hby own_k31) rfl (flt hc21).1 kG) ?_
          refine Go.via (U' := s₁.setTop (mkF m 25 #[.val (.int x0)] [(.int x0)])) (fun tG kG => XS.iloadN X0.here hx rfl (hb hby own_k42) rfl kG) ?_
          refine Go.via (U' := s₁.setTop (mkF m 27 #[.val (.int x0)] [(.int (55295 : Int32)), (.int x0)])) (fun tG kG => X0.ldcInt hx hown (mvT hZ (hw _ (List.mem_of_getElem? (i := 29) rfl))) (g := (mkF m 25 #[.val (.int x0)] [(.int x0)])) rfl (hb hby own_k43) tG kG) ?_
          by_cases hc27 : (55295 : Int32) < x0
          · refine Go.via (U' := s₁.setTop (mkF m 30 #[.val (.int x0)] [])) (fun tG kG => XS.icmpNo X0.here hx rfl (hb hby own_k44) rfl (tlt hc27).2.2.2 kG) ?_
            refine Go.via (U' := s₁.setTop (mkF m 31 #[.val (.int x0)] [(.int x0)])) (fun tG kG => XS.iloadN X0.here hx rfl (hb hby own_k32) rfl kG) ?_
            refine Go.via (U' := s₁.setTop (mkF m 33 #[.val (.int x0)] [(.int (57344 : Int32)), (.int x0)])) (fun tG kG => X0.ldcInt hx hown (mvT hZ (hw _ (List.mem_of_getElem? (i := 21) rfl))) (g := (mkF m 31 #[.val (.int x0)] [(.int x0)])) rfl (hb hby own_k33) tG kG) ?_
            by_cases hc33 : x0 < (57344 : Int32)
            · refine Go.via (U' := s₁.setTop (mkF m 42 #[.val (.int x0)] [])) (fun tG kG => XS.icmpYes X0.here hx rfl (pc0 := 33) (pc' := 42) rfl (hb hby own_k34) rfl (tlt hc33).1 (by decide) (by decide) kG) ?_
              refine Go.via (U' := s₁.setTop (mkF m 43 #[.val (.int x0)] [(.int x0)])) (fun tG kG => XS.iloadN X0.here hx rfl (hb hby own_k35) rfl kG) ?_
              refine Go.via (U' := s₁.setTop (mkF m 45 #[.val (.int x0)] [(.int (65536 : Int32)), (.int x0)])) (fun tG kG => X0.ldcInt hx hown (mvT hZ (hw _ (List.mem_of_getElem? (i := 22) rfl))) (g := (mkF m 43 #[.val (.int x0)] [(.int x0)])) rfl (hb hby own_k36) tG kG) ?_
              by_cases hc45 : x0 < (65536 : Int32)
              · refine Go.via (U' := s₁.setTop (mkF m 52 #[.val (.int x0)] [])) (fun tG kG => XS.icmpYes X0.here hx rfl (pc0 := 45) (pc' := 52) rfl (hb hby own_k37) rfl (tlt hc45).1 (by decide) (by decide) kG) ?_
                refine Go.via (U' := s₁.setTop (mkF m 53 #[.val (.int x0)] [(.int (0 : Int32))])) (fun tG kG => XS.iconst X0.here hx rfl (hb hby own_k38) kG) ?_
                exact go_retN X0 hx hlk (t := .boolean) hret (by simp) (hb hby own_k22) e0 ⟨(congrArg (fun z => some (Value.int z)) (show nar .boolean (0 : Int32) = (own_f3 x0) from by unfold own_f3; simp only [if_neg hc3, if_neg hc9, if_neg hc15, if_neg hc21, if_pos hc27, if_pos hc33, if_pos hc45] <;> rfl)), rfl, rfl⟩ (by decide) (by decide)
              · refine Go.via (U' := s₁.setTop (mkF m 48 #[.val (.int x0)] [])) (fun tG kG => XS.icmpNo X0.here hx rfl (hb hby own_k37) rfl (flt hc45).1 kG) ?_
                refine Go.via (U' := s₁.setTop (mkF m 49 #[.val (.int x0)] [(.int (1 : Int32))])) (fun tG kG => XS.iconst X0.here hx rfl (hb hby own_k20) kG) ?_
                refine Go.via (U' := s₁.setTop (mkF m 53 #[.val (.int x0)] [(.int (1 : Int32))])) (fun tG kG => XS.goto X0.here hx rfl (pc0 := 49) (pc' := 53) rfl (hb hby own_k21) (by decide) (by decide) kG) ?_
                exact go_retN X0 hx hlk (t := .boolean) hret (by simp) (hb hby own_k22) e0 ⟨(congrArg (fun z => some (Value.int z)) (show nar .boolean (1 : Int32) = (own_f3 x0) from by unfold own_f3; simp only [if_neg hc3, if_neg hc9, if_neg hc15, if_neg hc21, if_pos hc27, if_pos hc33, if_neg hc45] <;> rfl)), rfl, rfl⟩ (by decide) (by decide)
            · refine Go.via (U' := s₁.setTop (mkF m 36 #[.val (.int x0)] [])) (fun tG kG => XS.icmpNo X0.here hx rfl (hb hby own_k34) rfl (flt hc33).1 kG) ?_
              refine Go.via (U' := s₁.setTop (mkF m 37 #[.val (.int x0)] [(.int x0)])) (fun tG kG => XS.iloadN X0.here hx rfl (hb hby own_k39) rfl kG) ?_
              refine Go.via (U' := s₁.setTop (mkF m 39 #[.val (.int x0)] [(.int (65533 : Int32)), (.int x0)])) (fun tG kG => X0.ldcInt hx hown (mvT hZ (hw _ (List.mem_of_getElem? (i := 30) rfl))) (g := (mkF m 37 #[.val (.int x0)] [(.int x0)])) rfl (hb hby own_k40) tG kG) ?_
              by_cases hc39 : (65533 : Int32) < x0
              · refine Go.via (U' := s₁.setTop (mkF m 42 #[.val (.int x0)] [])) (fun tG kG => XS.icmpNo X0.here hx rfl (hb hby own_k41) rfl (tlt hc39).2.2.2 kG) ?_
                refine Go.via (U' := s₁.setTop (mkF m 43 #[.val (.int x0)] [(.int x0)])) (fun tG kG => XS.iloadN X0.here hx rfl (hb hby own_k35) rfl kG) ?_
                refine Go.via (U' := s₁.setTop (mkF m 45 #[.val (.int x0)] [(.int (65536 : Int32)), (.int x0)])) (fun tG kG => X0.ldcInt hx hown (mvT hZ (hw _ (List.mem_of_getElem? (i := 22) rfl))) (g := (mkF m 43 #[.val (.int x0)] [(.int x0)])) rfl (hb hby own_k36) tG kG) ?_
                by_cases hc45 : x0 < (65536 : Int32)
                · refine Go.via (U' := s₁.setTop (mkF m 52 #[.val (.int x0)] [])) (fun tG kG => XS.icmpYes X0.here hx rfl (pc0 := 45) (pc' := 52) rfl (hb hby own_k37) rfl (tlt hc45).1 (by decide) (by decide) kG) ?_
                  refine Go.via (U' := s₁.setTop (mkF m 53 #[.val (.int x0)] [(.int (0 : Int32))])) (fun tG kG => XS.iconst X0.here hx rfl (hb hby own_k38) kG) ?_
                  exact go_retN X0 hx hlk (t := .boolean) hret (by simp) (hb hby own_k22) e0 ⟨(congrArg (fun z => some (Value.int z)) (show nar .boolean (0 : Int32) = (own_f3 x0) from by unfold own_f3; simp only [if_neg hc3, if_neg hc9, if_neg hc15, if_neg hc21, if_pos hc27, if_neg hc33, if_pos hc39, if_pos hc45] <;> rfl)), rfl, rfl⟩ (by decide) (by decide)
                · refine Go.via (U' := s₁.setTop (mkF m 48 #[.val (.int x0)] [])) (fun tG kG => XS.icmpNo X0.here hx rfl (hb hby own_k37) rfl (flt hc45).1 kG) ?_
                  refine Go.via (U' := s₁.setTop (mkF m 49 #[.val (.int x0)] [(.int (1 : Int32))])) (fun tG kG => XS.iconst X0.here hx rfl (hb hby own_k20) kG) ?_
                  refine Go.via (U' := s₁.setTop (mkF m 53 #[.val (.int x0)] [(.int (1 : Int32))])) (fun tG kG => XS.goto X0.here hx rfl (pc0 := 49) (pc' := 53) rfl (hb hby own_k21) (by decide) (by decide) kG) ?_
                  exact go_retN X0 hx hlk (t := .boolean) hret (by simp) (hb hby own_k22) e0 ⟨(congrArg (fun z => some (Value.int z)) (show nar .boolean (1 : Int32) = (own_f3 x0) from by unfold own_f3; simp only [if_neg hc3, if_neg hc9, if_neg hc15, if_neg hc21, if_pos hc27, if_neg hc33, if_pos hc39, if_neg hc45] <;> rfl)), rfl, rfl⟩ (by decide) (by decide)
              · refine Go.via (U' := s₁.setTop (mkF m 48 #[.val (.int x0)] [])) (fun tG kG => XS.icmpYes X0.here hx rfl (pc0 := 39) (pc' := 48) rfl (hb hby own_k41) rfl (flt hc39).2.2.2 (by decide) (by decide) kG) ?_
                refine Go.via (U' := s₁.setTop (mkF m 49 #[.val (.int x0)] [(.int (1 : Int32))])) (fun tG kG => XS.iconst X0.here hx rfl (hb hby own_k20) kG) ?_
                refine Go.via (U' := s₁.setTop (mkF m 53 #[.val (.int x0)] [(.int (1 : Int32))])) (fun tG kG => XS.goto X0.here hx rfl (pc0 := 49) (pc' := 53) rfl (hb hby own_k21) (by decide) (by decide) kG) ?_
                exact go_retN X0 hx hlk (t := .boolean) hret (by simp) (hb hby own_k22) e0 ⟨(congrArg (fun z => some (Value.int z)) (show nar .boolean (1 : Int32) = (own_f3 x0) from by unfold own_f3; simp only [if_neg hc3, if_neg hc9, if_neg hc15, if_neg hc21, if_pos hc27, if_neg hc33, if_neg hc39] <;> rfl)), rfl, rfl⟩ (by decide) (by decide)
          · refine Go.via (U' := s₁.setTop (mkF m 48 #[.val (.int x0)] [])) (fun tG kG => XS.icmpYes X0.here hx rfl (pc0 := 27) (pc' := 48) rfl (hb hby own_k44) rfl (flt hc27).2.2.2 (by decide) (by decide) kG) ?_
            refine Go.via (U' := s₁.setTop (mkF m 49 #[.val (.int x0)] [(.int (1 : Int32))])) (fun tG kG => XS.iconst X0.here hx rfl (hb hby own_k20) kG) ?_
            refine Go.via (U' := s₁.setTop (mkF m 53 #[.val (.int x0)] [(.int (1 : Int32))])) (fun tG kG => XS.goto X0.here hx rfl (pc0 := 49) (pc' := 53) rfl (hb hby own_k21) (by decide) (by decide) kG) ?_
            exact go_retN X0 hx hlk (t := .boolean) hret (by simp) (hb hby own_k22) e0 ⟨(congrArg (fun z => some (Value.int z)) (show nar .boolean (1 : Int32) = (own_f3 x0) from by unfold own_f3; simp only [if_neg hc3, if_neg hc9, if_neg hc15, if_neg hc21, if_neg hc27] <;> rfl)), rfl, rfl⟩ (by decide) (by decide)
theorem own_k46 (m : MethodId) (x0 : Int32) : entryFrame m #[(.int x0)] 1 = mkF m 0 #[.val (.int x0)] [] := by first | (simp [entryFrame, mkF, argsToLocals, Value.category]; done) | rfl
theorem own_k47 : decode method_2_code 0 = .ok (.iload_n 0, 1) := by decide +kernel
theorem own_k48 : decode method_2_code 1 = .ok (.bipush 32, 2) := by decide +kernel
theorem own_k49 : decode method_2_code 3 = .ok (.if_icmp .ge 27, 3) := by decide +kernel
theorem own_k50 : decode method_2_code 6 = .ok (.iload_n 0, 1) := by decide +kernel
theorem own_k51 : decode method_2_code 7 = .ok (.bipush 9, 2) := by decide +kernel
theorem own_k52 : decode method_2_code 9 = .ok (.if_icmp .eq 19, 3) := by decide +kernel
theorem own_k53 : decode method_2_code 28 = .ok (.iconst 0, 1) := by decide +kernel
theorem own_k54 : decode method_2_code 29 = .ok (.ireturn, 1) := by decide +kernel
theorem own_k55 : decode method_2_code 12 = .ok (.iload_n 0, 1) := by decide +kernel
theorem own_k56 : decode method_2_code 13 = .ok (.bipush 10, 2) := by decide +kernel
theorem own_k57 : decode method_2_code 15 = .ok (.if_icmp .eq 13, 3) := by decide +kernel
theorem own_k58 : decode method_2_code 18 = .ok (.iload_n 0, 1) := by decide +kernel
theorem own_k59 : decode method_2_code 19 = .ok (.bipush 13, 2) := by decide +kernel
theorem own_k60 : decode method_2_code 21 = .ok (.if_icmp .eq 7, 3) := by decide +kernel
theorem own_k61 : decode method_2_code 24 = .ok (.iconst 1, 1) := by decide +kernel
theorem own_k62 : decode method_2_code 25 = .ok (.goto 4, 3) := by decide +kernel
theorem own_k63 : decode method_2_code 30 = .ok (.iload_n 0, 1) := by decide +kernel
theorem own_k64 : decode method_2_code 31 = .ok (.ldc 7, 2) := by decide +kernel
theorem own_k65 : decode method_2_code 33 = .ok (.if_icmp .lt 11, 3) := by decide +kernel
theorem own_k66 : decode method_2_code 44 = .ok (.iload_n 0, 1) := by decide +kernel
theorem own_k67 : decode method_2_code 45 = .ok (.ldc 9, 2) := by decide +kernel
theorem own_k68 : decode method_2_code 47 = .ok (.if_icmp .eq 9, 3) := by decide +kernel
theorem own_k69 : decode method_2_code 56 = .ok (.iconst 1, 1) := by decide +kernel
theorem own_k70 : decode method_2_code 57 = .ok (.goto 4, 3) := by decide +kernel
theorem own_k71 : decode method_2_code 61 = .ok (.ireturn, 1) := by decide +kernel
theorem own_k72 : decode method_2_code 50 = .ok (.iload_n 0, 1) := by decide +kernel
theorem own_k73 : decode method_2_code 51 = .ok (.ldc 10, 2) := by decide +kernel
theorem own_k74 : decode method_2_code 53 = .ok (.if_icmp .ne 7, 3) := by decide +kernel
theorem own_k75 : decode method_2_code 60 = .ok (.iconst 0, 1) := by decide +kernel
theorem own_k76 : decode method_2_code 36 = .ok (.iload_n 0, 1) := by decide +kernel
theorem own_k77 : decode method_2_code 37 = .ok (.ldc 8, 2) := by decide +kernel
theorem own_k78 : decode method_2_code 39 = .ok (.if_icmp .gt 5, 3) := by decide +kernel
theorem own_k79 : decode method_2_code 42 = .ok (.iconst 1, 1) := by decide +kernel
theorem own_k80 : decode method_2_code 43 = .ok (.ireturn, 1) := by decide +kernel
theorem own_k81 : plainName "com/example/dislope/dislope/io/XmlTextAllowsPinLaw" = true := by first | (simp [plainName, overriddenIn]; done) | decide +kernel
def own_f4 (x0 : Int32) : Int32 := (if x0 < (32 : Int32) then (if x0 = (9 : Int32) then (0 : Int32) else (if x0 = (10 : Int32) then (0 : Int32) else (if x0 = (13 : Int32) then (0 : Int32) else (1 : Int32)))) else (if x0 < (55296 : Int32) then (if x0 = (65534 : Int32) then (1 : Int32) else (if x0 = (65535 : Int32) then (1 : Int32) else (0 : Int32))) else (if (57343 : Int32) < x0 then (if x0 = (65534 : Int32) then (1 : Int32) else (if x0 = (65535 : Int32) then (1 : Int32) else (0 : Int32))) else (1 : Int32))))
set_option maxRecDepth 65536 in
set_option maxHeartbeats 40000000 in
theorem own_rm4 (l : Launch) (Z : State) (a0 : Array Value) (hw : ∀ d ∈ tables_1, d.before a0 Z = true) (ws : List Jvm.Cond) (x0 : Int32) (h0 : Heap) : Meets l Z (⟨"com/example/dislope/dislope/io/XmlTextAllowsPinLaw", "forbidden", "(I)Z"⟩ : MethodName) method_2_code 1 (some .boolean) ws ({ frames := 0, cells := 0, slots := 0, locals := 0 } : Room) #[(.int x0)] h0 (PureR (some (.int (own_f4 x0))) h0) := by
  refine meets_of (plainFor_of_name own_k81) ?_
  intro p e s m below meth c s₁ X0 hx hZ hby hml hret hlk hown hnm e0
  replace hml : c.maxLocals = 1 := hml
  replace hown : s.vm.findClass "com/example/dislope/dislope/io/XmlTextAllowsPinLaw" = some m.cls := hown
  refine Go.cast (own_k46 m x0) ?_
  refine Go.via (U' := s₁.setTop (mkF m 1 #[.val (.int x0)] [(.int x0)])) (fun tG kG => XS.iloadN X0.here hx rfl (hb hby own_k47) rfl kG) ?_
  refine Go.via (U' := s₁.setTop (mkF m 3 #[.val (.int x0)] [(.int (32 : Int32)), (.int x0)])) (fun tG kG => XS.bipush X0.here hx rfl (hb hby own_k48) kG) ?_
  by_cases hc3 : x0 < (32 : Int32)
  · refine Go.via (U' := s₁.setTop (mkF m 6 #[.val (.int x0)] [])) (fun tG kG => XS.icmpNo X0.here hx rfl (hb hby own_k49) rfl (tlt hc3).2.1 kG) ?_
    refine Go.via (U' := s₁.setTop (mkF m 7 #[.val (.int x0)] [(.int x0)])) (fun tG kG => XS.iloadN X0.here hx rfl (hb hby own_k50) rfl kG) ?_
    refine Go.via (U' := s₁.setTop (mkF m 9 #[.val (.int x0)] [(.int (9 : Int32)), (.int x0)])) (fun tG kG => XS.bipush X0.here hx rfl (hb hby own_k51) kG) ?_
    by_cases hc9 : x0 = (9 : Int32)
    · refine Go.via (U' := s₁.setTop (mkF m 28 #[.val (.int x0)] [])) (fun tG kG => XS.icmpYes X0.here hx rfl (pc0 := 9) (pc' := 28) rfl (hb hby own_k52) rfl (teq hc9).1 (by decide) (by decide) kG) ?_
      refine Go.via (U' := s₁.setTop (mkF m 29 #[.val (.int x0)] [(.int (0 : Int32))])) (fun tG kG => XS.iconst X0.here hx rfl (hb hby own_k53) kG) ?_
      exact go_retN X0 hx hlk (t := .boolean) hret (by simp) (hb hby own_k54) e0 ⟨(congrArg (fun z => some (Value.int z)) (show nar .boolean (0 : Int32) = (own_f4 x0) from by unfold own_f4; simp only [if_pos hc3, if_pos hc9] <;> rfl)), rfl, rfl⟩ (by decide) (by decide)
    · refine Go.via (U' := s₁.setTop (mkF m 12 #[.val (.int x0)] [])) (fun tG kG => XS.icmpNo X0.here hx rfl (hb hby own_k52) rfl (feq hc9).1 kG) ?_
      refine Go.via (U' := s₁.setTop (mkF m 13 #[.val (.int x0)] [(.int x0)])) (fun tG kG => XS.iloadN X0.here hx rfl (hb hby own_k55) rfl kG) ?_
      refine Go.via (U' := s₁.setTop (mkF m 15 #[.val (.int x0)] [(.int (10 : Int32)), (.int x0)])) (fun tG kG => XS.bipush X0.here hx rfl (hb hby own_k56) kG) ?_
      by_cases hc15 : x0 = (10 : Int32)
      · refine Go.via (U' := s₁.setTop (mkF m 28 #[.val (.int x0)] [])) (fun tG kG => XS.icmpYes X0.here hx rfl (pc0 := 15) (pc' := 28) rfl (hb hby own_k57) rfl (teq hc15).1 (by decide) (by decide) kG) ?_
        refine Go.via (U' := s₁.setTop (mkF m 29 #[.val (.int x0)] [(.int (0 : Int32))])) (fun tG kG => XS.iconst X0.here hx rfl (hb hby own_k53) kG) ?_
        exact go_retN X0 hx hlk (t := .boolean) hret (by simp) (hb hby own_k54) e0 ⟨(congrArg (fun z => some (Value.int z)) (show nar .boolean (0 : Int32) = (own_f4 x0) from by unfold own_f4; simp only [if_pos hc3, if_neg hc9, if_pos hc15] <;> rfl)), rfl, rfl⟩ (by decide) (by decide)
      · refine Go.via (U' := s₁.setTop (mkF m 18 #[.val (.int x0)] [])) (fun tG kG => XS.icmpNo X0.here hx rfl (hb hby own_k57) rfl (feq hc15).1 kG) ?_
        refine Go.via (U' := s₁.setTop (mkF m 19 #[.val (.int x0)] [(.int x0)])) (fun tG kG => XS.iloadN X0.here hx rfl (hb hby own_k58) rfl kG) ?_
        refine Go.via (U' := s₁.setTop (mkF m 21 #[.val (.int x0)] [(.int (13 : Int32)), (.int x0)])) (fun tG kG => XS.bipush X0.here hx rfl (hb hby own_k59) kG) ?_
        by_cases hc21 : x0 = (13 : Int32)
        · refine Go.via (U' := s₁.setTop (mkF m 28 #[.val (.int x0)] [])) (fun tG kG => XS.icmpYes X0.here hx rfl (pc0 := 21) (pc' := 28) rfl (hb hby own_k60) rfl (teq hc21).1 (by decide) (by decide) kG) ?_
          refine Go.via (U' := s₁.setTop (mkF m 29 #[.val (.int x0)] [(.int (0 : Int32))])) (fun tG kG => XS.iconst X0.here hx rfl (hb hby own_k53) kG) ?_
          exact go_retN X0 hx hlk (t := .boolean) hret (by simp) (hb hby own_k54) e0 ⟨(congrArg (fun z => some (Value.int z)) (show nar .boolean (0 : Int32) = (own_f4 x0) from by unfold own_f4; simp only [if_pos hc3, if_neg hc9, if_neg hc15, if_pos hc21] <;> rfl)), rfl, rfl⟩ (by decide) (by decide)
        · refine Go.via (U' := s₁.setTop (mkF m 24 #[.val (.int x0)] [])) (fun tG kG => XS.icmpNo X0.here hx rfl (hb hby own_k60) rfl (feq hc21).1 kG) ?_
          refine Go.via (U' := s₁.setTop (mkF m 25 #[.val (.int x0)] [(.int (1 : Int32))])) (fun tG kG => XS.iconst X0.here hx rfl (hb hby own_k61) kG) ?_
          refine Go.via (U' := s₁.setTop (mkF m 29 #[.val (.int x0)] [(.int (1 : Int32))])) (fun tG kG => XS.goto X0.here hx rfl (pc0 := 25) (pc' := 29) rfl (hb hby own_k62) (by decide) (by decide) kG) ?_
          exact go_retN X0 hx hlk (t := .boolean) hret (by simp) (hb hby own_k54) e0 ⟨(congrArg (fun z => some (Value.int z)) (show nar .boolean (1 : Int32) = (own_f4 x0) from by unfold own_f4; simp only [if_pos hc3, if_neg hc9, if_neg hc15, if_neg hc21] <;> rfl)), rfl, rfl⟩ (by decide) (by decide)
  · refine Go.via (U' := s₁.setTop (mkF m 30 #[.val (.int x0)] [])) (fun tG kG => XS.icmpYes X0.here hx rfl (pc0 := 3) (pc' := 30) rfl (hb hby own_k49) rfl (flt hc3).2.1 (by decide) (by decide) kG) ?_
    refine Go.via (U' := s₁.setTop (mkF m 31 #[.val (.int x0)] [(.int x0)])) (fun tG kG => XS.iloadN X0.here hx rfl (hb hby own_k63) rfl kG) ?_
    refine Go.via (U' := s₁.setTop (mkF m 33 #[.val (.int x0)] [(.int (55296 : Int32)), (.int x0)])) (fun tG kG => X0.ldcInt hx hown (mvT hZ (hw _ (List.mem_of_getElem? (i := 2) rfl))) (g := (mkF m 31 #[.val (.int x0)] [(.int x0)])) rfl (hb hby own_k64) tG kG) ?_
    by_cases hc33 : x0 < (55296 : Int32)
    · refine Go.via (U' := s₁.setTop (mkF m 44 #[.val (.int x0)] [])) (fun tG kG => XS.icmpYes X0.here hx rfl (pc0 := 33) (pc' := 44) rfl (hb hby own_k65) rfl (tlt hc33).1 (by decide) (by decide) kG) ?_
      refine Go.via (U' := s₁.setTop (mkF m 45 #[.val (.int x0)] [(.int x0)])) (fun tG kG => XS.iloadN X0.here hx rfl (hb hby own_k66) rfl kG) ?_
      refine Go.via (U' := s₁.setTop (mkF m 47 #[.val (.int x0)] [(.int (65534 : Int32)), (.int x0)])) (fun tG kG => X0.ldcInt hx hown (mvT hZ (hw _ (List.mem_of_getElem? (i := 6) rfl))) (g := (mkF m 45 #[.val (.int x0)] [(.int x0)])) rfl (hb hby own_k67) tG kG) ?_
      by_cases hc47 : x0 = (65534 : Int32)
      · refine Go.via (U' := s₁.setTop (mkF m 56 #[.val (.int x0)] [])) (fun tG kG => XS.icmpYes X0.here hx rfl (pc0 := 47) (pc' := 56) rfl (hb hby own_k68) rfl (teq hc47).1 (by decide) (by decide) kG) ?_
        refine Go.via (U' := s₁.setTop (mkF m 57 #[.val (.int x0)] [(.int (1 : Int32))])) (fun tG kG => XS.iconst X0.here hx rfl (hb hby own_k69) kG) ?_
        refine Go.via (U' := s₁.setTop (mkF m 61 #[.val (.int x0)] [(.int (1 : Int32))])) (fun tG kG => XS.goto X0.here hx rfl (pc0 := 57) (pc' := 61) rfl (hb hby own_k70) (by decide) (by decide) kG) ?_
        exact go_retN X0 hx hlk (t := .boolean) hret (by simp) (hb hby own_k71) e0 ⟨(congrArg (fun z => some (Value.int z)) (show nar .boolean (1 : Int32) = (own_f4 x0) from by unfold own_f4; simp only [if_neg hc3, if_pos hc33, if_pos hc47] <;> rfl)), rfl, rfl⟩ (by decide) (by decide)
      · refine Go.via (U' := s₁.setTop (mkF m 50 #[.val (.int x0)] [])) (fun tG kG => XS.icmpNo X0.here hx rfl (hb hby own_k68) rfl (feq hc47).1 kG) ?_
        refine Go.via (U' := s₁.setTop (mkF m 51 #[.val (.int x0)] [(.int x0)])) (fun tG kG => XS.iloadN X0.here hx rfl (hb hby own_k72) rfl kG) ?_
        refine Go.via (U' := s₁.setTop (mkF m 53 #[.val (.int x0)] [(.int (65535 : Int32)), (.int x0)])) (fun tG kG => X0.ldcInt hx hown (mvT hZ (hw _ (List.mem_of_getElem? (i := 7) rfl))) (g := (mkF m 51 #[.val (.int x0)] [(.int x0)])) rfl (hb hby own_k73) tG kG) ?_
        by_cases hc53 : x0 = (65535 : Int32)
        · refine Go.via (U' := s₁.setTop (mkF m 56 #[.val (.int x0)] [])) (fun tG kG => XS.icmpNo X0.here hx rfl (hb hby own_k74) rfl (teq hc53).2 kG) ?_
          refine Go.via (U' := s₁.setTop (mkF m 57 #[.val (.int x0)] [(.int (1 : Int32))])) (fun tG kG => XS.iconst X0.here hx rfl (hb hby own_k69) kG) ?_
          refine Go.via (U' := s₁.setTop (mkF m 61 #[.val (.int x0)] [(.int (1 : Int32))])) (fun tG kG => XS.goto X0.here hx rfl (pc0 := 57) (pc' := 61) rfl (hb hby own_k70) (by decide) (by decide) kG) ?_
          exact go_retN X0 hx hlk (t := .boolean) hret (by simp) (hb hby own_k71) e0 ⟨(congrArg (fun z => some (Value.int z)) (show nar .boolean (1 : Int32) = (own_f4 x0) from by unfold own_f4; simp only [if_neg hc3, if_pos hc33, if_neg hc47, if_pos hc53] <;> rfl)), rfl, rfl⟩ (by decide) (by decide)
        · refine Go.via (U' := s₁.setTop (mkF m 60 #[.val (.int x0)] [])) (fun tG kG => XS.icmpYes X0.here hx rfl (pc0 := 53) (pc' := 60) rfl (hb hby own_k74) rfl (feq hc53).2 (by decide) (by decide) kG) ?_
          refine Go.via (U' := s₁.setTop (mkF m 61 #[.val (.int x0)] [(.int (0 : Int32))])) (fun tG kG => XS.iconst X0.here hx rfl (hb hby own_k75) kG) ?_
          exact go_retN X0 hx hlk (t := .boolean) hret (by simp) (hb hby own_k71) e0 ⟨(congrArg (fun z => some (Value.int z)) (show nar .boolean (0 : Int32) = (own_f4 x0) from by unfold own_f4; simp only [if_neg hc3, if_pos hc33, if_neg hc47, if_neg hc53] <;> rfl)), rfl, rfl⟩ (by decide) (by decide)
    · refine Go.via (U' := s₁.setTop (mkF m 36 #[.val (.int x0)] [])) (fun tG kG => XS.icmpNo X0.here hx rfl (hb hby own_k65) rfl (flt hc33).1 kG) ?_
      refine Go.via (U' := s₁.setTop (mkF m 37 #[.val (.int x0)] [(.int x0)])) (fun tG kG => XS.iloadN X0.here hx rfl (hb hby own_k76) rfl kG) ?_
      refine Go.via (U' := s₁.setTop (mkF m 39 #[.val (.int x0)] [(.int (57343 : Int32)), (.int x0)])) (fun tG kG => X0.ldcInt hx hown (mvT hZ (hw _ (List.mem_of_getElem? (i := 3) rfl))) (g := (mkF m 37 #[.val (.int x0)] [(.int x0)])) rfl (hb hby own_k77) tG kG) ?_
      by_cases hc39 : (57343 : Int32) < x0
      · refine Go.via (U' := s₁.setTop (mkF m 44 #[.val (.int x0)] [])) (fun tG kG => XS.icmpYes X0.here hx rfl (pc0 := 39) (pc' := 44) rfl (hb hby own_k78) rfl (tlt hc39).2.2.1 (by decide) (by decide) kG) ?_
        refine Go.via (U' := s₁.setTop (mkF m 45 #[.val (.int x0)] [(.int x0)])) (fun tG kG => XS.iloadN X0.here hx rfl (hb hby own_k66) rfl kG) ?_
        refine Go.via (U' := s₁.setTop (mkF m 47 #[.val (.int x0)] [(.int (65534 : Int32)), (.int x0)])) (fun tG kG => X0.ldcInt hx hown (mvT hZ (hw _ (List.mem_of_getElem? (i := 6) rfl))) (g := (mkF m 45 #[.val (.int x0)] [(.int x0)])) rfl (hb hby own_k67) tG kG) ?_
        by_cases hc47 : x0 = (65534 : Int32)
        · refine Go.via (U' := s₁.setTop (mkF m 56 #[.val (.int x0)] [])) (fun tG kG => XS.icmpYes X0.here hx rfl (pc0 := 47) (pc' := 56) rfl (hb hby own_k68) rfl (teq hc47).1 (by decide) (by decide) kG) ?_
          refine Go.via (U' := s₁.setTop (mkF m 57 #[.val (.int x0)] [(.int (1 : Int32))])) (fun tG kG => XS.iconst X0.here hx rfl (hb hby own_k69) kG) ?_
          refine Go.via (U' := s₁.setTop (mkF m 61 #[.val (.int x0)] [(.int (1 : Int32))])) (fun tG kG => XS.goto X0.here hx rfl (pc0 := 57) (pc' := 61) rfl (hb hby own_k70) (by decide) (by decide) kG) ?_
          exact go_retN X0 hx hlk (t := .boolean) hret (by simp) (hb hby own_k71) e0 ⟨(congrArg (fun z => some (Value.int z)) (show nar .boolean (1 : Int32) = (own_f4 x0) from by unfold own_f4; simp only [if_neg hc3, if_neg hc33, if_pos hc39, if_pos hc47] <;> rfl)), rfl, rfl⟩ (by decide) (by decide)
        · refine Go.via (U' := s₁.setTop (mkF m 50 #[.val (.int x0)] [])) (fun tG kG => XS.icmpNo X0.here hx rfl (hb hby own_k68) rfl (feq hc47).1 kG) ?_
          refine Go.via (U' := s₁.setTop (mkF m 51 #[.val (.int x0)] [(.int x0)])) (fun tG kG => XS.iloadN X0.here hx rfl (hb hby own_k72) rfl kG) ?_
          refine Go.via (U' := s₁.setTop (mkF m 53 #[.val (.int x0)] [(.int (65535 : Int32)), (.int x0)])) (fun tG kG => X0.ldcInt hx hown (mvT hZ (hw _ (List.mem_of_getElem? (i := 7) rfl))) (g := (mkF m 51 #[.val (.int x0)] [(.int x0)])) rfl (hb hby own_k73) tG kG) ?_
          by_cases hc53 : x0 = (65535 : Int32)
          · refine Go.via (U' := s₁.setTop (mkF m 56 #[.val (.int x0)] [])) (fun tG kG => XS.icmpNo X0.here hx rfl (hb hby own_k74) rfl (teq hc53).2 kG) ?_
            refine Go.via (U' := s₁.setTop (mkF m 57 #[.val (.int x0)] [(.int (1 : Int32))])) (fun tG kG => XS.iconst X0.here hx rfl (hb hby own_k69) kG) ?_
            refine Go.via (U' := s₁.setTop (mkF m 61 #[.val (.int x0)] [(.int (1 : Int32))])) (fun tG kG => XS.goto X0.here hx rfl (pc0 := 57) (pc' := 61) rfl (hb hby own_k70) (by decide) (by decide) kG) ?_
            exact go_retN X0 hx hlk (t := .boolean) hret (by simp) (hb hby own_k71) e0 ⟨(congrArg (fun z => some (Value.int z)) (show nar .boolean (1 : Int32) = (own_f4 x0) from by unfold own_f4; simp only [if_neg hc3, if_neg hc33, if_pos hc39, if_neg hc47, if_pos hc53] <;> rfl)), rfl, rfl⟩ (by decide) (by decide)
          · refine Go.via (U' := s₁.setTop (mkF m 60 #[.val (.int x0)] [])) (fun tG kG => XS.icmpYes X0.here hx rfl (pc0 := 53) (pc' := 60) rfl (hb hby own_k74) rfl (feq hc53).2 (by decide) (by decide) kG) ?_
            refine Go.via (U' := s₁.setTop (mkF m 61 #[.val (.int x0)] [(.int (0 : Int32))])) (fun tG kG => XS.iconst X0.here hx rfl (hb hby own_k75) kG) ?_
            exact go_retN X0 hx hlk (t := .boolean) hret (by simp) (hb hby own_k71) e0 ⟨(congrArg (fun z => some (Value.int z)) (show nar .boolean (0 : Int32) = (own_f4 x0) from by unfold own_f4; simp only [if_neg hc3, if_neg hc33, if_pos hc39, if_neg hc47, if_neg hc53] <;> rfl)), rfl, rfl⟩ (by decide) (by decide)
      · refine Go.via (U' := s₁.setTop (mkF m 42 #[.val (.int x0)] [])) (fun tG kG => XS.icmpNo X0.here hx rfl (hb hby own_k78) rfl (flt hc39).2.2.1 kG) ?_
        refine Go.via (U' := s₁.setTop (mkF m 43 #[.val (.int x0)] [(.int (1 : Int32))])) (fun tG kG => XS.iconst X0.here hx rfl (hb hby own_k79) kG) ?_
        exact go_retN X0 hx hlk (t := .boolean) hret (by simp) (hb hby own_k80) e0 ⟨(congrArg (fun z => some (Value.int z)) (show nar .boolean (1 : Int32) = (own_f4 x0) from by unfold own_f4; simp only [if_neg hc3, if_neg hc33, if_neg hc39] <;> rfl)), rfl, rfl⟩ (by decide) (by decide)
theorem own_ix (x : Int32) : ¬ (own_ushr x (1 : Int32)) % (15 : Int32) < 0 ∧ (own_ushr x (1 : Int32)) % (15 : Int32) < (15 : Int32) := by
  have u : (own_ushr x 1).toInt = (x.toInt % 4294967296) / 2 := c_iushr x 1 1 rfl (by decide)
  have r := (c_irem (own_ushr x 1) 15 15 rfl).1 (by omega)
  rw [Int32.lt_iff_toInt_lt, Int32.lt_iff_toInt_lt, show (0 : Int32).toInt = 0 from rfl, show (15 : Int32).toInt = 15 from rfl]
  omega
theorem own_k82 (m : MethodId) (x0 : Int32) (x1 : Int32) : entryFrame m #[(.int x0), (.int x1)] maxLocals = mkF m 0 #[.val (.int x0), .val (.int x1), .unset, .unset, .unset, .unset] [] := by first | (simp [entryFrame, mkF, argsToLocals, Value.category, maxLocals]; done) | rfl
def own_w0_0  : Nat → Int32 := (own_upd (own_upd (fun _ => (0 : Int32)) 0 (0 : Int32)) 1 (9 : Int32))
def own_w0_1  : Nat → Int32 := (own_upd (own_upd (own_upd own_w0_0 2 (10 : Int32)) 3 (13 : Int32)) 4 (31 : Int32))
def own_w0_2  : Nat → Int32 := (own_upd (own_upd own_w0_1 5 (32 : Int32)) 6 (55295 : Int32))
def own_w0_3  : Nat → Int32 := (own_upd (own_upd own_w0_2 7 (55296 : Int32)) 8 (57343 : Int32))
def own_w0_4  : Nat → Int32 := (own_upd (own_upd own_w0_3 9 (57344 : Int32)) 10 (65533 : Int32))
def own_w0_5  : Nat → Int32 := (own_upd (own_upd own_w0_4 11 (65534 : Int32)) 12 (65535 : Int32))
def own_w0_6  : Nat → Int32 := (own_upd (own_upd own_w0_5 13 (65536 : Int32)) 14 (1114111 : Int32))
def own_w0_7 (x1 : Int32) : Int32 := (own_w0_6 ((own_ushr x1 (1 : Int32)) % (15 : Int32)).toNatClampNeg)
theorem own_k83 : parseMethodDescriptor "(II)I" = some ⟨[.int, .int], some .int⟩ := by decide +kernel
def own_w0_8 (x0 : Int32) (x1 : Int32) : Int32 := (own_f2 (1114111 : Int32) (own_f1 (0 : Int32) ((own_w0_7 x1) + ((x0 &&& (3 : Int32)) - (1 : Int32)))))
def own_h0_91_l3 (x0 : Int32) (x1 : Int32) : Int32 := (if (x1 &&& (1 : Int32)) = (0 : Int32) then ((x0 &&& (2147483647 : Int32)) % (1114112 : Int32)) else (own_w0_8 x0 x1))
theorem own_k84 : parseMethodDescriptor "(I)Z" = some ⟨[.int], some .boolean⟩ := by decide +kernel
def own_j0_145_s0 (x0 : Int32) (x1 : Int32) : Int32 := (if (own_f4 (own_h0_91_l3 x0 x1)) = (0 : Int32) then (1 : Int32) else (0 : Int32))
def own_f0 (x0 : Int32) (x1 : Int32) : Int32 := (if (own_f3 (own_h0_91_l3 x0 x1)) = (own_j0_145_s0 x0 x1) then (1 : Int32) else (0 : Int32))
set_option maxRecDepth 65536 in
set_option maxHeartbeats 40000000 in
theorem own_rm0 (l : Launch) (Z : State) (a0 : Array Value) (hw : ∀ d ∈ tables_1, d.before a0 Z = true) (ws : List Jvm.Cond) (x0 : Int32) (x1 : Int32) (h0 : Heap) (n0 : Nat) (hn0 : n0 ≤ h0.size) : Meets l Z x code maxLocals ret ws room_1 #[(.int x0), (.int x1)] h0 (fun v h L => v = some (.int (own_f0 x0 x1)) ∧ Fr n0 L) := by
  refine meets_of (plainFor_of_name own_k81) ?_
  intro p e s m below meth c s₁ X0 hx hZ hby hml hret hlk hown hnm e0
  replace hml : c.maxLocals = 6 := hml
  replace hown : s.vm.findClass "com/example/dislope/dislope/io/XmlTextAllowsPinLaw" = some m.cls := hown
  refine Go.cast (own_k82 m x0 x1) ?_
  have N0 := Fr.nil n0
  have K0 : Keep h0 h0 [] := Keep.refl h0 _
  refine Go.via (U' := s₁.setTop (mkF m 2 #[.val (.int x0), .val (.int x1), .unset, .unset, .unset, .unset] [(.int (15 : Int32))])) (fun tG kG => XS.bipush X0.here hx rfl (hb hby at_0) kG) ?_
  obtain ⟨T1, h1, k1, X1, e1, E1, A1, B1, st1⟩ := newPE X0 hx hZ (hw _ (List.mem_of_getElem? (i := 0) rfl)) e0 (g := (mkF m 2 #[.val (.int x0), .val (.int x1), .unset, .unset, .unset, .unset] [(.int (15 : Int32))])) rfl (hb hby at_2) rfl (by decide) (cap := 15) (by decide) (by decide) (by decide) (by decide) (ad := "[I") (by decide)
  obtain ⟨b1, g1⟩ : ∃ z, z = h0.size := ⟨_, rfl⟩
  rw [← g1] at A1 B1 st1
  have g_b1 : n0 ≤ b1 := Nat.le_trans hn0 (Nat.le_of_eq g1.symm)
  have sz_b1 : h0.size ≤ b1 := Nat.le_trans K0.1 (Nat.le_of_eq g1.symm)
  have K1 := K0.ext E1
  have Z1 := Nat.le_trans hn0 E1.1
  have V1 : Arf Z h1 b1 k1 .int (15 : Int32) (fun _ => 0) := Arf.new A1 (by decide) rfl rfl
  refine Go.via (U' := T1.setTop (mkF m 4 #[.val (.int x0), .val (.int x1), .unset, .unset, .unset, .unset] [(.ref b1)])) (fun tG kG => st1 tG kG) ?_
  refine Go.via (U' := T1.setTop (mkF m 5 #[.val (.int x0), .val (.int x1), .unset, .unset, .unset, .unset] [(.ref b1), (.ref b1)])) (fun tG kG => XS.dup X1.here hx rfl (hb hby at_4) rfl rfl kG) ?_
  refine Go.via (U' := T1.setTop (mkF m 6 #[.val (.int x0), .val (.int x1), .unset, .unset, .unset, .unset] [(.int (0 : Int32)), (.ref b1), (.ref b1)])) (fun tG kG => XS.iconst X1.here hx rfl (hb hby at_5) kG) ?_
  refine Go.via (U' := T1.setTop (mkF m 7 #[.val (.int x0), .val (.int x1), .unset, .unset, .unset, .unset] [(.int (0 : Int32)), (.int (0 : Int32)), (.ref b1), (.ref b1)])) (fun tG kG => XS.iconst X1.here hx rfl (hb hby at_6) kG) ?_
  obtain ⟨T2, h2, X2, e2, W2, A2, st2⟩ := own_stI X1 hx hZ e1 V1 (j := (0 : Int32)) (x := (0 : Int32)) ⟨by decide, by decide⟩ (pc := 7) (Ls := #[.val (.int x0), .val (.int x1), .unset, .unset, .unset, .unset]) (rest := [(.ref b1)]) (hb hby at_7)
  have f3 := B1.wr W2
  replace A2 : Arf Z h2 b1 k1 .int (15 : Int32) (own_upd (fun _ => (0 : Int32)) 0 (0 : Int32)) := A2
  have K2 := K1.wr W2 (Or.inr sz_b1)
  have N2 := Fr.snoc X2 N0 g_b1
  have Z2 := Nat.le_trans Z1 (Keep.of_wr W2).1
  refine Go.via (U' := T2.setTop (mkF m 8 #[.val (.int x0), .val (.int x1), .unset, .unset, .unset, .unset] [(.ref b1)])) (fun tG kG => st2 tG kG) ?_
  refine Go.via (U' := T2.setTop (mkF m 9 #[.val (.int x0), .val (.int x1), .unset, .unset, .unset, .unset] [(.ref b1), (.ref b1)])) (fun tG kG => XS.dup X2.here hx rfl (hb hby at_8) rfl rfl kG) ?_
  refine Go.via (U' := T2.setTop (mkF m 10 #[.val (.int x0), .val (.int x1), .unset, .unset, .unset, .unset] [(.int (1 : Int32)), (.ref b1), (.ref b1)])) (fun tG kG => XS.iconst X2.here hx rfl (hb hby at_9) kG) ?_
  refine Go.via (U' := T2.setTop (mkF m 12 #[.val (.int x0), .val (.int x1), .unset, .unset, .unset, .unset] [(.int (9 : Int32)), (.int (1 : Int32)), (.ref b1), (.ref b1)])) (fun tG kG => XS.bipush X2.here hx rfl (hb hby at_10) kG) ?_
  obtain ⟨T4, h4, X4, e4, W4, A4, st4⟩ := own_stI X2 hx hZ e2 A2 (j := (1 : Int32)) (x := (9 : Int32)) ⟨by decide, by decide⟩ (pc := 12) (Ls := #[.val (.int x0), .val (.int x1), .unset, .unset, .unset, .unset]) (rest := [(.ref b1)]) (hb hby at_12)
  have f5 := f3.wr W4
  replace A4 : Arf Z h4 b1 k1 .int (15 : Int32) own_w0_0 := A4
  have K4 := K2.wr W4 (Or.inr sz_b1)
  have N4 := Fr.snoc X4 N2 g_b1
  have Z4 := Nat.le_trans Z2 (Keep.of_wr W4).1
  refine Go.via (U' := T4.setTop (mkF m 13 #[.val (.int x0), .val (.int x1), .unset, .unset, .unset, .unset] [(.ref b1)])) (fun tG kG => st4 tG kG) ?_
  refine Go.via (U' := T4.setTop (mkF m 14 #[.val (.int x0), .val (.int x1), .unset, .unset, .unset, .unset] [(.ref b1), (.ref b1)])) (fun tG kG => XS.dup X4.here hx rfl (hb hby at_13) rfl rfl kG) ?_
  refine Go.via (U' := T4.setTop (mkF m 15 #[.val (.int x0), .val (.int x1), .unset, .unset, .unset, .unset] [(.int (2 : Int32)), (.ref b1), (.ref b1)])) (fun tG kG => XS.iconst X4.here hx rfl (hb hby at_14) kG) ?_
  refine Go.via (U' := T4.setTop (mkF m 17 #[.val (.int x0), .val (.int x1), .unset, .unset, .unset, .unset] [(.int (10 : Int32)), (.int (2 : Int32)), (.ref b1), (.ref b1)])) (fun tG kG => XS.bipush X4.here hx rfl (hb hby at_15) kG) ?_
  obtain ⟨T6, h6, X6, e6, W6, A6, st6⟩ := own_stI X4 hx hZ e4 A4 (j := (2 : Int32)) (x := (10 : Int32)) ⟨by decide, by decide⟩ (pc := 17) (Ls := #[.val (.int x0), .val (.int x1), .unset, .unset, .unset, .unset]) (rest := [(.ref b1)]) (hb hby at_17)
  have f7 := f5.wr W6
  replace A6 : Arf Z h6 b1 k1 .int (15 : Int32) (own_upd own_w0_0 2 (10 : Int32)) := A6
  have K6 := K4.wr W6 (Or.inr sz_b1)
  have N6 := Fr.snoc X6 N4 g_b1
  have Z6 := Nat.le_trans Z4 (Keep.of_wr W6).1
  refine Go.via (U' := T6.setTop (mkF m 18 #[.val (.int x0), .val (.int x1), .unset, .unset, .unset, .unset] [(.ref b1)])) (fun tG kG => st6 tG kG) ?_
  refine Go.via (U' := T6.setTop (mkF m 19 #[.val (.int x0), .val (.int x1), .unset, .unset, .unset, .unset] [(.ref b1), (.ref b1)])) (fun tG kG => XS.dup X6.here hx rfl (hb hby at_18) rfl rfl kG) ?_
  refine Go.via (U' := T6.setTop (mkF m 20 #[.val (.int x0), .val (.int x1), .unset, .unset, .unset, .unset] [(.int (3 : Int32)), (.ref b1), (.ref b1)])) (fun tG kG => XS.iconst X6.here hx rfl (hb hby at_19) kG) ?_
  refine Go.via (U' := T6.setTop (mkF m 22 #[.val (.int x0), .val (.int x1), .unset, .unset, .unset, .unset] [(.int (13 : Int32)), (.int (3 : Int32)), (.ref b1), (.ref b1)])) (fun tG kG => XS.bipush X6.here hx rfl (hb hby at_20) kG) ?_
  obtain ⟨T8, h8, X8, e8, W8, A8, st8⟩ := own_stI X6 hx hZ e6 A6 (j := (3 : Int32)) (x := (13 : Int32)) ⟨by decide, by decide⟩ (pc := 22) (Ls := #[.val (.int x0), .val (.int x1), .unset, .unset, .unset, .unset]) (rest := [(.ref b1)]) (hb hby at_22)
  have f9 := f7.wr W8
  replace A8 : Arf Z h8 b1 k1 .int (15 : Int32) (own_upd (own_upd own_w0_0 2 (10 : Int32)) 3 (13 : Int32)) := A8
  have K8 := K6.wr W8 (Or.inr sz_b1)
  have N8 := Fr.snoc X8 N6 g_b1
  have Z8 := Nat.le_trans Z6 (Keep.of_wr W8).1
  refine Go.via (U' := T8.setTop (mkF m 23 #[.val (.int x0), .val (.int x1), .unset, .unset, .unset, .unset] [(.ref b1)])) (fun tG kG => st8 tG kG) ?_
  refine Go.via (U' := T8.setTop (mkF m 24 #[.val (.int x0), .val (.int x1), .unset, .unset, .unset, .unset] [(.ref b1), (.ref b1)])) (fun tG kG => XS.dup X8.here hx rfl (hb hby at_23) rfl rfl kG) ?_
  refine Go.via (U' := T8.setTop (mkF m 25 #[.val (.int x0), .val (.int x1), .unset, .unset, .unset, .unset] [(.int (4 : Int32)), (.ref b1), (.ref b1)])) (fun tG kG => XS.iconst X8.here hx rfl (hb hby at_24) kG) ?_
  refine Go.via (U' := T8.setTop (mkF m 27 #[.val (.int x0), .val (.int x1), .unset, .unset, .unset, .unset] [(.int (31 : Int32)), (.int (4 : Int32)), (.ref b1), (.ref b1)])) (fun tG kG => XS.bipush X8.here hx rfl (hb hby at_25) kG) ?_
  obtain ⟨T10, h10, X10, e10, W10, A10, st10⟩ := own_stI X8 hx hZ e8 A8 (j := (4 : Int32)) (x := (31 : Int32)) ⟨by decide, by decide⟩ (pc := 27) (Ls := #[.val (.int x0), .val (.int x1), .unset, .unset, .unset, .unset]) (rest := [(.ref b1)]) (hb hby at_27)
  have f11 := f9.wr W10
  replace A10 : Arf Z h10 b1 k1 .int (15 : Int32) own_w0_1 := A10
  have K10 := K8.wr W10 (Or.inr sz_b1)
  have N10 := Fr.snoc X10 N8 g_b1
  have Z10 := Nat.le_trans Z8 (Keep.of_wr W10).1
  refine Go.via (U' := T10.setTop (mkF m 28 #[.val (.int x0), .val (.int x1), .unset, .unset, .unset, .unset] [(.ref b1)])) (fun tG kG => st10 tG kG) ?_
  refine Go.via (U' := T10.setTop (mkF m 29 #[.val (.int x0), .val (.int x1), .unset, .unset, .unset, .unset] [(.ref b1), (.ref b1)])) (fun tG kG => XS.dup X10.here hx rfl (hb hby at_28) rfl rfl kG) ?_
  refine Go.via (U' := T10.setTop (mkF m 30 #[.val (.int x0), .val (.int x1), .unset, .unset, .unset, .unset] [(.int (5 : Int32)), (.ref b1), (.ref b1)])) (fun tG kG => XS.iconst X10.here hx rfl (hb hby at_29) kG) ?_
  refine Go.via (U' := T10.setTop (mkF m 32 #[.val (.int x0), .val (.int x1), .unset, .unset, .unset, .unset] [(.int (32 : Int32)), (.int (5 : Int32)), (.ref b1), (.ref b1)])) (fun tG kG => XS.bipush X10.here hx rfl (hb hby at_30) kG) ?_
  obtain ⟨T12, h12, X12, e12, W12, A12, st12⟩ := own_stI X10 hx hZ e10 A10 (j := (5 : Int32)) (x := (32 : Int32)) ⟨by decide, by decide⟩ (pc := 32) (Ls := #[.val (.int x0), .val (.int x1), .unset, .unset, .unset, .unset]) (rest := [(.ref b1)]) (hb hby at_32)
  have f13 := f11.wr W12
  replace A12 : Arf Z h12 b1 k1 .int (15 : Int32) (own_upd own_w0_1 5 (32 : Int32)) := A12
  have K12 := K10.wr W12 (Or.inr sz_b1)
  have N12 := Fr.snoc X12 N10 g_b1
  have Z12 := Nat.le_trans Z10 (Keep.of_wr W12).1
  refine Go.via (U' := T12.setTop (mkF m 33 #[.val (.int x0), .val (.int x1), .unset, .unset, .unset, .unset] [(.ref b1)])) (fun tG kG => st12 tG kG) ?_
  refine Go.via (U' := T12.setTop (mkF m 34 #[.val (.int x0), .val (.int x1), .unset, .unset, .unset, .unset] [(.ref b1), (.ref b1)])) (fun tG kG => XS.dup X12.here hx rfl (hb hby at_33) rfl rfl kG) ?_
  refine Go.via (U' := T12.setTop (mkF m 36 #[.val (.int x0), .val (.int x1), .unset, .unset, .unset, .unset] [(.int (6 : Int32)), (.ref b1), (.ref b1)])) (fun tG kG => XS.bipush X12.here hx rfl (hb hby at_34) kG) ?_
  refine Go.via (U' := T12.setTop (mkF m 38 #[.val (.int x0), .val (.int x1), .unset, .unset, .unset, .unset] [(.int (55295 : Int32)), (.int (6 : Int32)), (.ref b1), (.ref b1)])) (fun tG kG => X12.ldcInt hx hown (mvT hZ (hw _ (List.mem_of_getElem? (i := 1) rfl))) (g := (mkF m 36 #[.val (.int x0), .val (.int x1), .unset, .unset, .unset, .unset] [(.int (6 : Int32)), (.ref b1), (.ref b1)])) rfl (hb hby at_36) tG kG) ?_
  obtain ⟨T14, h14, X14, e14, W14, A14, st14⟩ := own_stI X12 hx hZ e12 A12 (j := (6 : Int32)) (x := (55295 : Int32)) ⟨by decide, by decide⟩ (pc := 38) (Ls := #[.val (.int x0), .val (.int x1), .unset, .unset, .unset, .unset]) (rest := [(.ref b1)]) (hb hby at_38)
  have f15 := f13.wr W14
  replace A14 : Arf Z h14 b1 k1 .int (15 : Int32) own_w0_2 := A14
  have K14 := K12.wr W14 (Or.inr sz_b1)
  have N14 := Fr.snoc X14 N12 g_b1
  have Z14 := Nat.le_trans Z12 (Keep.of_wr W14).1
  refine Go.via (U' := T14.setTop (mkF m 39 #[.val (.int x0), .val (.int x1), .unset, .unset, .unset, .unset] [(.ref b1)])) (fun tG kG => st14 tG kG) ?_
  refine Go.via (U' := T14.setTop (mkF m 40 #[.val (.int x0), .val (.int x1), .unset, .unset, .unset, .unset] [(.ref b1), (.ref b1)])) (fun tG kG => XS.dup X14.here hx rfl (hb hby at_39) rfl rfl kG) ?_
  refine Go.via (U' := T14.setTop (mkF m 42 #[.val (.int x0), .val (.int x1), .unset, .unset, .unset, .unset] [(.int (7 : Int32)), (.ref b1), (.ref b1)])) (fun tG kG => XS.bipush X14.here hx rfl (hb hby at_40) kG) ?_
  refine Go.via (U' := T14.setTop (mkF m 44 #[.val (.int x0), .val (.int x1), .unset, .unset, .unset, .unset] [(.int (55296 : Int32)), (.int (7 : Int32)), (.ref b1), (.ref b1)])) (fun tG kG => X14.ldcInt hx hown (mvT hZ (hw _ (List.mem_of_getElem? (i := 2) rfl))) (g := (mkF m 42 #[.val (.int x0), .val (.int x1), .unset, .unset, .unset, .unset] [(.int (7 : Int32)), (.ref b1), (.ref b1)])) rfl (hb hby at_42) tG kG) ?_
  obtain ⟨T16, h16, X16, e16, W16, A16, st16⟩ := own_stI X14 hx hZ e14 A14 (j := (7 : Int32)) (x := (55296 : Int32)) ⟨by decide, by decide⟩ (pc := 44) (Ls := #[.val (.int x0), .val (.int x1), .unset, .unset, .unset, .unset]) (rest := [(.ref b1)]) (hb hby at_44)
  have f17 := f15.wr W16
  replace A16 : Arf Z h16 b1 k1 .int (15 : Int32) (own_upd own_w0_2 7 (55296 : Int32)) := A16
  have K16 := K14.wr W16 (Or.inr sz_b1)
  have N16 := Fr.snoc X16 N14 g_b1
  have Z16 := Nat.le_trans Z14 (Keep.of_wr W16).1
  refine Go.via (U' := T16.setTop (mkF m 45 #[.val (.int x0), .val (.int x1), .unset, .unset, .unset, .unset] [(.ref b1)])) (fun tG kG => st16 tG kG) ?_
  refine Go.via (U' := T16.setTop (mkF m 46 #[.val (.int x0), .val (.int x1), .unset, .unset, .unset, .unset] [(.ref b1), (.ref b1)])) (fun tG kG => XS.dup X16.here hx rfl (hb hby at_45) rfl rfl kG) ?_
  refine Go.via (U' := T16.setTop (mkF m 48 #[.val (.int x0), .val (.int x1), .unset, .unset, .unset, .unset] [(.int (8 : Int32)), (.ref b1), (.ref b1)])) (fun tG kG => XS.bipush X16.here hx rfl (hb hby at_46) kG) ?_
  refine Go.via (U' := T16.setTop (mkF m 50 #[.val (.int x0), .val (.int x1), .unset, .unset, .unset, .unset] [(.int (57343 : Int32)), (.int (8 : Int32)), (.ref b1), (.ref b1)])) (fun tG kG => X16.ldcInt hx hown (mvT hZ (hw _ (List.mem_of_getElem? (i := 3) rfl))) (g := (mkF m 48 #[.val (.int x0), .val (.int x1), .unset, .unset, .unset, .unset] [(.int (8 : Int32)), (.ref b1), (.ref b1)])) rfl (hb hby at_48) tG kG) ?_
  obtain ⟨T18, h18, X18, e18, W18, A18, st18⟩ := own_stI X16 hx hZ e16 A16 (j := (8 : Int32)) (x := (57343 : Int32)) ⟨by decide, by decide⟩ (pc := 50) (Ls := #[.val (.int x0), .val (.int x1), .unset, .unset, .unset, .unset]) (rest := [(.ref b1)]) (hb hby at_50)
  have f19 := f17.wr W18
  replace A18 : Arf Z h18 b1 k1 .int (15 : Int32) own_w0_3 := A18
  have K18 := K16.wr W18 (Or.inr sz_b1)
  have N18 := Fr.snoc X18 N16 g_b1
  have Z18 := Nat.le_trans Z16 (Keep.of_wr W18).1
  refine Go.via (U' := T18.setTop (mkF m 51 #[.val (.int x0), .val (.int x1), .unset, .unset, .unset, .unset] [(.ref b1)])) (fun tG kG => st18 tG kG) ?_
  refine Go.via (U' := T18.setTop (mkF m 52 #[.val (.int x0), .val (.int x1), .unset, .unset, .unset, .unset] [(.ref b1), (.ref b1)])) (fun tG kG => XS.dup X18.here hx rfl (hb hby at_51) rfl rfl kG) ?_
  refine Go.via (U' := T18.setTop (mkF m 54 #[.val (.int x0), .val (.int x1), .unset, .unset, .unset, .unset] [(.int (9 : Int32)), (.ref b1), (.ref b1)])) (fun tG kG => XS.bipush X18.here hx rfl (hb hby at_52) kG) ?_
  refine Go.via (U' := T18.setTop (mkF m 56 #[.val (.int x0), .val (.int x1), .unset, .unset, .unset, .unset] [(.int (57344 : Int32)), (.int (9 : Int32)), (.ref b1), (.ref b1)])) (fun tG kG => X18.ldcInt hx hown (mvT hZ (hw _ (List.mem_of_getElem? (i := 4) rfl))) (g := (mkF m 54 #[.val (.int x0), .val (.int x1), .unset, .unset, .unset, .unset] [(.int (9 : Int32)), (.ref b1), (.ref b1)])) rfl (hb hby at_54) tG kG) ?_
  obtain ⟨T20, h20, X20, e20, W20, A20, st20⟩ := own_stI X18 hx hZ e18 A18 (j := (9 : Int32)) (x := (57344 : Int32)) ⟨by decide, by decide⟩ (pc := 56) (Ls := #[.val (.int x0), .val (.int x1), .unset, .unset, .unset, .unset]) (rest := [(.ref b1)]) (hb hby at_56)
  have f21 := f19.wr W20
  replace A20 : Arf Z h20 b1 k1 .int (15 : Int32) (own_upd own_w0_3 9 (57344 : Int32)) := A20
  have K20 := K18.wr W20 (Or.inr sz_b1)
  have N20 := Fr.snoc X20 N18 g_b1
  have Z20 := Nat.le_trans Z18 (Keep.of_wr W20).1
  refine Go.via (U' := T20.setTop (mkF m 57 #[.val (.int x0), .val (.int x1), .unset, .unset, .unset, .unset] [(.ref b1)])) (fun tG kG => st20 tG kG) ?_
  refine Go.via (U' := T20.setTop (mkF m 58 #[.val (.int x0), .val (.int x1), .unset, .unset, .unset, .unset] [(.ref b1), (.ref b1)])) (fun tG kG => XS.dup X20.here hx rfl (hb hby at_57) rfl rfl kG) ?_
  refine Go.via (U' := T20.setTop (mkF m 60 #[.val (.int x0), .val (.int x1), .unset, .unset, .unset, .unset] [(.int (10 : Int32)), (.ref b1), (.ref b1)])) (fun tG kG => XS.bipush X20.here hx rfl (hb hby at_58) kG) ?_
  refine Go.via (U' := T20.setTop (mkF m 62 #[.val (.int x0), .val (.int x1), .unset, .unset, .unset, .unset] [(.int (65533 : Int32)), (.int (10 : Int32)), (.ref b1), (.ref b1)])) (fun tG kG => X20.ldcInt hx hown (mvT hZ (hw _ (List.mem_of_getElem? (i := 5) rfl))) (g := (mkF m 60 #[.val (.int x0), .val (.int x1), .unset, .unset, .unset, .unset] [(.int (10 : Int32)), (.ref b1), (.ref b1)])) rfl (hb hby at_60) tG kG) ?_
  obtain ⟨T22, h22, X22, e22, W22, A22, st22⟩ := own_stI X20 hx hZ e20 A20 (j := (10 : Int32)) (x := (65533 : Int32)) ⟨by decide, by decide⟩ (pc := 62) (Ls := #[.val (.int x0), .val (.int x1), .unset, .unset, .unset, .unset]) (rest := [(.ref b1)]) (hb hby at_62)
  have f23 := f21.wr W22
  replace A22 : Arf Z h22 b1 k1 .int (15 : Int32) own_w0_4 := A22
  have K22 := K20.wr W22 (Or.inr sz_b1)
  have N22 := Fr.snoc X22 N20 g_b1
  have Z22 := Nat.le_trans Z20 (Keep.of_wr W22).1
  refine Go.via (U' := T22.setTop (mkF m 63 #[.val (.int x0), .val (.int x1), .unset, .unset, .unset, .unset] [(.ref b1)])) (fun tG kG => st22 tG kG) ?_
  refine Go.via (U' := T22.setTop (mkF m 64 #[.val (.int x0), .val (.int x1), .unset, .unset, .unset, .unset] [(.ref b1), (.ref b1)])) (fun tG kG => XS.dup X22.here hx rfl (hb hby at_63) rfl rfl kG) ?_
  refine Go.via (U' := T22.setTop (mkF m 66 #[.val (.int x0), .val (.int x1), .unset, .unset, .unset, .unset] [(.int (11 : Int32)), (.ref b1), (.ref b1)])) (fun tG kG => XS.bipush X22.here hx rfl (hb hby at_64) kG) ?_
  refine Go.via (U' := T22.setTop (mkF m 68 #[.val (.int x0), .val (.int x1), .unset, .unset, .unset, .unset] [(.int (65534 : Int32)), (.int (11 : Int32)), (.ref b1), (.ref b1)])) (fun tG kG => X22.ldcInt hx hown (mvT hZ (hw _ (List.mem_of_getElem? (i := 6) rfl))) (g := (mkF m 66 #[.val (.int x0), .val (.int x1), .unset, .unset, .unset, .unset] [(.int (11 : Int32)), (.ref b1), (.ref b1)])) rfl (hb hby at_66) tG kG) ?_
  obtain ⟨T24, h24, X24, e24, W24, A24, st24⟩ := own_stI X22 hx hZ e22 A22 (j := (11 : Int32)) (x := (65534 : Int32)) ⟨by decide, by decide⟩ (pc := 68) (Ls := #[.val (.int x0), .val (.int x1), .unset, .unset, .unset, .unset]) (rest := [(.ref b1)]) (hb hby at_68)
  have f25 := f23.wr W24
  replace A24 : Arf Z h24 b1 k1 .int (15 : Int32) (own_upd own_w0_4 11 (65534 : Int32)) := A24
  have K24 := K22.wr W24 (Or.inr sz_b1)
  have N24 := Fr.snoc X24 N22 g_b1
  have Z24 := Nat.le_trans Z22 (Keep.of_wr W24).1
  refine Go.via (U' := T24.setTop (mkF m 69 #[.val (.int x0), .val (.int x1), .unset, .unset, .unset, .unset] [(.ref b1)])) (fun tG kG => st24 tG kG) ?_
  refine Go.via (U' := T24.setTop (mkF m 70 #[.val (.int x0), .val (.int x1), .unset, .unset, .unset, .unset] [(.ref b1), (.ref b1)])) (fun tG kG => XS.dup X24.here hx rfl (hb hby at_69) rfl rfl kG) ?_
  refine Go.via (U' := T24.setTop (mkF m 72 #[.val (.int x0), .val (.int x1), .unset, .unset, .unset, .unset] [(.int (12 : Int32)), (.ref b1), (.ref b1)])) (fun tG kG => XS.bipush X24.here hx rfl (hb hby at_70) kG) ?_
  refine Go.via (U' := T24.setTop (mkF m 74 #[.val (.int x0), .val (.int x1), .unset, .unset, .unset, .unset] [(.int (65535 : Int32)), (.int (12 : Int32)), (.ref b1), (.ref b1)])) (fun tG kG => X24.ldcInt hx hown (mvT hZ (hw _ (List.mem_of_getElem? (i := 7) rfl))) (g := (mkF m 72 #[.val (.int x0), .val (.int x1), .unset, .unset, .unset, .unset] [(.int (12 : Int32)), (.ref b1), (.ref b1)])) rfl (hb hby at_72) tG kG) ?_
  obtain ⟨T26, h26, X26, e26, W26, A26, st26⟩ := own_stI X24 hx hZ e24 A24 (j := (12 : Int32)) (x := (65535 : Int32)) ⟨by decide, by decide⟩ (pc := 74) (Ls := #[.val (.int x0), .val (.int x1), .unset, .unset, .unset, .unset]) (rest := [(.ref b1)]) (hb hby at_74)
  have f27 := f25.wr W26
  replace A26 : Arf Z h26 b1 k1 .int (15 : Int32) own_w0_5 := A26
  have K26 := K24.wr W26 (Or.inr sz_b1)
  have N26 := Fr.snoc X26 N24 g_b1
  have Z26 := Nat.le_trans Z24 (Keep.of_wr W26).1
  refine Go.via (U' := T26.setTop (mkF m 75 #[.val (.int x0), .val (.int x1), .unset, .unset, .unset, .unset] [(.ref b1)])) (fun tG kG => st26 tG kG) ?_
  refine Go.via (U' := T26.setTop (mkF m 76 #[.val (.int x0), .val (.int x1), .unset, .unset, .unset, .unset] [(.ref b1), (.ref b1)])) (fun tG kG => XS.dup X26.here hx rfl (hb hby at_75) rfl rfl kG) ?_
  refine Go.via (U' := T26.setTop (mkF m 78 #[.val (.int x0), .val (.int x1), .unset, .unset, .unset, .unset] [(.int (13 : Int32)), (.ref b1), (.ref b1)])) (fun tG kG => XS.bipush X26.here hx rfl (hb hby at_76) kG) ?_
  refine Go.via (U' := T26.setTop (mkF m 80 #[.val (.int x0), .val (.int x1), .unset, .unset, .unset, .unset] [(.int (65536 : Int32)), (.int (13 : Int32)), (.ref b1), (.ref b1)])) (fun tG kG => X26.ldcInt hx hown (mvT hZ (hw _ (List.mem_of_getElem? (i := 8) rfl))) (g := (mkF m 78 #[.val (.int x0), .val (.int x1), .unset, .unset, .unset, .unset] [(.int (13 : Int32)), (.ref b1), (.ref b1)])) rfl (hb hby at_78) tG kG) ?_
  obtain ⟨T28, h28, X28, e28, W28, A28, st28⟩ := own_stI X26 hx hZ e26 A26 (j := (13 : Int32)) (x := (65536 : Int32)) ⟨by decide, by decide⟩ (pc := 80) (Ls := #[.val (.int x0), .val (.int x1), .unset, .unset, .unset, .unset]) (rest := [(.ref b1)]) (hb hby at_80)
  have f29 := f27.wr W28
  replace A28 : Arf Z h28 b1 k1 .int (15 : Int32) (own_upd own_w0_5 13 (65536 : Int32)) := A28
  have K28 := K26.wr W28 (Or.inr sz_b1)
  have N28 := Fr.snoc X28 N26 g_b1
  have Z28 := Nat.le_trans Z26 (Keep.of_wr W28).1
  refine Go.via (U' := T28.setTop (mkF m 81 #[.val (.int x0), .val (.int x1), .unset, .unset, .unset, .unset] [(.ref b1)])) (fun tG kG => st28 tG kG) ?_
  refine Go.via (U' := T28.setTop (mkF m 82 #[.val (.int x0), .val (.int x1), .unset, .unset, .unset, .unset] [(.ref b1), (.ref b1)])) (fun tG kG => XS.dup X28.here hx rfl (hb hby at_81) rfl rfl kG) ?_
  refine Go.via (U' := T28.setTop (mkF m 84 #[.val (.int x0), .val (.int x1), .unset, .unset, .unset, .unset] [(.int (14 : Int32)), (.ref b1), (.ref b1)])) (fun tG kG => XS.bipush X28.here hx rfl (hb hby at_82) kG) ?_
  refine Go.via (U' := T28.setTop (mkF m 86 #[.val (.int x0), .val (.int x1), .unset, .unset, .unset, .unset] [(.int (1114111 : Int32)), (.int (14 : Int32)), (.ref b1), (.ref b1)])) (fun tG kG => X28.ldcInt hx hown (mvT hZ (hw _ (List.mem_of_getElem? (i := 9) rfl))) (g := (mkF m 84 #[.val (.int x0), .val (.int x1), .unset, .unset, .unset, .unset] [(.int (14 : Int32)), (.ref b1), (.ref b1)])) rfl (hb hby at_84) tG kG) ?_
  obtain ⟨T30, h30, X30, e30, W30, A30, st30⟩ := own_stI X28 hx hZ e28 A28 (j := (14 : Int32)) (x := (1114111 : Int32)) ⟨by decide, by decide⟩ (pc := 86) (Ls := #[.val (.int x0), .val (.int x1), .unset, .unset, .unset, .unset]) (rest := [(.ref b1)]) (hb hby at_86)
  have f31 := f29.wr W30
  replace A30 : Arf Z h30 b1 k1 .int (15 : Int32) own_w0_6 := A30
  have K30 := K28.wr W30 (Or.inr sz_b1)
  have N30 := Fr.snoc X30 N28 g_b1
  have Z30 := Nat.le_trans Z28 (Keep.of_wr W30).1
  refine Go.via (U' := T30.setTop (mkF m 87 #[.val (.int x0), .val (.int x1), .unset, .unset, .unset, .unset] [(.ref b1)])) (fun tG kG => st30 tG kG) ?_
  refine Go.via (U' := T30.setTop (mkF m 88 #[.val (.int x0), .val (.int x1), .val (.ref b1), .unset, .unset, .unset] [])) (fun tG kG => XS.astoreN X30.here hx rfl (hb hby at_87) rfl rfl (l' := #[.val (.int x0), .val (.int x1), .val (.ref b1), .unset, .unset, .unset]) rfl kG) ?_
  refine Go.via (U' := T30.setTop (mkF m 89 #[.val (.int x0), .val (.int x1), .val (.ref b1), .unset, .unset, .unset] [(.int x1)])) (fun tG kG => XS.iloadN X30.here hx rfl (hb hby at_88) rfl kG) ?_
  refine Go.via (U' := T30.setTop (mkF m 90 #[.val (.int x0), .val (.int x1), .val (.ref b1), .unset, .unset, .unset] [(.int (1 : Int32)), (.int x1)])) (fun tG kG => XS.iconst X30.here hx rfl (hb hby at_89) kG) ?_
  refine Go.via (U' := T30.setTop (mkF m 91 #[.val (.int x0), .val (.int x1), .val (.ref b1), .unset, .unset, .unset] [(.int (x1 &&& (1 : Int32)))])) (fun tG kG => XS.iand X30.here hx rfl (hb hby at_90) rfl kG) ?_
  have J34 : ∀ T' h' L' (sl32 : Slot) (sl33 : Slot), Stand p l e room_1 s m #[(.int x0), (.int x1)] below meth c T' L' 1 15 → T'.heap = h' → Fr n0 L' → n0 ≤ h'.size → Keep h0 h' [] → One sl32 → One sl33 → Exa Z h' b1 "[I" → Arf Z h' b1 k1 .int (15 : Int32) own_w0_6 → Go p e below s room_1.cells room_1.slots (fun v h L => v = some (.int (own_f0 x0 x1)) ∧ Fr n0 L) (T'.setTop (mkF m 137 #[.val (.int x0), .val (.int x1), .val (.ref b1), .val (.int (own_h0_91_l3 x0 x1)), sl32, sl33] [])) := by
    intro T35 h36 L37 sl32 sl33 X38 e39 N40 Z41 K42 osl32 osl33 f43 f44
    refine Go.via (U' := T35.setTop (mkF m 138 #[.val (.int x0), .val (.int x1), .val (.ref b1), .val (.int (own_h0_91_l3 x0 x1)), sl32, sl33] [(.int (own_h0_91_l3 x0 x1))])) (fun tG kG => XS.iloadN X38.here hx rfl (hb hby at_137) rfl kG) ?_
    obtain ⟨T45, X45, e45, st45⟩ := callS0 X38 hx hZ hown (hw _ (List.mem_of_getElem? (i := 17) rfl)) (hw _ (List.mem_of_getElem? (i := 18) rfl)) (hw _ (List.mem_of_getElem? (i := 19) rfl)) (hw _ (List.mem_of_getElem? (i := 20) rfl)) (by decide) (av := [(.int (own_h0_91_l3 x0 x1))]) (own_rm3 l Z a0 hw [] (own_h0_91_l3 x0 x1)  h36) e39 (pc := 138) (Ls := #[.val (.int x0), .val (.int x1), .val (.ref b1), .val (.int (own_h0_91_l3 x0 x1)), sl32, sl33]) (rest := []) (by rw [hml]; rfl) own_k84 rfl 0 (Nat.le_of_eq rfl) (by decide) (by decide) (by decide) (by decide) (hb hby at_138)
    refine Go.via (U' := T45.setTop (mkF m 141 #[.val (.int x0), .val (.int x1), .val (.ref b1), .val (.int (own_h0_91_l3 x0 x1)), sl32, sl33] [(.int (own_f3 (own_h0_91_l3 x0 x1)))])) (fun tG kG => st45 tG kG) ?_
    refine Go.via (U' := T45.setTop (mkF m 142 #[.val (.int x0), .val (.int x1), .val (.ref b1), .val (.int (own_h0_91_l3 x0 x1)), sl32, sl33] [(.int (own_h0_91_l3 x0 x1)), (.int (own_f3 (own_h0_91_l3 x0 x1)))])) (fun tG kG => XS.iloadN X45.here hx rfl (hb hby at_141) rfl kG) ?_
    obtain ⟨T46, X46, e46, st46⟩ := callS0 X45 hx hZ hown (hw _ (List.mem_of_getElem? (i := 23) rfl)) (hw _ (List.mem_of_getElem? (i := 24) rfl)) (hw _ (List.mem_of_getElem? (i := 25) rfl)) (hw _ (List.mem_of_getElem? (i := 26) rfl)) (by decide) (av := [(.int (own_h0_91_l3 x0 x1))]) (own_rm4 l Z a0 hw [] (own_h0_91_l3 x0 x1)  h36) e45 (pc := 142) (Ls := #[.val (.int x0), .val (.int x1), .val (.ref b1), .val (.int (own_h0_91_l3 x0 x1)), sl32, sl33]) (rest := [(.int (own_f3 (own_h0_91_l3 x0 x1)))]) (by rw [hml]; rfl) own_k84 rfl 1 (Nat.le_of_eq rfl) (by decide) (by decide) (by decide) (by decide) (hb hby at_142)
    refine Go.via (U' := T46.setTop (mkF m 145 #[.val (.int x0), .val (.int x1), .val (.ref b1), .val (.int (own_h0_91_l3 x0 x1)), sl32, sl33] [(.int (own_f4 (own_h0_91_l3 x0 x1))), (.int (own_f3 (own_h0_91_l3 x0 x1)))])) (fun tG kG => st46 tG kG) ?_
    have J47 : ∀ T' L', Stand p l e room_1 s m #[(.int x0), (.int x1)] below meth c T' L' 1 15 → T'.heap = h36 → Fr n0 L' → Go p e below s room_1.cells room_1.slots (fun v h L => v = some (.int (own_f0 x0 x1)) ∧ Fr n0 L) (T'.setTop (mkF m 153 #[.val (.int x0), .val (.int x1), .val (.ref b1), .val (.int (own_h0_91_l3 x0 x1)), sl32, sl33] [(.int (own_j0_145_s0 x0 x1)), (.int (own_f3 (own_h0_91_l3 x0 x1)))])) := by
      intro T48 L51 X49 e50 N52
      by_cases hc153 : (own_f3 (own_h0_91_l3 x0 x1)) = (own_j0_145_s0 x0 x1)
      · refine Go.via (U' := T48.setTop (mkF m 156 #[.val (.int x0), .val (.int x1), .val (.ref b1), .val (.int (own_h0_91_l3 x0 x1)), sl32, sl33] [])) (fun tG kG => XS.icmpNo X49.here hx rfl (hb hby at_153) rfl (teq hc153).2 kG) ?_
        refine Go.via (U' := T48.setTop (mkF m 157 #[.val (.int x0), .val (.int x1), .val (.ref b1), .val (.int (own_h0_91_l3 x0 x1)), sl32, sl33] [(.int (1 : Int32))])) (fun tG kG => XS.iconst X49.here hx rfl (hb hby at_156) kG) ?_
        refine Go.via (U' := T48.setTop (mkF m 161 #[.val (.int x0), .val (.int x1), .val (.ref b1), .val (.int (own_h0_91_l3 x0 x1)), sl32, sl33] [(.int (1 : Int32))])) (fun tG kG => XS.goto X49.here hx rfl (pc0 := 157) (pc' := 161) rfl (hb hby at_157) (by decide) (by decide) kG) ?_
        exact go_retN X49 hx hlk (t := .boolean) hret (by simp) (hb hby at_161) e50 ⟨(congrArg (fun z => some (Value.int z)) (show nar .boolean (1 : Int32) = (own_f0 x0 x1) from by unfold own_f0; simp only [if_pos hc153] <;> rfl)), N52⟩ (by decide) (by decide)
      · refine Go.via (U' := T48.setTop (mkF m 160 #[.val (.int x0), .val (.int x1), .val (.ref b1), .val (.int (own_h0_91_l3 x0 x1)), sl32, sl33] [])) (fun tG kG => XS.icmpYes X49.here hx rfl (pc0 := 153) (pc' := 160) rfl (hb hby at_153) rfl (feq hc153).2 (by decide) (by decide) kG) ?_
        refine Go.via (U' := T48.setTop (mkF m 161 #[.val (.int x0), .val (.int x1), .val (.ref b1), .val (.int (own_h0_91_l3 x0 x1)), sl32, sl33] [(.int (0 : Int32))])) (fun tG kG => XS.iconst X49.here hx rfl (hb hby at_160) kG) ?_
        exact go_retN X49 hx hlk (t := .boolean) hret (by simp) (hb hby at_161) e50 ⟨(congrArg (fun z => some (Value.int z)) (show nar .boolean (0 : Int32) = (own_f0 x0 x1) from by unfold own_f0; simp only [if_neg hc153] <;> rfl)), N52⟩ (by decide) (by decide)
    by_cases hc145 : (own_f4 (own_h0_91_l3 x0 x1)) = (0 : Int32)
    · refine Go.via (U' := T46.setTop (mkF m 148 #[.val (.int x0), .val (.int x1), .val (.ref b1), .val (.int (own_h0_91_l3 x0 x1)), sl32, sl33] [(.int (own_f3 (own_h0_91_l3 x0 x1)))])) (fun tG kG => XS.ifNo X46.here hx rfl (hb hby at_145) rfl ((if0 _ _).trans (teq hc145).2) kG) ?_
      refine Go.via (U' := T46.setTop (mkF m 149 #[.val (.int x0), .val (.int x1), .val (.ref b1), .val (.int (own_h0_91_l3 x0 x1)), sl32, sl33] [(.int (1 : Int32)), (.int (own_f3 (own_h0_91_l3 x0 x1)))])) (fun tG kG => XS.iconst X46.here hx rfl (hb hby at_148) kG) ?_
      refine Go.via (U' := T46.setTop (mkF m 153 #[.val (.int x0), .val (.int x1), .val (.ref b1), .val (.int (own_h0_91_l3 x0 x1)), sl32, sl33] [(.int (1 : Int32)), (.int (own_f3 (own_h0_91_l3 x0 x1)))])) (fun tG kG => XS.goto X46.here hx rfl (pc0 := 149) (pc' := 153) rfl (hb hby at_149) (by decide) (by decide) kG) ?_
      have q_own_j0_145_s0 : (own_j0_145_s0 x0 x1) = (1 : Int32) := by unfold own_j0_145_s0; simp only [if_pos hc145]
      have q_J := J47 T46 _ X46 e46 N40
      rw [q_own_j0_145_s0] at q_J
      exact q_J
    · refine Go.via (U' := T46.setTop (mkF m 152 #[.val (.int x0), .val (.int x1), .val (.ref b1), .val (.int (own_h0_91_l3 x0 x1)), sl32, sl33] [(.int (own_f3 (own_h0_91_l3 x0 x1)))])) (fun tG kG => XS.ifYes X46.here hx rfl (pc0 := 145) (pc' := 152) rfl (hb hby at_145) rfl ((if0 _ _).trans (feq hc145).2) (by decide) (by decide) kG) ?_
      refine Go.via (U' := T46.setTop (mkF m 153 #[.val (.int x0), .val (.int x1), .val (.ref b1), .val (.int (own_h0_91_l3 x0 x1)), sl32, sl33] [(.int (0 : Int32)), (.int (own_f3 (own_h0_91_l3 x0 x1)))])) (fun tG kG => XS.iconst X46.here hx rfl (hb hby at_152) kG) ?_
      have q_own_j0_145_s0 : (own_j0_145_s0 x0 x1) = (0 : Int32) := by unfold own_j0_145_s0; simp only [if_neg hc145]
      have q_J := J47 T46 _ X46 e46 N40
      rw [q_own_j0_145_s0] at q_J
      exact q_J
  by_cases hc91 : (x1 &&& (1 : Int32)) = (0 : Int32)
  · refine Go.via (U' := T30.setTop (mkF m 129 #[.val (.int x0), .val (.int x1), .val (.ref b1), .unset, .unset, .unset] [])) (fun tG kG => XS.ifYes X30.here hx rfl (pc0 := 91) (pc' := 129) rfl (hb hby at_91) rfl ((if0 _ _).trans (teq hc91).1) (by decide) (by decide) kG) ?_
    refine Go.via (U' := T30.setTop (mkF m 130 #[.val (.int x0), .val (.int x1), .val (.ref b1), .unset, .unset, .unset] [(.int x0)])) (fun tG kG => XS.iloadN X30.here hx rfl (hb hby at_129) rfl kG) ?_
    refine Go.via (U' := T30.setTop (mkF m 132 #[.val (.int x0), .val (.int x1), .val (.ref b1), .unset, .unset, .unset] [(.int (2147483647 : Int32)), (.int x0)])) (fun tG kG => X30.ldcInt hx hown (mvT hZ (hw _ (List.mem_of_getElem? (i := 27) rfl))) (g := (mkF m 130 #[.val (.int x0), .val (.int x1), .val (.ref b1), .unset, .unset, .unset] [(.int x0)])) rfl (hb hby at_130) tG kG) ?_
    refine Go.via (U' := T30.setTop (mkF m 133 #[.val (.int x0), .val (.int x1), .val (.ref b1), .unset, .unset, .unset] [(.int (x0 &&& (2147483647 : Int32)))])) (fun tG kG => XS.iand X30.here hx rfl (hb hby at_132) rfl kG) ?_
    refine Go.via (U' := T30.setTop (mkF m 135 #[.val (.int x0), .val (.int x1), .val (.ref b1), .unset, .unset, .unset] [(.int (1114112 : Int32)), (.int (x0 &&& (2147483647 : Int32)))])) (fun tG kG => X30.ldcInt hx hown (mvT hZ (hw _ (List.mem_of_getElem? (i := 28) rfl))) (g := (mkF m 133 #[.val (.int x0), .val (.int x1), .val (.ref b1), .unset, .unset, .unset] [(.int (x0 &&& (2147483647 : Int32)))])) rfl (hb hby at_133) tG kG) ?_
    refine Go.via (U' := T30.setTop (mkF m 136 #[.val (.int x0), .val (.int x1), .val (.ref b1), .unset, .unset, .unset] [(.int ((x0 &&& (2147483647 : Int32)) % (1114112 : Int32)))])) (fun tG kG => iremM X30 hx rfl (hb hby at_135) rfl (by decide) kG) ?_
    refine Go.via (U' := T30.setTop (mkF m 137 #[.val (.int x0), .val (.int x1), .val (.ref b1), .val (.int ((x0 &&& (2147483647 : Int32)) % (1114112 : Int32))), .unset, .unset] [])) (fun tG kG => XS.istoreN X30.here hx rfl (hb hby at_136) rfl (l' := #[.val (.int x0), .val (.int x1), .val (.ref b1), .val (.int ((x0 &&& (2147483647 : Int32)) % (1114112 : Int32))), .unset, .unset]) rfl kG) ?_
    have q_own_h0_91_l3 : (own_h0_91_l3 x0 x1) = ((x0 &&& (2147483647 : Int32)) % (1114112 : Int32)) := by unfold own_h0_91_l3; simp only [if_pos hc91]
    have q_J := J34 T30 _ _ (.unset) (.unset) X30 e30 N30 Z30 K30 (One.u) (One.u) f31 A30
    rw [q_own_h0_91_l3] at q_J
    exact q_J
  · refine Go.via (U' := T30.setTop (mkF m 94 #[.val (.int x0), .val (.int x1), .val (.ref b1), .unset, .unset, .unset] [])) (fun tG kG => XS.ifNo X30.here hx rfl (hb hby at_91) rfl ((if0 _ _).trans (feq hc91).1) kG) ?_
    refine Go.via (U' := T30.setTop (mkF m 95 #[.val (.int x0), .val (.int x1), .val (.ref b1), .unset, .unset, .unset] [(.ref b1)])) (fun tG kG => XS.aloadN X30.here hx rfl (hb hby at_94) rfl rfl kG) ?_
    refine Go.via (U' := T30.setTop (mkF m 96 #[.val (.int x0), .val (.int x1), .val (.ref b1), .unset, .unset, .unset] [(.int x1), (.ref b1)])) (fun tG kG => XS.iloadN X30.here hx rfl (hb hby at_95) rfl kG) ?_
    refine Go.via (U' := T30.setTop (mkF m 97 #[.val (.int x0), .val (.int x1), .val (.ref b1), .unset, .unset, .unset] [(.int (1 : Int32)), (.int x1), (.ref b1)])) (fun tG kG => XS.iconst X30.here hx rfl (hb hby at_96) kG) ?_
    refine Go.via (U' := T30.setTop (mkF m 98 #[.val (.int x0), .val (.int x1), .val (.ref b1), .unset, .unset, .unset] [(.int (own_ushr x1 (1 : Int32))), (.ref b1)])) (fun tG kG => XS.iushr X30.here hx rfl (hb hby at_97) rfl kG) ?_
    refine Go.via (U' := T30.setTop (mkF m 100 #[.val (.int x0), .val (.int x1), .val (.ref b1), .unset, .unset, .unset] [(.int (15 : Int32)), (.int (own_ushr x1 (1 : Int32))), (.ref b1)])) (fun tG kG => XS.bipush X30.here hx rfl (hb hby at_98) kG) ?_
    refine Go.via (U' := T30.setTop (mkF m 101 #[.val (.int x0), .val (.int x1), .val (.ref b1), .unset, .unset, .unset] [(.int ((own_ushr x1 (1 : Int32)) % (15 : Int32))), (.ref b1)])) (fun tG kG => iremM X30 hx rfl (hb hby at_100) rfl (by decide) kG) ?_
    refine Go.via (U' := T30.setTop (mkF m 102 #[.val (.int x0), .val (.int x1), .val (.ref b1), .unset, .unset, .unset] [(.int (own_w0_7 x1))])) (fun tG kG => own_ldI X30 hx hZ e30 A30 (j := ((own_ushr x1 (1 : Int32)) % (15 : Int32))) (own_ix x1) (hb hby at_101) tG kG) ?_
    refine Go.via (U' := T30.setTop (mkF m 104 #[.val (.int x0), .val (.int x1), .val (.ref b1), .unset, .val (.int (own_w0_7 x1)), .unset] [])) (fun tG kG => XS.istore X30.here hx rfl (hb hby at_102) rfl (l' := #[.val (.int x0), .val (.int x1), .val (.ref b1), .unset, .val (.int (own_w0_7 x1)), .unset]) rfl kG) ?_
    refine Go.via (U' := T30.setTop (mkF m 105 #[.val (.int x0), .val (.int x1), .val (.ref b1), .unset, .val (.int (own_w0_7 x1)), .unset] [(.int x0)])) (fun tG kG => XS.iloadN X30.here hx rfl (hb hby at_104) rfl kG) ?_
    refine Go.via (U' := T30.setTop (mkF m 106 #[.val (.int x0), .val (.int x1), .val (.ref b1), .unset, .val (.int (own_w0_7 x1)), .unset] [(.int (3 : Int32)), (.int x0)])) (fun tG kG => XS.iconst X30.here hx rfl (hb hby at_105) kG) ?_
    refine Go.via (U' := T30.setTop (mkF m 107 #[.val (.int x0), .val (.int x1), .val (.ref b1), .unset, .val (.int (own_w0_7 x1)), .unset] [(.int (x0 &&& (3 : Int32)))])) (fun tG kG => XS.iand X30.here hx rfl (hb hby at_106) rfl kG) ?_
    refine Go.via (U' := T30.setTop (mkF m 108 #[.val (.int x0), .val (.int x1), .val (.ref b1), .unset, .val (.int (own_w0_7 x1)), .unset] [(.int (1 : Int32)), (.int (x0 &&& (3 : Int32)))])) (fun tG kG => XS.iconst X30.here hx rfl (hb hby at_107) kG) ?_
    refine Go.via (U' := T30.setTop (mkF m 109 #[.val (.int x0), .val (.int x1), .val (.ref b1), .unset, .val (.int (own_w0_7 x1)), .unset] [(.int ((x0 &&& (3 : Int32)) - (1 : Int32)))])) (fun tG kG => XS.isub X30.here hx rfl (hb hby at_108) rfl kG) ?_
    refine Go.via (U' := T30.setTop (mkF m 111 #[.val (.int x0), .val (.int x1), .val (.ref b1), .unset, .val (.int (own_w0_7 x1)), .val (.int ((x0 &&& (3 : Int32)) - (1 : Int32)))] [])) (fun tG kG => XS.istore X30.here hx rfl (hb hby at_109) rfl (l' := #[.val (.int x0), .val (.int x1), .val (.ref b1), .unset, .val (.int (own_w0_7 x1)), .val (.int ((x0 &&& (3 : Int32)) - (1 : Int32)))]) rfl kG) ?_
    refine Go.via (U' := T30.setTop (mkF m 113 #[.val (.int x0), .val (.int x1), .val (.ref b1), .unset, .val (.int (own_w0_7 x1)), .val (.int ((x0 &&& (3 : Int32)) - (1 : Int32)))] [(.int (1114111 : Int32))])) (fun tG kG => X30.ldcInt hx hown (mvT hZ (hw _ (List.mem_of_getElem? (i := 9) rfl))) (g := (mkF m 111 #[.val (.int x0), .val (.int x1), .val (.ref b1), .unset, .val (.int (own_w0_7 x1)), .val (.int ((x0 &&& (3 : Int32)) - (1 : Int32)))] [])) rfl (hb hby at_111) tG kG) ?_
    refine Go.via (U' := T30.setTop (mkF m 114 #[.val (.int x0), .val (.int x1), .val (.ref b1), .unset, .val (.int (own_w0_7 x1)), .val (.int ((x0 &&& (3 : Int32)) - (1 : Int32)))] [(.int (0 : Int32)), (.int (1114111 : Int32))])) (fun tG kG => XS.iconst X30.here hx rfl (hb hby at_113) kG) ?_
    refine Go.via (U' := T30.setTop (mkF m 116 #[.val (.int x0), .val (.int x1), .val (.ref b1), .unset, .val (.int (own_w0_7 x1)), .val (.int ((x0 &&& (3 : Int32)) - (1 : Int32)))] [(.int (own_w0_7 x1)), (.int (0 : Int32)), (.int (1114111 : Int32))])) (fun tG kG => XS.iload X30.here hx rfl (hb hby at_114) rfl kG) ?_
    refine Go.via (U' := T30.setTop (mkF m 118 #[.val (.int x0), .val (.int x1), .val (.ref b1), .unset, .val (.int (own_w0_7 x1)), .val (.int ((x0 &&& (3 : Int32)) - (1 : Int32)))] [(.int ((x0 &&& (3 : Int32)) - (1 : Int32))), (.int (own_w0_7 x1)), (.int (0 : Int32)), (.int (1114111 : Int32))])) (fun tG kG => XS.iload X30.here hx rfl (hb hby at_116) rfl kG) ?_
    refine Go.via (U' := T30.setTop (mkF m 119 #[.val (.int x0), .val (.int x1), .val (.ref b1), .unset, .val (.int (own_w0_7 x1)), .val (.int ((x0 &&& (3 : Int32)) - (1 : Int32)))] [(.int ((own_w0_7 x1) + ((x0 &&& (3 : Int32)) - (1 : Int32)))), (.int (0 : Int32)), (.int (1114111 : Int32))])) (fun tG kG => XS.iadd X30.here hx rfl (hb hby at_118) rfl kG) ?_
    obtain ⟨T53, X53, e53, st53⟩ := callS0 X30 hx hZ hown (hw _ (List.mem_of_getElem? (i := 10) rfl)) (hw _ (List.mem_of_getElem? (i := 11) rfl)) (hw _ (List.mem_of_getElem? (i := 12) rfl)) (hw _ (List.mem_of_getElem? (i := 13) rfl)) (by decide) (av := [(.int (0 : Int32)), (.int ((own_w0_7 x1) + ((x0 &&& (3 : Int32)) - (1 : Int32))))]) (own_rm1 l Z a0 hw [] (0 : Int32) ((own_w0_7 x1) + ((x0 &&& (3 : Int32)) - (1 : Int32)))  h30) e30 (pc := 119) (Ls := #[.val (.int x0), .val (.int x1), .val (.ref b1), .unset, .val (.int (own_w0_7 x1)), .val (.int ((x0 &&& (3 : Int32)) - (1 : Int32)))]) (rest := [(.int (1114111 : Int32))]) (by rw [hml]; rfl) own_k83 rfl 1 (Nat.le_of_eq rfl) (by decide) (by decide) (by decide) (by decide) (hb hby at_119)
    refine Go.via (U' := T53.setTop (mkF m 122 #[.val (.int x0), .val (.int x1), .val (.ref b1), .unset, .val (.int (own_w0_7 x1)), .val (.int ((x0 &&& (3 : Int32)) - (1 : Int32)))] [(.int (own_f1 (0 : Int32) ((own_w0_7 x1) + ((x0 &&& (3 : Int32)) - (1 : Int32))))), (.int (1114111 : Int32))])) (fun tG kG => st53 tG kG) ?_
    obtain ⟨T54, X54, e54, st54⟩ := callS0 X53 hx hZ hown (hw _ (List.mem_of_getElem? (i := 14) rfl)) (hw _ (List.mem_of_getElem? (i := 15) rfl)) (hw _ (List.mem_of_getElem? (i := 12) rfl)) (hw _ (List.mem_of_getElem? (i := 16) rfl)) (by decide) (av := [(.int (1114111 : Int32)), (.int (own_f1 (0 : Int32) ((own_w0_7 x1) + ((x0 &&& (3 : Int32)) - (1 : Int32)))))]) (own_rm2 l Z a0 hw [] (1114111 : Int32) (own_f1 (0 : Int32) ((own_w0_7 x1) + ((x0 &&& (3 : Int32)) - (1 : Int32))))  h30) e53 (pc := 122) (Ls := #[.val (.int x0), .val (.int x1), .val (.ref b1), .unset, .val (.int (own_w0_7 x1)), .val (.int ((x0 &&& (3 : Int32)) - (1 : Int32)))]) (rest := []) (by rw [hml]; rfl) own_k83 rfl 0 (Nat.le_of_eq rfl) (by decide) (by decide) (by decide) (by decide) (hb hby at_122)
    refine Go.via (U' := T54.setTop (mkF m 125 #[.val (.int x0), .val (.int x1), .val (.ref b1), .unset, .val (.int (own_w0_7 x1)), .val (.int ((x0 &&& (3 : Int32)) - (1 : Int32)))] [(.int (own_f2 (1114111 : Int32) (own_f1 (0 : Int32) ((own_w0_7 x1) + ((x0 &&& (3 : Int32)) - (1 : Int32))))))])) (fun tG kG => st54 tG kG) ?_
    refine Go.via (U' := T54.setTop (mkF m 126 #[.val (.int x0), .val (.int x1), .val (.ref b1), .val (.int (own_w0_8 x0 x1)), .val (.int (own_w0_7 x1)), .val (.int ((x0 &&& (3 : Int32)) - (1 : Int32)))] [])) (fun tG kG => XS.istoreN X54.here hx rfl (hb hby at_125) rfl (l' := #[.val (.int x0), .val (.int x1), .val (.ref b1), .val (.int (own_w0_8 x0 x1)), .val (.int (own_w0_7 x1)), .val (.int ((x0 &&& (3 : Int32)) - (1 : Int32)))]) rfl kG) ?_
    refine Go.via (U' := T54.setTop (mkF m 137 #[.val (.int x0), .val (.int x1), .val (.ref b1), .val (.int (own_w0_8 x0 x1)), .val (.int (own_w0_7 x1)), .val (.int ((x0 &&& (3 : Int32)) - (1 : Int32)))] [])) (fun tG kG => XS.goto X54.here hx rfl (pc0 := 126) (pc' := 137) rfl (hb hby at_126) (by decide) (by decide) kG) ?_
    have q_own_h0_91_l3 : (own_h0_91_l3 x0 x1) = (own_w0_8 x0 x1) := by unfold own_h0_91_l3; simp only [if_neg hc91]
    have q_J := J34 T54 _ _ (.val (.int (own_w0_7 x1))) (.val (.int ((x0 &&& (3 : Int32)) - (1 : Int32)))) X54 e54 N30 Z30 K30 (One.val rfl) (One.val rfl) f31 A30
    rw [q_own_h0_91_l3] at q_J
    exact q_J
theorem own_rg (x y : Int32) : 0 ≤ (own_h0_91_l3 x y).toInt ∧ (own_h0_91_l3 x y).toInt ≤ 1114111 := by
  unfold own_h0_91_l3
  split
  · have m := c_mask x 2147483647 31 (by decide) (by decide)
    have r := (c_irem (x &&& 2147483647) 1114112 1114112 rfl).1 (by omega)
    omega
  · unfold own_w0_8 own_f2 own_f1
    generalize (own_w0_7 y + ((x &&& 3) - 1)) = v
    have e0 : (0 : Int32).toInt = 0 := rfl
    have e1 : (1114111 : Int32).toInt = 1114111 := rfl
    by_cases a : (0 : Int32) < v
    · simp only [if_pos a]
      by_cases b : v < 1114111
      · simp only [if_pos b]; rw [Int32.lt_iff_toInt_lt] at a b; omega
      · simp only [if_neg b]; omega
    · simp only [if_neg a]; decide
def own_ok (n : Int) : Prop := n = 9 ∨ n = 10 ∨ n = 13 ∨ (32 ≤ n ∧ n ≤ 55295) ∨ (57344 ≤ n ∧ n ≤ 65533) ∨ (65536 ≤ n ∧ n ≤ 1114111)
theorem own_p3 (c : Int32) (h0 : 0 ≤ c.toInt) (h1 : c.toInt ≤ 1114111) : (own_ok c.toInt → own_f3 c = 1) ∧ (¬ own_ok c.toInt → own_f3 c = 0) := by
  unfold own_f3 own_ok
  simp only [Int32.lt_iff_toInt_lt, ← Int32.toInt_inj, show (9 : Int32).toInt = 9 from rfl, show (10 : Int32).toInt = 10 from rfl, show (13 : Int32).toInt = 13 from rfl, show (32 : Int32).toInt = 32 from rfl, show (57344 : Int32).toInt = 57344 from rfl, show (65536 : Int32).toInt = 65536 from rfl, show (65533 : Int32).toInt = 65533 from rfl, show (55295 : Int32).toInt = 55295 from rfl, show (1114111 : Int32).toInt = 1114111 from rfl]
  constructor
  · intro q
    repeat' split
    all_goals first | rfl | (exfalso; omega)
  · intro q
    repeat' split
    all_goals first | rfl | (exfalso; omega)
theorem own_p4 (c : Int32) (h0 : 0 ≤ c.toInt) (h1 : c.toInt ≤ 1114111) : (own_ok c.toInt → own_f4 c = 0) ∧ (¬ own_ok c.toInt → own_f4 c = 1) := by
  unfold own_f4 own_ok
  simp only [Int32.lt_iff_toInt_lt, ← Int32.toInt_inj, show (9 : Int32).toInt = 9 from rfl, show (10 : Int32).toInt = 10 from rfl, show (13 : Int32).toInt = 13 from rfl, show (32 : Int32).toInt = 32 from rfl, show (57343 : Int32).toInt = 57343 from rfl, show (65534 : Int32).toInt = 65534 from rfl, show (65535 : Int32).toInt = 65535 from rfl, show (55296 : Int32).toInt = 55296 from rfl]
  constructor
  · intro q
    repeat' split
    all_goals first | rfl | (exfalso; omega)
  · intro q
    repeat' split
    all_goals first | rfl | (exfalso; omega)
theorem own_plain (x y : Int32) : own_f0 x y = 1 := by
  have r := own_rg x y
  unfold own_f0 own_j0_145_s0
  generalize own_h0_91_l3 x y = c at *
  have p3 := own_p3 c r.1 r.2
  have p4 := own_p4 c r.1 r.2
  by_cases q : own_ok c.toInt
  · rw [p3.1 q, p4.1 q]; decide
  · rw [p3.2 q, p4.2 q]; decide
set_option maxRecDepth 65536 in
set_option maxHeartbeats 40000000 in
theorem own_comes {Post : Tables → Env → Array Value → State → Outcome → State → Prop} (hpost : ∀ tb e args s v u, (limb_1_1.after args s (.returned v) u = true ∧ limb_1_2.after args s (.returned v) u = true) → FrameEnd s (.returned v) u (Jvm.fieldLocs frame_1_writes args s ++ Jvm.arrayLocs frame_1_arrays args s ++ Jvm.staticLocs frame_1_statics s) 16 128 → Post tb e args s (.returned v) u) :
    ArmFor flags0 classFile x code maxLocals ret World_1 tables_1 room_1 Calls_1 rest_1 Pre_1 Post := by
  intro l hfl _ _ p e ha hc hk s m args below hf hA hF happ hP
  obtain ⟨hcalls, hrest, hpre⟩ := hP
  obtain ⟨-, -, -, hnamed, -, -, -, hat⟩ := (Spec.applies_iff hf).mp happ
  obtain ⟨hg, hn⟩ := and_e (Cond.before_iff.mp (show (Jvm.Cond.and given_1 narrow_1).before args s = true from hpre))
  obtain ⟨hcnt, hg⟩ := and_e hg
  obtain ⟨w0, w1, rfl⟩ : ∃ w0 w1 : Value, args = #[w0, w1] := by
    have hs : args.size = 2 := by simpa [Cond.value, given_1] using hcnt
    obtain ⟨L⟩ := args
    match L, hs with
    | [w0, w1], _ => exact ⟨w0, w1, rfl⟩
  have hw := fun d (hd : d ∈ tables_1) => atoms_spec (ws := Jvm.Cond.code x code maxLocals ret :: tables_1) hat d (List.mem_cons_of_mem _ hd)
  have hfit : Fit s := fun {y c} hc i hi => by
    obtain ⟨ha, rfl⟩ := Array.getElem?_eq_some_iff.mp hc
    have q := List.all_eq_true.mp ((Array.all_eq_true_iff_forall_mem.mp hF) _ (Array.getElem_mem ha)) i (List.mem_range.mpr hi)
    simpa [Array.getElem?_eq_getElem hi] using q
  obtain ⟨hg0, hg⟩ := and_e hg
  obtain ⟨i0, ei0⟩ := is_v hg0
  obtain rfl : w0 = (.int i0) := Option.some.inj ei0
  obtain ⟨i1, ei1⟩ := is_v hg
  obtain rfl : w1 = (.int i1) := Option.some.inj ei1
  obtain ⟨n, o, h1, h2, h3, _, L, rfl, ⟨rfl, N⟩, hq⟩ := own_rm0 l s _ hw tables_1 i0 i1 s.heap s.heap.size (Nat.le_refl _) p e ha hc hk s m _ below hf ((Spec.applies_iff_loose hf).mp happ).1 ⟨rfl, State.Warmed39.refl s, rfl⟩ trivial
  refine ⟨n, _, h1, h2, h3, hpost _ _ _ _ _ _ ⟨Cond.after_iff.mpr rfl, Cond.after_iff.mpr (eq_i res_at (Term.int_eval (1)) (congrArg Value.int (own_plain i0 i1)))⟩ ⟨hq.1, hq.2.1, (hq.2.2.sift fun y hy => Or.inr (N y hy)).mono (by decide) (by decide)⟩⟩
theorem main_1_1 : Claimed_1_1 := own_comes fun _ _ _ _ _ _ h hF => ⟨h.1, hF⟩
theorem main_1_2 : Claimed_1_2 := own_comes fun _ _ _ _ _ _ h hF => ⟨h.2, hF⟩
end Jvm.Pilot.@@N@@
namespace Jvm.Pilot.@@N@@
open Jvm Jvm.ClassFile Sem Op Lib Jvm.Free Jvm.Stand Jvm.Pilot.@@N@@.Jvm.D
/-! MADE BY PROGRAM (witnessworld.py) out of the Statement's table words and the real class files: 10 classes; the members and pool entries that the words name. The judged class is class 1, her method 2. -/
namespace start1
open Jvm.ClassFile
def u (s : String) : CpInfo := .utf8 (stringToUtf16 s)
/-- a pool by its gaps: so many unusable entries, then the entry; so many at the end -/
def gap : Nat → List CpInfo → List CpInfo
  | 0, r => r
  | n + 1, r => .unusable :: gap n r
def poolList (es : List (Nat × CpInfo)) (last : Nat) : List CpInfo := es.foldr (fun e r => gap e.1 (e.2 :: r)) (gap last [])
def pool (es : List (Nat × CpInfo)) (last : Nat) : Array CpInfo := ⟨poolList es last⟩
def fileOf (pool : Array CpInfo) (this : Nat) (attrs : Array Attribute := #[]) (ms : Array MethodInfo := #[]) (fl : Nat := 33) (sup : Nat := 0) (ifs : Array Nat := #[]) (fds : Array FieldInfo := #[]) : ClassFile where
  minorVersion := 0
  majorVersion := 65
  constantPool := pool
  accessFlags := fl
  thisClass := this
  superClass := sup
  interfaces := ifs
  fields := fds
  methods := ms
  attributes := attrs
def plain (name : String) (sup : Option ClassId) : Class where
  name := name
  kind := .ordinary
  loader := none
  accessFlags := 33
  super := sup
  interfaces := #[]
  cf := none
  fields := #[]
  methods := #[]
  instanceTypes := #[]
  staticTypes := #[]
  resolved := #[]
  callSites := []
  init := .initialized
  statics := none
  mirror := none

def pool0 : Array CpInfo := pool [(5, u "<init>"), (0, u "()V"), (1, .class_ 10), (1, u "java/lang/Object")] 113

def k0m0 : Method := { name := "<init>", desc := "()V", sig := { parameters := [], returnType := none }, accessFlags := 1, code := none }
/-- java/lang/Object -/
def k0 : Class := { plain "java/lang/Object" none with
  accessFlags := 33
  interfaces := #[]
  cf := some (fileOf pool0 8 #[] #[{ accessFlags := 1, nameIndex := 5, descriptorIndex := 6, attributes := #[] }] 33 0 #[] #[])
  fields := #[]
  methods := #[k0m0]
  instanceTypes := #[]
  staticTypes := #[]
  resolved := Array.replicate 124 none
  statics := none }

def pool1 : Array CpInfo := pool [(2, .class_ 4), (1, u "java/lang/Object"), (0, u "<init>"), (0, u "()V"), (0, .integer 55296), (0, .integer 57343), (0, .integer 65534), (0, .integer 65535), (0, .integer 55295), (0, .integer 57344), (0, .integer 65533), (0, .integer 65536), (0, .integer 1114111), (0, .methodref 17 18), (0, .class_ 19), (0, .nameAndType 20 21), (0, u "java/lang/Math"), (0, u "max"), (0, u "(II)I"), (0, .methodref 17 23), (0, .nameAndType 24 21), (0, u "min"), (0, .integer 2147483647), (0, .integer 1114112), (0, .methodref 28 29), (0, .class_ 30), (0, .nameAndType 31 32), (0, u "com/example/dislope/dislope/io/XmlText"), (0, u "allows"), (0, u "(I)Z"), (0, .methodref 34 35), (0, .class_ 36), (0, .nameAndType 37 32), (0, u "com/example/dislope/dislope/io/XmlTextAllowsPinLaw"), (0, u "forbidden"), (3, u "law"), (0, u "(II)Z")] 4

def k1m0 : Method := { name := "<init>", desc := "()V", sig := { parameters := [], returnType := none }, accessFlags := 2, code := none }
def k1c1 : Code := { maxStack := 2, maxLocals := 1, code := method_2_code, exceptionTable := #[], attributes := #[] }
def k1m1 : Method := { name := "forbidden", desc := "(I)Z", sig := { parameters := [.int], returnType := some .boolean }, accessFlags := 10, code := some k1c1 }
def k1c2 : Code := { maxStack := 4, maxLocals := 6, code := code, exceptionTable := #[], attributes := #[] }
def k1m2 : Method := { name := "law", desc := "(II)Z", sig := { parameters := [.int, .int], returnType := some .boolean }, accessFlags := 9, code := some k1c2 }
/-- com/example/dislope/dislope/io/XmlTextAllowsPinLaw -/
def k1 : Class := { plain "com/example/dislope/dislope/io/XmlTextAllowsPinLaw" (some 0) with
  accessFlags := 49
  interfaces := #[]
  cf := some (fileOf pool1 34 #[] #[{ accessFlags := 2, nameIndex := 5, descriptorIndex := 6, attributes := #[] }, { accessFlags := 10, nameIndex := 37, descriptorIndex := 32, attributes := #[] }, { accessFlags := 9, nameIndex := 41, descriptorIndex := 42, attributes := #[] }] 49 2 #[] #[])
  fields := #[]
  methods := #[k1m0, k1m1, k1m2]
  instanceTypes := #[]
  staticTypes := #[]
  resolved := Array.replicate 47 none
  statics := none }

def pool2 : Array CpInfo := pool [(1, .class_ 2), (0, u "java/lang/Math"), (1, .class_ 6), (1, u "java/lang/Object"), (0, u "<init>"), (0, u "()V"), (89, .class_ 100), (1, u "java/lang/Math$RandomNumberGeneratorHolder"), (71, u "negativeZeroFloatBits"), (0, u "J"), (2, u "negativeZeroDoubleBits"), (21, u "max"), (2, u "min"), (43, u "$assertionsDisabled"), (0, u "Z"), (88, u "(II)I"), (2, u "twoToTheDoubleScaleDown"), (0, u "D"), (4, u "twoToTheDoubleScaleUp"), (9, u "E"), (3, u "PI"), (2, u "TAU"), (2, u "DEGREES_TO_RADIANS"), (0, u "RADIANS_TO_DEGREES")] 94

def k2m0 : Method := { name := "<init>", desc := "()V", sig := { parameters := [], returnType := none }, accessFlags := 2, code := none }
def k2c1 : Code := { maxStack := 2, maxLocals := 2, code := jdk_29_method_65_code, exceptionTable := #[], attributes := #[] }
def k2m1 : Method := { name := "max", desc := "(II)I", sig := { parameters := [.int, .int], returnType := some .int }, accessFlags := 9, code := some k2c1 }
def k2c2 : Code := { maxStack := 2, maxLocals := 2, code := jdk_29_method_69_code, exceptionTable := #[], attributes := #[] }
def k2m2 : Method := { name := "min", desc := "(II)I", sig := { parameters := [.int, .int], returnType := some .int }, accessFlags := 9, code := some k2c2 }
/-- java/lang/Math -/
def k2 : Class := { plain "java/lang/Math" (some 0) with
  accessFlags := 49
  interfaces := #[]
  cf := some (fileOf pool2 1 #[.nestMembers #[98]] #[{ accessFlags := 2, nameIndex := 7, descriptorIndex := 8, attributes := #[] }, { accessFlags := 9, nameIndex := 198, descriptorIndex := 335, attributes := #[] }, { accessFlags := 9, nameIndex := 201, descriptorIndex := 335, attributes := #[] }] 49 4 #[] #[{ accessFlags := 25, nameIndex := 354, descriptorIndex := 339, attributes := #[] }, { accessFlags := 25, nameIndex := 358, descriptorIndex := 339, attributes := #[] }, { accessFlags := 25, nameIndex := 361, descriptorIndex := 339, attributes := #[] }, { accessFlags := 26, nameIndex := 364, descriptorIndex := 339, attributes := #[] }, { accessFlags := 26, nameIndex := 365, descriptorIndex := 339, attributes := #[] }, { accessFlags := 26, nameIndex := 172, descriptorIndex := 173, attributes := #[] }, { accessFlags := 26, nameIndex := 176, descriptorIndex := 173, attributes := #[] }, { accessFlags := 8, nameIndex := 344, descriptorIndex := 339, attributes := #[] }, { accessFlags := 8, nameIndex := 338, descriptorIndex := 339, attributes := #[] }, { accessFlags := 4120, nameIndex := 245, descriptorIndex := 246, attributes := #[] }])
  fields := #[{ name := "E", type := .double, accessFlags := 25, slot := 0, constantValue := 0 }, { name := "PI", type := .double, accessFlags := 25, slot := 1, constantValue := 0 }, { name := "TAU", type := .double, accessFlags := 25, slot := 2, constantValue := 0 }, { name := "DEGREES_TO_RADIANS", type := .double, accessFlags := 26, slot := 3, constantValue := 0 }, { name := "RADIANS_TO_DEGREES", type := .double, accessFlags := 26, slot := 4, constantValue := 0 }, { name := "negativeZeroFloatBits", type := .long, accessFlags := 26, slot := 5, constantValue := 0 }, { name := "negativeZeroDoubleBits", type := .long, accessFlags := 26, slot := 6, constantValue := 0 }, { name := "twoToTheDoubleScaleUp", type := .double, accessFlags := 8, slot := 7, constantValue := 0 }, { name := "twoToTheDoubleScaleDown", type := .double, accessFlags := 8, slot := 8, constantValue := 0 }, { name := "$assertionsDisabled", type := .boolean, accessFlags := 4120, slot := 9, constantValue := 0 }]
  methods := #[k2m0, k2m1, k2m2]
  instanceTypes := #[]
  staticTypes := #[.double, .double, .double, .double, .double, .long, .long, .double, .double, .boolean]
  resolved := Array.replicate 460 none
  statics := none }

def pool3 : Array CpInfo := pool [(2, .class_ 4), (1, u "java/lang/Object"), (0, u "<init>"), (0, u "()V"), (0, .integer 55295), (0, .integer 57344), (0, .integer 65533), (0, .integer 65536), (30, .class_ 43), (1, u "com/example/dislope/dislope/io/XmlText"), (0, u "allows"), (0, u "(I)Z"), (40, u "DECLARATION"), (0, u "Ljava/lang/String;")] 30

def k3m0 : Method := { name := "<init>", desc := "()V", sig := { parameters := [], returnType := none }, accessFlags := 2, code := none }
def k3c1 : Code := { maxStack := 2, maxLocals := 1, code := prog_74_method_2_code, exceptionTable := #[], attributes := #[] }
def k3m1 : Method := { name := "allows", desc := "(I)Z", sig := { parameters := [.int], returnType := some .boolean }, accessFlags := 9, code := some k3c1 }
/-- com/example/dislope/dislope/io/XmlText -/
def k3 : Class := { plain "com/example/dislope/dislope/io/XmlText" (some 0) with
  accessFlags := 49
  interfaces := #[]
  cf := some (fileOf pool3 41 #[] #[{ accessFlags := 2, nameIndex := 5, descriptorIndex := 6, attributes := #[] }, { accessFlags := 9, nameIndex := 44, descriptorIndex := 45, attributes := #[] }] 49 2 #[] #[{ accessFlags := 25, nameIndex := 86, descriptorIndex := 87, attributes := #[] }])
  fields := #[{ name := "DECLARATION", type := (.object "java/lang/String"), accessFlags := 25, slot := 0, constantValue := 0 }]
  methods := #[k3m0, k3m1]
  instanceTypes := #[]
  staticTypes := #[(.object "java/lang/String")]
  resolved := Array.replicate 118 none
  statics := none }

def pool4 : Array CpInfo := pool [(1, u "java/lang/Cloneable"), (0, .class_ 1), (0, u "java/lang/Object"), (0, .class_ 3)] 3

/-- java/lang/Cloneable -/
def k4 : Class := { plain "java/lang/Cloneable" (some 0) with
  accessFlags := 1537
  interfaces := #[]
  cf := some (fileOf pool4 2 #[] #[] 1537 4 #[] #[])
  fields := #[]
  methods := #[]
  instanceTypes := #[]
  staticTypes := #[]
  resolved := Array.replicate 8 none
  statics := none }

def pool5 : Array CpInfo := pool [(1, u "java/io/Serializable"), (0, .class_ 1), (0, u "java/lang/Object"), (0, .class_ 3)] 3

/-- java/io/Serializable -/
def k5 : Class := { plain "java/io/Serializable" (some 0) with
  accessFlags := 1537
  interfaces := #[]
  cf := some (fileOf pool5 2 #[] #[] 1537 4 #[] #[])
  fields := #[]
  methods := #[]
  instanceTypes := #[]
  staticTypes := #[]
  resolved := Array.replicate 8 none
  statics := none }

/-- the primitive byte -/
def k6 : Class := { plain "byte" none with kind := .primitive 'B', accessFlags := 0x411 }
/-- [B -/
def k7 : Class := { plain "[B" (some 0) with kind := .array 6 .byte, interfaces := #[4, 5], accessFlags := 1041 }

/-- the primitive int -/
def k8 : Class := { plain "int" none with kind := .primitive 'I', accessFlags := 0x411 }
/-- [I -/
def k9 : Class := { plain "[I" (some 0) with kind := .array 8 .int, interfaces := #[4, 5], accessFlags := 1041 }

def heap : Heap := #[]
def classes : Array Class := #[k0, k1, k2, k3, k4, k5, k6, k7, k8, k9]
def interned : List (Array UInt16 × Addr) := []
def slotsUsed : Nat := 0
def theMethod : MethodId := ⟨1, 2⟩
def args0 : Array Value := #[.int 5, .int 3]
def aboutOver (below : List Frame) : State where
  vm := { classes := classes, interned := interned.toArray }
  heap := heap
  slotsUsed := slotsUsed
  threads := #[{ frames := .invoking theMethod args0 :: below }]
def below0 : List Frame := [.native { method := ⟨0, 0⟩, args := #[] }]
def about1 : State := aboutOver below0
def p0 : Program := .bare "" "" ""
def e0 : Env := launch0.env 0 0 0
theorem w_frames : about1.frames = Frame.invoking theMethod args0 :: below0 := rfl
set_option maxRecDepth 65536 in
theorem w_args : argsFit about1.vm theMethod args0 = true := by decide +kernel
set_option maxRecDepth 65536 in
theorem w_heap : heapFits about1 = true := by decide +kernel
set_option maxRecDepth 65536 in
theorem w_runnable : about1.curStatus? = some .runnable := by decide +kernel
set_option maxRecDepth 65536 in
theorem w_alone : about1.alone = true := by decide +kernel
set_option maxRecDepth 65536 in
theorem w_named : about1.methodNamed? x = some theMethod := by decide +kernel
set_option maxRecDepth 65536 in
theorem w_hears : about1.hears theMethod below0 = true := by decide +kernel
set_option maxRecDepth 65536 in
theorem w_ripe : about1.ripe theMethod args0 below0 = true := by decide +kernel
theorem w_running : about1.status = .running := rfl
set_option maxRecDepth 65536 in
theorem w_room : about1.hasRoom e0.platform room_1 = true :=
  launch0.hasRoom_least _ room_1 (by decide +kernel) (by decide +kernel) (by decide +kernel) (by decide +kernel) (by decide +kernel) (by decide +kernel)
theorem allAtoms_all (ts : List Jvm.Cond) (a : Array Jvm.Value) (st : Jvm.State) : (allAtoms ts).before a st = ts.all (fun c => c.before a st) := by
  induction ts with
  | nil => rfl
  | cons c t ih =>
    show (Jvm.Cond.and c (allAtoms t)).before a st = _
    rw [Jvm.Cond.before_and, ih, List.all_cons]
def words1 : List Jvm.Cond := Jvm.Cond.code x code maxLocals ret :: tables_1
/-- a 'code' word, met by the world's own term for the bytes: nothing is compared byte by byte -/
theorem code_word {y : MethodName} {bytes : ByteArray} {mx : Nat} {rt : Option FieldType} {a : Array Value} {s : State} {m : MethodId} {meth : Method} {c : Code} (h1 : s.methodNamed? y = some m) (h2 : s.vm.method? m = some meth) (h3 : meth.code = some c) (h4 : c.code = bytes)
    (h5 : (c.maxLocals == mx && c.exceptionTable.isEmpty && decide (c.maxStack ≤ mostOperands) && decide (meth.sig.returnType = rt) && !meth.locks && decide (parseMethodDescriptor y.desc = some meth.sig)) = true) : (Jvm.Cond.code y bytes mx rt).before a s = true := by
  simp only [Bool.and_eq_true, beq_iff_eq, Bool.not_eq_true', decide_eq_true_eq] at h5
  obtain ⟨⟨⟨⟨⟨g1, g2⟩, g3⟩, g4⟩, g5⟩, g6⟩ := h5
  simp [Cond.before, Cond.holds, Cond.value, h1, h2, h3, h4, g1, g2, g3, g4, g5, g6]
def isCode : Jvm.Cond → Bool
  | .code _ _ _ _ => true
  | _ => false
theorem all_split {L : List Jvm.Cond} {P : Jvm.Cond → Bool} (h1 : L.all (fun c => isCode c || P c) = true) (h2 : ∀ c ∈ L.filter isCode, P c = true) : L.all P = true := by
  refine List.all_eq_true.mpr fun c hc => ?_
  have h := List.all_eq_true.mp h1 c hc
  rcases Bool.eq_false_or_eq_true (isCode c) with hi | hi
  · exact h2 c (List.mem_filter.mpr ⟨hc, hi⟩)
  · simpa [hi] using h
set_option maxRecDepth 65536 in
theorem w_c0 : (Jvm.Cond.code x code maxLocals ret).before args0 about1 = true := code_word (m := ⟨1, 2⟩) (meth := k1m2) (c := k1c2) (by decide +kernel) rfl rfl rfl (by decide +kernel)
set_option maxRecDepth 65536 in
theorem w_c1 : (Jvm.Cond.code ({ cls := "java/lang/Math", name := "max", desc := "(II)I" } : Jvm.MethodName) jdk_29_method_65_code (2 : Nat) (Option.some Jvm.ClassFile.FieldType.int)).before args0 about1 = true := code_word (m := ⟨2, 1⟩) (meth := k2m1) (c := k2c1) (by decide +kernel) rfl rfl rfl (by decide +kernel)
set_option maxRecDepth 65536 in
theorem w_c2 : (Jvm.Cond.code ({ cls := "java/lang/Math", name := "min", desc := "(II)I" } : Jvm.MethodName) jdk_29_method_69_code (2 : Nat) (Option.some Jvm.ClassFile.FieldType.int)).before args0 about1 = true := code_word (m := ⟨2, 2⟩) (meth := k2m2) (c := k2c2) (by decide +kernel) rfl rfl rfl (by decide +kernel)
set_option maxRecDepth 65536 in
theorem w_c3 : (Jvm.Cond.code ({ cls := "com/example/dislope/dislope/io/XmlText", name := "allows", desc := "(I)Z" } : Jvm.MethodName) prog_74_method_2_code (1 : Nat) (Option.some Jvm.ClassFile.FieldType.boolean)).before args0 about1 = true := code_word (m := ⟨3, 1⟩) (meth := k3m1) (c := k3c1) (by decide +kernel) rfl rfl rfl (by decide +kernel)
set_option maxRecDepth 65536 in
theorem w_c4 : (Jvm.Cond.code ({ cls := "com/example/dislope/dislope/io/XmlTextAllowsPinLaw", name := "forbidden", desc := "(I)Z" } : Jvm.MethodName) method_2_code (1 : Nat) (Option.some Jvm.ClassFile.FieldType.boolean)).before args0 about1 = true := code_word (m := ⟨1, 1⟩) (meth := k1m1) (c := k1c1) (by decide +kernel) rfl rfl rfl (by decide +kernel)
def codes1 : List Jvm.Cond := [Jvm.Cond.code x code maxLocals ret, Jvm.Cond.code ({ cls := "java/lang/Math", name := "max", desc := "(II)I" } : Jvm.MethodName) jdk_29_method_65_code (2 : Nat) (Option.some Jvm.ClassFile.FieldType.int), Jvm.Cond.code ({ cls := "java/lang/Math", name := "min", desc := "(II)I" } : Jvm.MethodName) jdk_29_method_69_code (2 : Nat) (Option.some Jvm.ClassFile.FieldType.int), Jvm.Cond.code ({ cls := "com/example/dislope/dislope/io/XmlText", name := "allows", desc := "(I)Z" } : Jvm.MethodName) prog_74_method_2_code (1 : Nat) (Option.some Jvm.ClassFile.FieldType.boolean), Jvm.Cond.code ({ cls := "com/example/dislope/dislope/io/XmlTextAllowsPinLaw", name := "forbidden", desc := "(I)Z" } : Jvm.MethodName) method_2_code (1 : Nat) (Option.some Jvm.ClassFile.FieldType.boolean)]
set_option maxRecDepth 65536 in
theorem codes_eq : words1.filter isCode = codes1 := rfl
theorem w_codes : ∀ c ∈ words1.filter isCode, c.before args0 about1 = true := by
  rw [codes_eq]
  intro c hc
  simp only [codes1, List.mem_cons, List.not_mem_nil, or_false] at hc
  rcases hc with rfl | rfl | rfl | rfl | rfl
  · exact w_c0
  · exact w_c1
  · exact w_c2
  · exact w_c3
  · exact w_c4
set_option maxRecDepth 65536 in
theorem w_t1 : (words1.take 24).all (fun c => isCode c || c.before args0 about1) = true := by decide +kernel
set_option maxRecDepth 65536 in
theorem w_t2 : (words1.drop 24).all (fun c => isCode c || c.before args0 about1) = true := by decide +kernel
theorem w_tables : (allAtoms (Jvm.Cond.code x code maxLocals ret :: tables_1)).before args0 about1 = true := by
  rw [allAtoms_all]
  show words1.all (fun c => c.before args0 about1) = true
  refine all_split ?_ w_codes
  rw [← List.take_append_drop 24 words1, List.all_append, w_t1, w_t2]
  rfl
set_option maxRecDepth 65536 in
theorem w_case : (Jvm.Cond.and given_1 narrow_1).before args0 about1 = true := by decide +kernel
theorem w_applies : (headSpec (Jvm.Cond.code x code maxLocals ret :: tables_1) room_1).applies x e0.platform about1 = true :=
  (Spec.applies_iff w_frames).mpr ⟨w_running, w_runnable, w_alone, w_named, w_hears, w_ripe, w_room, w_tables⟩
theorem atStart : AtStart classFile x code maxLocals ret World_1 tables_1 room_1 Calls_1 rest_1 Pre_1 launch0 p0 e0 about1 theMethod args0 below0 :=
  ⟨lists_1, trivial, launch0.admits_env _ _ _, launch0.least_env, fairChoices_fair.cas, fairChoices_fair.clock, w_frames, w_args, w_heap, w_applies, trivial, trivial, w_case⟩
end start1
theorem witness_1 : WitnessClaimed_1 := ⟨start1.p0, start1.e0, start1.about1, start1.theMethod, start1.args0, start1.below0, start1.atStart⟩
end Jvm.Pilot.@@N@@

import JvmDerived
import JvmDerived.Pilot.@@N@@Statement
import JvmDerived.Pilot.@@N@@Code
set_option linter.unusedVariables false
set_option linter.unusedSimpArgs false
namespace Jvm.Pilot.@@N@@
open Jvm Jvm.ClassFile Sem Op Lib Jvm.Free Jvm.Stand Jvm.LawKit Jvm.RoadKit Bundle Jvm.Pilot.@@N@@.Jvm.D
def own_ushr (x y : Int32) : Int32 := (x.toUInt32 >>> (y &&& 31).toUInt32).toInt32
def own_ushrL (x : Int64) (y : Int32) : Int64 := (x.toUInt64 >>> (y &&& 0x3f).toInt64.toUInt64).toInt64
section OwnKit
variable {p : Program} {l : Launch} {e : Env} {R : Room} {s : State} {m : MethodId} {args : Array Value} {below : List Frame} {meth : Method} {c : Code} {T : State} {locs : List Loc} {cells slots : Nat} {Z : State} {h h0 : Heap} {ce sl : Nat} {Q : Option Value → Heap → List Loc → Prop} {U U' : State} {a0 : Array Value}
/-- from U the walk comes to its return, and what it leaves is Q -/
def Go (p : Program) (e : Env) (below : List Frame) (s : State) (ce sl : Nat) (Q : Option Value → Heap → List Loc → Prop) (U : State) : Prop :=
  ∃ s₂ o, Steps p.tables e below U s₂ ∧ s₂.status = .running ∧ Ended s₂ below o ∧ ∃ v L, o = .returned v ∧ Q v s₂.heap L ∧ FrameEnd s o s₂ L ce sl
theorem Go.via (h : ∀ t, Steps p.tables e below U' t → Steps p.tables e below U t) (g : Go p e below s ce sl Q U') : Go p e below s ce sl Q U := by
  obtain ⟨s₂, o, h1, h2⟩ := g
  exact ⟨s₂, o, h _ h1, h2⟩
theorem Go.cast {g g' : JFrame} (q : g = g') (k : Go p e below s ce sl Q (T.setTop g')) : Go p e below s ce sl Q (T.setTop g) := q ▸ k
/-- the contract of a body: called with as', over the heap h0, it returns and leaves Q -/
def Meets (l : Launch) (Z : State) (y : MethodName) (bytes : ByteArray) (maxL : Nat) (rt : Option FieldType) (ws : List Jvm.Cond) (rm : Room) (as' : Array Value) (h0 : Heap) (Q : Option Value → Heap → List Loc → Prop) : Prop :=
  MetFree l y (head1 (Jvm.Cond.code y bytes maxL rt :: ws) rm) (fun a U => a = as' ∧ Z.Warmed39 U.vm ∧ U.heap = h0) (fun _ _ _ _ _ => True) (fun _ U o U' => ∃ v L, o = .returned v ∧ Q v U'.heap L ∧ FrameEnd U o U' L rm.cells rm.slots)
theorem meets_of {y : MethodName} {bytes : ByteArray} {maxL : Nat} {rt : Option FieldType} {ws : List Jvm.Cond} {rm : Room} {as' : Array Value} (hpl : plainFor y = true)
    (body : ∀ p e s m below meth c s₁, Stand p l e rm s m as' below meth c s₁ [] 0 0 → p.tables.exec = Jvm.exec → Z.Warmed39 s.vm → c.code = bytes → c.maxLocals = maxL → meth.sig.returnType = rt → meth.locks = false → s.vm.findClass y.cls = some m.cls → meth.name = y.name → s₁.heap = h0 →
      Go p e below s rm.cells rm.slots Q (s₁.setTop (entryFrame m as' maxL))) : Meets l Z y bytes maxL rt ws rm as' h0 Q := by
  refine MetFree.of_bodySF hpl hisR ?_
  intro p e s m args below meth c s₁ Bd hml hP hK
  obtain ⟨rfl, hZ, hh⟩ := hP
  exact body p e s m below meth c s₁ (Stand.of_body Bd) Bd.exec hZ Bd.bytes hml Bd.returns Bd.notSynchronized (findClass_of_methodNamed Bd.named) (name_of_methodNamed Bd.named Bd.method).1 (by rw [← hh, Bd.state]; rfl)
theorem go_ret (X : Stand p l e R s m args below meth c T locs cells slots) (hlk : meth.locks = false) {v : Option Value} (hv : meth.sig.returnType = none → v = none) (eT : T.heap = h) (hQ : Q v h locs) (hc : cells ≤ ce) (hs : slots ≤ sl)
    (st : ∀ fs, (∀ (f : JFrame) (acts : List Action), f.method = m → f.locked = none → f.entered = [] → (doReturn e (T.setTop f) acts v).1 = T.setFrames fs) → Steps p.tables e below U (T.setFrames fs)) : Go p e below s ce sl Q U := by
  obtain ⟨fs, hr, hrun, hended, hW, hsame⟩ := X.leave hv hlk
  exact ⟨_, _, st fs hr, hrun, hended, v, locs, rfl, (by show Q v T.heap locs; rw [eT]; exact hQ), ⟨_, rfl⟩, hW, hsame.mono hc hs⟩
theorem go_retN (X : Stand p l e R s m args below meth c T locs cells slots) (hx : p.tables.exec = Jvm.exec) (hlk : meth.locks = false) {t : FieldType} (hret : meth.sig.returnType = some t) (ht : t = .boolean ∨ t = .byte ∨ t = .char ∨ t = .short) {pc : Nat} {Ls : Array Slot} {z : Int32} {rest : List Value}
    (hd : decode c.code pc = .ok (.ireturn, 1)) (eT : T.heap = h) (hQ : Q (some (.int (nar t z))) h locs) (hc : cells ≤ ce) (hs : slots ≤ sl) : Go p e below s ce sl Q (T.setTop (mkF m pc Ls (.int z :: rest))) :=
  go_ret X hlk (fun h => by rw [hret] at h; cases h) eT hQ hc hs (fun fs hr => retN X hx hret ht hd hr)
theorem go_retI (X : Stand p l e R s m args below meth c T locs cells slots) (hx : p.tables.exec = Jvm.exec) (hlk : meth.locks = false) (hret : meth.sig.returnType = some .int) {pc : Nat} {Ls : Array Slot} {z : Int32} {rest : List Value}
    (hd : decode c.code pc = .ok (.ireturn, 1)) (eT : T.heap = h) (hQ : Q (some (.int z)) h locs) (hc : cells ≤ ce) (hs : slots ≤ sl) : Go p e below s ce sl Q (T.setTop (mkF m pc Ls (.int z :: rest))) :=
  go_ret X hlk (fun h => by rw [hret] at h; cases h) eT hQ hc hs (fun fs hr => retOut X hx hret rfl (Or.inl ⟨rfl, Or.inl rfl, z, rfl⟩) hd hr)
theorem go_retJ (X : Stand p l e R s m args below meth c T locs cells slots) (hx : p.tables.exec = Jvm.exec) (hlk : meth.locks = false) (hret : meth.sig.returnType = some .long) {pc : Nat} {Ls : Array Slot} {z : Int64} {rest : List Value}
    (hd : decode c.code pc = .ok (.lreturn, 1)) (eT : T.heap = h) (hQ : Q (some (.long z)) h locs) (hc : cells ≤ ce) (hs : slots ≤ sl) : Go p e below s ce sl Q (T.setTop (mkF m pc Ls (.long z :: rest))) :=
  go_ret X hlk (fun h => by rw [hret] at h; cases h) eT hQ hc hs (fun fs hr => retOut X hx hret rfl (Or.inr (Or.inl ⟨rfl, rfl, z, rfl⟩)) hd hr)
theorem go_retA (X : Stand p l e R s m args below meth c T locs cells slots) (hx : p.tables.exec = Jvm.exec) (hlk : meth.locks = false) {t : FieldType} (hret : meth.sig.returnType = some t) (ht : t.isReference = true) {pc : Nat} {Ls : Array Slot} {w : Value} (hw : w.isRef = true) (hn : narrow t w = w) {rest : List Value}
    (hd : decode c.code pc = .ok (.areturn, 1)) (eT : T.heap = h) (hQ : Q (some w) h locs) (hc : cells ≤ ce) (hs : slots ≤ sl) : Go p e below s ce sl Q (T.setTop (mkF m pc Ls (w :: rest))) :=
  go_ret X hlk (fun h => by rw [hret] at h; cases h) eT hQ hc hs (fun fs hr => retOut X hx hret hn (Or.inr (Or.inr (Or.inr (Or.inr ⟨rfl, ht, hw⟩)))) hd hr)
theorem go_retV (X : Stand p l e R s m args below meth c T locs cells slots) (hx : p.tables.exec = Jvm.exec) (hlk : meth.locks = false) (hret : meth.sig.returnType = none) {pc : Nat} {Ls : Array Slot}
    (hd : decode c.code pc = .ok (.return_, 1)) (eT : T.heap = h) (hQ : Q none h locs) (hc : cells ≤ ce) (hs : slots ≤ sl) : Go p e below s ce sl Q (T.setTop (mkF m pc Ls [])) :=
  go_ret X hlk (fun _ => rfl) eT hQ hc hs (fun fs hr => X.returnOut hx hret hd hr)
/-- it returned v, wrote nothing and made nothing -/
def PureR (v : Option Value) (h0 : Heap) : Option Value → Heap → List Loc → Prop := fun v' h L => v' = v ∧ h = h0 ∧ L = []
/-- a static method by its contract -/
theorem callSQ (X : Stand p l e R s m args below meth c T locs cells slots) (hx : p.tables.exec = Jvm.exec) (hZ : Z.Warmed39 s.vm) {own : String} {index : Nat} {y : MethodName} {bytes : ByteArray} {maxL : Nat} {rt : Option FieldType} {rm : Room}
    (hown : s.vm.findClass own = some m.cls) (w1 : (Jvm.Cond.methodLink own index y).before a0 Z = true) (w2 : (Jvm.Cond.static y).before a0 Z = true) (w3 : (Jvm.Cond.initialized y.cls).before a0 Z = true) (w4 : (Jvm.Cond.code y bytes maxL rt).before a0 Z = true)
    (hy : y.cls ≠ "java/lang/invoke/MethodHandle" ∧ y.cls ≠ "java/lang/invoke/VarHandle") {av : List Value} (hM : Meets l Z y bytes maxL rt [] rm av.toArray h Q) (eT : T.heap = h)
    {pc : Nat} {Ls : Array Slot} {rest : List Value} {ps : List FieldType} {r : Option FieldType} (hsize : Ls.size = c.maxLocals) (hp : parseMethodDescriptor y.desc = some ⟨ps, r⟩) (hlen : av.length = ps.length)
    (W : Nat) (hW : (rest.map fun v => v.category).sum ≤ W) (hf : rm.frames + 1 ≤ R.frames) (hl : W + (maxL + 11) + rm.locals ≤ R.locals) (hc : cells + rm.cells ≤ R.cells) (hs : slots + rm.slots ≤ R.slots) (hd : decode c.code pc = .ok (.invokestatic index, 3)) :
    ∃ v T' L, Stand p l e R s m args below meth c T' (locs ++ L) (cells + rm.cells) (slots + rm.slots) ∧ Q v T'.heap L ∧
      ∀ t, Steps p.tables e below (T'.setTop (mkF m (pc + 3) Ls (v.toList ++ rest))) t → Steps p.tables e below (T.setTop (mkF m pc Ls (av.reverse ++ rest))) t := by
  obtain ⟨v, _, ⟨T2, L2, k2, n2⟩, -, X2, ⟨Lc2, hQ2, l2, y2, z2⟩, st2⟩ := Jvm.LawKit.callS X hx (y := y) hown (mvT hZ w1) (mvT hZ w2) (mvT hZ w3) (mvT hZ w4) hy (backOf (W := W) hM hZ w4 w3 hf hl) (g := mkF m pc Ls (av.reverse ++ rest)) rfl hsize (argsL := av) (rest := rest) (lenOf hp hlen) rfl (by show 2 * 0 + _ ≤ _; rw [Nat.mul_zero, Nat.zero_add]; exact hW) hd (fun _ _ => ⟨rfl, eT, hc, hs⟩)
  dsimp only [Pt.U, Pt.locs, Pt.cells, Pt.slots] at X2 l2 y2 z2 st2 hQ2
  subst l2 y2 z2
  exact ⟨v, T2, Lc2, X2, hQ2, st2⟩
/-- a static method that writes and makes nothing -/
theorem callS0 (X : Stand p l e R s m args below meth c T locs cells slots) (hx : p.tables.exec = Jvm.exec) (hZ : Z.Warmed39 s.vm) {own : String} {index : Nat} {y : MethodName} {bytes : ByteArray} {maxL : Nat} {rt : Option FieldType} {fr lo : Nat} {v : Option Value}
    (hown : s.vm.findClass own = some m.cls) (w1 : (Jvm.Cond.methodLink own index y).before a0 Z = true) (w2 : (Jvm.Cond.static y).before a0 Z = true) (w3 : (Jvm.Cond.initialized y.cls).before a0 Z = true) (w4 : (Jvm.Cond.code y bytes maxL rt).before a0 Z = true)
    (hy : y.cls ≠ "java/lang/invoke/MethodHandle" ∧ y.cls ≠ "java/lang/invoke/VarHandle") {av : List Value} (hM : Meets l Z y bytes maxL rt [] ({ frames := fr, cells := 0, slots := 0, locals := lo } : Room) av.toArray h (PureR v h)) (eT : T.heap = h)
    {pc : Nat} {Ls : Array Slot} {rest : List Value} {ps : List FieldType} {r : Option FieldType} (hsize : Ls.size = c.maxLocals) (hp : parseMethodDescriptor y.desc = some ⟨ps, r⟩) (hlen : av.length = ps.length)
    (W : Nat) (hW : (rest.map fun v => v.category).sum ≤ W) (hf : fr + 1 ≤ R.frames) (hl : W + (maxL + 11) + lo ≤ R.locals) (hc : cells ≤ R.cells) (hs : slots ≤ R.slots) (hd : decode c.code pc = .ok (.invokestatic index, 3)) :
    ∃ T', Stand p l e R s m args below meth c T' locs cells slots ∧ T'.heap = h ∧
      ∀ t, Steps p.tables e below (T'.setTop (mkF m (pc + 3) Ls (v.toList ++ rest))) t → Steps p.tables e below (T.setTop (mkF m pc Ls (av.reverse ++ rest))) t := by
  obtain ⟨_, T2, _, X2, ⟨rfl, h2, rfl⟩, st2⟩ := callSQ X hx hZ hown w1 w2 w3 w4 hy hM eT hsize hp hlen W hW hf hl hc hs hd
  rw [List.append_nil] at X2
  exact ⟨T2, X2, h2, st2⟩
end OwnKit
section OwnKit2
variable {p : Program} {l : Launch} {e : Env} {R : Room} {s : State} {m : MethodId} {args : Array Value} {below : List Frame} {meth : Method} {c : Code} {T : State} {locs : List Loc} {cells slots : Nat} {Z : State} {h h0 : Heap} {ce sl : Nat} {Q : Option Value → Heap → List Loc → Prop} {U U' : State} {a0 : Array Value}
/-- an instance method by its contract, the resolved one being the selected one -/
theorem callVQ (X : Stand p l e R s m args below meth c T locs cells slots) (hx : p.tables.exec = Jvm.exec) (hZ : Z.Warmed39 s.vm) {own C : String} {index : Nat} {y : MethodName} {bytes : ByteArray} {maxL : Nat} {rt : Option FieldType} {rm : Room}
    (hown : s.vm.findClass own = some m.cls) (w1 : (Jvm.Cond.methodLink own index y).before a0 Z = true) (w2 : (Jvm.Cond.declares y).before a0 Z = true) (w3 : (Jvm.Cond.selects C y y).before a0 Z = true) (w5 : (Jvm.Cond.instanceMethod y).before a0 Z = true) (w6 : (Jvm.Cond.initialized y.cls).before a0 Z = true) (w4 : (Jvm.Cond.code y bytes maxL rt).before a0 Z = true)
    (hy : y.cls ≠ "java/lang/invoke/MethodHandle" ∧ y.cls ≠ "java/lang/invoke/VarHandle") {b : Addr} {av : List Value} (hE : Exa Z h b C) (hM : Meets l Z y bytes maxL rt [] rm (.ref b :: av).toArray h Q) (eT : T.heap = h)
    {pc : Nat} {Ls : Array Slot} {rest : List Value} {ps : List FieldType} {r : Option FieldType} (hsize : Ls.size = c.maxLocals) (hp : parseMethodDescriptor y.desc = some ⟨ps, r⟩) (hlen : av.length = ps.length)
    (W : Nat) (hW : (rest.map fun v => v.category).sum ≤ W) (hf : rm.frames + 1 ≤ R.frames) (hl : W + (maxL + 11) + rm.locals ≤ R.locals) (hc : cells + rm.cells ≤ R.cells) (hs : slots + rm.slots ≤ R.slots) (hd : decode c.code pc = .ok (.invokevirtual index, 3)) :
    ∃ v T' L, Stand p l e R s m args below meth c T' (locs ++ L) (cells + rm.cells) (slots + rm.slots) ∧ Q v T'.heap L ∧
      ∀ t, Steps p.tables e below (T'.setTop (mkF m (pc + 3) Ls (v.toList ++ rest))) t → Steps p.tables e below (T.setTop (mkF m pc Ls (av.reverse ++ .ref b :: rest))) t := by
  obtain ⟨cq, kq, qa, qb, qc⟩ := isOf hZ eT hE
  obtain ⟨v, _, ⟨T2, L2, k2, n2⟩, -, X2, ⟨Lc2, hQ2, l2, y2, z2⟩, st2⟩ := X.virtualBack hx (y := y) (z := y) hown (mvT hZ w1) (mvT hZ w2) (notFace_of_selects (args := #[]) (mvT hZ w3)) (mvT hZ w3) (mvT hZ w5) hy (backOf (W := W) hM hZ w4 w6 hf hl) qa qc (g := mkF m pc Ls (av.reverse ++ .ref b :: rest)) rfl hsize (Steps.refl _) (argsL := av) (rest := rest) (lenOf hp hlen) rfl (by show 2 * 0 + _ ≤ _; rw [Nat.mul_zero, Nat.zero_add]; exact hW) hd (fun _ _ => ⟨rfl, eT, hc, hs⟩)
  dsimp only [Pt.U, Pt.locs, Pt.cells, Pt.slots] at X2 l2 y2 z2 st2 hQ2
  subst l2 y2 z2
  exact ⟨v, T2, Lc2, X2, hQ2, fun t k => st2.trans k⟩
theorem callV0 (X : Stand p l e R s m args below meth c T locs cells slots) (hx : p.tables.exec = Jvm.exec) (hZ : Z.Warmed39 s.vm) {own C : String} {index : Nat} {y : MethodName} {bytes : ByteArray} {maxL : Nat} {rt : Option FieldType} {fr lo : Nat} {v : Option Value}
    (hown : s.vm.findClass own = some m.cls) (w1 : (Jvm.Cond.methodLink own index y).before a0 Z = true) (w2 : (Jvm.Cond.declares y).before a0 Z = true) (w3 : (Jvm.Cond.selects C y y).before a0 Z = true) (w5 : (Jvm.Cond.instanceMethod y).before a0 Z = true) (w6 : (Jvm.Cond.initialized y.cls).before a0 Z = true) (w4 : (Jvm.Cond.code y bytes maxL rt).before a0 Z = true)
    (hy : y.cls ≠ "java/lang/invoke/MethodHandle" ∧ y.cls ≠ "java/lang/invoke/VarHandle") {b : Addr} {av : List Value} (hE : Exa Z h b C) (hM : Meets l Z y bytes maxL rt [] ({ frames := fr, cells := 0, slots := 0, locals := lo } : Room) (.ref b :: av).toArray h (PureR v h)) (eT : T.heap = h)
    {pc : Nat} {Ls : Array Slot} {rest : List Value} {ps : List FieldType} {r : Option FieldType} (hsize : Ls.size = c.maxLocals) (hp : parseMethodDescriptor y.desc = some ⟨ps, r⟩) (hlen : av.length = ps.length)
    (W : Nat) (hW : (rest.map fun v => v.category).sum ≤ W) (hf : fr + 1 ≤ R.frames) (hl : W + (maxL + 11) + lo ≤ R.locals) (hc : cells ≤ R.cells) (hs : slots ≤ R.slots) (hd : decode c.code pc = .ok (.invokevirtual index, 3)) :
    ∃ T', Stand p l e R s m args below meth c T' locs cells slots ∧ T'.heap = h ∧
      ∀ t, Steps p.tables e below (T'.setTop (mkF m (pc + 3) Ls (v.toList ++ rest))) t → Steps p.tables e below (T.setTop (mkF m pc Ls (av.reverse ++ .ref b :: rest))) t := by
  obtain ⟨_, T2, _, X2, ⟨rfl, h2, rfl⟩, st2⟩ := callVQ X hx hZ hown w1 w2 w3 w5 w6 w4 hy hE hM eT hsize hp hlen W hW hf hl hc hs hd
  rw [List.append_nil] at X2
  exact ⟨T2, X2, h2, st2⟩
/-- a constructor by its contract -/
theorem callIQ (X : Stand p l e R s m args below meth c T locs cells slots) (hx : p.tables.exec = Jvm.exec) (hZ : Z.Warmed39 s.vm) {own : String} {index : Nat} {y : MethodName} {bytes : ByteArray} {maxL : Nat} {rm : Room} (hy1 : y.name = "<init>")
    (hown : s.vm.findClass own = some m.cls) (w1 : (Jvm.Cond.methodLink own index y).before a0 Z = true) (w5 : (Jvm.Cond.instanceMethod y).before a0 Z = true) (w6 : (Jvm.Cond.initialized y.cls).before a0 Z = true) (w4 : (Jvm.Cond.code y bytes maxL none).before a0 Z = true)
    (hy : y.cls ≠ "java/lang/invoke/MethodHandle" ∧ y.cls ≠ "java/lang/invoke/VarHandle") {b : Addr} {av : List Value} (hM : Meets l Z y bytes maxL none [] rm (.ref b :: av).toArray h Q) (eT : T.heap = h)
    {pc : Nat} {Ls : Array Slot} {rest : List Value} {ps : List FieldType} {r : Option FieldType} (hsize : Ls.size = c.maxLocals) (hp : parseMethodDescriptor y.desc = some ⟨ps, r⟩) (hlen : av.length = ps.length)
    (W : Nat) (hW : (rest.map fun v => v.category).sum ≤ W) (hf : rm.frames + 1 ≤ R.frames) (hl : W + (maxL + 11) + rm.locals ≤ R.locals) (hc : cells + rm.cells ≤ R.cells) (hs : slots + rm.slots ≤ R.slots) (hd : decode c.code pc = .ok (.invokespecial index, 3)) :
    ∃ v T' L, Stand p l e R s m args below meth c T' (locs ++ L) (cells + rm.cells) (slots + rm.slots) ∧ Q v T'.heap L ∧
      ∀ t, Steps p.tables e below (T'.setTop (mkF m (pc + 3) Ls (v.toList ++ rest))) t → Steps p.tables e below (T.setTop (mkF m pc Ls (av.reverse ++ .ref b :: rest))) t := by
  obtain ⟨v, _, ⟨T2, L2, k2, n2⟩, -, X2, ⟨Lc2, hQ2, l2, y2, z2⟩, st2⟩ := X.specialBack hx (y := y) hy1 hown (mvT hZ w1) (mvT hZ w5) (mvT hZ w4) hy (backOf (W := W) hM hZ w4 w6 hf hl) (g := mkF m pc Ls (av.reverse ++ .ref b :: rest)) rfl hsize (Steps.refl _) (a := b) (argsL := av) (rest := rest) (lenOf hp hlen) rfl (by show 2 * 0 + _ ≤ _; rw [Nat.mul_zero, Nat.zero_add]; exact hW) hd (fun _ _ => ⟨rfl, eT, hc, hs⟩)
  dsimp only [Pt.U, Pt.locs, Pt.cells, Pt.slots] at X2 l2 y2 z2 st2 hQ2
  subst l2 y2 z2
  exact ⟨v, T2, Lc2, X2, hQ2, fun t k => st2.trans k⟩
end OwnKit2
section OwnKit4
variable {p : Program} {l : Launch} {e : Env} {R : Room} {s : State} {m : MethodId} {args : Array Value} {below : List Frame} {meth : Method} {c : Code} {T : State} {locs : List Loc} {cells slots : Nat} {Z : State} {h h0 h' : Heap} {a b : Addr} {a0 : Array Value} {k : ClassId} {ty : FieldType} {z j x : Int32} {f : Nat → Int32} {ws : List Addr} {sl : Nat} {v : Value}
/-- an array of ints (or of a narrower kind), its length z, its elements by a function -/
def Arf (Z : State) (h : Heap) (a : Addr) (k : ClassId) (ty : FieldType) (z : Int32) (f : Nat → Int32) : Prop := ∃ c : Cell, Arr Z h a c ty ∧ c.cls = k ∧ c.slots.size = z.toNatClampNeg ∧ ¬ z < 0 ∧ (∀ i, i < c.slots.size → c.slots[i]? = some (.int (f i))) ∧ ∀ i, i < c.slots.size → fits ty (.int (f i)) = true
def own_upd (f : Nat → Int32) (j : Nat) (v : Int32) : Nat → Int32 := fun i => if i = j then v else f i
theorem Arf.lt (F : Arf Z h a k ty z f) : a < h.size := by obtain ⟨c, A, -⟩ := F; exact A.lt
theorem Arf.ext (F : Arf Z h a k ty z f) (E : Ext h h') : Arf Z h' a k ty z f := by obtain ⟨c, A, r⟩ := F; exact ⟨c, A.ext E, r⟩
theorem Arf.other (F : Arf Z h b k ty z f) (W : Wr h h' a sl v) (q : b ≠ a) : Arf Z h' b k ty z f := by obtain ⟨c, A, r⟩ := F; exact ⟨c, A.other W q, r⟩
theorem Arf.keep (F : Arf Z h a k ty z f) (K : Keep h h' ws) (q : a ∉ ws) : Arf Z h' a k ty z f := by obtain ⟨c, A, r⟩ := F; exact ⟨c, ⟨K.2.1 a c A.1 q, A.2⟩, r⟩
theorem Arf.congr {f' : Nat → Int32} (F : Arf Z h a k ty z f) (q : ∀ i, i < z.toNatClampNeg → f i = f' i) : Arf Z h a k ty z f' := by
  obtain ⟨c, A, q1, S, q3, H, G⟩ := F
  exact ⟨c, A, q1, S, q3, fun i hi => by rw [H i hi, q i (S ▸ hi)], fun i hi => by rw [← q i (S ▸ hi)]; exact G i hi⟩
theorem Arf.new (A : Arr Z h a (newA k ty z) ty) (q : ¬ z < 0) (hd : defaultValue ty = .int 0) (hf : fits ty (.int 0) = true) : Arf Z h a k ty z (fun _ => 0) :=
  ⟨_, A, rfl, sz_new _ _ _, q, fun i hi => by rw [sz_new] at hi; simp [newA, hd, hi], fun _ _ => hf⟩
theorem Arf.set {c : Cell} (A : Arr Z h a c ty) (q1 : c.cls = k) (S : c.slots.size = z.toNatClampNeg) (q3 : ¬ z < 0) (H : ∀ i, i < c.slots.size → c.slots[i]? = some (.int (f i))) (G : ∀ i, i < c.slots.size → fits ty (.int (f i)) = true) (hv : fits ty (.int x) = true) (W : Wr h h' a j.toNatClampNeg (.int x)) : Arf Z h' a k ty z (own_upd f j.toNatClampNeg x) := by
  refine ⟨c.setSlot j.toNatClampNeg (.int x), A.same W, q1, (sz_set _ _ _).trans S, q3, fun i hi => ?_, fun i hi => ?_⟩
  · rw [sz_set] at hi
    by_cases e : i = j.toNatClampNeg
    · subst e; simp [Cell.setSlot, own_upd, hi]
    · have e' : ¬ j.toNatClampNeg = i := fun q => e q.symm
      have := H i hi
      simp [Cell.setSlot, own_upd, e, e', this]
  · rw [sz_set] at hi
    by_cases e : i = j.toNatClampNeg
    · subst e; simp only [own_upd, if_pos rfl]; exact hv
    · simp only [own_upd, if_neg e]; exact G i hi
theorem Arf.arv (F : Arf Z h a k ty z f) : Arv Z h a k ty z ((List.range z.toNatClampNeg).map fun i => Value.int (f i)) (.int 0) := by
  obtain ⟨c, A, q1, S, q3, H, G⟩ := F
  have q : ∀ i, i < c.slots.size → ((List.range z.toNatClampNeg).map fun i => Value.int (f i)).getD i (.int 0) = .int (f i) := fun i hi => by rw [S] at hi; simp [List.getD, hi]
  exact ⟨c, A, q1, S, q3, fun i hi => by rw [q i hi]; exact H i hi, fun i hi => by rw [q i hi]; exact G i hi⟩
theorem Arf.of_arv {vs : List Value} {d : Value} (F : Arv Z h a k ty z vs d) (q : ∀ i, i < z.toNatClampNeg → vs.getD i d = .int (f i)) : Arf Z h a k ty z f := by
  obtain ⟨c, A, q1, S, q3, H, G⟩ := F
  exact ⟨c, A, q1, S, q3, fun i hi => by rw [H i hi, q i (S ▸ hi)], fun i hi => by rw [← q i (S ▸ hi)]; exact G i hi⟩
theorem own_inb (F : Arf Z h a k ty z f) (q : ¬ j < 0 ∧ j < z) : ∃ c : Cell, Arr Z h a c ty ∧ ¬ (j < 0 ∨ c.slots.size ≤ j.toNatClampNeg) ∧ c.slots[j.toNatClampNeg]? = some (.int (f j.toNatClampNeg)) ∧ fits ty (.int (f j.toNatClampNeg)) = true := by
  obtain ⟨c, A, q1, S, q3, H, G⟩ := F
  have hin := inb_of S q
  have hlt : j.toNatClampNeg < c.slots.size := Nat.lt_of_not_le fun y => hin (Or.inr y)
  exact ⟨c, A, hin, H _ hlt, G _ hlt⟩
theorem own_len (X : Stand p l e R s m args below meth c T locs cells slots) (hx : p.tables.exec = Jvm.exec) (hZ : Z.Warmed39 s.vm) (eT : T.heap = h) (F : Arf Z h a k ty z f) {pc : Nat} {Ls : Array Slot} {rest : List Value} (hd : decode c.code pc = .ok (.arraylength, 1)) :
    ∀ t, Steps p.tables e below (T.setTop (mkF m (pc + 1) Ls (.int z :: rest))) t → Steps p.tables e below (T.setTop (mkF m pc Ls (.ref a :: rest))) t := by
  obtain ⟨cl, A, q1, S, q3, H, G⟩ := F
  intro t k
  refine X.arraylength hx (by rw [eT]; exact A.1) (State.isArrayOf_alike hZ.alike A.2.1) (g := mkF m pc Ls (.ref a :: rest)) rfl rfl hd _ ?_
  rw [len_of S q3]
  exact k
theorem own_ldI (X : Stand p l e R s m args below meth c T locs cells slots) (hx : p.tables.exec = Jvm.exec) (hZ : Z.Warmed39 s.vm) (eT : T.heap = h) (F : Arf Z h a k .int z f) (q : ¬ j < 0 ∧ j < z) {pc : Nat} {Ls : Array Slot} {rest : List Value} (hd : decode c.code pc = .ok (.iaload, 1)) :
    ∀ t, Steps p.tables e below (T.setTop (mkF m (pc + 1) Ls (.int (f j.toNatClampNeg) :: rest))) t → Steps p.tables e below (T.setTop (mkF m pc Ls (.int j :: .ref a :: rest))) t := by
  obtain ⟨cl, A, hin, hat, -⟩ := own_inb F q
  exact fun t k => X.iaload hx (by rw [eT]; exact A.1) (State.isArrayOf_alike hZ.alike A.2.1) A.2.2 hin hat (g := mkF m pc Ls (.int j :: .ref a :: rest)) rfl rfl hd _ k
theorem own_ldB (X : Stand p l e R s m args below meth c T locs cells slots) (hx : p.tables.exec = Jvm.exec) (hZ : Z.Warmed39 s.vm) (eT : T.heap = h) (F : Arf Z h a k .byte z f) (q : ¬ j < 0 ∧ j < z) {pc : Nat} {Ls : Array Slot} {rest : List Value} (hd : decode c.code pc = .ok (.baload, 1)) :
    ∀ t, Steps p.tables e below (T.setTop (mkF m (pc + 1) Ls (.int (f j.toNatClampNeg) :: rest))) t → Steps p.tables e below (T.setTop (mkF m pc Ls (.int j :: .ref a :: rest))) t := by
  obtain ⟨cl, A, hin, hat, -⟩ := own_inb F q
  exact fun t k => X.baloadBytes hx (by rw [eT]; exact A.1) (State.isArrayOf_alike hZ.alike A.2.1) A.2.2 hin hat (g := mkF m pc Ls (.int j :: .ref a :: rest)) rfl rfl hd _ k
theorem own_ldZ (X : Stand p l e R s m args below meth c T locs cells slots) (hx : p.tables.exec = Jvm.exec) (hZ : Z.Warmed39 s.vm) (eT : T.heap = h) (F : Arf Z h a k .boolean z f) (q : ¬ j < 0 ∧ j < z) {pc : Nat} {Ls : Array Slot} {rest : List Value} (hd : decode c.code pc = .ok (.baload, 1)) :
    ∀ t, Steps p.tables e below (T.setTop (mkF m (pc + 1) Ls (.int (f j.toNatClampNeg) :: rest))) t → Steps p.tables e below (T.setTop (mkF m pc Ls (.int j :: .ref a :: rest))) t := by
  obtain ⟨cl, A, hin, hat, -⟩ := own_inb F q
  exact fun t k => X.baloadBooleans hx (by rw [eT]; exact A.1) (State.isArrayOf_alike hZ.alike A.2.1) A.2.2 hin hat (g := mkF m pc Ls (.int j :: .ref a :: rest)) rfl rfl hd _ k
theorem own_stI (X : Stand p l e R s m args below meth c T locs cells slots) (hx : p.tables.exec = Jvm.exec) (hZ : Z.Warmed39 s.vm) (eT : T.heap = h) (F : Arf Z h a k .int z f) (q : ¬ j < 0 ∧ j < z) {pc : Nat} {Ls : Array Slot} {rest : List Value} (hd : decode c.code pc = .ok (.iastore, 1)) :
    ∃ T' h', Stand p l e R s m args below meth c T' (locs ++ [⟨a, j.toNatClampNeg⟩]) cells slots ∧ T'.heap = h' ∧ Wr h h' a j.toNatClampNeg (.int x) ∧ Arf Z h' a k .int z (own_upd f j.toNatClampNeg x) ∧ ∀ t, Steps p.tables e below (T'.setTop (mkF m (pc + 1) Ls rest)) t → Steps p.tables e below (T.setTop (mkF m pc Ls (.int x :: .int j :: .ref a :: rest))) t := by
  obtain ⟨cl, A, q1, S, q3, H, G⟩ := F
  obtain ⟨T', h', X', e', W, st⟩ := stI X hx hZ eT A (j := j) (inb_of S q) (g := mkF m pc Ls (.int x :: .int j :: .ref a :: rest)) rfl rfl hd
  exact ⟨T', h', X', e', W, Arf.set A q1 S q3 H G rfl W, st⟩
theorem own_stB (X : Stand p l e R s m args below meth c T locs cells slots) (hx : p.tables.exec = Jvm.exec) (hZ : Z.Warmed39 s.vm) (eT : T.heap = h) (F : Arf Z h a k .byte z f) (q : ¬ j < 0 ∧ j < z) {pc : Nat} {Ls : Array Slot} {rest : List Value} (hd : decode c.code pc = .ok (.bastore, 1)) :
    ∃ T' h', Stand p l e R s m args below meth c T' (locs ++ [⟨a, j.toNatClampNeg⟩]) cells slots ∧ T'.heap = h' ∧ Wr h h' a j.toNatClampNeg (.int (nar .byte x)) ∧ Arf Z h' a k .byte z (own_upd f j.toNatClampNeg (nar .byte x)) ∧ ∀ t, Steps p.tables e below (T'.setTop (mkF m (pc + 1) Ls rest)) t → Steps p.tables e below (T.setTop (mkF m pc Ls (.int x :: .int j :: .ref a :: rest))) t := by
  obtain ⟨cl, A, q1, S, q3, H, G⟩ := F
  obtain ⟨T', h', X', e', W, st⟩ := stB X hx hZ eT A (j := j) (inb_of S q) (g := mkF m pc Ls (.int x :: .int j :: .ref a :: rest)) rfl rfl hd
  exact ⟨T', h', X', e', W, Arf.set A q1 S q3 H G (fits_nar_byte _) W, st⟩
theorem own_stZ (X : Stand p l e R s m args below meth c T locs cells slots) (hx : p.tables.exec = Jvm.exec) (hZ : Z.Warmed39 s.vm) (eT : T.heap = h) (F : Arf Z h a k .boolean z f) (q : ¬ j < 0 ∧ j < z) {pc : Nat} {Ls : Array Slot} {rest : List Value} (hd : decode c.code pc = .ok (.bastore, 1)) :
    ∃ T' h', Stand p l e R s m args below meth c T' (locs ++ [⟨a, j.toNatClampNeg⟩]) cells slots ∧ T'.heap = h' ∧ Wr h h' a j.toNatClampNeg (.int (nar .boolean x)) ∧ Arf Z h' a k .boolean z (own_upd f j.toNatClampNeg (nar .boolean x)) ∧ ∀ t, Steps p.tables e below (T'.setTop (mkF m (pc + 1) Ls rest)) t → Steps p.tables e below (T.setTop (mkF m pc Ls (.int x :: .int j :: .ref a :: rest))) t := by
  obtain ⟨cl, A, q1, S, q3, H, G⟩ := F
  obtain ⟨T', h', X', e', W, st⟩ := stZ X hx hZ eT A (j := j) (inb_of S q) (g := mkF m pc Ls (.int x :: .int j :: .ref a :: rest)) rfl rfl hd
  exact ⟨T', h', X', e', W, Arf.set A q1 S q3 H G (fits_nar_bool _) W, st⟩
end OwnKit4
section OwnKit5
variable {Z : State} {h : Heap} {a : Addr} {k : ClassId} {ty : FieldType} {z : Int32} {f : Nat → Int32}
theorem own_ofArh (F : Arh Z h a k ty z [] ((List.range z.toNatClampNeg).map fun i => Value.int (f i)) (.int 0)) : Arf Z h a k ty z f :=
  Arf.of_arv (vs := (List.range z.toNatClampNeg).map fun i => Value.int (f i)) (d := .int 0) F fun i hi => by simp [List.getD, hi]
end OwnKit5
theorem own_k0 (m : MethodId) (x0 : Int32) (x1 : Int32) : entryFrame m #[(.int x0), (.int x1)] 2 = mkF m 0 #[.val (.int x0), .val (.int x1)] [] := by first | (simp [entryFrame, mkF, argsToLocals, Value.category]; done) | rfl
theorem own_k1 : decode jdk_29_method_65_code 0 = .ok (.iload_n 0, 1) := by decide +kernel
theorem own_k2 : decode jdk_29_method_65_code 1 = .ok (.iload_n 1, 1) := by decide +kernel
theorem own_k3 : decode jdk_29_method_65_code 2 = .ok (.if_icmp .lt 7, 3) := by decide +kernel
theorem own_k4 : decode jdk_29_method_65_code 9 = .ok (.iload_n 1, 1) := by decide +kernel
theorem own_k5 : decode jdk_29_method_65_code 10 = .ok (.ireturn, 1) := by decide +kernel
theorem own_k6 : decode jdk_29_method_65_code 5 = .ok (.iload_n 0, 1) := by decide +kernel
theorem own_k7 : decode jdk_29_method_65_code 6 = .ok (.goto 4, 3) := by decide +kernel
def own_f2 (x0 : Int32) (x1 : Int32) : Int32 := (if x0 < x1 then x1 else x0)
set_option maxRecDepth 65536 in
set_option maxHeartbeats 40000000 in
theorem own_rm2 (l : Launch) (Z : State) (a0 : Array Value) (hw : ∀ d ∈ tables_1, d.before a0 Z = true) (ws : List Jvm.Cond) (x0 : Int32) (x1 : Int32) (h0 : Heap) : Meets l Z (⟨"java/lang/Math", "max", "(II)I"⟩ : MethodName) jdk_29_method_65_code 2 (some .int) ws ({ frames := 0, cells := 0, slots := 0, locals := 0 } : Room) #[(.int x0), (.int x1)] h0 (PureR (some (.int (own_f2 x0 x1))) h0) := by
  refine meets_of (Jvm.Free.JP.mathPlain rfl (by decide +kernel)) ?_
  intro p e s m below meth c s₁ X0 hx hZ hby hml hret hlk hown hnm e0
  replace hml : c.maxLocals = 2 := hml
  replace hown : s.vm.findClass "java/lang/Math" = some m.cls := hown
  refine Go.cast (own_k0 m x0 x1) ?_
  refine Go.via (U' := s₁.setTop (mkF m 1 #[.val (.int x0), .val (.int x1)] [(.int x0)])) (fun tG kG => XS.iloadN X0.here hx rfl (hb hby own_k1) rfl kG) ?_
  refine Go.via (U' := s₁.setTop (mkF m 2 #[.val (.int x0), .val (.int x1)] [(.int x1), (.int x0)])) (fun tG kG => XS.iloadN X0.here hx rfl (hb hby own_k2) rfl kG) ?_
  by_cases hc2 : x0 < x1
  · refine Go.via (U' := s₁.setTop (mkF m 9 #[.val (.int x0), .val (.int x1)] [])) (fun tG kG => XS.icmpYes X0.here hx rfl (pc0 := 2) (pc' := 9) rfl (hb hby own_k3) rfl (tlt hc2).1 (by decide) (by decide) kG) ?_
    refine Go.via (U' := s₁.setTop (mkF m 10 #[.val (.int x0), .val (.int x1)] [(.int x1)])) (fun tG kG => XS.iloadN X0.here hx rfl (hb hby own_k4) rfl kG) ?_
    exact go_retI X0 hx hlk hret (hb hby own_k5) e0 ⟨(congrArg (fun z => some (Value.int z)) (show x1 = (own_f2 x0 x1) from by unfold own_f2; simp only [if_pos hc2])), rfl, rfl⟩ (by decide) (by decide)
  · refine Go.via (U' := s₁.setTop (mkF m 5 #[.val (.int x0), .val (.int x1)] [])) (fun tG kG => XS.icmpNo X0.here hx rfl (hb hby own_k3) rfl (flt hc2).1 kG) ?_
    refine Go.via (U' := s₁.setTop (mkF m 6 #[.val (.int x0), .val (.int x1)] [(.int x0)])) (fun tG kG => XS.iloadN X0.here hx rfl (hb hby own_k6) rfl kG) ?_
    refine Go.via (U' := s₁.setTop (mkF m 10 #[.val (.int x0), .val (.int x1)] [(.int x0)])) (fun tG kG => XS.goto X0.here hx rfl (pc0 := 6) (pc' := 10) rfl (hb hby own_k7) (by decide) (by decide) kG) ?_
    exact go_retI X0 hx hlk hret (hb hby own_k5) e0 ⟨(congrArg (fun z => some (Value.int z)) (show x0 = (own_f2 x0 x1) from by unfold own_f2; simp only [if_neg hc2])), rfl, rfl⟩ (by decide) (by decide)
theorem own_k8 (m : MethodId) (a : Addr) (x0 : Int32) : entryFrame m #[(.ref a), (.int x0)] 3 = mkF m 0 #[.val (.ref a), .val (.int x0), .unset] [] := by first | (simp [entryFrame, mkF, argsToLocals, Value.category]; done) | rfl
theorem own_k9 : decode method_3_code 0 = .ok (.aload_n 0, 1) := by decide +kernel
theorem own_k10 : decode method_3_code 1 = .ok (.arraylength, 1) := by decide +kernel
theorem own_k11 : decode method_3_code 2 = .ok (.istore_n 2, 1) := by decide +kernel
theorem own_k12 : decode method_3_code 3 = .ok (.iload_n 2, 1) := by decide +kernel
theorem own_k13 : decode method_3_code 4 = .ok (.ifCond .le 17, 3) := by decide +kernel
theorem own_k14 : decode method_3_code 7 = .ok (.aload_n 0, 1) := by decide +kernel
theorem own_k15 : decode method_3_code 8 = .ok (.iconst 0, 1) := by decide +kernel
theorem own_k16 : decode method_3_code 9 = .ok (.iload_n 1, 1) := by decide +kernel
theorem own_k17 : decode method_3_code 10 = .ok (.iconst 1, 1) := by decide +kernel
theorem own_k18 : decode method_3_code 11 = .ok (.iand, 1) := by decide +kernel
theorem own_k19 : decode method_3_code 12 = .ok (.ifCond .eq 7, 3) := by decide +kernel
theorem own_k20 : decode method_3_code 19 = .ok (.iconst 0, 1) := by decide +kernel
theorem own_k21 : decode method_3_code 15 = .ok (.iconst 1, 1) := by decide +kernel
theorem own_k22 : decode method_3_code 16 = .ok (.goto 4, 3) := by decide +kernel
def own_j1_12_s0 (x0 : Int32) : Int32 := (if (x0 &&& (1 : Int32)) = (0 : Int32) then (0 : Int32) else (1 : Int32))
theorem own_k23 : decode method_3_code 20 = .ok (.bastore, 1) := by decide +kernel
def own_h1_4_Aa (x0 : Int32) (z : Int32) (f : Nat → Int32) : Nat → Int32 := (if (0 : Int32) < z then (own_upd f 0 (nar .boolean (own_j1_12_s0 x0))) else f)
theorem own_k24 : decode method_3_code 21 = .ok (.iload_n 2, 1) := by decide +kernel
theorem own_k25 : decode method_3_code 22 = .ok (.iconst 1, 1) := by decide +kernel
theorem own_k26 : decode method_3_code 23 = .ok (.if_icmp .le 19, 3) := by decide +kernel
theorem own_k27 : decode method_3_code 26 = .ok (.aload_n 0, 1) := by decide +kernel
theorem own_k28 : decode method_3_code 27 = .ok (.iconst 1, 1) := by decide +kernel
theorem own_k29 : decode method_3_code 28 = .ok (.iload_n 1, 1) := by decide +kernel
theorem own_k30 : decode method_3_code 29 = .ok (.iconst 1, 1) := by decide +kernel
theorem own_k31 : decode method_3_code 30 = .ok (.iushr, 1) := by decide +kernel
theorem own_k32 : decode method_3_code 31 = .ok (.iconst 1, 1) := by decide +kernel
theorem own_k33 : decode method_3_code 32 = .ok (.iand, 1) := by decide +kernel
theorem own_k34 : decode method_3_code 33 = .ok (.ifCond .eq 7, 3) := by decide +kernel
theorem own_k35 : decode method_3_code 40 = .ok (.iconst 0, 1) := by decide +kernel
theorem own_k36 : decode method_3_code 36 = .ok (.iconst 1, 1) := by decide +kernel
theorem own_k37 : decode method_3_code 37 = .ok (.goto 4, 3) := by decide +kernel
def own_j1_33_s0 (x0 : Int32) : Int32 := (if ((own_ushr x0 (1 : Int32)) &&& (1 : Int32)) = (0 : Int32) then (0 : Int32) else (1 : Int32))
theorem own_k38 : decode method_3_code 41 = .ok (.bastore, 1) := by decide +kernel
def own_h1_23_Aa (x0 : Int32) (z : Int32) (f : Nat → Int32) : Nat → Int32 := (if (1 : Int32) < z then (own_upd (own_h1_4_Aa x0 z f) 1 (nar .boolean (own_j1_33_s0 x0))) else (own_h1_4_Aa x0 z f))
theorem own_k39 : decode method_3_code 42 = .ok (.iload_n 2, 1) := by decide +kernel
theorem own_k40 : decode method_3_code 43 = .ok (.iconst 2, 1) := by decide +kernel
theorem own_k41 : decode method_3_code 44 = .ok (.if_icmp .le 19, 3) := by decide +kernel
theorem own_k42 : decode method_3_code 47 = .ok (.aload_n 0, 1) := by decide +kernel
theorem own_k43 : decode method_3_code 48 = .ok (.iconst 2, 1) := by decide +kernel
theorem own_k44 : decode method_3_code 49 = .ok (.iload_n 1, 1) := by decide +kernel
theorem own_k45 : decode method_3_code 50 = .ok (.iconst 2, 1) := by decide +kernel
theorem own_k46 : decode method_3_code 51 = .ok (.iushr, 1) := by decide +kernel
theorem own_k47 : decode method_3_code 52 = .ok (.iconst 1, 1) := by decide +kernel
theorem own_k48 : decode method_3_code 53 = .ok (.iand, 1) := by decide +kernel
theorem own_k49 : decode method_3_code 54 = .ok (.ifCond .eq 7, 3) := by decide +kernel
theorem own_k50 : decode method_3_code 61 = .ok (.iconst 0, 1) := by decide +kernel
theorem own_k51 : decode method_3_code 57 = .ok (.iconst 1, 1) := by decide +kernel
theorem own_k52 : decode method_3_code 58 = .ok (.goto 4, 3) := by decide +kernel
def own_j1_54_s0 (x0 : Int32) : Int32 := (if ((own_ushr x0 (2 : Int32)) &&& (1 : Int32)) = (0 : Int32) then (0 : Int32) else (1 : Int32))
theorem own_k53 : decode method_3_code 62 = .ok (.bastore, 1) := by decide +kernel
def own_h1_44_Aa (x0 : Int32) (z : Int32) (f : Nat → Int32) : Nat → Int32 := (if (2 : Int32) < z then (own_upd (own_h1_23_Aa x0 z f) 2 (nar .boolean (own_j1_54_s0 x0))) else (own_h1_23_Aa x0 z f))
theorem own_k54 : decode method_3_code 63 = .ok (.iload_n 2, 1) := by decide +kernel
theorem own_k55 : decode method_3_code 64 = .ok (.iconst 3, 1) := by decide +kernel
theorem own_k56 : decode method_3_code 65 = .ok (.if_icmp .le 19, 3) := by decide +kernel
theorem own_k57 : decode method_3_code 68 = .ok (.aload_n 0, 1) := by decide +kernel
theorem own_k58 : decode method_3_code 69 = .ok (.iconst 3, 1) := by decide +kernel
theorem own_k59 : decode method_3_code 70 = .ok (.iload_n 1, 1) := by decide +kernel
theorem own_k60 : decode method_3_code 71 = .ok (.iconst 3, 1) := by decide +kernel
theorem own_k61 : decode method_3_code 72 = .ok (.iushr, 1) := by decide +kernel
theorem own_k62 : decode method_3_code 73 = .ok (.iconst 1, 1) := by decide +kernel
theorem own_k63 : decode method_3_code 74 = .ok (.iand, 1) := by decide +kernel
theorem own_k64 : decode method_3_code 75 = .ok (.ifCond .eq 7, 3) := by decide +kernel
theorem own_k65 : decode method_3_code 82 = .ok (.iconst 0, 1) := by decide +kernel
theorem own_k66 : decode method_3_code 78 = .ok (.iconst 1, 1) := by decide +kernel
theorem own_k67 : decode method_3_code 79 = .ok (.goto 4, 3) := by decide +kernel
def own_j1_75_s0 (x0 : Int32) : Int32 := (if ((own_ushr x0 (3 : Int32)) &&& (1 : Int32)) = (0 : Int32) then (0 : Int32) else (1 : Int32))
theorem own_k68 : decode method_3_code 83 = .ok (.bastore, 1) := by decide +kernel
def own_h1_65_Aa (x0 : Int32) (z : Int32) (f : Nat → Int32) : Nat → Int32 := (if (3 : Int32) < z then (own_upd (own_h1_44_Aa x0 z f) 3 (nar .boolean (own_j1_75_s0 x0))) else (own_h1_44_Aa x0 z f))
theorem own_k69 : decode method_3_code 84 = .ok (.iload_n 2, 1) := by decide +kernel
theorem own_k70 : decode method_3_code 85 = .ok (.iconst 4, 1) := by decide +kernel
theorem own_k71 : decode method_3_code 86 = .ok (.if_icmp .le 19, 3) := by decide +kernel
theorem own_k72 : decode method_3_code 89 = .ok (.aload_n 0, 1) := by decide +kernel
theorem own_k73 : decode method_3_code 90 = .ok (.iconst 4, 1) := by decide +kernel
theorem own_k74 : decode method_3_code 91 = .ok (.iload_n 1, 1) := by decide +kernel
theorem own_k75 : decode method_3_code 92 = .ok (.iconst 4, 1) := by decide +kernel
theorem own_k76 : decode method_3_code 93 = .ok (.iushr, 1) := by decide +kernel
theorem own_k77 : decode method_3_code 94 = .ok (.iconst 1, 1) := by decide +kernel
theorem own_k78 : decode method_3_code 95 = .ok (.iand, 1) := by decide +kernel
theorem own_k79 : decode method_3_code 96 = .ok (.ifCond .eq 7, 3) := by decide +kernel
theorem own_k80 : decode method_3_code 103 = .ok (.iconst 0, 1) := by decide +kernel
theorem own_k81 : decode method_3_code 99 = .ok (.iconst 1, 1) := by decide +kernel
theorem own_k82 : decode method_3_code 100 = .ok (.goto 4, 3) := by decide +kernel
def own_j1_96_s0 (x0 : Int32) : Int32 := (if ((own_ushr x0 (4 : Int32)) &&& (1 : Int32)) = (0 : Int32) then (0 : Int32) else (1 : Int32))
theorem own_k83 : decode method_3_code 104 = .ok (.bastore, 1) := by decide +kernel
def own_h1_86_Aa (x0 : Int32) (z : Int32) (f : Nat → Int32) : Nat → Int32 := (if (4 : Int32) < z then (own_upd (own_h1_65_Aa x0 z f) 4 (nar .boolean (own_j1_96_s0 x0))) else (own_h1_65_Aa x0 z f))
theorem own_k84 : decode method_3_code 105 = .ok (.iload_n 2, 1) := by decide +kernel
theorem own_k85 : decode method_3_code 106 = .ok (.iconst 5, 1) := by decide +kernel
theorem own_k86 : decode method_3_code 107 = .ok (.if_icmp .le 19, 3) := by decide +kernel
theorem own_k87 : decode method_3_code 110 = .ok (.aload_n 0, 1) := by decide +kernel
theorem own_k88 : decode method_3_code 111 = .ok (.iconst 5, 1) := by decide +kernel
theorem own_k89 : decode method_3_code 112 = .ok (.iload_n 1, 1) := by decide +kernel
theorem own_k90 : decode method_3_code 113 = .ok (.iconst 5, 1) := by decide +kernel
theorem own_k91 : decode method_3_code 114 = .ok (.iushr, 1) := by decide +kernel
theorem own_k92 : decode method_3_code 115 = .ok (.iconst 1, 1) := by decide +kernel
theorem own_k93 : decode method_3_code 116 = .ok (.iand, 1) := by decide +kernel
theorem own_k94 : decode method_3_code 117 = .ok (.ifCond .eq 7, 3) := by decide +kernel
theorem own_k95 : decode method_3_code 124 = .ok (.iconst 0, 1) := by decide +kernel
theorem own_k96 : decode method_3_code 120 = .ok (.iconst 1, 1) := by decide +kernel
theorem own_k97 : decode method_3_code 121 = .ok (.goto 4, 3) := by decide +kernel
def own_j1_117_s0 (x0 : Int32) : Int32 := (if ((own_ushr x0 (5 : Int32)) &&& (1 : Int32)) = (0 : Int32) then (0 : Int32) else (1 : Int32))
theorem own_k98 : decode method_3_code 125 = .ok (.bastore, 1) := by decide +kernel
def own_h1_107_Aa (x0 : Int32) (z : Int32) (f : Nat → Int32) : Nat → Int32 := (if (5 : Int32) < z then (own_upd (own_h1_86_Aa x0 z f) 5 (nar .boolean (own_j1_117_s0 x0))) else (own_h1_86_Aa x0 z f))
theorem own_k99 : decode method_3_code 126 = .ok (.iload_n 2, 1) := by decide +kernel
theorem own_k100 : decode method_3_code 127 = .ok (.bipush 6, 2) := by decide +kernel
theorem own_k101 : decode method_3_code 129 = .ok (.if_icmp .le 21, 3) := by decide +kernel
theorem own_k102 : decode method_3_code 132 = .ok (.aload_n 0, 1) := by decide +kernel
theorem own_k103 : decode method_3_code 133 = .ok (.bipush 6, 2) := by decide +kernel
theorem own_k104 : decode method_3_code 135 = .ok (.iload_n 1, 1) := by decide +kernel
theorem own_k105 : decode method_3_code 136 = .ok (.bipush 6, 2) := by decide +kernel
theorem own_k106 : decode method_3_code 138 = .ok (.iushr, 1) := by decide +kernel
theorem own_k107 : decode method_3_code 139 = .ok (.iconst 1, 1) := by decide +kernel
theorem own_k108 : decode method_3_code 140 = .ok (.iand, 1) := by decide +kernel
theorem own_k109 : decode method_3_code 141 = .ok (.ifCond .eq 7, 3) := by decide +kernel
theorem own_k110 : decode method_3_code 148 = .ok (.iconst 0, 1) := by decide +kernel
theorem own_k111 : decode method_3_code 144 = .ok (.iconst 1, 1) := by decide +kernel
theorem own_k112 : decode method_3_code 145 = .ok (.goto 4, 3) := by decide +kernel
def own_j1_141_s0 (x0 : Int32) : Int32 := (if ((own_ushr x0 (6 : Int32)) &&& (1 : Int32)) = (0 : Int32) then (0 : Int32) else (1 : Int32))
theorem own_k113 : decode method_3_code 149 = .ok (.bastore, 1) := by decide +kernel
def own_h1_129_Aa (x0 : Int32) (z : Int32) (f : Nat → Int32) : Nat → Int32 := (if (6 : Int32) < z then (own_upd (own_h1_107_Aa x0 z f) 6 (nar .boolean (own_j1_141_s0 x0))) else (own_h1_107_Aa x0 z f))
theorem own_k114 : decode method_3_code 150 = .ok (.iload_n 2, 1) := by decide +kernel
theorem own_k115 : decode method_3_code 151 = .ok (.bipush 7, 2) := by decide +kernel
theorem own_k116 : decode method_3_code 153 = .ok (.if_icmp .le 21, 3) := by decide +kernel
theorem own_k117 : decode method_3_code 156 = .ok (.aload_n 0, 1) := by decide +kernel
theorem own_k118 : decode method_3_code 157 = .ok (.bipush 7, 2) := by decide +kernel
theorem own_k119 : decode method_3_code 159 = .ok (.iload_n 1, 1) := by decide +kernel
theorem own_k120 : decode method_3_code 160 = .ok (.bipush 7, 2) := by decide +kernel
theorem own_k121 : decode method_3_code 162 = .ok (.iushr, 1) := by decide +kernel
theorem own_k122 : decode method_3_code 163 = .ok (.iconst 1, 1) := by decide +kernel
theorem own_k123 : decode method_3_code 164 = .ok (.iand, 1) := by decide +kernel
theorem own_k124 : decode method_3_code 165 = .ok (.ifCond .eq 7, 3) := by decide +kernel
theorem own_k125 : decode method_3_code 172 = .ok (.iconst 0, 1) := by decide +kernel
theorem own_k126 : decode method_3_code 168 = .ok (.iconst 1, 1) := by decide +kernel
theorem own_k127 : decode method_3_code 169 = .ok (.goto 4, 3) := by decide +kernel
def own_j1_165_s0 (x0 : Int32) : Int32 := (if ((own_ushr x0 (7 : Int32)) &&& (1 : Int32)) = (0 : Int32) then (0 : Int32) else (1 : Int32))
theorem own_k128 : decode method_3_code 173 = .ok (.bastore, 1) := by decide +kernel
def own_h1_153_Aa (x0 : Int32) (z : Int32) (f : Nat → Int32) : Nat → Int32 := (if (7 : Int32) < z then (own_upd (own_h1_129_Aa x0 z f) 7 (nar .boolean (own_j1_165_s0 x0))) else (own_h1_129_Aa x0 z f))
theorem own_k129 : decode method_3_code 174 = .ok (.iload_n 2, 1) := by decide +kernel
theorem own_k130 : decode method_3_code 175 = .ok (.bipush 8, 2) := by decide +kernel
theorem own_k131 : decode method_3_code 177 = .ok (.if_icmp .le 21, 3) := by decide +kernel
theorem own_k132 : decode method_3_code 180 = .ok (.aload_n 0, 1) := by decide +kernel
theorem own_k133 : decode method_3_code 181 = .ok (.bipush 8, 2) := by decide +kernel
theorem own_k134 : decode method_3_code 183 = .ok (.iload_n 1, 1) := by decide +kernel
theorem own_k135 : decode method_3_code 184 = .ok (.bipush 8, 2) := by decide +kernel
theorem own_k136 : decode method_3_code 186 = .ok (.iushr, 1) := by decide +kernel
theorem own_k137 : decode method_3_code 187 = .ok (.iconst 1, 1) := by decide +kernel
theorem own_k138 : decode method_3_code 188 = .ok (.iand, 1) := by decide +kernel
theorem own_k139 : decode method_3_code 189 = .ok (.ifCond .eq 7, 3) := by decide +kernel
theorem own_k140 : decode method_3_code 196 = .ok (.iconst 0, 1) := by decide +kernel
theorem own_k141 : decode method_3_code 192 = .ok (.iconst 1, 1) := by decide +kernel
theorem own_k142 : decode method_3_code 193 = .ok (.goto 4, 3) := by decide +kernel
def own_j1_189_s0 (x0 : Int32) : Int32 := (if ((own_ushr x0 (8 : Int32)) &&& (1 : Int32)) = (0 : Int32) then (0 : Int32) else (1 : Int32))
theorem own_k143 : decode method_3_code 197 = .ok (.bastore, 1) := by decide +kernel
theorem own_k144 : decode method_3_code 198 = .ok (.return_, 1) := by decide +kernel
theorem own_k145 : plainName "com/example/sidik/sidik/template/FingerprintAreaIsInsidePinLaw" = true := by first | (simp [plainName, overriddenIn]; done) | decide +kernel
def own_q1_a (x0 : Int32) (z : Int32) (f : Nat → Int32) : Nat → Int32 := (if (8 : Int32) < z then (own_upd (own_h1_153_Aa x0 z f) 8 (nar .boolean (own_j1_189_s0 x0))) else (own_h1_153_Aa x0 z f))
set_option maxRecDepth 65536 in
set_option maxHeartbeats 40000000 in
theorem own_rm1 (l : Launch) (Z : State) (a0 : Array Value) (hw : ∀ d ∈ tables_1, d.before a0 Z = true) (ws : List Jvm.Cond) (a : Addr) (x0 : Int32) (k_a : ClassId) (z : Int32) (f : Nat → Int32) (h0 : Heap) (n0 : Nat) (hn0 : n0 ≤ h0.size) (V_a : Arf Z h0 a k_a .boolean z f) (g_a : n0 ≤ a) : Meets l Z (⟨"com/example/sidik/sidik/template/FingerprintAreaIsInsidePinLaw", "fill", "([ZI)V"⟩ : MethodName) method_3_code 3 none ws ({ frames := 0, cells := 0, slots := 0, locals := 0 } : Room) #[(.ref a), (.int x0)] h0 (fun v h L => v = none ∧ Fr n0 L ∧ Keep h0 h [a] ∧ Arf Z h a k_a .boolean z (own_q1_a x0 z f)) := by
  refine meets_of (plainFor_of_name own_k145) ?_
  intro p e s m below meth c s₁ X0 hx hZ hby hml hret hlk hown hnm e0
  replace hml : c.maxLocals = 3 := hml
  replace hown : s.vm.findClass "com/example/sidik/sidik/template/FingerprintAreaIsInsidePinLaw" = some m.cls := hown
  refine Go.cast (own_k8 m a x0) ?_
  have N0 := Fr.nil n0
  have K0 : Keep h0 h0 [a] := Keep.refl h0 _
  refine Go.via (U' := s₁.setTop (mkF m 1 #[.val (.ref a), .val (.int x0), .unset] [(.ref a)])) (fun tG kG => XS.aloadN X0.here hx rfl (hb hby own_k9) rfl rfl kG) ?_
  refine Go.via (U' := s₁.setTop (mkF m 2 #[.val (.ref a), .val (.int x0), .unset] [(.int z)])) (fun tG kG => own_len X0 hx hZ e0 V_a (hb hby own_k10) tG kG) ?_
  refine Go.via (U' := s₁.setTop (mkF m 3 #[.val (.ref a), .val (.int x0), .val (.int z)] [])) (fun tG kG => XS.istoreN X0.here hx rfl (hb hby own_k11) rfl (l' := #[.val (.ref a), .val (.int x0), .val (.int z)]) rfl kG) ?_
  refine Go.via (U' := s₁.setTop (mkF m 4 #[.val (.ref a), .val (.int x0), .val (.int z)] [(.int z)])) (fun tG kG => XS.iloadN X0.here hx rfl (hb hby own_k12) rfl kG) ?_
  have J1 : ∀ T' h' L', Stand p l e ({ frames := 0, cells := 0, slots := 0, locals := 0 } : Room) s m #[(.ref a), (.int x0)] below meth c T' L' 0 0 → T'.heap = h' → Fr n0 L' → n0 ≤ h'.size → Keep h0 h' [a] → Arf Z h' a k_a .boolean z (own_h1_4_Aa x0 z f) → Go p e below s ({ frames := 0, cells := 0, slots := 0, locals := 0 } : Room).cells ({ frames := 0, cells := 0, slots := 0, locals := 0 } : Room).slots (fun v h L => v = none ∧ Fr n0 L ∧ Keep h0 h [a] ∧ Arf Z h a k_a .boolean z (own_q1_a x0 z f)) (T'.setTop (mkF m 21 #[.val (.ref a), .val (.int x0), .val (.int z)] [])) := by
    intro T2 h3 L4 X5 e6 N7 Z8 K9 f10
    refine Go.via (U' := T2.setTop (mkF m 22 #[.val (.ref a), .val (.int x0), .val (.int z)] [(.int z)])) (fun tG kG => XS.iloadN X5.here hx rfl (hb hby own_k24) rfl kG) ?_
    refine Go.via (U' := T2.setTop (mkF m 23 #[.val (.ref a), .val (.int x0), .val (.int z)] [(.int (1 : Int32)), (.int z)])) (fun tG kG => XS.iconst X5.here hx rfl (hb hby own_k25) kG) ?_
    have J11 : ∀ T' h' L', Stand p l e ({ frames := 0, cells := 0, slots := 0, locals := 0 } : Room) s m #[(.ref a), (.int x0)] below meth c T' L' 0 0 → T'.heap = h' → Fr n0 L' → n0 ≤ h'.size → Keep h0 h' [a] → Arf Z h' a k_a .boolean z (own_h1_23_Aa x0 z f) → Go p e below s ({ frames := 0, cells := 0, slots := 0, locals := 0 } : Room).cells ({ frames := 0, cells := 0, slots := 0, locals := 0 } : Room).slots (fun v h L => v = none ∧ Fr n0 L ∧ Keep h0 h [a] ∧ Arf Z h a k_a .boolean z (own_q1_a x0 z f)) (T'.setTop (mkF m 42 #[.val (.ref a), .val (.int x0), .val (.int z)] [])) := by
      intro T12 h13 L14 X15 e16 N17 Z18 K19 f20
      refine Go.via (U' := T12.setTop (mkF m 43 #[.val (.ref a), .val (.int x0), .val (.int z)] [(.int z)])) (fun tG kG => XS.iloadN X15.here hx rfl (hb hby own_k39) rfl kG) ?_
      refine Go.via (U' := T12.setTop (mkF m 44 #[.val (.ref a), .val (.int x0), .val (.int z)] [(.int (2 : Int32)), (.int z)])) (fun tG kG => XS.iconst X15.here hx rfl (hb hby own_k40) kG) ?_
      have J21 : ∀ T' h' L', Stand p l e ({ frames := 0, cells := 0, slots := 0, locals := 0 } : Room) s m #[(.ref a), (.int x0)] below meth c T' L' 0 0 → T'.heap = h' → Fr n0 L' → n0 ≤ h'.size → Keep h0 h' [a] → Arf Z h' a k_a .boolean z (own_h1_44_Aa x0 z f) → Go p e below s ({ frames := 0, cells := 0, slots := 0, locals := 0 } : Room).cells ({ frames := 0, cells := 0, slots := 0, locals := 0 } : Room).slots (fun v h L => v = none ∧ Fr n0 L ∧ Keep h0 h [a] ∧ Arf Z h a k_a .boolean z (own_q1_a x0 z f)) (T'.setTop (mkF m 63 #[.val (.ref a), .val (.int x0), .val (.int z)] [])) := by
        intro T22 h23 L24 X25 e26 N27 Z28 K29 f30
        refine Go.via (U' := T22.setTop (mkF m 64 #[.val (.ref a), .val (.int x0), .val (.int z)] [(.int z)])) (fun tG kG => XS.iloadN X25.here hx rfl (hb hby own_k54) rfl kG) ?_
        refine Go.via (U' := T22.setTop (mkF m 65 #[.val (.ref a), .val (.int x0), .val (.int z)] [(.int (3 : Int32)), (.int z)])) (fun tG kG => XS.iconst X25.here hx rfl (hb hby own_k55) kG) ?_
        have J31 : ∀ T' h' L', Stand p l e ({ frames := 0, cells := 0, slots := 0, locals := 0 } : Room) s m #[(.ref a), (.int x0)] below meth c T' L' 0 0 → T'.heap = h' → Fr n0 L' → n0 ≤ h'.size → Keep h0 h' [a] → Arf Z h' a k_a .boolean z (own_h1_65_Aa x0 z f) → Go p e below s ({ frames := 0, cells := 0, slots := 0, locals := 0 } : Room).cells ({ frames := 0, cells := 0, slots := 0, locals := 0 } : Room).slots (fun v h L => v = none ∧ Fr n0 L ∧ Keep h0 h [a] ∧ Arf Z h a k_a .boolean z (own_q1_a x0 z f)) (T'.setTop (mkF m 84 #[.val (.ref a), .val (.int x0), .val (.int z)] [])) := by
          intro T32 h33 L34 X35 e36 N37 Z38 K39 f40
          refine Go.via (U' := T32.setTop (mkF m 85 #[.val (.ref a), .val (.int x0), .val (.int z)] [(.int z)])) (fun tG kG => XS.iloadN X35.here hx rfl (hb hby own_k69) rfl kG) ?_
          refine Go.via (U' := T32.setTop (mkF m 86 #[.val (.ref a), .val (.int x0), .val (.int z)] [(.int (4 : Int32)), (.int z)])) (fun tG kG => XS.iconst X35.here hx rfl (hb hby own_k70) kG) ?_
          have J41 : ∀ T' h' L', Stand p l e ({ frames := 0, cells := 0, slots := 0, locals := 0 } : Room) s m #[(.ref a), (.int x0)] below meth c T' L' 0 0 → T'.heap = h' → Fr n0 L' → n0 ≤ h'.size → Keep h0 h' [a] → Arf Z h' a k_a .boolean z (own_h1_86_Aa x0 z f) → Go p e below s ({ frames := 0, cells := 0, slots := 0, locals := 0 } : Room).cells ({ frames := 0, cells := 0, slots := 0, locals := 0 } : Room).slots (fun v h L => v = none ∧ Fr n0 L ∧ Keep h0 h [a] ∧ Arf Z h a k_a .boolean z (own_q1_a x0 z f)) (T'.setTop (mkF m 105 #[.val (.ref a), .val (.int x0), .val (.int z)] [])) := by
            intro T42 h43 L44 X45 e46 N47 Z48 K49 f50
            refine Go.via (U' := T42.setTop (mkF m 106 #[.val (.ref a), .val (.int x0), .val (.int z)] [(.int z)])) (fun tG kG => XS.iloadN X45.here hx rfl (hb hby own_k84) rfl kG) ?_
            refine Go.via (U' := T42.setTop (mkF m 107 #[.val (.ref a), .val (.int x0), .val (.int z)] [(.int (5 : Int32)), (.int z)])) (fun tG kG => XS.iconst X45.here hx rfl (hb hby own_k85) kG) ?_
            have J51 : ∀ T' h' L', Stand p l e ({ frames := 0, cells := 0, slots := 0, locals := 0 } : Room) s m #[(.ref a), (.int x0)] below meth c T' L' 0 0 → T'.heap = h' → Fr n0 L' → n0 ≤ h'.size → Keep h0 h' [a] → Arf Z h' a k_a .boolean z (own_h1_107_Aa x0 z f) → Go p e below s ({ frames := 0, cells := 0, slots := 0, locals := 0 } : Room).cells ({ frames := 0, cells := 0, slots := 0, locals := 0 } : Room).slots (fun v h L => v = none ∧ Fr n0 L ∧ Keep h0 h [a] ∧ Arf Z h a k_a .boolean z (own_q1_a x0 z f)) (T'.setTop (mkF m 126 #[.val (.ref a), .val (.int x0), .val (.int z)] [])) := by
              intro T52 h53 L54 X55 e56 N57 Z58 K59 f60
              refine Go.via (U' := T52.setTop (mkF m 127 #[.val (.ref a), .val (.int x0), .val (.int z)] [(.int z)])) (fun tG kG => XS.iloadN X55.here hx rfl (hb hby own_k99) rfl kG) ?_
              refine Go.via (U' := T52.setTop (mkF m 129 #[.val (.ref a), .val (.int x0), .val (.int z)] [(.int (6 : Int32)), (.int z)])) (fun tG kG => XS.bipush X55.here hx rfl (hb hby own_k100) kG) ?_
              have J61 : ∀ T' h' L', Stand p l e ({ frames := 0, cells := 0, slots := 0, locals := 0 } : Room) s m #[(.ref a), (.int x0)] below meth c T' L' 0 0 → T'.heap = h' → Fr n0 L' → n0 ≤ h'.size → Keep h0 h' [a] → Arf Z h' a k_a .boolean z (own_h1_129_Aa x0 z f) → Go p e below s ({ frames := 0, cells := 0, slots := 0, locals := 0 } : Room).cells ({ frames := 0, cells := 0, slots := 0, locals := 0 } : Room).slots (fun v h L => v = none ∧ Fr n0 L ∧ Keep h0 h [a] ∧ Arf Z h a k_a .boolean z (own_q1_a x0 z f)) (T'.setTop (mkF m 150 #[.val (.ref a), .val (.int x0), .val (.int z)] [])) := by
                intro T62 h63 L64 X65 e66 N67 Z68 K69 f70
                refine Go.via (U' := T62.setTop (mkF m 151 #[.val (.ref a), .val (.int x0), .val (.int z)] [(.int z)])) (fun tG kG => XS.iloadN X65.here hx rfl (hb hby own_k114) rfl kG) ?_
                refine Go.via (U' := T62.setTop (mkF m 153 #[.val (.ref a), .val (.int x0), .val (.int z)] [(.int (7 : Int32)), (.int z)])) (fun tG kG => XS.bipush X65.here hx rfl (hb hby own_k115) kG) ?_
                have J71 : ∀ T' h' L', Stand p l e ({ frames := 0, cells := 0, slots := 0, locals := 0 } : Room) s m #[(.ref a), (.int x0)] below meth c T' L' 0 0 → T'.heap = h' → Fr n0 L' → n0 ≤ h'.size → Keep h0 h' [a] → Arf Z h' a k_a .boolean z (own_h1_153_Aa x0 z f) → Go p e below s ({ frames := 0, cells := 0, slots := 0, locals := 0 } : Room).cells ({ frames := 0, cells := 0, slots := 0, locals := 0 } : Room).slots (fun v h L => v = none ∧ Fr n0 L ∧ Keep h0 h [a] ∧ Arf Z h a k_a .boolean z (own_q1_a x0 z f)) (T'.setTop (mkF m 174 #[.val (.ref a), .val (.int x0), .val (.int z)] [])) := by
                  intro T72 h73 L74 X75 e76 N77 Z78 K79 f80
                  refine Go.via (U' := T72.setTop (mkF m 175 #[.val (.ref a), .val (.int x0), .val (.int z)] [(.int z)])) (fun tG kG => XS.iloadN X75.here hx rfl (hb hby own_k129) rfl kG) ?_
                  refine Go.via (U' := T72.setTop (mkF m 177 #[.val (.ref a), .val (.int x0), .val (.int z)] [(.int (8 : Int32)), (.int z)])) (fun tG kG => XS.bipush X75.here hx rfl (hb hby own_k130) kG) ?_
                  by_cases hc177 : (8 : Int32) < z
                  · refine Go.via (U' := T72.setTop (mkF m 180 #[.val (.ref a), .val (.int x0), .val (.int z)] [])) (fun tG kG => XS.icmpNo X75.here hx rfl (hb hby own_k131) rfl (tlt hc177).2.2.2 kG) ?_
                    refine Go.via (U' := T72.setTop (mkF m 181 #[.val (.ref a), .val (.int x0), .val (.int z)] [(.ref a)])) (fun tG kG => XS.aloadN X75.here hx rfl (hb hby own_k132) rfl rfl kG) ?_
                    refine Go.via (U' := T72.setTop (mkF m 183 #[.val (.ref a), .val (.int x0), .val (.int z)] [(.int (8 : Int32)), (.ref a)])) (fun tG kG => XS.bipush X75.here hx rfl (hb hby own_k133) kG) ?_
                    refine Go.via (U' := T72.setTop (mkF m 184 #[.val (.ref a), .val (.int x0), .val (.int z)] [(.int x0), (.int (8 : Int32)), (.ref a)])) (fun tG kG => XS.iloadN X75.here hx rfl (hb hby own_k134) rfl kG) ?_
                    refine Go.via (U' := T72.setTop (mkF m 186 #[.val (.ref a), .val (.int x0), .val (.int z)] [(.int (8 : Int32)), (.int x0), (.int (8 : Int32)), (.ref a)])) (fun tG kG => XS.bipush X75.here hx rfl (hb hby own_k135) kG) ?_
                    refine Go.via (U' := T72.setTop (mkF m 187 #[.val (.ref a), .val (.int x0), .val (.int z)] [(.int (own_ushr x0 (8 : Int32))), (.int (8 : Int32)), (.ref a)])) (fun tG kG => XS.iushr X75.here hx rfl (hb hby own_k136) rfl kG) ?_
                    refine Go.via (U' := T72.setTop (mkF m 188 #[.val (.ref a), .val (.int x0), .val (.int z)] [(.int (1 : Int32)), (.int (own_ushr x0 (8 : Int32))), (.int (8 : Int32)), (.ref a)])) (fun tG kG => XS.iconst X75.here hx rfl (hb hby own_k137) kG) ?_
                    refine Go.via (U' := T72.setTop (mkF m 189 #[.val (.ref a), .val (.int x0), .val (.int z)] [(.int ((own_ushr x0 (8 : Int32)) &&& (1 : Int32))), (.int (8 : Int32)), (.ref a)])) (fun tG kG => XS.iand X75.here hx rfl (hb hby own_k138) rfl kG) ?_
                    have J81 : ∀ T' L', Stand p l e ({ frames := 0, cells := 0, slots := 0, locals := 0 } : Room) s m #[(.ref a), (.int x0)] below meth c T' L' 0 0 → T'.heap = h73 → Fr n0 L' → Go p e below s ({ frames := 0, cells := 0, slots := 0, locals := 0 } : Room).cells ({ frames := 0, cells := 0, slots := 0, locals := 0 } : Room).slots (fun v h L => v = none ∧ Fr n0 L ∧ Keep h0 h [a] ∧ Arf Z h a k_a .boolean z (own_q1_a x0 z f)) (T'.setTop (mkF m 197 #[.val (.ref a), .val (.int x0), .val (.int z)] [(.int (own_j1_189_s0 x0)), (.int (8 : Int32)), (.ref a)])) := by
                      intro T82 L85 X83 e84 N86
                      obtain ⟨T87, h87, X87, e87, W87, A87, st87⟩ := own_stZ X83 hx hZ e84 f80 (j := (8 : Int32)) (x := (own_j1_189_s0 x0)) ⟨by decide, hc177⟩ (pc := 197) (Ls := #[.val (.ref a), .val (.int x0), .val (.int z)]) (rest := []) (hb hby own_k143)
                      replace A87 : Arf Z h87 a k_a .boolean z (own_upd (own_h1_153_Aa x0 z f) 8 (nar .boolean (own_j1_189_s0 x0))) := A87
                      have K87 := K79.wr W87 (Or.inl (List.mem_of_getElem? (i := 0) rfl))
                      have N87 := Fr.snoc X87 N86 g_a
                      have Z87 := Nat.le_trans Z78 (Keep.of_wr W87).1
                      refine Go.via (U' := T87.setTop (mkF m 198 #[.val (.ref a), .val (.int x0), .val (.int z)] [])) (fun tG kG => st87 tG kG) ?_
                      exact go_retV X87 hx hlk hret (hb hby own_k144) e87 ⟨rfl, N87, K87, (by rw [show (own_q1_a x0 z f) = (own_upd (own_h1_153_Aa x0 z f) 8 (nar .boolean (own_j1_189_s0 x0))) from by unfold own_q1_a; simp only [if_pos hc177]]; exact A87)⟩ (by decide) (by decide)
                    by_cases hc189 : ((own_ushr x0 (8 : Int32)) &&& (1 : Int32)) = (0 : Int32)
                    · refine Go.via (U' := T72.setTop (mkF m 196 #[.val (.ref a), .val (.int x0), .val (.int z)] [(.int (8 : Int32)), (.ref a)])) (fun tG kG => XS.ifYes X75.here hx rfl (pc0 := 189) (pc' := 196) rfl (hb hby own_k139) rfl ((if0 _ _).trans (teq hc189).1) (by decide) (by decide) kG) ?_
                      refine Go.via (U' := T72.setTop (mkF m 197 #[.val (.ref a), .val (.int x0), .val (.int z)] [(.int (0 : Int32)), (.int (8 : Int32)), (.ref a)])) (fun tG kG => XS.iconst X75.here hx rfl (hb hby own_k140) kG) ?_
                      have q_own_j1_189_s0 : (own_j1_189_s0 x0) = (0 : Int32) := by unfold own_j1_189_s0; simp only [if_pos hc189]
                      have q_J := J81 T72 _ X75 e76 N77
                      rw [q_own_j1_189_s0] at q_J
                      exact q_J
                    · refine Go.via (U' := T72.setTop (mkF m 192 #[.val (.ref a), .val (.int x0), .val (.int z)] [(.int (8 : Int32)), (.ref a)])) (fun tG kG => XS.ifNo X75.here hx rfl (hb hby own_k139) rfl ((if0 _ _).trans (feq hc189).1) kG) ?_
                      refine Go.via (U' := T72.setTop (mkF m 193 #[.val (.ref a), .val (.int x0), .val (.int z)] [(.int (1 : Int32)), (.int (8 : Int32)), (.ref a)])) (fun tG kG => XS.iconst X75.here hx rfl (hb hby own_k141) kG) ?_
                      refine Go.via (U' := T72.setTop (mkF m 197 #[.val (.ref a), .val (.int x0), .val (.int z)] [(.int (1 : Int32)), (.int (8 : Int32)), (.ref a)])) (fun tG kG => XS.goto X75.here hx rfl (pc0 := 193) (pc' := 197) rfl (hb hby own_k142) (by decide) (by decide) kG) ?_
                      have q_own_j1_189_s0 : (own_j1_189_s0 x0) = (1 : Int32) := by unfold own_j1_189_s0; simp only [if_neg hc189]
                      have q_J := J81 T72 _ X75 e76 N77
                      rw [q_own_j1_189_s0] at q_J
                      exact q_J
                  · refine Go.via (U' := T72.setTop (mkF m 198 #[.val (.ref a), .val (.int x0), .val (.int z)] [])) (fun tG kG => XS.icmpYes X75.here hx rfl (pc0 := 177) (pc' := 198) rfl (hb hby own_k131) rfl (flt hc177).2.2.2 (by decide) (by decide) kG) ?_
                    exact go_retV X75 hx hlk hret (hb hby own_k144) e76 ⟨rfl, N77, K79, (by rw [show (own_q1_a x0 z f) = (own_h1_153_Aa x0 z f) from by unfold own_q1_a; simp only [if_neg hc177]]; exact f80)⟩ (by decide) (by decide)
                by_cases hc153 : (7 : Int32) < z
                · refine Go.via (U' := T62.setTop (mkF m 156 #[.val (.ref a), .val (.int x0), .val (.int z)] [])) (fun tG kG => XS.icmpNo X65.here hx rfl (hb hby own_k116) rfl (tlt hc153).2.2.2 kG) ?_
                  refine Go.via (U' := T62.setTop (mkF m 157 #[.val (.ref a), .val (.int x0), .val (.int z)] [(.ref a)])) (fun tG kG => XS.aloadN X65.here hx rfl (hb hby own_k117) rfl rfl kG) ?_
                  refine Go.via (U' := T62.setTop (mkF m 159 #[.val (.ref a), .val (.int x0), .val (.int z)] [(.int (7 : Int32)), (.ref a)])) (fun tG kG => XS.bipush X65.here hx rfl (hb hby own_k118) kG) ?_
                  refine Go.via (U' := T62.setTop (mkF m 160 #[.val (.ref a), .val (.int x0), .val (.int z)] [(.int x0), (.int (7 : Int32)), (.ref a)])) (fun tG kG => XS.iloadN X65.here hx rfl (hb hby own_k119) rfl kG) ?_
                  refine Go.via (U' := T62.setTop (mkF m 162 #[.val (.ref a), .val (.int x0), .val (.int z)] [(.int (7 : Int32)), (.int x0), (.int (7 : Int32)), (.ref a)])) (fun tG kG => XS.bipush X65.here hx rfl (hb hby own_k120) kG) ?_
                  refine Go.via (U' := T62.setTop (mkF m 163 #[.val (.ref a), .val (.int x0), .val (.int z)] [(.int (own_ushr x0 (7 : Int32))), (.int (7 : Int32)), (.ref a)])) (fun tG kG => XS.iushr X65.here hx rfl (hb hby own_k121) rfl kG) ?_
                  refine Go.via (U' := T62.setTop (mkF m 164 #[.val (.ref a), .val (.int x0), .val (.int z)] [(.int (1 : Int32)), (.int (own_ushr x0 (7 : Int32))), (.int (7 : Int32)), (.ref a)])) (fun tG kG => XS.iconst X65.here hx rfl (hb hby own_k122) kG) ?_
                  refine Go.via (U' := T62.setTop (mkF m 165 #[.val (.ref a), .val (.int x0), .val (.int z)] [(.int ((own_ushr x0 (7 : Int32)) &&& (1 : Int32))), (.int (7 : Int32)), (.ref a)])) (fun tG kG => XS.iand X65.here hx rfl (hb hby own_k123) rfl kG) ?_
                  have J88 : ∀ T' L', Stand p l e ({ frames := 0, cells := 0, slots := 0, locals := 0 } : Room) s m #[(.ref a), (.int x0)] below meth c T' L' 0 0 → T'.heap = h63 → Fr n0 L' → Go p e below s ({ frames := 0, cells := 0, slots := 0, locals := 0 } : Room).cells ({ frames := 0, cells := 0, slots := 0, locals := 0 } : Room).slots (fun v h L => v = none ∧ Fr n0 L ∧ Keep h0 h [a] ∧ Arf Z h a k_a .boolean z (own_q1_a x0 z f)) (T'.setTop (mkF m 173 #[.val (.ref a), .val (.int x0), .val (.int z)] [(.int (own_j1_165_s0 x0)), (.int (7 : Int32)), (.ref a)])) := by
                    intro T89 L92 X90 e91 N93
                    obtain ⟨T94, h94, X94, e94, W94, A94, st94⟩ := own_stZ X90 hx hZ e91 f70 (j := (7 : Int32)) (x := (own_j1_165_s0 x0)) ⟨by decide, hc153⟩ (pc := 173) (Ls := #[.val (.ref a), .val (.int x0), .val (.int z)]) (rest := []) (hb hby own_k128)
                    replace A94 : Arf Z h94 a k_a .boolean z (own_upd (own_h1_129_Aa x0 z f) 7 (nar .boolean (own_j1_165_s0 x0))) := A94
                    have K94 := K69.wr W94 (Or.inl (List.mem_of_getElem? (i := 0) rfl))
                    have N94 := Fr.snoc X94 N93 g_a
                    have Z94 := Nat.le_trans Z68 (Keep.of_wr W94).1
                    refine Go.via (U' := T94.setTop (mkF m 174 #[.val (.ref a), .val (.int x0), .val (.int z)] [])) (fun tG kG => st94 tG kG) ?_
                    have q_own_h1_153_Aa : (own_h1_153_Aa x0 z f) = (own_upd (own_h1_129_Aa x0 z f) 7 (nar .boolean (own_j1_165_s0 x0))) := by unfold own_h1_153_Aa; simp only [if_pos hc153]
                    have q_J := J71 T94 _ _ X94 e94 N94 Z94 K94 (by rw [q_own_h1_153_Aa]; exact A94)
                    exact q_J
                  by_cases hc165 : ((own_ushr x0 (7 : Int32)) &&& (1 : Int32)) = (0 : Int32)
                  · refine Go.via (U' := T62.setTop (mkF m 172 #[.val (.ref a), .val (.int x0), .val (.int z)] [(.int (7 : Int32)), (.ref a)])) (fun tG kG => XS.ifYes X65.here hx rfl (pc0 := 165) (pc' := 172) rfl (hb hby own_k124) rfl ((if0 _ _).trans (teq hc165).1) (by decide) (by decide) kG) ?_
                    refine Go.via (U' := T62.setTop (mkF m 173 #[.val (.ref a), .val (.int x0), .val (.int z)] [(.int (0 : Int32)), (.int (7 : Int32)), (.ref a)])) (fun tG kG => XS.iconst X65.here hx rfl (hb hby own_k125) kG) ?_
                    have q_own_j1_165_s0 : (own_j1_165_s0 x0) = (0 : Int32) := by unfold own_j1_165_s0; simp only [if_pos hc165]
                    have q_J := J88 T62 _ X65 e66 N67
                    rw [q_own_j1_165_s0] at q_J
                    exact q_J
                  · refine Go.via (U' := T62.setTop (mkF m 168 #[.val (.ref a), .val (.int x0), .val (.int z)] [(.int (7 : Int32)), (.ref a)])) (fun tG kG => XS.ifNo X65.here hx rfl (hb hby own_k124) rfl ((if0 _ _).trans (feq hc165).1) kG) ?_
                    refine Go.via (U' := T62.setTop (mkF m 169 #[.val (.ref a), .val (.int x0), .val (.int z)] [(.int (1 : Int32)), (.int (7 : Int32)), (.ref a)])) (fun tG kG => XS.iconst X65.here hx rfl (hb hby own_k126) kG) ?_
                    refine Go.via (U' := T62.setTop (mkF m 173 #[.val (.ref a), .val (.int x0), .val (.int z)] [(.int (1 : Int32)), (.int (7 : Int32)), (.ref a)])) (fun tG kG => XS.goto X65.here hx rfl (pc0 := 169) (pc' := 173) rfl (hb hby own_k127) (by decide) (by decide) kG) ?_
                    have q_own_j1_165_s0 : (own_j1_165_s0 x0) = (1 : Int32) := by unfold own_j1_165_s0; simp only [if_neg hc165]
                    have q_J := J88 T62 _ X65 e66 N67
                    rw [q_own_j1_165_s0] at q_J
                    exact q_J
                · refine Go.via (U' := T62.setTop (mkF m 174 #[.val (.ref a), .val (.int x0), .val (.int z)] [])) (fun tG kG => XS.icmpYes X65.here hx rfl (pc0 := 153) (pc' := 174) rfl (hb hby own_k116) rfl (flt hc153).2.2.2 (by decide) (by decide) kG) ?_
                  have q_own_h1_153_Aa : (own_h1_153_Aa x0 z f) = (own_h1_129_Aa x0 z f) := by unfold own_h1_153_Aa; simp only [if_neg hc153]
                  have q_J := J71 T62 _ _ X65 e66 N67 Z68 K69 (by rw [q_own_h1_153_Aa]; exact f70)
                  exact q_J
              by_cases hc129 : (6 : Int32) < z
              · refine Go.via (U' := T52.setTop (mkF m 132 #[.val (.ref a), .val (.int x0), .val (.int z)] [])) (fun tG kG => XS.icmpNo X55.here hx rfl (hb hby own_k101) rfl (tlt hc129).2.2.2 kG) ?_
                refine Go.via (U' := T52.setTop (mkF m 133 #[.val (.ref a), .val (.int x0), .val (.int z)] [(.ref a)])) (fun tG kG => XS.aloadN X55.here hx rfl (hb hby own_k102) rfl rfl kG) ?_
                refine Go.via (U' := T52.setTop (mkF m 135 #[.val (.ref a), .val (.int x0), .val (.int z)] [(.int (6 : Int32)), (.ref a)])) (fun tG kG => XS.bipush X55.here hx rfl (hb hby own_k103) kG) ?_
                refine Go.via (U' := T52.setTop (mkF m 136 #[.val (.ref a), .val (.int x0), .val (.int z)] [(.int x0), (.int (6 : Int32)), (.ref a)])) (fun tG kG => XS.iloadN X55.here hx rfl (hb hby own_k104) rfl kG) ?_
                refine Go.via (U' := T52.setTop (mkF m 138 #[.val (.ref a), .val (.int x0), .val (.int z)] [(.int (6 : Int32)), (.int x0), (.int (6 : Int32)), (.ref a)])) (fun tG kG => XS.bipush X55.here hx rfl (hb hby own_k105) kG) ?_
                refine Go.via (U' := T52.setTop (mkF m 139 #[.val (.ref a), .val (.int x0), .val (.int z)] [(.int (own_ushr x0 (6 : Int32))), (.int (6 : Int32)), (.ref a)])) (fun tG kG => XS.iushr X55.here hx rfl (hb hby own_k106) rfl kG) ?_
                refine Go.via (U' := T52.setTop (mkF m 140 #[.val (.ref a), .val (.int x0), .val (.int z)] [(.int (1 : Int32)), (.int (own_ushr x0 (6 : Int32))), (.int (6 : Int32)), (.ref a)])) (fun tG kG => XS.iconst X55.here hx rfl (hb hby own_k107) kG) ?_
                refine Go.via (U' := T52.setTop (mkF m 141 #[.val (.ref a), .val (.int x0), .val (.int z)] [(.int ((own_ushr x0 (6 : Int32)) &&& (1 : Int32))), (.int (6 : Int32)), (.ref a)])) (fun tG kG => XS.iand X55.here hx rfl (hb hby own_k108) rfl kG) ?_
                have J95 : ∀ T' L', Stand p l e ({ frames := 0, cells := 0, slots := 0, locals := 0 } : Room) s m #[(.ref a), (.int x0)] below meth c T' L' 0 0 → T'.heap = h53 → Fr n0 L' → Go p e below s ({ frames := 0, cells := 0, slots := 0, locals := 0 } : Room).cells ({ frames := 0, cells := 0, slots := 0, locals := 0 } : Room).slots (fun v h L => v = none ∧ Fr n0 L ∧ Keep h0 h [a] ∧ Arf Z h a k_a .boolean z (own_q1_a x0 z f)) (T'.setTop (mkF m 149 #[.val (.ref a), .val (.int x0), .val (.int z)] [(.int (own_j1_141_s0 x0)), (.int (6 : Int32)), (.ref a)])) := by
                  intro T96 L99 X97 e98 N100
                  obtain ⟨T101, h101, X101, e101, W101, A101, st101⟩ := own_stZ X97 hx hZ e98 f60 (j := (6 : Int32)) (x := (own_j1_141_s0 x0)) ⟨by decide, hc129⟩ (pc := 149) (Ls := #[.val (.ref a), .val (.int x0), .val (.int z)]) (rest := []) (hb hby own_k113)
                  replace A101 : Arf Z h101 a k_a .boolean z (own_upd (own_h1_107_Aa x0 z f) 6 (nar .boolean (own_j1_141_s0 x0))) := A101
                  have K101 := K59.wr W101 (Or.inl (List.mem_of_getElem? (i := 0) rfl))
                  have N101 := Fr.snoc X101 N100 g_a
                  have Z101 := Nat.le_trans Z58 (Keep.of_wr W101).1
                  refine Go.via (U' := T101.setTop (mkF m 150 #[.val (.ref a), .val (.int x0), .val (.int z)] [])) (fun tG kG => st101 tG kG) ?_
                  have q_own_h1_129_Aa : (own_h1_129_Aa x0 z f) = (own_upd (own_h1_107_Aa x0 z f) 6 (nar .boolean (own_j1_141_s0 x0))) := by unfold own_h1_129_Aa; simp only [if_pos hc129]
                  have q_J := J61 T101 _ _ X101 e101 N101 Z101 K101 (by rw [q_own_h1_129_Aa]; exact A101)
                  exact q_J
                by_cases hc141 : ((own_ushr x0 (6 : Int32)) &&& (1 : Int32)) = (0 : Int32)
                · refine Go.via (U' := T52.setTop (mkF m 148 #[.val (.ref a), .val (.int x0), .val (.int z)] [(.int (6 : Int32)), (.ref a)])) (fun tG kG => XS.ifYes X55.here hx rfl (pc0 := 141) (pc' := 148) rfl (hb hby own_k109) rfl ((if0 _ _).trans (teq hc141).1) (by decide) (by decide) kG) ?_
                  refine Go.via (U' := T52.setTop (mkF m 149 #[.val (.ref a), .val (.int x0), .val (.int z)] [(.int (0 : Int32)), (.int (6 : Int32)), (.ref a)])) (fun tG kG => XS.iconst X55.here hx rfl (hb hby own_k110) kG) ?_
                  have q_own_j1_141_s0 : (own_j1_141_s0 x0) = (0 : Int32) := by unfold own_j1_141_s0; simp only [if_pos hc141]
                  have q_J := J95 T52 _ X55 e56 N57
                  rw [q_own_j1_141_s0] at q_J
                  exact q_J
                · refine Go.via (U' := T52.setTop (mkF m 144 #[.val (.ref a), .val (.int x0), .val (.int z)] [(.int (6 : Int32)), (.ref a)])) (fun tG kG => XS.ifNo X55.here hx rfl (hb hby own_k109) rfl ((if0 _ _).trans (feq hc141).1) kG) ?_
                  refine Go.via (U' := T52.setTop (mkF m 145 #[.val (.ref a), .val (.int x0), .val (.int z)] [(.int (1 : Int32)), (.int (6 : Int32)), (.ref a)])) (fun tG kG => XS.iconst X55.here hx rfl (hb hby own_k111) kG) ?_
                  refine Go.via (U' := T52.setTop (mkF m 149 #[.val (.ref a), .val (.int x0), .val (.int z)] [(.int (1 : Int32)), (.int (6 : Int32)), (.ref a)])) (fun tG kG => XS.goto X55.here hx rfl (pc0 := 145) (pc' := 149) rfl (hb hby own_k112) (by decide) (by decide) kG) ?_
                  have q_own_j1_141_s0 : (own_j1_141_s0 x0) = (1 : Int32) := by unfold own_j1_141_s0; simp only [if_neg hc141]
                  have q_J := J95 T52 _ X55 e56 N57
                  rw [q_own_j1_141_s0] at q_J
                  exact q_J
              · refine Go.via (U' := T52.setTop (mkF m 150 #[.val (.ref a), .val (.int x0), .val (.int z)] [])) (fun tG kG => XS.icmpYes X55.here hx rfl (pc0 := 129) (pc' := 150) rfl (hb hby own_k101) rfl (flt hc129).2.2.2 (by decide) (by decide) kG) ?_
                have q_own_h1_129_Aa : (own_h1_129_Aa x0 z f) = (own_h1_107_Aa x0 z f) := by unfold own_h1_129_Aa; simp only [if_neg hc129]
                have q_J := J61 T52 _ _ X55 e56 N57 Z58 K59 (by rw [q_own_h1_129_Aa]; exact f60)
                exact q_J
            by_cases hc107 : (5 : Int32) < z
            · refine Go.via (U' := T42.setTop (mkF m 110 #[.val (.ref a), .val (.int x0), .val (.int z)] [])) (fun tG kG => XS.icmpNo X45.here hx rfl (hb hby own_k86) rfl (tlt hc107).2.2.2 kG) ?_
              refine Go.via (U' := T42.setTop (mkF m 111 #[.val (.ref a), .val (.int x0), .val (.int z)] [(.ref a)])) (fun tG kG => XS.aloadN X45.here hx rfl (hb hby own_k87) rfl rfl kG) ?_
              refine Go.via (U' := T42.setTop (mkF m 112 #[.val (.ref a), .val (.int x0), .val (.int z)] [(.int (5 : Int32)), (.ref a)])) (fun tG kG => XS.iconst X45.here hx rfl (hb hby own_k88) kG) ?_
              refine Go.via (U' := T42.setTop (mkF m 113 #[.val (.ref a), .val (.int x0), .val (.int z)] [(.int x0), (.int (5 : Int32)), (.ref a)])) (fun tG kG => XS.iloadN X45.here hx rfl (hb hby own_k89) rfl kG) ?_
              refine Go.via (U' := T42.setTop (mkF m 114 #[.val (.ref a), .val (.int x0), .val (.int z)] [(.int (5 : Int32)), (.int x0), (.int (5 : Int32)), (.ref a)])) (fun tG kG => XS.iconst X45.here hx rfl (hb hby own_k90) kG) ?_
              refine Go.via (U' := T42.setTop (mkF m 115 #[.val (.ref a), .val (.int x0), .val (.int z)] [(.int (own_ushr x0 (5 : Int32))), (.int (5 : Int32)), (.ref a)])) (fun tG kG => XS.iushr X45.here hx rfl (hb hby own_k91) rfl kG) ?_
              refine Go.via (U' := T42.setTop (mkF m 116 #[.val (.ref a), .val (.int x0), .val (.int z)] [(.int (1 : Int32)), (.int (own_ushr x0 (5 : Int32))), (.int (5 : Int32)), (.ref a)])) (fun tG kG => XS.iconst X45.here hx rfl (hb hby own_k92) kG) ?_
              refine Go.via (U' := T42.setTop (mkF m 117 #[.val (.ref a), .val (.int x0), .val (.int z)] [(.int ((own_ushr x0 (5 : Int32)) &&& (1 : Int32))), (.int (5 : Int32)), (.ref a)])) (fun tG kG => XS.iand X45.here hx rfl (hb hby own_k93) rfl kG) ?_
              have J102 : ∀ T' L', Stand p l e ({ frames := 0, cells := 0, slots := 0, locals := 0 } : Room) s m #[(.ref a), (.int x0)] below meth c T' L' 0 0 → T'.heap = h43 → Fr n0 L' → Go p e below s ({ frames := 0, cells := 0, slots := 0, locals := 0 } : Room).cells ({ frames := 0, cells := 0, slots := 0, locals := 0 } : Room).slots (fun v h L => v = none ∧ Fr n0 L ∧ Keep h0 h [a] ∧ Arf Z h a k_a .boolean z (own_q1_a x0 z f)) (T'.setTop (mkF m 125 #[.val (.ref a), .val (.int x0), .val (.int z)] [(.int (own_j1_117_s0 x0)), (.int (5 : Int32)), (.ref a)])) := by
                intro T103 L106 X104 e105 N107
                obtain ⟨T108, h108, X108, e108, W108, A108, st108⟩ := own_stZ X104 hx hZ e105 f50 (j := (5 : Int32)) (x := (own_j1_117_s0 x0)) ⟨by decide, hc107⟩ (pc := 125) (Ls := #[.val (.ref a), .val (.int x0), .val (.int z)]) (rest := []) (hb hby own_k98)
                replace A108 : Arf Z h108 a k_a .boolean z (own_upd (own_h1_86_Aa x0 z f) 5 (nar .boolean (own_j1_117_s0 x0))) := A108
                have K108 := K49.wr W108 (Or.inl (List.mem_of_getElem? (i := 0) rfl))
                have N108 := Fr.snoc X108 N107 g_a
                have Z108 := Nat.le_trans Z48 (Keep.of_wr W108).1
                refine Go.via (U' := T108.setTop (mkF m 126 #[.val (.ref a), .val (.int x0), .val (.int z)] [])) (fun tG kG => st108 tG kG) ?_
                have q_own_h1_107_Aa : (own_h1_107_Aa x0 z f) = (own_upd (own_h1_86_Aa x0 z f) 5 (nar .boolean (own_j1_117_s0 x0))) := by unfold own_h1_107_Aa; simp only [if_pos hc107]
                have q_J := J51 T108 _ _ X108 e108 N108 Z108 K108 (by rw [q_own_h1_107_Aa]; exact A108)
                exact q_J
              by_cases hc117 : ((own_ushr x0 (5 : Int32)) &&& (1 : Int32)) = (0 : Int32)
              · refine Go.via (U' := T42.setTop (mkF m 124 #[.val (.ref a), .val (.int x0), .val (.int z)] [(.int (5 : Int32)), (.ref a)])) (fun tG kG => XS.ifYes X45.here hx rfl (pc0 := 117) (pc' := 124) rfl (hb hby own_k94) rfl ((if0 _ _).trans (teq hc117).1) (by decide) (by decide) kG) ?_
                refine Go.via (U' := T42.setTop (mkF m 125 #[.val (.ref a), .val (.int x0), .val (.int z)] [(.int (0 : Int32)), (.int (5 : Int32)), (.ref a)])) (fun tG kG => XS.iconst X45.here hx rfl (hb hby own_k95) kG) ?_
                have q_own_j1_117_s0 : (own_j1_117_s0 x0) = (0 : Int32) := by unfold own_j1_117_s0; simp only [if_pos hc117]
                have q_J := J102 T42 _ X45 e46 N47
                rw [q_own_j1_117_s0] at q_J
                exact q_J
              · refine Go.via (U' := T42.setTop (mkF m 120 #[.val (.ref a), .val (.int x0), .val (.int z)] [(.int (5 : Int32)), (.ref a)])) (fun tG kG => XS.ifNo X45.here hx rfl (hb hby own_k94) rfl ((if0 _ _).trans (feq hc117).1) kG) ?_
                refine Go.via (U' := T42.setTop (mkF m 121 #[.val (.ref a), .val (.int x0), .val (.int z)] [(.int (1 : Int32)), (.int (5 : Int32)), (.ref a)])) (fun tG kG => XS.iconst X45.here hx rfl (hb hby own_k96) kG) ?_
                refine Go.via (U' := T42.setTop (mkF m 125 #[.val (.ref a), .val (.int x0), .val (.int z)] [(.int (1 : Int32)), (.int (5 : Int32)), (.ref a)])) (fun tG kG => XS.goto X45.here hx rfl (pc0 := 121) (pc' := 125) rfl (hb hby own_k97) (by decide) (by decide) kG) ?_
                have q_own_j1_117_s0 : (own_j1_117_s0 x0) = (1 : Int32) := by unfold own_j1_117_s0; simp only [if_neg hc117]
                have q_J := J102 T42 _ X45 e46 N47
                rw [q_own_j1_117_s0] at q_J
                exact q_J
            · refine Go.via (U' := T42.setTop (mkF m 126 #[.val (.ref a), .val (.int x0), .val (.int z)] [])) (fun tG kG => XS.icmpYes X45.here hx rfl (pc0 := 107) (pc' := 126) rfl (hb hby own_k86) rfl (flt hc107).2.2.2 (by decide) (by decide) kG) ?_
              have q_own_h1_107_Aa : (own_h1_107_Aa x0 z f) = (own_h1_86_Aa x0 z f) := by unfold own_h1_107_Aa; simp only [if_neg hc107]
              have q_J := J51 T42 _ _ X45 e46 N47 Z48 K49 (by rw [q_own_h1_107_Aa]; exact f50)
              exact q_J
          by_cases hc86 : (4 : Int32) < z
          · refine Go.via (U' := T32.setTop (mkF m 89 #[.val (.ref a), .val (.int x0), .val (.int z)] [])) (fun tG kG => XS.icmpNo X35.here hx rfl (hb hby own_k71) rfl (tlt hc86).2.2.2 kG) ?_
            refine Go.via (U' := T32.setTop (mkF m 90 #[.val (.ref a), .val (.int x0), .val (.int z)] [(.ref a)])) (fun tG kG => XS.aloadN X35.here hx rfl (hb hby own_k72) rfl rfl kG) ?_
            refine Go.via (U' := T32.setTop (mkF m 91 #[.val (.ref a), .val (.int x0), .val (.int z)] [(.int (4 : Int32)), (.ref a)])) (fun tG kG => XS.iconst X35.here hx rfl (hb hby own_k73) kG) ?_
            refine Go.via (U' := T32.setTop (mkF m 92 #[.val (.ref a), .val (.int x0), .val (.int z)] [(.int x0), (.int (4 : Int32)), (.ref a)])) (fun tG kG => XS.iloadN X35.here hx rfl (hb hby own_k74) rfl kG) ?_
            refine Go.via (U' := T32.setTop (mkF m 93 #[.val (.ref a), .val (.int x0), .val (.int z)] [(.int (4 : Int32)), (.int x0), (.int (4 : Int32)), (.ref a)])) (fun tG kG => XS.iconst X35.here hx rfl (hb hby own_k75) kG) ?_
            refine Go.via (U' := T32.setTop (mkF m 94 #[.val (.ref a), .val (.int x0), .val (.int z)] [(.int (own_ushr x0 (4 : Int32))), (.int (4 : Int32)), (.ref a)])) (fun tG kG => XS.iushr X35.here hx rfl (hb hby own_k76) rfl kG) ?_
            refine Go.via (U' := T32.setTop (mkF m 95 #[.val (.ref a), .val (.int x0), .val (.int z)] [(.int (1 : Int32)), (.int (own_ushr x0 (4 : Int32))), (.int (4 : Int32)), (.ref a)])) (fun tG kG => XS.iconst X35.here hx rfl (hb hby own_k77) kG) ?_
            refine Go.via (U' := T32.setTop (mkF m 96 #[.val (.ref a), .val (.int x0), .val (.int z)] [(.int ((own_ushr x0 (4 : Int32)) &&& (1 : Int32))), (.int (4 : Int32)), (.ref a)])) (fun tG kG => XS.iand X35.here hx rfl (hb hby own_k78) rfl kG) ?_
            have J109 : ∀ T' L', Stand p l e ({ frames := 0, cells := 0, slots := 0, locals := 0 } : Room) s m #[(.ref a), (.int x0)] below meth c T' L' 0 0 → T'.heap = h33 → Fr n0 L' → Go p e below s ({ frames := 0, cells := 0, slots := 0, locals := 0 } : Room).cells ({ frames := 0, cells := 0, slots := 0, locals := 0 } : Room).slots (fun v h L => v = none ∧ Fr n0 L ∧ Keep h0 h [a] ∧ Arf Z h a k_a .boolean z (own_q1_a x0 z f)) (T'.setTop (mkF m 104 #[.val (.ref a), .val (.int x0), .val (.int z)] [(.int (own_j1_96_s0 x0)), (.int (4 : Int32)), (.ref a)])) := by
              intro T110 L113 X111 e112 N114
              obtain ⟨T115, h115, X115, e115, W115, A115, st115⟩ := own_stZ X111 hx hZ e112 f40 (j := (4 : Int32)) (x := (own_j1_96_s0 x0)) ⟨by decide, hc86⟩ (pc := 104) (Ls := #[.val (.ref a), .val (.int x0), .val (.int z)]) (rest := []) (hb hby own_k83)
              replace A115 : Arf Z h115 a k_a .boolean z (own_upd (own_h1_65_Aa x0 z f) 4 (nar .boolean (own_j1_96_s0 x0))) := A115
              have K115 := K39.wr W115 (Or.inl (List.mem_of_getElem? (i := 0) rfl))
              have N115 := Fr.snoc X115 N114 g_a
              have Z115 := Nat.le_trans Z38 (Keep.of_wr W115).1
              refine Go.via (U' := T115.setTop (mkF m 105 #[.val (.ref a), .val (.int x0), .val (.int z)] [])) (fun tG kG => st115 tG kG) ?_
              have q_own_h1_86_Aa : (own_h1_86_Aa x0 z f) = (own_upd (own_h1_65_Aa x0 z f) 4 (nar .boolean (own_j1_96_s0 x0))) := by unfold own_h1_86_Aa; simp only [if_pos hc86]
              have q_J := J41 T115 _ _ X115 e115 N115 Z115 K115 (by rw [q_own_h1_86_Aa]; exact A115)
              exact q_J
            by_cases hc96 : ((own_ushr x0 (4 : Int32)) &&& (1 : Int32)) = (0 : Int32)
            · refine Go.via (U' := T32.setTop (mkF m 103 #[.val (.ref a), .val (.int x0), .val (.int z)] [(.int (4 : Int32)), (.ref a)])) (fun tG kG => XS.ifYes X35.here hx rfl (pc0 := 96) (pc' := 103) rfl (hb hby own_k79) rfl ((if0 _ _).trans (teq hc96).1) (by decide) (by decide) kG) ?_
              refine Go.via (U' := T32.setTop (mkF m 104 #[.val (.ref a), .val (.int x0), .val (.int z)] [(.int (0 : Int32)), (.int (4 : Int32)), (.ref a)])) (fun tG kG => XS.iconst X35.here hx rfl (hb hby own_k80) kG) ?_
              have q_own_j1_96_s0 : (own_j1_96_s0 x0) = (0 : Int32) := by unfold own_j1_96_s0; simp only [if_pos hc96]
              have q_J := J109 T32 _ X35 e36 N37
              rw [q_own_j1_96_s0] at q_J
              exact q_J
            · refine Go.via (U' := T32.setTop (mkF m 99 #[.val (.ref a), .val (.int x0), .val (.int z)] [(.int (4 : Int32)), (.ref a)])) (fun tG kG => XS.ifNo X35.here hx rfl (hb hby own_k79) rfl ((if0 _ _).trans (feq hc96).1) kG) ?_
              refine Go.via (U' := T32.setTop (mkF m 100 #[.val (.ref a), .val (.int x0), .val (.int z)] [(.int (1 : Int32)), (.int (4 : Int32)), (.ref a)])) (fun tG kG => XS.iconst X35.here hx rfl (hb hby own_k81) kG) ?_
              refine Go.via (U' := T32.setTop (mkF m 104 #[.val (.ref a), .val (.int x0), .val (.int z)] [(.int (1 : Int32)), (.int (4 : Int32)), (.ref a)])) (fun tG kG => XS.goto X35.here hx rfl (pc0 := 100) (pc' := 104) rfl (hb hby own_k82) (by decide) (by decide) kG) ?_
              have q_own_j1_96_s0 : (own_j1_96_s0 x0) = (1 : Int32) := by unfold own_j1_96_s0; simp only [if_neg hc96]
              have q_J := J109 T32 _ X35 e36 N37
              rw [q_own_j1_96_s0] at q_J
              exact q_J
          · refine Go.via (U' := T32.setTop (mkF m 105 #[.val (.ref a), .val (.int x0), .val (.int z)] [])) (fun tG kG => XS.icmpYes X35.here hx rfl (pc0 := 86) (pc' := 105) rfl (hb hby own_k71) rfl (flt hc86).2.2.2 (by decide) (by decide) kG) ?_
            have q_own_h1_86_Aa : (own_h1_86_Aa x0 z f) = (own_h1_65_Aa x0 z f) := by unfold own_h1_86_Aa; simp only [if_neg hc86]
            have q_J := J41 T32 _ _ X35 e36 N37 Z38 K39 (by rw [q_own_h1_86_Aa]; exact f40)
            exact q_J
        by_cases hc65 : (3 : Int32) < z
        · refine Go.via (U' := T22.setTop (mkF m 68 #[.val (.ref a), .val (.int x0), .val (.int z)] [])) (fun tG kG => XS.icmpNo X25.here hx rfl (hb hby own_k56) rfl (tlt hc65).2.2.2 kG) ?_
          refine Go.via (U' := T22.setTop (mkF m 69 #[.val (.ref a), .val (.int x0), .val (.int z)] [(.ref a)])) (fun tG kG => XS.aloadN X25.here hx rfl (hb hby own_k57) rfl rfl kG) ?_
          refine Go.via (U' := T22.setTop (mkF m 70 #[.val (.ref a), .val (.int x0), .val (.int z)] [(.int (3 : Int32)), (.ref a)])) (fun tG kG => XS.iconst X25.here hx rfl (hb hby own_k58) kG) ?_
          refine Go.via (U' := T22.setTop (mkF m 71 #[.val (.ref a), .val (.int x0), .val (.int z)] [(.int x0), (.int (3 : Int32)), (.ref a)])) (fun tG kG => XS.iloadN X25.here hx rfl (hb hby own_k59) rfl kG) ?_
          refine Go.via (U' := T22.setTop (mkF m 72 #[.val (.ref a), .val (.int x0), .val (.int z)] [(.int (3 : Int32)), (.int x0), (.int (3 : Int32)), (.ref a)])) (fun tG kG => XS.iconst X25.here hx rfl (hb hby own_k60) kG) ?_
          refine Go.via (U' := T22.setTop (mkF m 73 #[.val (.ref a), .val (.int x0), .val (.int z)] [(.int (own_ushr x0 (3 : Int32))), (.int (3 : Int32)), (.ref a)])) (fun tG kG => XS.iushr X25.here hx rfl (hb hby own_k61) rfl kG) ?_
          refine Go.via (U' := T22.setTop (mkF m 74 #[.val (.ref a), .val (.int x0), .val (.int z)] [(.int (1 : Int32)), (.int (own_ushr x0 (3 : Int32))), (.int (3 : Int32)), (.ref a)])) (fun tG kG => XS.iconst X25.here hx rfl (hb hby own_k62) kG) ?_
          refine Go.via (U' := T22.setTop (mkF m 75 #[.val (.ref a), .val (.int x0), .val (.int z)] [(.int ((own_ushr x0 (3 : Int32)) &&& (1 : Int32))), (.int (3 : Int32)), (.ref a)])) (fun tG kG => XS.iand X25.here hx rfl (hb hby own_k63) rfl kG) ?_
          have J116 : ∀ T' L', Stand p l e ({ frames := 0, cells := 0, slots := 0, locals := 0 } : Room) s m #[(.ref a), (.int x0)] below meth c T' L' 0 0 → T'.heap = h23 → Fr n0 L' → Go p e below s ({ frames := 0, cells := 0, slots := 0, locals := 0 } : Room).cells ({ frames := 0, cells := 0, slots := 0, locals := 0 } : Room).slots (fun v h L => v = none ∧ Fr n0 L ∧ Keep h0 h [a] ∧ Arf Z h a k_a .boolean z (own_q1_a x0 z f)) (T'.setTop (mkF m 83 #[.val (.ref a), .val (.int x0), .val (.int z)] [(.int (own_j1_75_s0 x0)), (.int (3 : Int32)), (.ref a)])) := by
            intro T117 L120 X118 e119 N121
            obtain ⟨T122, h122, X122, e122, W122, A122, st122⟩ := own_stZ X118 hx hZ e119 f30 (j := (3 : Int32)) (x := (own_j1_75_s0 x0)) ⟨by decide, hc65⟩ (pc := 83) (Ls := #[.val (.ref a), .val (.int x0), .val (.int z)]) (rest := []) (hb hby own_k68)
            replace A122 : Arf Z h122 a k_a .boolean z (own_upd (own_h1_44_Aa x0 z f) 3 (nar .boolean (own_j1_75_s0 x0))) := A122
            have K122 := K29.wr W122 (Or.inl (List.mem_of_getElem? (i := 0) rfl))
            have N122 := Fr.snoc X122 N121 g_a
            have Z122 := Nat.le_trans Z28 (Keep.of_wr W122).1
            refine Go.via (U' := T122.setTop (mkF m 84 #[.val (.ref a), .val (.int x0), .val (.int z)] [])) (fun tG kG => st122 tG kG) ?_
            have q_own_h1_65_Aa : (own_h1_65_Aa x0 z f) = (own_upd (own_h1_44_Aa x0 z f) 3 (nar .boolean (own_j1_75_s0 x0))) := by unfold own_h1_65_Aa; simp only [if_pos hc65]
            have q_J := J31 T122 _ _ X122 e122 N122 Z122 K122 (by rw [q_own_h1_65_Aa]; exact A122)
            exact q_J
          by_cases hc75 : ((own_ushr x0 (3 : Int32)) &&& (1 : Int32)) = (0 : Int32)
          · refine Go.via (U' := T22.setTop (mkF m 82 #[.val (.ref a), .val (.int x0), .val (.int z)] [(.int (3 : Int32)), (.ref a)])) (fun tG kG => XS.ifYes X25.here hx rfl (pc0 := 75) (pc' := 82) rfl (hb hby own_k64) rfl ((if0 _ _).trans (teq hc75).1) (by decide) (by decide) kG) ?_
            refine Go.via (U' := T22.setTop (mkF m 83 #[.val (.ref a), .val (.int x0), .val (.int z)] [(.int (0 : Int32)), (.int (3 : Int32)), (.ref a)])) (fun tG kG => XS.iconst X25.here hx rfl (hb hby own_k65) kG) ?_
            have q_own_j1_75_s0 : (own_j1_75_s0 x0) = (0 : Int32) := by unfold own_j1_75_s0; simp only [if_pos hc75]
            have q_J := J116 T22 _ X25 e26 N27
            rw [q_own_j1_75_s0] at q_J
            exact q_J
          · refine Go.via (U' := T22.setTop (mkF m 78 #[.val (.ref a), .val (.int x0), .val (.int z)] [(.int (3 : Int32)), (.ref a)])) (fun tG kG => XS.ifNo X25.here hx rfl (hb hby own_k64) rfl ((if0 _ _).trans (feq hc75).1) kG) ?_
            refine Go.via (U' := T22.setTop (mkF m 79 #[.val (.ref a), .val (.int x0), .val (.int z)] [(.int (1 : Int32)), (.int (3 : Int32)), (.ref a)])) (fun tG kG => XS.iconst X25.here hx rfl (hb hby own_k66) kG) ?_
            refine Go.via (U' := T22.setTop (mkF m 83 #[.val (.ref a), .val (.int x0), .val (.int z)] [(.int (1 : Int32)), (.int (3 : Int32)), (.ref a)])) (fun tG kG => XS.goto X25.here hx rfl (pc0 := 79) (pc' := 83) rfl (hb hby own_k67) (by decide) (by decide) kG) ?_
            have q_own_j1_75_s0 : (own_j1_75_s0 x0) = (1 : Int32) := by unfold own_j1_75_s0; simp only [if_neg hc75]
            have q_J := J116 T22 _ X25 e26 N27
            rw [q_own_j1_75_s0] at q_J
            exact q_J
        · refine Go.via (U' := T22.setTop (mkF m 84 #[.val (.ref a), .val (.int x0), .val (.int z)] [])) (fun tG kG => XS.icmpYes X25.here hx rfl (pc0 := 65) (pc' := 84) rfl (hb hby own_k56) rfl (flt hc65).2.2.2 (by decide) (by decide) kG) ?_
          have q_own_h1_65_Aa : (own_h1_65_Aa x0 z f) = (own_h1_44_Aa x0 z f) := by unfold own_h1_65_Aa; simp only [if_neg hc65]
          have q_J := J31 T22 _ _ X25 e26 N27 Z28 K29 (by rw [q_own_h1_65_Aa]; exact f30)
          exact q_J
      by_cases hc44 : (2 : Int32) < z
      · refine Go.via (U' := T12.setTop (mkF m 47 #[.val (.ref a), .val (.int x0), .val (.int z)] [])) (fun tG kG => XS.icmpNo X15.here hx rfl (hb hby own_k41) rfl (tlt hc44).2.2.2 kG) ?_
        refine Go.via (U' := T12.setTop (mkF m 48 #[.val (.ref a), .val (.int x0), .val (.int z)] [(.ref a)])) (fun tG kG => XS.aloadN X15.here hx rfl (hb hby own_k42) rfl rfl kG) ?_
        refine Go.via (U' := T12.setTop (mkF m 49 #[.val (.ref a), .val (.int x0), .val (.int z)] [(.int (2 : Int32)), (.ref a)])) (fun tG kG => XS.iconst X15.here hx rfl (hb hby own_k43) kG) ?_
        refine Go.via (U' := T12.setTop (mkF m 50 #[.val (.ref a), .val (.int x0), .val (.int z)] [(.int x0), (.int (2 : Int32)), (.ref a)])) (fun tG kG => XS.iloadN X15.here hx rfl (hb hby own_k44) rfl kG) ?_
        refine Go.via (U' := T12.setTop (mkF m 51 #[.val (.ref a), .val (.int x0), .val (.int z)] [(.int (2 : Int32)), (.int x0), (.int (2 : Int32)), (.ref a)])) (fun tG kG => XS.iconst X15.here hx rfl (hb hby own_k45) kG) ?_
        refine Go.via (U' := T12.setTop (mkF m 52 #[.val (.ref a), .val (.int x0), .val (.int z)] [(.int (own_ushr x0 (2 : Int32))), (.int (2 : Int32)), (.ref a)])) (fun tG kG => XS.iushr X15.here hx rfl (hb hby own_k46) rfl kG) ?_
        refine Go.via (U' := T12.setTop (mkF m 53 #[.val (.ref a), .val (.int x0), .val (.int z)] [(.int (1 : Int32)), (.int (own_ushr x0 (2 : Int32))), (.int (2 : Int32)), (.ref a)])) (fun tG kG => XS.iconst X15.here hx rfl (hb hby own_k47) kG) ?_
        refine Go.via (U' := T12.setTop (mkF m 54 #[.val (.ref a), .val (.int x0), .val (.int z)] [(.int ((own_ushr x0 (2 : Int32)) &&& (1 : Int32))), (.int (2 : Int32)), (.ref a)])) (fun tG kG => XS.iand X15.here hx rfl (hb hby own_k48) rfl kG) ?_
        have J123 : ∀ T' L', Stand p l e ({ frames := 0, cells := 0, slots := 0, locals := 0 } : Room) s m #[(.ref a), (.int x0)] below meth c T' L' 0 0 → T'.heap = h13 → Fr n0 L' → Go p e below s ({ frames := 0, cells := 0, slots := 0, locals := 0 } : Room).cells ({ frames := 0, cells := 0, slots := 0, locals := 0 } : Room).slots (fun v h L => v = none ∧ Fr n0 L ∧ Keep h0 h [a] ∧ Arf Z h a k_a .boolean z (own_q1_a x0 z f)) (T'.setTop (mkF m 62 #[.val (.ref a), .val (.int x0), .val (.int z)] [(.int (own_j1_54_s0 x0)), (.int (2 : Int32)), (.ref a)])) := by
          intro T124 L127 X125 e126 N128
          obtain ⟨T129, h129, X129, e129, W129, A129, st129⟩ := own_stZ X125 hx hZ e126 f20 (j := (2 : Int32)) (x := (own_j1_54_s0 x0)) ⟨by decide, hc44⟩ (pc := 62) (Ls := #[.val (.ref a), .val (.int x0), .val (.int z)]) (rest := []) (hb hby own_k53)
          replace A129 : Arf Z h129 a k_a .boolean z (own_upd (own_h1_23_Aa x0 z f) 2 (nar .boolean (own_j1_54_s0 x0))) := A129
          have K129 := K19.wr W129 (Or.inl (List.mem_of_getElem? (i := 0) rfl))
          have N129 := Fr.snoc X129 N128 g_a
          have Z129 := Nat.le_trans Z18 (Keep.of_wr W129).1
          refine Go.via (U' := T129.setTop (mkF m 63 #[.val (.ref a), .val (.int x0), .val (.int z)] [])) (fun tG kG => st129 tG kG) ?_
          have q_own_h1_44_Aa : (own_h1_44_Aa x0 z f) = (own_upd (own_h1_23_Aa x0 z f) 2 (nar .boolean (own_j1_54_s0 x0))) := by unfold own_h1_44_Aa; simp only [if_pos hc44]
          have q_J := J21 T129 _ _ X129 e129 N129 Z129 K129 (by rw [q_own_h1_44_Aa]; exact A129)
          exact q_J
        by_cases hc54 : ((own_ushr x0 (2 : Int32)) &&& (1 : Int32)) = (0 : Int32)
        · refine Go.via (U' := T12.setTop (mkF m 61 #[.val (.ref a), .val (.int x0), .val (.int z)] [(.int (2 : Int32)), (.ref a)])) (fun tG kG => XS.ifYes X15.here hx rfl (pc0 := 54) (pc' := 61) rfl (hb hby own_k49) rfl ((if0 _ _).trans (teq hc54).1) (by decide) (by decide) kG) ?_
          refine Go.via (U' := T12.setTop (mkF m 62 #[.val (.ref a), .val (.int x0), .val (.int z)] [(.int (0 : Int32)), (.int (2 : Int32)), (.ref a)])) (fun tG kG => XS.iconst X15.here hx rfl (hb hby own_k50) kG) ?_
          have q_own_j1_54_s0 : (own_j1_54_s0 x0) = (0 : Int32) := by unfold own_j1_54_s0; simp only [if_pos hc54]
          have q_J := J123 T12 _ X15 e16 N17
          rw [q_own_j1_54_s0] at q_J
          exact q_J
        · refine Go.via (U' := T12.setTop (mkF m 57 #[.val (.ref a), .val (.int x0), .val (.int z)] [(.int (2 : Int32)), (.ref a)])) (fun tG kG => XS.ifNo X15.here hx rfl (hb hby own_k49) rfl ((if0 _ _).trans (feq hc54).1) kG) ?_
          refine Go.via (U' := T12.setTop (mkF m 58 #[.val (.ref a), .val (.int x0), .val (.int z)] [(.int (1 : Int32)), (.int (2 : Int32)), (.ref a)])) (fun tG kG => XS.iconst X15.here hx rfl (hb hby own_k51) kG) ?_
          refine Go.via (U' := T12.setTop (mkF m 62 #[.val (.ref a), .val (.int x0), .val (.int z)] [(.int (1 : Int32)), (.int (2 : Int32)), (.ref a)])) (fun tG kG => XS.goto X15.here hx rfl (pc0 := 58) (pc' := 62) rfl (hb hby own_k52) (by decide) (by decide) kG) ?_
          have q_own_j1_54_s0 : (own_j1_54_s0 x0) = (1 : Int32) := by unfold own_j1_54_s0; simp only [if_neg hc54]
          have q_J := J123 T12 _ X15 e16 N17
          rw [q_own_j1_54_s0] at q_J
          exact q_J
      · refine Go.via (U' := T12.setTop (mkF m 63 #[.val (.ref a), .val (.int x0), .val (.int z)] [])) (fun tG kG => XS.icmpYes X15.here hx rfl (pc0 := 44) (pc' := 63) rfl (hb hby own_k41) rfl (flt hc44).2.2.2 (by decide) (by decide) kG) ?_
        have q_own_h1_44_Aa : (own_h1_44_Aa x0 z f) = (own_h1_23_Aa x0 z f) := by unfold own_h1_44_Aa; simp only [if_neg hc44]
        have q_J := J21 T12 _ _ X15 e16 N17 Z18 K19 (by rw [q_own_h1_44_Aa]; exact f20)
        exact q_J
    by_cases hc23 : (1 : Int32) < z
    · refine Go.via (U' := T2.setTop (mkF m 26 #[.val (.ref a), .val (.int x0), .val (.int z)] [])) (fun tG kG => XS.icmpNo X5.here hx rfl (hb hby own_k26) rfl (tlt hc23).2.2.2 kG) ?_
      refine Go.via (U' := T2.setTop (mkF m 27 #[.val (.ref a), .val (.int x0), .val (.int z)] [(.ref a)])) (fun tG kG => XS.aloadN X5.here hx rfl (hb hby own_k27) rfl rfl kG) ?_
      refine Go.via (U' := T2.setTop (mkF m 28 #[.val (.ref a), .val (.int x0), .val (.int z)] [(.int (1 : Int32)), (.ref a)])) (fun tG kG => XS.iconst X5.here hx rfl (hb hby own_k28) kG) ?_
      refine Go.via (U' := T2.setTop (mkF m 29 #[.val (.ref a), .val (.int x0), .val (.int z)] [(.int x0), (.int (1 : Int32)), (.ref a)])) (fun tG kG => XS.iloadN X5.here hx rfl (hb hby own_k29) rfl kG) ?_
      refine Go.via (U' := T2.setTop (mkF m 30 #[.val (.ref a), .val (.int x0), .val (.int z)] [(.int (1 : Int32)), (.int x0), (.int (1 : Int32)), (.ref a)])) (fun tG kG => XS.iconst X5.here hx rfl (hb hby own_k30) kG) ?_
      refine Go.via (U' := T2.setTop (mkF m 31 #[.val (.ref a), .val (.int x0), .val (.int z)] [(.int (own_ushr x0 (1 : Int32))), (.int (1 : Int32)), (.ref a)])) (fun tG kG => XS.iushr X5.here hx rfl (hb hby own_k31) rfl kG) ?_
      refine Go.via (U' := T2.setTop (mkF m 32 #[.val (.ref a), .val (.int x0), .val (.int z)] [(.int (1 : Int32)), (.int (own_ushr x0 (1 : Int32))), (.int (1 : Int32)), (.ref a)])) (fun tG kG => XS.iconst X5.here hx rfl (hb hby own_k32) kG) ?_
      refine Go.via (U' := T2.setTop (mkF m 33 #[.val (.ref a), .val (.int x0), .val (.int z)] [(.int ((own_ushr x0 (1 : Int32)) &&& (1 : Int32))), (.int (1 : Int32)), (.ref a)])) (fun tG kG => XS.iand X5.here hx rfl (hb hby own_k33) rfl kG) ?_
      have J130 : ∀ T' L', Stand p l e ({ frames := 0, cells := 0, slots := 0, locals := 0 } : Room) s m #[(.ref a), (.int x0)] below meth c T' L' 0 0 → T'.heap = h3 → Fr n0 L' → Go p e below s ({ frames := 0, cells := 0, slots := 0, locals := 0 } : Room).cells ({ frames := 0, cells := 0, slots := 0, locals := 0 } : Room).slots (fun v h L => v = none ∧ Fr n0 L ∧ Keep h0 h [a] ∧ Arf Z h a k_a .boolean z (own_q1_a x0 z f)) (T'.setTop (mkF m 41 #[.val (.ref a), .val (.int x0), .val (.int z)] [(.int (own_j1_33_s0 x0)), (.int (1 : Int32)), (.ref a)])) := by
        intro T131 L134 X132 e133 N135
        obtain ⟨T136, h136, X136, e136, W136, A136, st136⟩ := own_stZ X132 hx hZ e133 f10 (j := (1 : Int32)) (x := (own_j1_33_s0 x0)) ⟨by decide, hc23⟩ (pc := 41) (Ls := #[.val (.ref a), .val (.int x0), .val (.int z)]) (rest := []) (hb hby own_k38)
        replace A136 : Arf Z h136 a k_a .boolean z (own_upd (own_h1_4_Aa x0 z f) 1 (nar .boolean (own_j1_33_s0 x0))) := A136
        have K136 := K9.wr W136 (Or.inl (List.mem_of_getElem? (i := 0) rfl))
        have N136 := Fr.snoc X136 N135 g_a
        have Z136 := Nat.le_trans Z8 (Keep.of_wr W136).1
        refine Go.via (U' := T136.setTop (mkF m 42 #[.val (.ref a), .val (.int x0), .val (.int z)] [])) (fun tG kG => st136 tG kG) ?_
        have q_own_h1_23_Aa : (own_h1_23_Aa x0 z f) = (own_upd (own_h1_4_Aa x0 z f) 1 (nar .boolean (own_j1_33_s0 x0))) := by unfold own_h1_23_Aa; simp only [if_pos hc23]
        have q_J := J11 T136 _ _ X136 e136 N136 Z136 K136 (by rw [q_own_h1_23_Aa]; exact A136)
        exact q_J
      by_cases hc33 : ((own_ushr x0 (1 : Int32)) &&& (1 : Int32)) = (0 : Int32)
      · refine Go.via (U' := T2.setTop (mkF m 40 #[.val (.ref a), .val (.int x0), .val (.int z)] [(.int (1 : Int32)), (.ref a)])) (fun tG kG => XS.ifYes X5.here hx rfl (pc0 := 33) (pc' := 40) rfl (hb hby own_k34) rfl ((if0 _ _).trans (teq hc33).1) (by decide) (by decide) kG) ?_
        refine Go.via (U' := T2.setTop (mkF m 41 #[.val (.ref a), .val (.int x0), .val (.int z)] [(.int (0 : Int32)), (.int (1 : Int32)), (.ref a)])) (fun tG kG => XS.iconst X5.here hx rfl (hb hby own_k35) kG) ?_
        have q_own_j1_33_s0 : (own_j1_33_s0 x0) = (0 : Int32) := by unfold own_j1_33_s0; simp only [if_pos hc33]
        have q_J := J130 T2 _ X5 e6 N7
        rw [q_own_j1_33_s0] at q_J
        exact q_J
      · refine Go.via (U' := T2.setTop (mkF m 36 #[.val (.ref a), .val (.int x0), .val (.int z)] [(.int (1 : Int32)), (.ref a)])) (fun tG kG => XS.ifNo X5.here hx rfl (hb hby own_k34) rfl ((if0 _ _).trans (feq hc33).1) kG) ?_
        refine Go.via (U' := T2.setTop (mkF m 37 #[.val (.ref a), .val (.int x0), .val (.int z)] [(.int (1 : Int32)), (.int (1 : Int32)), (.ref a)])) (fun tG kG => XS.iconst X5.here hx rfl (hb hby own_k36) kG) ?_
        refine Go.via (U' := T2.setTop (mkF m 41 #[.val (.ref a), .val (.int x0), .val (.int z)] [(.int (1 : Int32)), (.int (1 : Int32)), (.ref a)])) (fun tG kG => XS.goto X5.here hx rfl (pc0 := 37) (pc' := 41) rfl (hb hby own_k37) (by decide) (by decide) kG) ?_
        have q_own_j1_33_s0 : (own_j1_33_s0 x0) = (1 : Int32) := by unfold own_j1_33_s0; simp only [if_neg hc33]
        have q_J := J130 T2 _ X5 e6 N7
        rw [q_own_j1_33_s0] at q_J
        exact q_J
    · refine Go.via (U' := T2.setTop (mkF m 42 #[.val (.ref a), .val (.int x0), .val (.int z)] [])) (fun tG kG => XS.icmpYes X5.here hx rfl (pc0 := 23) (pc' := 42) rfl (hb hby own_k26) rfl (flt hc23).2.2.2 (by decide) (by decide) kG) ?_
      have q_own_h1_23_Aa : (own_h1_23_Aa x0 z f) = (own_h1_4_Aa x0 z f) := by unfold own_h1_23_Aa; simp only [if_neg hc23]
      have q_J := J11 T2 _ _ X5 e6 N7 Z8 K9 (by rw [q_own_h1_23_Aa]; exact f10)
      exact q_J
  by_cases hc4 : (0 : Int32) < z
  · refine Go.via (U' := s₁.setTop (mkF m 7 #[.val (.ref a), .val (.int x0), .val (.int z)] [])) (fun tG kG => XS.ifNo X0.here hx rfl (hb hby own_k13) rfl ((if0 _ _).trans (tlt hc4).2.2.2) kG) ?_
    refine Go.via (U' := s₁.setTop (mkF m 8 #[.val (.ref a), .val (.int x0), .val (.int z)] [(.ref a)])) (fun tG kG => XS.aloadN X0.here hx rfl (hb hby own_k14) rfl rfl kG) ?_
    refine Go.via (U' := s₁.setTop (mkF m 9 #[.val (.ref a), .val (.int x0), .val (.int z)] [(.int (0 : Int32)), (.ref a)])) (fun tG kG => XS.iconst X0.here hx rfl (hb hby own_k15) kG) ?_
    refine Go.via (U' := s₁.setTop (mkF m 10 #[.val (.ref a), .val (.int x0), .val (.int z)] [(.int x0), (.int (0 : Int32)), (.ref a)])) (fun tG kG => XS.iloadN X0.here hx rfl (hb hby own_k16) rfl kG) ?_
    refine Go.via (U' := s₁.setTop (mkF m 11 #[.val (.ref a), .val (.int x0), .val (.int z)] [(.int (1 : Int32)), (.int x0), (.int (0 : Int32)), (.ref a)])) (fun tG kG => XS.iconst X0.here hx rfl (hb hby own_k17) kG) ?_
    refine Go.via (U' := s₁.setTop (mkF m 12 #[.val (.ref a), .val (.int x0), .val (.int z)] [(.int (x0 &&& (1 : Int32))), (.int (0 : Int32)), (.ref a)])) (fun tG kG => XS.iand X0.here hx rfl (hb hby own_k18) rfl kG) ?_
    have J137 : ∀ T' L', Stand p l e ({ frames := 0, cells := 0, slots := 0, locals := 0 } : Room) s m #[(.ref a), (.int x0)] below meth c T' L' 0 0 → T'.heap = h0 → Fr n0 L' → Go p e below s ({ frames := 0, cells := 0, slots := 0, locals := 0 } : Room).cells ({ frames := 0, cells := 0, slots := 0, locals := 0 } : Room).slots (fun v h L => v = none ∧ Fr n0 L ∧ Keep h0 h [a] ∧ Arf Z h a k_a .boolean z (own_q1_a x0 z f)) (T'.setTop (mkF m 20 #[.val (.ref a), .val (.int x0), .val (.int z)] [(.int (own_j1_12_s0 x0)), (.int (0 : Int32)), (.ref a)])) := by
      intro T138 L141 X139 e140 N142
      obtain ⟨T143, h143, X143, e143, W143, A143, st143⟩ := own_stZ X139 hx hZ e140 V_a (j := (0 : Int32)) (x := (own_j1_12_s0 x0)) ⟨by decide, hc4⟩ (pc := 20) (Ls := #[.val (.ref a), .val (.int x0), .val (.int z)]) (rest := []) (hb hby own_k23)
      replace A143 : Arf Z h143 a k_a .boolean z (own_upd f 0 (nar .boolean (own_j1_12_s0 x0))) := A143
      have K143 := K0.wr W143 (Or.inl (List.mem_of_getElem? (i := 0) rfl))
      have N143 := Fr.snoc X143 N142 g_a
      have Z143 := Nat.le_trans hn0 (Keep.of_wr W143).1
      refine Go.via (U' := T143.setTop (mkF m 21 #[.val (.ref a), .val (.int x0), .val (.int z)] [])) (fun tG kG => st143 tG kG) ?_
      have q_own_h1_4_Aa : (own_h1_4_Aa x0 z f) = (own_upd f 0 (nar .boolean (own_j1_12_s0 x0))) := by unfold own_h1_4_Aa; simp only [if_pos hc4]
      have q_J := J1 T143 _ _ X143 e143 N143 Z143 K143 (by rw [q_own_h1_4_Aa]; exact A143)
      exact q_J
    by_cases hc12 : (x0 &&& (1 : Int32)) = (0 : Int32)
    · refine Go.via (U' := s₁.setTop (mkF m 19 #[.val (.ref a), .val (.int x0), .val (.int z)] [(.int (0 : Int32)), (.ref a)])) (fun tG kG => XS.ifYes X0.here hx rfl (pc0 := 12) (pc' := 19) rfl (hb hby own_k19) rfl ((if0 _ _).trans (teq hc12).1) (by decide) (by decide) kG) ?_
      refine Go.via (U' := s₁.setTop (mkF m 20 #[.val (.ref a), .val (.int x0), .val (.int z)] [(.int (0 : Int32)), (.int (0 : Int32)), (.ref a)])) (fun tG kG => XS.iconst X0.here hx rfl (hb hby own_k20) kG) ?_
      have q_own_j1_12_s0 : (own_j1_12_s0 x0) = (0 : Int32) := by unfold own_j1_12_s0; simp only [if_pos hc12]
      have q_J := J137 s₁ _ X0 e0 N0
      rw [q_own_j1_12_s0] at q_J
      exact q_J
    · refine Go.via (U' := s₁.setTop (mkF m 15 #[.val (.ref a), .val (.int x0), .val (.int z)] [(.int (0 : Int32)), (.ref a)])) (fun tG kG => XS.ifNo X0.here hx rfl (hb hby own_k19) rfl ((if0 _ _).trans (feq hc12).1) kG) ?_
      refine Go.via (U' := s₁.setTop (mkF m 16 #[.val (.ref a), .val (.int x0), .val (.int z)] [(.int (1 : Int32)), (.int (0 : Int32)), (.ref a)])) (fun tG kG => XS.iconst X0.here hx rfl (hb hby own_k21) kG) ?_
      refine Go.via (U' := s₁.setTop (mkF m 20 #[.val (.ref a), .val (.int x0), .val (.int z)] [(.int (1 : Int32)), (.int (0 : Int32)), (.ref a)])) (fun tG kG => XS.goto X0.here hx rfl (pc0 := 16) (pc' := 20) rfl (hb hby own_k22) (by decide) (by decide) kG) ?_
      have q_own_j1_12_s0 : (own_j1_12_s0 x0) = (1 : Int32) := by unfold own_j1_12_s0; simp only [if_neg hc12]
      have q_J := J137 s₁ _ X0 e0 N0
      rw [q_own_j1_12_s0] at q_J
      exact q_J
  · refine Go.via (U' := s₁.setTop (mkF m 21 #[.val (.ref a), .val (.int x0), .val (.int z)] [])) (fun tG kG => XS.ifYes X0.here hx rfl (pc0 := 4) (pc' := 21) rfl (hb hby own_k13) rfl ((if0 _ _).trans (flt hc4).2.2.2) (by decide) (by decide) kG) ?_
    have q_own_h1_4_Aa : (own_h1_4_Aa x0 z f) = f := by unfold own_h1_4_Aa; simp only [if_neg hc4]
    have q_J := J1 s₁ _ _ X0 e0 N0 hn0 K0 (by rw [q_own_h1_4_Aa]; exact V_a)
    exact q_J
theorem own_k146 (m : MethodId) (a : Addr) (x0 : Int32) (x1 : Int32) (x2 : Int32) (b : Addr) : entryFrame m #[(.ref a), (.int x0), (.int x1), (.int x2), (.ref b)] 5 = mkF m 0 #[.val (.ref a), .val (.int x0), .val (.int x1), .val (.int x2), .val (.ref b)] [] := by first | (simp [entryFrame, mkF, argsToLocals, Value.category]; done) | rfl
theorem own_k147 : decode prog_51_method_1_code 0 = .ok (.aload_n 0, 1) := by decide +kernel
theorem own_k148 : decode prog_51_method_1_code 1 = .ok (.invokespecial 1, 3) := by decide +kernel
theorem own_k149 : decode prog_51_method_1_code 4 = .ok (.iload_n 1, 1) := by decide +kernel
theorem own_k150 : decode prog_51_method_1_code 5 = .ok (.iconst 1, 1) := by decide +kernel
theorem own_k151 : decode prog_51_method_1_code 6 = .ok (.if_icmp .lt 13, 3) := by decide +kernel
theorem own_k152 : decode prog_51_method_1_code 9 = .ok (.iload_n 2, 1) := by decide +kernel
theorem own_k153 : decode prog_51_method_1_code 10 = .ok (.iconst 1, 1) := by decide +kernel
theorem own_k154 : decode prog_51_method_1_code 11 = .ok (.if_icmp .lt 8, 3) := by decide +kernel
theorem own_k155 : decode prog_51_method_1_code 14 = .ok (.iload_n 3, 1) := by decide +kernel
theorem own_k156 : decode prog_51_method_1_code 15 = .ok (.iconst 1, 1) := by decide +kernel
theorem own_k157 : decode prog_51_method_1_code 16 = .ok (.if_icmp .ge 13, 3) := by decide +kernel
theorem own_k158 : decode prog_51_method_1_code 29 = .ok (.aload 4, 2) := by decide +kernel
theorem own_k159 : decode prog_51_method_1_code 31 = .ok (.arraylength, 1) := by decide +kernel
theorem own_k160 : decode prog_51_method_1_code 32 = .ok (.iload_n 2, 1) := by decide +kernel
theorem own_k161 : decode prog_51_method_1_code 33 = .ok (.iload_n 3, 1) := by decide +kernel
theorem own_k162 : decode prog_51_method_1_code 34 = .ok (.imul, 1) := by decide +kernel
theorem own_k163 : decode prog_51_method_1_code 35 = .ok (.if_icmp .eq 21, 3) := by decide +kernel
theorem own_k164 : decode prog_51_method_1_code 56 = .ok (.aload_n 0, 1) := by decide +kernel
theorem own_k165 : decode prog_51_method_1_code 57 = .ok (.iload_n 1, 1) := by decide +kernel
theorem own_k166 : decode prog_51_method_1_code 58 = .ok (.putfield 18, 3) := by decide +kernel
theorem own_k167 : decode prog_51_method_1_code 61 = .ok (.aload_n 0, 1) := by decide +kernel
theorem own_k168 : decode prog_51_method_1_code 62 = .ok (.iload_n 2, 1) := by decide +kernel
theorem own_k169 : decode prog_51_method_1_code 63 = .ok (.putfield 24, 3) := by decide +kernel
theorem own_k170 : decode prog_51_method_1_code 66 = .ok (.aload_n 0, 1) := by decide +kernel
theorem own_k171 : decode prog_51_method_1_code 67 = .ok (.iload_n 3, 1) := by decide +kernel
theorem own_k172 : decode prog_51_method_1_code 68 = .ok (.putfield 27, 3) := by decide +kernel
theorem own_k173 : decode prog_51_method_1_code 71 = .ok (.aload_n 0, 1) := by decide +kernel
theorem own_k174 : decode prog_51_method_1_code 72 = .ok (.aload 4, 2) := by decide +kernel
theorem own_k175 : decode prog_51_method_1_code 74 = .ok (.invokevirtual 30, 3) := by decide +kernel
theorem own_k176 : decode prog_51_method_1_code 77 = .ok (.checkcast 31, 3) := by decide +kernel
theorem own_k177 : decode prog_51_method_1_code 80 = .ok (.putfield 36, 3) := by decide +kernel
theorem own_k178 : decode prog_51_method_1_code 83 = .ok (.return_, 1) := by decide +kernel
theorem own_k179 : plainName "com/example/sidik/sidik/template/FingerprintArea" = true := by first | (simp [plainName, overriddenIn]; done) | decide +kernel
set_option maxRecDepth 65536 in
set_option maxHeartbeats 40000000 in
theorem own_rm3 (l : Launch) (Z : State) (a0 : Array Value) (hw : ∀ d ∈ tables_1, d.before a0 Z = true) (ws : List Jvm.Cond) (a : Addr) (x0 : Int32) (x1 : Int32) (x2 : Int32) (b : Addr) (k_b : ClassId) (z : Int32) (f : Nat → Int32) (h0 : Heap) (n0 : Nat) (hn0 : n0 ≤ h0.size) (E_a : Exa Z h0 a "com/example/sidik/sidik/template/FingerprintArea") (F_a_blockSize : Fld Z h0 a "com/example/sidik/sidik/template/FingerprintArea" "blockSize" "I" (.int (0 : Int32))) (F_a_columns : Fld Z h0 a "com/example/sidik/sidik/template/FingerprintArea" "columns" "I" (.int (0 : Int32))) (F_a_rows : Fld Z h0 a "com/example/sidik/sidik/template/FingerprintArea" "rows" "I" (.int (0 : Int32))) (F_a_inside : Fld Z h0 a "com/example/sidik/sidik/template/FingerprintArea" "inside" "[Z" .null) (E_b : Exa Z h0 b "[Z") (V_b : Arf Z h0 b k_b .boolean z f) (g_a : n0 ≤ a) (ne_a_b : a ≠ b) (hp0 : ¬ (x0 < (1 : Int32))) (hp1 : ¬ (x1 < (1 : Int32))) (hp2 : ¬ (x2 < (1 : Int32))) (hp3 : z = (x1 * x2)) (hcap : z.toNatClampNeg ≤ 9) : Meets l Z (⟨"com/example/sidik/sidik/template/FingerprintArea", "<init>", "(III[Z)V"⟩ : MethodName) prog_51_method_1_code 5 none ws ({ frames := 1, cells := 1, slots := 9, locals := 15 } : Room) #[(.ref a), (.int x0), (.int x1), (.int x2), (.ref b)] h0 (fun v h L => v = none ∧ Fr n0 L ∧ Keep h0 h [a] ∧ ∃ b26 : Addr, n0 ≤ b26 ∧ h0.size ≤ b26 ∧ Exa Z h a "com/example/sidik/sidik/template/FingerprintArea" ∧ Fld Z h a "com/example/sidik/sidik/template/FingerprintArea" "blockSize" "I" (.int x0) ∧ Fld Z h a "com/example/sidik/sidik/template/FingerprintArea" "columns" "I" (.int x1) ∧ Fld Z h a "com/example/sidik/sidik/template/FingerprintArea" "rows" "I" (.int x2) ∧ Fld Z h a "com/example/sidik/sidik/template/FingerprintArea" "inside" "[Z" (.ref b26) ∧ Arf Z h b26 k_b .boolean z f ∧ Exa Z h b26 "[Z") := by
  refine meets_of (plainFor_of_name own_k179) ?_
  intro p e s m below meth c s₁ X0 hx hZ hby hml hret hlk hown hnm e0
  replace hml : c.maxLocals = 5 := hml
  replace hown : s.vm.findClass "com/example/sidik/sidik/template/FingerprintArea" = some m.cls := hown
  refine Go.cast (own_k146 m a x0 x1 x2 b) ?_
  have N0 := Fr.nil n0
  have K0 : Keep h0 h0 [a] := Keep.refl h0 _
  refine Go.via (U' := s₁.setTop (mkF m 1 #[.val (.ref a), .val (.int x0), .val (.int x1), .val (.int x2), .val (.ref b)] [(.ref a)])) (fun tG kG => XS.aloadN X0.here hx rfl (hb hby own_k147) rfl rfl kG) ?_
  obtain ⟨T1, X1, e1, st1⟩ := initO X0 hx hZ hown (hw _ (List.mem_of_getElem? (i := 15) rfl)) (hw _ (List.mem_of_getElem? (i := 16) rfl)) (hw _ (List.mem_of_getElem? (i := 17) rfl)) e0 (g := (mkF m 1 #[.val (.ref a), .val (.int x0), .val (.int x1), .val (.int x2), .val (.ref b)] [(.ref a)])) rfl (by rw [hml]; rfl) rfl (hb hby own_k148) (by decide) (W := 0) (by show 2 * 0 + _ ≤ _; exact Nat.le_of_eq rfl) (by decide)
  refine Go.via (U' := T1.setTop (mkF m 4 #[.val (.ref a), .val (.int x0), .val (.int x1), .val (.int x2), .val (.ref b)] [])) (fun tG kG => st1 tG kG) ?_
  refine Go.via (U' := T1.setTop (mkF m 5 #[.val (.ref a), .val (.int x0), .val (.int x1), .val (.int x2), .val (.ref b)] [(.int x0)])) (fun tG kG => XS.iloadN X1.here hx rfl (hb hby own_k149) rfl kG) ?_
  refine Go.via (U' := T1.setTop (mkF m 6 #[.val (.ref a), .val (.int x0), .val (.int x1), .val (.int x2), .val (.ref b)] [(.int (1 : Int32)), (.int x0)])) (fun tG kG => XS.iconst X1.here hx rfl (hb hby own_k150) kG) ?_
  have hc6 : ¬ (x0 < (1 : Int32)) := hp0
  refine Go.via (U' := T1.setTop (mkF m 9 #[.val (.ref a), .val (.int x0), .val (.int x1), .val (.int x2), .val (.ref b)] [])) (fun tG kG => XS.icmpNo X1.here hx rfl (hb hby own_k151) rfl (flt hc6).1 kG) ?_
  refine Go.via (U' := T1.setTop (mkF m 10 #[.val (.ref a), .val (.int x0), .val (.int x1), .val (.int x2), .val (.ref b)] [(.int x1)])) (fun tG kG => XS.iloadN X1.here hx rfl (hb hby own_k152) rfl kG) ?_
  refine Go.via (U' := T1.setTop (mkF m 11 #[.val (.ref a), .val (.int x0), .val (.int x1), .val (.int x2), .val (.ref b)] [(.int (1 : Int32)), (.int x1)])) (fun tG kG => XS.iconst X1.here hx rfl (hb hby own_k153) kG) ?_
  have hc11 : ¬ (x1 < (1 : Int32)) := hp1
  refine Go.via (U' := T1.setTop (mkF m 14 #[.val (.ref a), .val (.int x0), .val (.int x1), .val (.int x2), .val (.ref b)] [])) (fun tG kG => XS.icmpNo X1.here hx rfl (hb hby own_k154) rfl (flt hc11).1 kG) ?_
  refine Go.via (U' := T1.setTop (mkF m 15 #[.val (.ref a), .val (.int x0), .val (.int x1), .val (.int x2), .val (.ref b)] [(.int x2)])) (fun tG kG => XS.iloadN X1.here hx rfl (hb hby own_k155) rfl kG) ?_
  refine Go.via (U' := T1.setTop (mkF m 16 #[.val (.ref a), .val (.int x0), .val (.int x1), .val (.int x2), .val (.ref b)] [(.int (1 : Int32)), (.int x2)])) (fun tG kG => XS.iconst X1.here hx rfl (hb hby own_k156) kG) ?_
  have hc16 : ¬ (x2 < (1 : Int32)) := hp2
  refine Go.via (U' := T1.setTop (mkF m 29 #[.val (.ref a), .val (.int x0), .val (.int x1), .val (.int x2), .val (.ref b)] [])) (fun tG kG => XS.icmpYes X1.here hx rfl (pc0 := 16) (pc' := 29) rfl (hb hby own_k157) rfl (flt hc16).2.1 (by decide) (by decide) kG) ?_
  refine Go.via (U' := T1.setTop (mkF m 31 #[.val (.ref a), .val (.int x0), .val (.int x1), .val (.int x2), .val (.ref b)] [(.ref b)])) (fun tG kG => XS.aload X1.here hx rfl (hb hby own_k158) rfl rfl kG) ?_
  refine Go.via (U' := T1.setTop (mkF m 32 #[.val (.ref a), .val (.int x0), .val (.int x1), .val (.int x2), .val (.ref b)] [(.int z)])) (fun tG kG => own_len X1 hx hZ e1 V_b (hb hby own_k159) tG kG) ?_
  refine Go.via (U' := T1.setTop (mkF m 33 #[.val (.ref a), .val (.int x0), .val (.int x1), .val (.int x2), .val (.ref b)] [(.int x1), (.int z)])) (fun tG kG => XS.iloadN X1.here hx rfl (hb hby own_k160) rfl kG) ?_
  refine Go.via (U' := T1.setTop (mkF m 34 #[.val (.ref a), .val (.int x0), .val (.int x1), .val (.int x2), .val (.ref b)] [(.int x2), (.int x1), (.int z)])) (fun tG kG => XS.iloadN X1.here hx rfl (hb hby own_k161) rfl kG) ?_
  refine Go.via (U' := T1.setTop (mkF m 35 #[.val (.ref a), .val (.int x0), .val (.int x1), .val (.int x2), .val (.ref b)] [(.int (x1 * x2)), (.int z)])) (fun tG kG => XS.imul X1.here hx rfl (hb hby own_k162) rfl kG) ?_
  have hc35 : z = (x1 * x2) := hp3
  refine Go.via (U' := T1.setTop (mkF m 56 #[.val (.ref a), .val (.int x0), .val (.int x1), .val (.int x2), .val (.ref b)] [])) (fun tG kG => XS.icmpYes X1.here hx rfl (pc0 := 35) (pc' := 56) rfl (hb hby own_k163) rfl (teq hc35).1 (by decide) (by decide) kG) ?_
  refine Go.via (U' := T1.setTop (mkF m 57 #[.val (.ref a), .val (.int x0), .val (.int x1), .val (.int x2), .val (.ref b)] [(.ref a)])) (fun tG kG => XS.aloadN X1.here hx rfl (hb hby own_k164) rfl rfl kG) ?_
  refine Go.via (U' := T1.setTop (mkF m 58 #[.val (.ref a), .val (.int x0), .val (.int x1), .val (.int x2), .val (.ref b)] [(.int x0), (.ref a)])) (fun tG kG => XS.iloadN X1.here hx rfl (hb hby own_k165) rfl kG) ?_
  obtain ⟨T2, h2, X2, e2, W2, st2⟩ := putF X1 hx hZ hown (host := "") (Or.inl (hw _ (List.mem_of_getElem? (i := 18) rfl))) Via.refl e1 F_a_blockSize E_a (Or.inr ⟨(hw _ (List.mem_of_getElem? (i := 19) rfl)), rfl, hnm⟩) (hw _ (List.mem_of_getElem? (i := 6) rfl)) (ty := .int) (by decide) rfl rfl (g := (mkF m 58 #[.val (.ref a), .val (.int x0), .val (.int x1), .val (.int x2), .val (.ref b)] [(.int x0), (.ref a)])) rfl rfl (hb hby own_k166)
  have f3 := E_a.wr W2
  have f4 := F_a_blockSize.same W2
  have f5 := F_a_columns.other W2 (Or.inr (slot_ne (Or.inr (hw _ (List.mem_of_getElem? (i := 21) rfl))) (Or.inr (hw _ (List.mem_of_getElem? (i := 19) rfl))) (by decide) (t := .int) (t' := .int) (by decide) (by decide)))
  have f6 := F_a_rows.other W2 (Or.inr (slot_ne (Or.inr (hw _ (List.mem_of_getElem? (i := 23) rfl))) (Or.inr (hw _ (List.mem_of_getElem? (i := 19) rfl))) (by decide) (t := .int) (t' := .int) (by decide) (by decide)))
  have f7 := F_a_inside.other W2 (Or.inr (slot_ne (Or.inr (hw _ (List.mem_of_getElem? (i := 34) rfl))) (Or.inr (hw _ (List.mem_of_getElem? (i := 19) rfl))) (by decide) (t := (.array .boolean)) (t' := .int) (by decide) (by decide)))
  have f8 := E_b.wr W2
  have f9 := V_b.other W2 (Ne.symm ne_a_b)
  have K2 := K0.wr W2 (Or.inl (List.mem_of_getElem? (i := 0) rfl))
  have N2 := Fr.snoc X2 N0 g_a
  have Z2 := Nat.le_trans hn0 (Keep.of_wr W2).1
  refine Go.via (U' := T2.setTop (mkF m 61 #[.val (.ref a), .val (.int x0), .val (.int x1), .val (.int x2), .val (.ref b)] [])) (fun tG kG => st2 tG kG) ?_
  refine Go.via (U' := T2.setTop (mkF m 62 #[.val (.ref a), .val (.int x0), .val (.int x1), .val (.int x2), .val (.ref b)] [(.ref a)])) (fun tG kG => XS.aloadN X2.here hx rfl (hb hby own_k167) rfl rfl kG) ?_
  refine Go.via (U' := T2.setTop (mkF m 63 #[.val (.ref a), .val (.int x0), .val (.int x1), .val (.int x2), .val (.ref b)] [(.int x1), (.ref a)])) (fun tG kG => XS.iloadN X2.here hx rfl (hb hby own_k168) rfl kG) ?_
  obtain ⟨T10, h10, X10, e10, W10, st10⟩ := putF X2 hx hZ hown (host := "") (Or.inl (hw _ (List.mem_of_getElem? (i := 20) rfl))) Via.refl e2 f5 f3 (Or.inr ⟨(hw _ (List.mem_of_getElem? (i := 21) rfl)), rfl, hnm⟩) (hw _ (List.mem_of_getElem? (i := 6) rfl)) (ty := .int) (by decide) rfl rfl (g := (mkF m 63 #[.val (.ref a), .val (.int x0), .val (.int x1), .val (.int x2), .val (.ref b)] [(.int x1), (.ref a)])) rfl rfl (hb hby own_k169)
  have f11 := f3.wr W10
  have f12 := f4.other W10 (Or.inr (slot_ne (Or.inr (hw _ (List.mem_of_getElem? (i := 19) rfl))) (Or.inr (hw _ (List.mem_of_getElem? (i := 21) rfl))) (by decide) (t := .int) (t' := .int) (by decide) (by decide)))
  have f13 := f5.same W10
  have f14 := f6.other W10 (Or.inr (slot_ne (Or.inr (hw _ (List.mem_of_getElem? (i := 23) rfl))) (Or.inr (hw _ (List.mem_of_getElem? (i := 21) rfl))) (by decide) (t := .int) (t' := .int) (by decide) (by decide)))
  have f15 := f7.other W10 (Or.inr (slot_ne (Or.inr (hw _ (List.mem_of_getElem? (i := 34) rfl))) (Or.inr (hw _ (List.mem_of_getElem? (i := 21) rfl))) (by decide) (t := (.array .boolean)) (t' := .int) (by decide) (by decide)))
  have f16 := f8.wr W10
  have f17 := f9.other W10 (Ne.symm ne_a_b)
  have K10 := K2.wr W10 (Or.inl (List.mem_of_getElem? (i := 0) rfl))
  have N10 := Fr.snoc X10 N2 g_a
  have Z10 := Nat.le_trans Z2 (Keep.of_wr W10).1
  refine Go.via (U' := T10.setTop (mkF m 66 #[.val (.ref a), .val (.int x0), .val (.int x1), .val (.int x2), .val (.ref b)] [])) (fun tG kG => st10 tG kG) ?_
  refine Go.via (U' := T10.setTop (mkF m 67 #[.val (.ref a), .val (.int x0), .val (.int x1), .val (.int x2), .val (.ref b)] [(.ref a)])) (fun tG kG => XS.aloadN X10.here hx rfl (hb hby own_k170) rfl rfl kG) ?_
  refine Go.via (U' := T10.setTop (mkF m 68 #[.val (.ref a), .val (.int x0), .val (.int x1), .val (.int x2), .val (.ref b)] [(.int x2), (.ref a)])) (fun tG kG => XS.iloadN X10.here hx rfl (hb hby own_k171) rfl kG) ?_
  obtain ⟨T18, h18, X18, e18, W18, st18⟩ := putF X10 hx hZ hown (host := "") (Or.inl (hw _ (List.mem_of_getElem? (i := 22) rfl))) Via.refl e10 f14 f11 (Or.inr ⟨(hw _ (List.mem_of_getElem? (i := 23) rfl)), rfl, hnm⟩) (hw _ (List.mem_of_getElem? (i := 6) rfl)) (ty := .int) (by decide) rfl rfl (g := (mkF m 68 #[.val (.ref a), .val (.int x0), .val (.int x1), .val (.int x2), .val (.ref b)] [(.int x2), (.ref a)])) rfl rfl (hb hby own_k172)
  have f19 := f11.wr W18
  have f20 := f12.other W18 (Or.inr (slot_ne (Or.inr (hw _ (List.mem_of_getElem? (i := 19) rfl))) (Or.inr (hw _ (List.mem_of_getElem? (i := 23) rfl))) (by decide) (t := .int) (t' := .int) (by decide) (by decide)))
  have f21 := f13.other W18 (Or.inr (slot_ne (Or.inr (hw _ (List.mem_of_getElem? (i := 21) rfl))) (Or.inr (hw _ (List.mem_of_getElem? (i := 23) rfl))) (by decide) (t := .int) (t' := .int) (by decide) (by decide)))
  have f22 := f14.same W18
  have f23 := f15.other W18 (Or.inr (slot_ne (Or.inr (hw _ (List.mem_of_getElem? (i := 34) rfl))) (Or.inr (hw _ (List.mem_of_getElem? (i := 23) rfl))) (by decide) (t := (.array .boolean)) (t' := .int) (by decide) (by decide)))
  have f24 := f16.wr W18
  have f25 := f17.other W18 (Ne.symm ne_a_b)
  have K18 := K10.wr W18 (Or.inl (List.mem_of_getElem? (i := 0) rfl))
  have N18 := Fr.snoc X18 N10 g_a
  have Z18 := Nat.le_trans Z10 (Keep.of_wr W18).1
  refine Go.via (U' := T18.setTop (mkF m 71 #[.val (.ref a), .val (.int x0), .val (.int x1), .val (.int x2), .val (.ref b)] [])) (fun tG kG => st18 tG kG) ?_
  refine Go.via (U' := T18.setTop (mkF m 72 #[.val (.ref a), .val (.int x0), .val (.int x1), .val (.int x2), .val (.ref b)] [(.ref a)])) (fun tG kG => XS.aloadN X18.here hx rfl (hb hby own_k173) rfl rfl kG) ?_
  refine Go.via (U' := T18.setTop (mkF m 74 #[.val (.ref a), .val (.int x0), .val (.int x1), .val (.int x2), .val (.ref b)] [(.ref b), (.ref a)])) (fun tG kG => XS.aload X18.here hx rfl (hb hby own_k174) rfl rfl kG) ?_
  obtain ⟨T26, h26, X26, e26, E26, A26, B26, st26⟩ := cloneH X18 hx hZ hown (hw _ (List.mem_of_getElem? (i := 24) rfl)) (hw _ (List.mem_of_getElem? (i := 25) rfl)) (hw _ (List.mem_of_getElem? (i := 29) rfl)) (hw _ (List.mem_of_getElem? (i := 27) rfl)) (hw _ (List.mem_of_getElem? (i := 28) rfl)) (hw _ (List.mem_of_getElem? (i := 30) rfl)) e18 f25.arv.arh f24 (g := (mkF m 74 #[.val (.ref a), .val (.int x0), .val (.int x1), .val (.int x2), .val (.ref b)] [(.ref b), (.ref a)])) rfl (by rw [hml]; rfl) rfl (hb hby own_k175) (by decide) (W := 1) (cap := 9) (by show 2 * 0 + _ ≤ _; exact Nat.le_of_eq rfl) (by decide) hcap (by decide) (by decide)
  obtain ⟨b26, g26⟩ : ∃ z, z = h18.size := ⟨_, rfl⟩
  rw [← g26] at A26 B26 st26
  have g_b26 : n0 ≤ b26 := Nat.le_trans Z18 (Nat.le_of_eq g26.symm)
  have sz_b26 : h0.size ≤ b26 := Nat.le_trans K18.1 (Nat.le_of_eq g26.symm)
  have ne_a_b26 : a ≠ b26 := Nat.ne_of_lt (Nat.lt_of_lt_of_le f19.lt (Nat.le_of_eq g26.symm))
  have ne_b_b26 : b ≠ b26 := Nat.ne_of_lt (Nat.lt_of_lt_of_le f24.lt (Nat.le_of_eq g26.symm))
  have f27 := f19.ext E26
  have f28 := f20.ext E26
  have f29 := f21.ext E26
  have f30 := f22.ext E26
  have f31 := f23.ext E26
  have f32 := f24.ext E26
  have f33 := f25.ext E26
  have K26 := K18.ext E26
  have Z26 := Nat.le_trans Z18 E26.1
  have V26 : Arf Z h26 b26 k_b .boolean z f := own_ofArh A26
  refine Go.via (U' := T26.setTop (mkF m 77 #[.val (.ref a), .val (.int x0), .val (.int x1), .val (.int x2), .val (.ref b)] [(.ref b26), (.ref a)])) (fun tG kG => st26 tG kG) ?_
  obtain ⟨T34, X34, e34, st34⟩ := castY X26 hx hZ hown (hw _ (List.mem_of_getElem? (i := 31) rfl)) e26 (Ins.self B26) (g := (mkF m 77 #[.val (.ref a), .val (.int x0), .val (.int x1), .val (.int x2), .val (.ref b)] [(.ref b26), (.ref a)])) rfl rfl (hb hby own_k176)
  refine Go.via (U' := T34.setTop (mkF m 80 #[.val (.ref a), .val (.int x0), .val (.int x1), .val (.int x2), .val (.ref b)] [(.ref b26), (.ref a)])) (fun tG kG => st34 tG kG) ?_
  obtain ⟨T35, h35, X35, e35, W35, st35⟩ := putF X34 hx hZ hown (host := "") (Or.inl (hw _ (List.mem_of_getElem? (i := 33) rfl))) Via.refl e34 f31 f27 (Or.inr ⟨(hw _ (List.mem_of_getElem? (i := 34) rfl)), rfl, hnm⟩) (hw _ (List.mem_of_getElem? (i := 6) rfl)) (ty := (.array .boolean)) (by decide) rfl rfl (g := (mkF m 80 #[.val (.ref a), .val (.int x0), .val (.int x1), .val (.int x2), .val (.ref b)] [(.ref b26), (.ref a)])) rfl rfl (hb hby own_k177)
  have f36 := f27.wr W35
  have f37 := f28.other W35 (Or.inr (slot_ne (Or.inr (hw _ (List.mem_of_getElem? (i := 19) rfl))) (Or.inr (hw _ (List.mem_of_getElem? (i := 34) rfl))) (by decide) (t := .int) (t' := (.array .boolean)) (by decide) (by decide)))
  have f38 := f29.other W35 (Or.inr (slot_ne (Or.inr (hw _ (List.mem_of_getElem? (i := 21) rfl))) (Or.inr (hw _ (List.mem_of_getElem? (i := 34) rfl))) (by decide) (t := .int) (t' := (.array .boolean)) (by decide) (by decide)))
  have f39 := f30.other W35 (Or.inr (slot_ne (Or.inr (hw _ (List.mem_of_getElem? (i := 23) rfl))) (Or.inr (hw _ (List.mem_of_getElem? (i := 34) rfl))) (by decide) (t := .int) (t' := (.array .boolean)) (by decide) (by decide)))
  have f40 := f31.same W35
  have f41 := f32.wr W35
  have f42 := f33.other W35 (Ne.symm ne_a_b)
  have f43 := V26.other W35 (Ne.symm ne_a_b26)
  have f44 := B26.wr W35
  have K35 := K26.wr W35 (Or.inl (List.mem_of_getElem? (i := 0) rfl))
  have N35 := Fr.snoc X35 N18 g_a
  have Z35 := Nat.le_trans Z26 (Keep.of_wr W35).1
  refine Go.via (U' := T35.setTop (mkF m 83 #[.val (.ref a), .val (.int x0), .val (.int x1), .val (.int x2), .val (.ref b)] [])) (fun tG kG => st35 tG kG) ?_
  exact go_retV X35 hx hlk hret (hb hby own_k178) e35 ⟨rfl, N35, K35, b26, g_b26, sz_b26, f36, f37, f38, f39, f40, f43, f44⟩ (by decide) (by decide)
theorem own_k180 (m : MethodId) (a : Addr) (x0 : Int32) (x1 : Int32) : entryFrame m #[(.ref a), (.int x0), (.int x1)] 3 = mkF m 0 #[.val (.ref a), .val (.int x0), .val (.int x1)] [] := by first | (simp [entryFrame, mkF, argsToLocals, Value.category]; done) | rfl
theorem own_k181 : decode prog_51_method_5_code 0 = .ok (.iload_n 1, 1) := by decide +kernel
theorem own_k182 : decode prog_51_method_5_code 1 = .ok (.ifCond .lt 43, 3) := by decide +kernel
theorem own_k183 : decode prog_51_method_5_code 44 = .ok (.iconst 0, 1) := by decide +kernel
theorem own_k184 : decode prog_51_method_5_code 45 = .ok (.ireturn, 1) := by decide +kernel
theorem own_k185 : decode prog_51_method_5_code 4 = .ok (.iload_n 2, 1) := by decide +kernel
theorem own_k186 : decode prog_51_method_5_code 5 = .ok (.ifCond .lt 39, 3) := by decide +kernel
theorem own_k187 : decode prog_51_method_5_code 8 = .ok (.iload_n 1, 1) := by decide +kernel
theorem own_k188 : decode prog_51_method_5_code 9 = .ok (.aload_n 0, 1) := by decide +kernel
theorem own_k189 : decode prog_51_method_5_code 10 = .ok (.getfield 24, 3) := by decide +kernel
theorem own_k190 : decode prog_51_method_5_code 13 = .ok (.if_icmp .ge 31, 3) := by decide +kernel
theorem own_k191 : decode prog_51_method_5_code 16 = .ok (.iload_n 2, 1) := by decide +kernel
theorem own_k192 : decode prog_51_method_5_code 17 = .ok (.aload_n 0, 1) := by decide +kernel
theorem own_k193 : decode prog_51_method_5_code 18 = .ok (.getfield 27, 3) := by decide +kernel
theorem own_k194 : decode prog_51_method_5_code 21 = .ok (.if_icmp .ge 23, 3) := by decide +kernel
theorem own_k195 : decode prog_51_method_5_code 24 = .ok (.aload_n 0, 1) := by decide +kernel
theorem own_k196 : decode prog_51_method_5_code 25 = .ok (.getfield 36, 3) := by decide +kernel
theorem own_k197 : decode prog_51_method_5_code 28 = .ok (.iload_n 2, 1) := by decide +kernel
theorem own_k198 : decode prog_51_method_5_code 29 = .ok (.aload_n 0, 1) := by decide +kernel
theorem own_k199 : decode prog_51_method_5_code 30 = .ok (.getfield 24, 3) := by decide +kernel
theorem own_k200 : decode prog_51_method_5_code 33 = .ok (.imul, 1) := by decide +kernel
theorem own_k201 : decode prog_51_method_5_code 34 = .ok (.iload_n 1, 1) := by decide +kernel
theorem own_k202 : decode prog_51_method_5_code 35 = .ok (.iadd, 1) := by decide +kernel
theorem own_k203 : decode prog_51_method_5_code 36 = .ok (.baload, 1) := by decide +kernel
theorem own_k204 : decode prog_51_method_5_code 37 = .ok (.ifCond .eq 7, 3) := by decide +kernel
theorem own_k205 : decode prog_51_method_5_code 40 = .ok (.iconst 1, 1) := by decide +kernel
theorem own_k206 : decode prog_51_method_5_code 41 = .ok (.goto 4, 3) := by decide +kernel
def own_f5 (x0 : Int32) (x1 : Int32) (u : Int32) (w : Int32) (f : Nat → Int32) : Int32 := (if x0 < (0 : Int32) then (0 : Int32) else (if x1 < (0 : Int32) then (0 : Int32) else (if x0 < u then (if x1 < w then (if (f ((x1 * u) + x0).toNatClampNeg) = (0 : Int32) then (0 : Int32) else (1 : Int32)) else (0 : Int32)) else (0 : Int32))))
set_option maxRecDepth 65536 in
set_option maxHeartbeats 40000000 in
theorem own_rm5 (l : Launch) (Z : State) (a0 : Array Value) (hw : ∀ d ∈ tables_1, d.before a0 Z = true) (ws : List Jvm.Cond) (a : Addr) (x0 : Int32) (x1 : Int32) (u : Int32) (w : Int32) (b : Addr) (k_b : ClassId) (z : Int32) (f : Nat → Int32) (h0 : Heap) (F_a_columns : Fld Z h0 a "com/example/sidik/sidik/template/FingerprintArea" "columns" "I" (.int u)) (F_a_rows : Fld Z h0 a "com/example/sidik/sidik/template/FingerprintArea" "rows" "I" (.int w)) (F_a_inside : Fld Z h0 a "com/example/sidik/sidik/template/FingerprintArea" "inside" "[Z" (.ref b)) (V_b : Arf Z h0 b k_b .boolean z f) (hix : ¬ (x0 < (0 : Int32)) → ¬ (x1 < (0 : Int32)) → x0 < u → x1 < w → ¬ ((x1 * u) + x0) < 0 ∧ ((x1 * u) + x0) < z) : Meets l Z (⟨"com/example/sidik/sidik/template/FingerprintArea", "isInside", "(II)Z"⟩ : MethodName) prog_51_method_5_code 3 (some .boolean) ws ({ frames := 0, cells := 0, slots := 0, locals := 0 } : Room) #[(.ref a), (.int x0), (.int x1)] h0 (PureR (some (.int (own_f5 x0 x1 u w f))) h0) := by
  refine meets_of (plainFor_of_name own_k179) ?_
  intro p e s m below meth c s₁ X0 hx hZ hby hml hret hlk hown hnm e0
  replace hml : c.maxLocals = 3 := hml
  replace hown : s.vm.findClass "com/example/sidik/sidik/template/FingerprintArea" = some m.cls := hown
  refine Go.cast (own_k180 m a x0 x1) ?_
  refine Go.via (U' := s₁.setTop (mkF m 1 #[.val (.ref a), .val (.int x0), .val (.int x1)] [(.int x0)])) (fun tG kG => XS.iloadN X0.here hx rfl (hb hby own_k181) rfl kG) ?_
  by_cases hc1 : x0 < (0 : Int32)
  · refine Go.via (U' := s₁.setTop (mkF m 44 #[.val (.ref a), .val (.int x0), .val (.int x1)] [])) (fun tG kG => XS.ifYes X0.here hx rfl (pc0 := 1) (pc' := 44) rfl (hb hby own_k182) rfl ((if0 _ _).trans (tlt hc1).1) (by decide) (by decide) kG) ?_
    refine Go.via (U' := s₁.setTop (mkF m 45 #[.val (.ref a), .val (.int x0), .val (.int x1)] [(.int (0 : Int32))])) (fun tG kG => XS.iconst X0.here hx rfl (hb hby own_k183) kG) ?_
    exact go_retN X0 hx hlk (t := .boolean) hret (by simp) (hb hby own_k184) e0 ⟨(congrArg (fun z => some (Value.int z)) (show nar .boolean (0 : Int32) = (own_f5 x0 x1 u w f) from by unfold own_f5; simp only [if_pos hc1] <;> rfl)), rfl, rfl⟩ (by decide) (by decide)
  · refine Go.via (U' := s₁.setTop (mkF m 4 #[.val (.ref a), .val (.int x0), .val (.int x1)] [])) (fun tG kG => XS.ifNo X0.here hx rfl (hb hby own_k182) rfl ((if0 _ _).trans (flt hc1).1) kG) ?_
    refine Go.via (U' := s₁.setTop (mkF m 5 #[.val (.ref a), .val (.int x0), .val (.int x1)] [(.int x1)])) (fun tG kG => XS.iloadN X0.here hx rfl (hb hby own_k185) rfl kG) ?_
    by_cases hc5 : x1 < (0 : Int32)
    · refine Go.via (U' := s₁.setTop (mkF m 44 #[.val (.ref a), .val (.int x0), .val (.int x1)] [])) (fun tG kG => XS.ifYes X0.here hx rfl (pc0 := 5) (pc' := 44) rfl (hb hby own_k186) rfl ((if0 _ _).trans (tlt hc5).1) (by decide) (by decide) kG) ?_
      refine Go.via (U' := s₁.setTop (mkF m 45 #[.val (.ref a), .val (.int x0), .val (.int x1)] [(.int (0 : Int32))])) (fun tG kG => XS.iconst X0.here hx rfl (hb hby own_k183) kG) ?_
      exact go_retN X0 hx hlk (t := .boolean) hret (by simp) (hb hby own_k184) e0 ⟨(congrArg (fun z => some (Value.int z)) (show nar .boolean (0 : Int32) = (own_f5 x0 x1 u w f) from by unfold own_f5; simp only [if_neg hc1, if_pos hc5] <;> rfl)), rfl, rfl⟩ (by decide) (by decide)
    · refine Go.via (U' := s₁.setTop (mkF m 8 #[.val (.ref a), .val (.int x0), .val (.int x1)] [])) (fun tG kG => XS.ifNo X0.here hx rfl (hb hby own_k186) rfl ((if0 _ _).trans (flt hc5).1) kG) ?_
      refine Go.via (U' := s₁.setTop (mkF m 9 #[.val (.ref a), .val (.int x0), .val (.int x1)] [(.int x0)])) (fun tG kG => XS.iloadN X0.here hx rfl (hb hby own_k187) rfl kG) ?_
      refine Go.via (U' := s₁.setTop (mkF m 10 #[.val (.ref a), .val (.int x0), .val (.int x1)] [(.ref a), (.int x0)])) (fun tG kG => XS.aloadN X0.here hx rfl (hb hby own_k188) rfl rfl kG) ?_
      obtain ⟨T1, X1, e1, st1⟩ := getF X0 hx hZ hown (host := "") (Or.inl (hw _ (List.mem_of_getElem? (i := 20) rfl))) Via.refl e0 F_a_columns (g := (mkF m 10 #[.val (.ref a), .val (.int x0), .val (.int x1)] [(.ref a), (.int x0)])) rfl rfl (hb hby own_k189)
      refine Go.via (U' := T1.setTop (mkF m 13 #[.val (.ref a), .val (.int x0), .val (.int x1)] [(.int u), (.int x0)])) (fun tG kG => st1 tG kG) ?_
      by_cases hc13 : x0 < u
      · refine Go.via (U' := T1.setTop (mkF m 16 #[.val (.ref a), .val (.int x0), .val (.int x1)] [])) (fun tG kG => XS.icmpNo X1.here hx rfl (hb hby own_k190) rfl (tlt hc13).2.1 kG) ?_
        refine Go.via (U' := T1.setTop (mkF m 17 #[.val (.ref a), .val (.int x0), .val (.int x1)] [(.int x1)])) (fun tG kG => XS.iloadN X1.here hx rfl (hb hby own_k191) rfl kG) ?_
        refine Go.via (U' := T1.setTop (mkF m 18 #[.val (.ref a), .val (.int x0), .val (.int x1)] [(.ref a), (.int x1)])) (fun tG kG => XS.aloadN X1.here hx rfl (hb hby own_k192) rfl rfl kG) ?_
        obtain ⟨T2, X2, e2, st2⟩ := getF X1 hx hZ hown (host := "") (Or.inl (hw _ (List.mem_of_getElem? (i := 22) rfl))) Via.refl e1 F_a_rows (g := (mkF m 18 #[.val (.ref a), .val (.int x0), .val (.int x1)] [(.ref a), (.int x1)])) rfl rfl (hb hby own_k193)
        refine Go.via (U' := T2.setTop (mkF m 21 #[.val (.ref a), .val (.int x0), .val (.int x1)] [(.int w), (.int x1)])) (fun tG kG => st2 tG kG) ?_
        by_cases hc21 : x1 < w
        · refine Go.via (U' := T2.setTop (mkF m 24 #[.val (.ref a), .val (.int x0), .val (.int x1)] [])) (fun tG kG => XS.icmpNo X2.here hx rfl (hb hby own_k194) rfl (tlt hc21).2.1 kG) ?_
          refine Go.via (U' := T2.setTop (mkF m 25 #[.val (.ref a), .val (.int x0), .val (.int x1)] [(.ref a)])) (fun tG kG => XS.aloadN X2.here hx rfl (hb hby own_k195) rfl rfl kG) ?_
          obtain ⟨T3, X3, e3, st3⟩ := getF X2 hx hZ hown (host := "") (Or.inl (hw _ (List.mem_of_getElem? (i := 33) rfl))) Via.refl e2 F_a_inside (g := (mkF m 25 #[.val (.ref a), .val (.int x0), .val (.int x1)] [(.ref a)])) rfl rfl (hb hby own_k196)
          refine Go.via (U' := T3.setTop (mkF m 28 #[.val (.ref a), .val (.int x0), .val (.int x1)] [(.ref b)])) (fun tG kG => st3 tG kG) ?_
          refine Go.via (U' := T3.setTop (mkF m 29 #[.val (.ref a), .val (.int x0), .val (.int x1)] [(.int x1), (.ref b)])) (fun tG kG => XS.iloadN X3.here hx rfl (hb hby own_k197) rfl kG) ?_
          refine Go.via (U' := T3.setTop (mkF m 30 #[.val (.ref a), .val (.int x0), .val (.int x1)] [(.ref a), (.int x1), (.ref b)])) (fun tG kG => XS.aloadN X3.here hx rfl (hb hby own_k198) rfl rfl kG) ?_
          obtain ⟨T4, X4, e4, st4⟩ := getF X3 hx hZ hown (host := "") (Or.inl (hw _ (List.mem_of_getElem? (i := 20) rfl))) Via.refl e3 F_a_columns (g := (mkF m 30 #[.val (.ref a), .val (.int x0), .val (.int x1)] [(.ref a), (.int x1), (.ref b)])) rfl rfl (hb hby own_k199)
          refine Go.via (U' := T4.setTop (mkF m 33 #[.val (.ref a), .val (.int x0), .val (.int x1)] [(.int u), (.int x1), (.ref b)])) (fun tG kG => st4 tG kG) ?_
          refine Go.via (U' := T4.setTop (mkF m 34 #[.val (.ref a), .val (.int x0), .val (.int x1)] [(.int (x1 * u)), (.ref b)])) (fun tG kG => XS.imul X4.here hx rfl (hb hby own_k200) rfl kG) ?_
          refine Go.via (U' := T4.setTop (mkF m 35 #[.val (.ref a), .val (.int x0), .val (.int x1)] [(.int x0), (.int (x1 * u)), (.ref b)])) (fun tG kG => XS.iloadN X4.here hx rfl (hb hby own_k201) rfl kG) ?_
          refine Go.via (U' := T4.setTop (mkF m 36 #[.val (.ref a), .val (.int x0), .val (.int x1)] [(.int ((x1 * u) + x0)), (.ref b)])) (fun tG kG => XS.iadd X4.here hx rfl (hb hby own_k202) rfl kG) ?_
          refine Go.via (U' := T4.setTop (mkF m 37 #[.val (.ref a), .val (.int x0), .val (.int x1)] [(.int (f ((x1 * u) + x0).toNatClampNeg))])) (fun tG kG => own_ldZ X4 hx hZ e4 V_b (j := ((x1 * u) + x0)) (hix hc1 hc5 hc13 hc21) (hb hby own_k203) tG kG) ?_
          by_cases hc37 : (f ((x1 * u) + x0).toNatClampNeg) = (0 : Int32)
          · refine Go.via (U' := T4.setTop (mkF m 44 #[.val (.ref a), .val (.int x0), .val (.int x1)] [])) (fun tG kG => XS.ifYes X4.here hx rfl (pc0 := 37) (pc' := 44) rfl (hb hby own_k204) rfl ((if0 _ _).trans (teq hc37).1) (by decide) (by decide) kG) ?_
            refine Go.via (U' := T4.setTop (mkF m 45 #[.val (.ref a), .val (.int x0), .val (.int x1)] [(.int (0 : Int32))])) (fun tG kG => XS.iconst X4.here hx rfl (hb hby own_k183) kG) ?_
            exact go_retN X4 hx hlk (t := .boolean) hret (by simp) (hb hby own_k184) e4 ⟨(congrArg (fun z => some (Value.int z)) (show nar .boolean (0 : Int32) = (own_f5 x0 x1 u w f) from by unfold own_f5; simp only [if_neg hc1, if_neg hc5, if_pos hc13, if_pos hc21, if_pos hc37] <;> rfl)), rfl, rfl⟩ (by decide) (by decide)
          · refine Go.via (U' := T4.setTop (mkF m 40 #[.val (.ref a), .val (.int x0), .val (.int x1)] [])) (fun tG kG => XS.ifNo X4.here hx rfl (hb hby own_k204) rfl ((if0 _ _).trans (feq hc37).1) kG) ?_
            refine Go.via (U' := T4.setTop (mkF m 41 #[.val (.ref a), .val (.int x0), .val (.int x1)] [(.int (1 : Int32))])) (fun tG kG => XS.iconst X4.here hx rfl (hb hby own_k205) kG) ?_
            refine Go.via (U' := T4.setTop (mkF m 45 #[.val (.ref a), .val (.int x0), .val (.int x1)] [(.int (1 : Int32))])) (fun tG kG => XS.goto X4.here hx rfl (pc0 := 41) (pc' := 45) rfl (hb hby own_k206) (by decide) (by decide) kG) ?_
            exact go_retN X4 hx hlk (t := .boolean) hret (by simp) (hb hby own_k184) e4 ⟨(congrArg (fun z => some (Value.int z)) (show nar .boolean (1 : Int32) = (own_f5 x0 x1 u w f) from by unfold own_f5; simp only [if_neg hc1, if_neg hc5, if_pos hc13, if_pos hc21, if_neg hc37] <;> rfl)), rfl, rfl⟩ (by decide) (by decide)
        · refine Go.via (U' := T2.setTop (mkF m 44 #[.val (.ref a), .val (.int x0), .val (.int x1)] [])) (fun tG kG => XS.icmpYes X2.here hx rfl (pc0 := 21) (pc' := 44) rfl (hb hby own_k194) rfl (flt hc21).2.1 (by decide) (by decide) kG) ?_
          refine Go.via (U' := T2.setTop (mkF m 45 #[.val (.ref a), .val (.int x0), .val (.int x1)] [(.int (0 : Int32))])) (fun tG kG => XS.iconst X2.here hx rfl (hb hby own_k183) kG) ?_
          exact go_retN X2 hx hlk (t := .boolean) hret (by simp) (hb hby own_k184) e2 ⟨(congrArg (fun z => some (Value.int z)) (show nar .boolean (0 : Int32) = (own_f5 x0 x1 u w f) from by unfold own_f5; simp only [if_neg hc1, if_neg hc5, if_pos hc13, if_neg hc21] <;> rfl)), rfl, rfl⟩ (by decide) (by decide)
      · refine Go.via (U' := T1.setTop (mkF m 44 #[.val (.ref a), .val (.int x0), .val (.int x1)] [])) (fun tG kG => XS.icmpYes X1.here hx rfl (pc0 := 13) (pc' := 44) rfl (hb hby own_k190) rfl (flt hc13).2.1 (by decide) (by decide) kG) ?_
        refine Go.via (U' := T1.setTop (mkF m 45 #[.val (.ref a), .val (.int x0), .val (.int x1)] [(.int (0 : Int32))])) (fun tG kG => XS.iconst X1.here hx rfl (hb hby own_k183) kG) ?_
        exact go_retN X1 hx hlk (t := .boolean) hret (by simp) (hb hby own_k184) e1 ⟨(congrArg (fun z => some (Value.int z)) (show nar .boolean (0 : Int32) = (own_f5 x0 x1 u w f) from by unfold own_f5; simp only [if_neg hc1, if_neg hc5, if_neg hc13] <;> rfl)), rfl, rfl⟩ (by decide) (by decide)
theorem own_c3 (x : Int32) : ((x &&& (3 : Int32)) % (3 : Int32)) + (1 : Int32) = 1 ∨ ((x &&& (3 : Int32)) % (3 : Int32)) + (1 : Int32) = 2 ∨ ((x &&& (3 : Int32)) % (3 : Int32)) + (1 : Int32) = 3 := by
  have m := c_mask x 3 2 (by decide) (by decide)
  have h : x &&& (3 : Int32) = 0 ∨ x &&& (3 : Int32) = 1 ∨ x &&& (3 : Int32) = 2 ∨ x &&& (3 : Int32) = 3 := by
    simp only [← Int32.toInt_inj, show (0 : Int32).toInt = 0 from rfl, show (1 : Int32).toInt = 1 from rfl, show (2 : Int32).toInt = 2 from rfl, show (3 : Int32).toInt = 3 from rfl] at *
    omega
  rcases h with h | h | h | h <;> rw [h] <;> decide
theorem own_h0 (x : Int32) : ¬ ((own_f2 (1 : Int32) x) < (1 : Int32)) := by
  unfold own_f2
  by_cases a : (1 : Int32) < x
  · rw [if_pos a]; exact fun b => absurd (Int32.lt_trans a b) (Int32.lt_irrefl)
  · rw [if_neg a]; exact Int32.lt_irrefl
theorem own_h1 (x : Int32) : ¬ ((((x &&& (3 : Int32)) % (3 : Int32)) + (1 : Int32)) < (1 : Int32)) := by
  rcases own_c3 x with h | h | h <;> rw [h] <;> decide
theorem own_n (x y : Int32) : ¬ ((((x &&& (3 : Int32)) % (3 : Int32)) + (1 : Int32)) * (((y &&& (3 : Int32)) % (3 : Int32)) + (1 : Int32))) < 0 ∧ ((((x &&& (3 : Int32)) % (3 : Int32)) + (1 : Int32)) * (((y &&& (3 : Int32)) % (3 : Int32)) + (1 : Int32))).toNatClampNeg ≤ 9 := by
  rcases own_c3 x with h | h | h <;> rcases own_c3 y with q | q | q <;> rw [h, q] <;> decide
theorem own_sm (a c : Int32) (h0 : ¬ a < (0 : Int32)) (h1 : a < c) (h2 : c.toInt ≤ 3) : a = 0 ∨ a = 1 ∨ a = 2 := by
  rw [Int32.lt_iff_toInt_lt, show (0 : Int32).toInt = 0 from rfl] at h0
  rw [Int32.lt_iff_toInt_lt] at h1
  simp only [← Int32.toInt_inj, show (0 : Int32).toInt = 0 from rfl, show (1 : Int32).toInt = 1 from rfl, show (2 : Int32).toInt = 2 from rfl]
  omega
theorem own_ix (x y a b : Int32) : ¬ (a < (0 : Int32)) → ¬ (b < (0 : Int32)) → a < (((x &&& (3 : Int32)) % (3 : Int32)) + (1 : Int32)) → b < (((y &&& (3 : Int32)) % (3 : Int32)) + (1 : Int32)) → ¬ ((b * (((x &&& (3 : Int32)) % (3 : Int32)) + (1 : Int32))) + a) < 0 ∧ ((b * (((x &&& (3 : Int32)) % (3 : Int32)) + (1 : Int32))) + a) < ((((x &&& (3 : Int32)) % (3 : Int32)) + (1 : Int32)) * (((y &&& (3 : Int32)) % (3 : Int32)) + (1 : Int32))) := by
  intro h1 h2 h3 h4
  rcases own_c3 x with h | h | h <;> rcases own_c3 y with q | q | q <;> rw [h] at h3 ⊢ <;> rw [q] at h4 ⊢ <;> rcases own_sm a _ h1 h3 (by decide) with rfl | rfl | rfl <;> rcases own_sm b _ h2 h4 (by decide) with rfl | rfl | rfl <;> revert h1 h2 h3 h4 <;> decide
theorem own_k207 (m : MethodId) (x0 : Int32) (x1 : Int32) (x2 : Int32) (x3 : Int32) (x4 : Int32) (x5 : Int32) : entryFrame m #[(.int x0), (.int x1), (.int x2), (.int x3), (.int x4), (.int x5)] maxLocals = mkF m 0 #[.val (.int x0), .val (.int x1), .val (.int x2), .val (.int x3), .val (.int x4), .val (.int x5), .unset, .unset, .unset, .unset, .unset, .unset, .unset] [] := by first | (simp [entryFrame, mkF, argsToLocals, Value.category, maxLocals]; done) | rfl
theorem own_k208 : parseMethodDescriptor "([ZI)V" = some ⟨[(.array .boolean), .int], none⟩ := by decide +kernel
def own_w0_17 (x1 : Int32) (x2 : Int32) : Nat → Int32 := (own_q1_a x2 ((((x1 &&& (3 : Int32)) % (3 : Int32)) + (1 : Int32)) * ((((own_ushr x1 (2 : Int32)) &&& (3 : Int32)) % (3 : Int32)) + (1 : Int32))) (fun _ => (0 : Int32)))
theorem own_k209 : parseMethodDescriptor "(II)I" = some ⟨[.int, .int], some .int⟩ := by decide +kernel
theorem own_k210 : parseMethodDescriptor "(III[Z)V" = some ⟨[.int, .int, .int, (.array .boolean)], none⟩ := by decide +kernel
def own_w0_18 (x1 : Int32) (x2 : Int32) : Nat → Int32 := (own_q1_a (x2 ^^^ (-1 : Int32)) ((((x1 &&& (3 : Int32)) % (3 : Int32)) + (1 : Int32)) * ((((own_ushr x1 (2 : Int32)) &&& (3 : Int32)) % (3 : Int32)) + (1 : Int32))) (own_w0_17 x1 x2))
def own_j0_67_s0 (x3 : Int32) (x5 : Int32) : Int32 := (if (x5 &&& (1 : Int32)) = (0 : Int32) then ((x3 &&& (7 : Int32)) - (2 : Int32)) else x3)
def own_j0_86_s0 (x4 : Int32) (x5 : Int32) : Int32 := (if (x5 &&& (2 : Int32)) = (0 : Int32) then ((x4 &&& (7 : Int32)) - (2 : Int32)) else x4)
def own_j0_145_s0 (x1 : Int32) (x2 : Int32) (x3 : Int32) (x4 : Int32) (x5 : Int32) : Int32 := (if ((own_ushr x2 (((own_j0_86_s0 x4 x5) * (((x1 &&& (3 : Int32)) % (3 : Int32)) + (1 : Int32))) + (own_j0_67_s0 x3 x5))) &&& (1 : Int32)) = (0 : Int32) then (0 : Int32) else (1 : Int32))
def own_j0_105_l12 (x1 : Int32) (x2 : Int32) (x3 : Int32) (x4 : Int32) (x5 : Int32) : Int32 := (if (own_j0_67_s0 x3 x5) < (0 : Int32) then (0 : Int32) else (if (own_j0_86_s0 x4 x5) < (0 : Int32) then (0 : Int32) else (if (own_j0_67_s0 x3 x5) < (((x1 &&& (3 : Int32)) % (3 : Int32)) + (1 : Int32)) then (if (own_j0_86_s0 x4 x5) < ((((own_ushr x1 (2 : Int32)) &&& (3 : Int32)) % (3 : Int32)) + (1 : Int32)) then (own_j0_145_s0 x1 x2 x3 x4 x5) else (0 : Int32)) else (0 : Int32))))
theorem own_k211 : parseMethodDescriptor "(II)Z" = some ⟨[.int, .int], some .boolean⟩ := by decide +kernel
def own_f0 (x0 : Int32) (x1 : Int32) (x2 : Int32) (x3 : Int32) (x4 : Int32) (x5 : Int32) : Int32 := (if (own_f5 (own_j0_67_s0 x3 x5) (own_j0_86_s0 x4 x5) (((x1 &&& (3 : Int32)) % (3 : Int32)) + (1 : Int32)) ((((own_ushr x1 (2 : Int32)) &&& (3 : Int32)) % (3 : Int32)) + (1 : Int32)) (own_w0_17 x1 x2)) = (own_j0_105_l12 x1 x2 x3 x4 x5) then (1 : Int32) else (0 : Int32))
set_option maxRecDepth 65536 in
set_option maxHeartbeats 40000000 in
theorem own_rm0 (l : Launch) (Z : State) (a0 : Array Value) (hw : ∀ d ∈ tables_1, d.before a0 Z = true) (ws : List Jvm.Cond) (x0 : Int32) (x1 : Int32) (x2 : Int32) (x3 : Int32) (x4 : Int32) (x5 : Int32) (h0 : Heap) (n0 : Nat) (hn0 : n0 ≤ h0.size) : Meets l Z x code maxLocals ret ws room_1 #[(.int x0), (.int x1), (.int x2), (.int x3), (.int x4), (.int x5)] h0 (fun v h L => v = some (.int (own_f0 x0 x1 x2 x3 x4 x5)) ∧ Fr n0 L) := by
  refine meets_of (plainFor_of_name own_k145) ?_
  intro p e s m below meth c s₁ X0 hx hZ hby hml hret hlk hown hnm e0
  replace hml : c.maxLocals = 13 := hml
  replace hown : s.vm.findClass "com/example/sidik/sidik/template/FingerprintAreaIsInsidePinLaw" = some m.cls := hown
  refine Go.cast (own_k207 m x0 x1 x2 x3 x4 x5) ?_
  have N0 := Fr.nil n0
  have K0 : Keep h0 h0 [] := Keep.refl h0 _
  refine Go.via (U' := s₁.setTop (mkF m 1 #[.val (.int x0), .val (.int x1), .val (.int x2), .val (.int x3), .val (.int x4), .val (.int x5), .unset, .unset, .unset, .unset, .unset, .unset, .unset] [(.int x1)])) (fun tG kG => XS.iloadN X0.here hx rfl (hb hby at_0) rfl kG) ?_
  refine Go.via (U' := s₁.setTop (mkF m 2 #[.val (.int x0), .val (.int x1), .val (.int x2), .val (.int x3), .val (.int x4), .val (.int x5), .unset, .unset, .unset, .unset, .unset, .unset, .unset] [(.int (3 : Int32)), (.int x1)])) (fun tG kG => XS.iconst X0.here hx rfl (hb hby at_1) kG) ?_
  refine Go.via (U' := s₁.setTop (mkF m 3 #[.val (.int x0), .val (.int x1), .val (.int x2), .val (.int x3), .val (.int x4), .val (.int x5), .unset, .unset, .unset, .unset, .unset, .unset, .unset] [(.int (x1 &&& (3 : Int32)))])) (fun tG kG => XS.iand X0.here hx rfl (hb hby at_2) rfl kG) ?_
  refine Go.via (U' := s₁.setTop (mkF m 4 #[.val (.int x0), .val (.int x1), .val (.int x2), .val (.int x3), .val (.int x4), .val (.int x5), .unset, .unset, .unset, .unset, .unset, .unset, .unset] [(.int (3 : Int32)), (.int (x1 &&& (3 : Int32)))])) (fun tG kG => XS.iconst X0.here hx rfl (hb hby at_3) kG) ?_
  refine Go.via (U' := s₁.setTop (mkF m 5 #[.val (.int x0), .val (.int x1), .val (.int x2), .val (.int x3), .val (.int x4), .val (.int x5), .unset, .unset, .unset, .unset, .unset, .unset, .unset] [(.int ((x1 &&& (3 : Int32)) % (3 : Int32)))])) (fun tG kG => iremM X0 hx rfl (hb hby at_4) rfl (by decide) kG) ?_
  refine Go.via (U' := s₁.setTop (mkF m 6 #[.val (.int x0), .val (.int x1), .val (.int x2), .val (.int x3), .val (.int x4), .val (.int x5), .unset, .unset, .unset, .unset, .unset, .unset, .unset] [(.int (1 : Int32)), (.int ((x1 &&& (3 : Int32)) % (3 : Int32)))])) (fun tG kG => XS.iconst X0.here hx rfl (hb hby at_5) kG) ?_
  refine Go.via (U' := s₁.setTop (mkF m 7 #[.val (.int x0), .val (.int x1), .val (.int x2), .val (.int x3), .val (.int x4), .val (.int x5), .unset, .unset, .unset, .unset, .unset, .unset, .unset] [(.int (((x1 &&& (3 : Int32)) % (3 : Int32)) + (1 : Int32)))])) (fun tG kG => XS.iadd X0.here hx rfl (hb hby at_6) rfl kG) ?_
  refine Go.via (U' := s₁.setTop (mkF m 9 #[.val (.int x0), .val (.int x1), .val (.int x2), .val (.int x3), .val (.int x4), .val (.int x5), .val (.int (((x1 &&& (3 : Int32)) % (3 : Int32)) + (1 : Int32))), .unset, .unset, .unset, .unset, .unset, .unset] [])) (fun tG kG => XS.istore X0.here hx rfl (hb hby at_7) rfl (l' := #[.val (.int x0), .val (.int x1), .val (.int x2), .val (.int x3), .val (.int x4), .val (.int x5), .val (.int (((x1 &&& (3 : Int32)) % (3 : Int32)) + (1 : Int32))), .unset, .unset, .unset, .unset, .unset, .unset]) rfl kG) ?_
  refine Go.via (U' := s₁.setTop (mkF m 10 #[.val (.int x0), .val (.int x1), .val (.int x2), .val (.int x3), .val (.int x4), .val (.int x5), .val (.int (((x1 &&& (3 : Int32)) % (3 : Int32)) + (1 : Int32))), .unset, .unset, .unset, .unset, .unset, .unset] [(.int x1)])) (fun tG kG => XS.iloadN X0.here hx rfl (hb hby at_9) rfl kG) ?_
  refine Go.via (U' := s₁.setTop (mkF m 11 #[.val (.int x0), .val (.int x1), .val (.int x2), .val (.int x3), .val (.int x4), .val (.int x5), .val (.int (((x1 &&& (3 : Int32)) % (3 : Int32)) + (1 : Int32))), .unset, .unset, .unset, .unset, .unset, .unset] [(.int (2 : Int32)), (.int x1)])) (fun tG kG => XS.iconst X0.here hx rfl (hb hby at_10) kG) ?_
  refine Go.via (U' := s₁.setTop (mkF m 12 #[.val (.int x0), .val (.int x1), .val (.int x2), .val (.int x3), .val (.int x4), .val (.int x5), .val (.int (((x1 &&& (3 : Int32)) % (3 : Int32)) + (1 : Int32))), .unset, .unset, .unset, .unset, .unset, .unset] [(.int (own_ushr x1 (2 : Int32)))])) (fun tG kG => XS.iushr X0.here hx rfl (hb hby at_11) rfl kG) ?_
  refine Go.via (U' := s₁.setTop (mkF m 13 #[.val (.int x0), .val (.int x1), .val (.int x2), .val (.int x3), .val (.int x4), .val (.int x5), .val (.int (((x1 &&& (3 : Int32)) % (3 : Int32)) + (1 : Int32))), .unset, .unset, .unset, .unset, .unset, .unset] [(.int (3 : Int32)), (.int (own_ushr x1 (2 : Int32)))])) (fun tG kG => XS.iconst X0.here hx rfl (hb hby at_12) kG) ?_
  refine Go.via (U' := s₁.setTop (mkF m 14 #[.val (.int x0), .val (.int x1), .val (.int x2), .val (.int x3), .val (.int x4), .val (.int x5), .val (.int (((x1 &&& (3 : Int32)) % (3 : Int32)) + (1 : Int32))), .unset, .unset, .unset, .unset, .unset, .unset] [(.int ((own_ushr x1 (2 : Int32)) &&& (3 : Int32)))])) (fun tG kG => XS.iand X0.here hx rfl (hb hby at_13) rfl kG) ?_
  refine Go.via (U' := s₁.setTop (mkF m 15 #[.val (.int x0), .val (.int x1), .val (.int x2), .val (.int x3), .val (.int x4), .val (.int x5), .val (.int (((x1 &&& (3 : Int32)) % (3 : Int32)) + (1 : Int32))), .unset, .unset, .unset, .unset, .unset, .unset] [(.int (3 : Int32)), (.int ((own_ushr x1 (2 : Int32)) &&& (3 : Int32)))])) (fun tG kG => XS.iconst X0.here hx rfl (hb hby at_14) kG) ?_
  refine Go.via (U' := s₁.setTop (mkF m 16 #[.val (.int x0), .val (.int x1), .val (.int x2), .val (.int x3), .val (.int x4), .val (.int x5), .val (.int (((x1 &&& (3 : Int32)) % (3 : Int32)) + (1 : Int32))), .unset, .unset, .unset, .unset, .unset, .unset] [(.int (((own_ushr x1 (2 : Int32)) &&& (3 : Int32)) % (3 : Int32)))])) (fun tG kG => iremM X0 hx rfl (hb hby at_15) rfl (by decide) kG) ?_
  refine Go.via (U' := s₁.setTop (mkF m 17 #[.val (.int x0), .val (.int x1), .val (.int x2), .val (.int x3), .val (.int x4), .val (.int x5), .val (.int (((x1 &&& (3 : Int32)) % (3 : Int32)) + (1 : Int32))), .unset, .unset, .unset, .unset, .unset, .unset] [(.int (1 : Int32)), (.int (((own_ushr x1 (2 : Int32)) &&& (3 : Int32)) % (3 : Int32)))])) (fun tG kG => XS.iconst X0.here hx rfl (hb hby at_16) kG) ?_
  refine Go.via (U' := s₁.setTop (mkF m 18 #[.val (.int x0), .val (.int x1), .val (.int x2), .val (.int x3), .val (.int x4), .val (.int x5), .val (.int (((x1 &&& (3 : Int32)) % (3 : Int32)) + (1 : Int32))), .unset, .unset, .unset, .unset, .unset, .unset] [(.int ((((own_ushr x1 (2 : Int32)) &&& (3 : Int32)) % (3 : Int32)) + (1 : Int32)))])) (fun tG kG => XS.iadd X0.here hx rfl (hb hby at_17) rfl kG) ?_
  refine Go.via (U' := s₁.setTop (mkF m 20 #[.val (.int x0), .val (.int x1), .val (.int x2), .val (.int x3), .val (.int x4), .val (.int x5), .val (.int (((x1 &&& (3 : Int32)) % (3 : Int32)) + (1 : Int32))), .val (.int ((((own_ushr x1 (2 : Int32)) &&& (3 : Int32)) % (3 : Int32)) + (1 : Int32))), .unset, .unset, .unset, .unset, .unset] [])) (fun tG kG => XS.istore X0.here hx rfl (hb hby at_18) rfl (l' := #[.val (.int x0), .val (.int x1), .val (.int x2), .val (.int x3), .val (.int x4), .val (.int x5), .val (.int (((x1 &&& (3 : Int32)) % (3 : Int32)) + (1 : Int32))), .val (.int ((((own_ushr x1 (2 : Int32)) &&& (3 : Int32)) % (3 : Int32)) + (1 : Int32))), .unset, .unset, .unset, .unset, .unset]) rfl kG) ?_
  refine Go.via (U' := s₁.setTop (mkF m 22 #[.val (.int x0), .val (.int x1), .val (.int x2), .val (.int x3), .val (.int x4), .val (.int x5), .val (.int (((x1 &&& (3 : Int32)) % (3 : Int32)) + (1 : Int32))), .val (.int ((((own_ushr x1 (2 : Int32)) &&& (3 : Int32)) % (3 : Int32)) + (1 : Int32))), .unset, .unset, .unset, .unset, .unset] [(.int (((x1 &&& (3 : Int32)) % (3 : Int32)) + (1 : Int32)))])) (fun tG kG => XS.iload X0.here hx rfl (hb hby at_20) rfl kG) ?_
  refine Go.via (U' := s₁.setTop (mkF m 24 #[.val (.int x0), .val (.int x1), .val (.int x2), .val (.int x3), .val (.int x4), .val (.int x5), .val (.int (((x1 &&& (3 : Int32)) % (3 : Int32)) + (1 : Int32))), .val (.int ((((own_ushr x1 (2 : Int32)) &&& (3 : Int32)) % (3 : Int32)) + (1 : Int32))), .unset, .unset, .unset, .unset, .unset] [(.int ((((own_ushr x1 (2 : Int32)) &&& (3 : Int32)) % (3 : Int32)) + (1 : Int32))), (.int (((x1 &&& (3 : Int32)) % (3 : Int32)) + (1 : Int32)))])) (fun tG kG => XS.iload X0.here hx rfl (hb hby at_22) rfl kG) ?_
  refine Go.via (U' := s₁.setTop (mkF m 25 #[.val (.int x0), .val (.int x1), .val (.int x2), .val (.int x3), .val (.int x4), .val (.int x5), .val (.int (((x1 &&& (3 : Int32)) % (3 : Int32)) + (1 : Int32))), .val (.int ((((own_ushr x1 (2 : Int32)) &&& (3 : Int32)) % (3 : Int32)) + (1 : Int32))), .unset, .unset, .unset, .unset, .unset] [(.int ((((x1 &&& (3 : Int32)) % (3 : Int32)) + (1 : Int32)) * ((((own_ushr x1 (2 : Int32)) &&& (3 : Int32)) % (3 : Int32)) + (1 : Int32))))])) (fun tG kG => XS.imul X0.here hx rfl (hb hby at_24) rfl kG) ?_
  obtain ⟨T1, h1, k1, X1, e1, E1, A1, B1, st1⟩ := newPE X0 hx hZ (hw _ (List.mem_of_getElem? (i := 0) rfl)) e0 (g := (mkF m 25 #[.val (.int x0), .val (.int x1), .val (.int x2), .val (.int x3), .val (.int x4), .val (.int x5), .val (.int (((x1 &&& (3 : Int32)) % (3 : Int32)) + (1 : Int32))), .val (.int ((((own_ushr x1 (2 : Int32)) &&& (3 : Int32)) % (3 : Int32)) + (1 : Int32))), .unset, .unset, .unset, .unset, .unset] [(.int ((((x1 &&& (3 : Int32)) % (3 : Int32)) + (1 : Int32)) * ((((own_ushr x1 (2 : Int32)) &&& (3 : Int32)) % (3 : Int32)) + (1 : Int32))))])) rfl (hb hby at_25) rfl (own_n _ _).1 (cap := 9) (own_n _ _).2 (by decide) (by decide) (by decide) (ad := "[Z") (by decide)
  obtain ⟨b1, g1⟩ : ∃ z, z = h0.size := ⟨_, rfl⟩
  rw [← g1] at A1 B1 st1
  have g_b1 : n0 ≤ b1 := Nat.le_trans hn0 (Nat.le_of_eq g1.symm)
  have sz_b1 : h0.size ≤ b1 := Nat.le_trans K0.1 (Nat.le_of_eq g1.symm)
  have K1 := K0.ext E1
  have Z1 := Nat.le_trans hn0 E1.1
  have V1 : Arf Z h1 b1 k1 .boolean ((((x1 &&& (3 : Int32)) % (3 : Int32)) + (1 : Int32)) * ((((own_ushr x1 (2 : Int32)) &&& (3 : Int32)) % (3 : Int32)) + (1 : Int32))) (fun _ => 0) := Arf.new A1 (own_n _ _).1 rfl rfl
  refine Go.via (U' := T1.setTop (mkF m 27 #[.val (.int x0), .val (.int x1), .val (.int x2), .val (.int x3), .val (.int x4), .val (.int x5), .val (.int (((x1 &&& (3 : Int32)) % (3 : Int32)) + (1 : Int32))), .val (.int ((((own_ushr x1 (2 : Int32)) &&& (3 : Int32)) % (3 : Int32)) + (1 : Int32))), .unset, .unset, .unset, .unset, .unset] [(.ref b1)])) (fun tG kG => st1 tG kG) ?_
  refine Go.via (U' := T1.setTop (mkF m 29 #[.val (.int x0), .val (.int x1), .val (.int x2), .val (.int x3), .val (.int x4), .val (.int x5), .val (.int (((x1 &&& (3 : Int32)) % (3 : Int32)) + (1 : Int32))), .val (.int ((((own_ushr x1 (2 : Int32)) &&& (3 : Int32)) % (3 : Int32)) + (1 : Int32))), .val (.ref b1), .unset, .unset, .unset, .unset] [])) (fun tG kG => XS.astore X1.here hx rfl (hb hby at_27) rfl rfl (l' := #[.val (.int x0), .val (.int x1), .val (.int x2), .val (.int x3), .val (.int x4), .val (.int x5), .val (.int (((x1 &&& (3 : Int32)) % (3 : Int32)) + (1 : Int32))), .val (.int ((((own_ushr x1 (2 : Int32)) &&& (3 : Int32)) % (3 : Int32)) + (1 : Int32))), .val (.ref b1), .unset, .unset, .unset, .unset]) rfl kG) ?_
  refine Go.via (U' := T1.setTop (mkF m 31 #[.val (.int x0), .val (.int x1), .val (.int x2), .val (.int x3), .val (.int x4), .val (.int x5), .val (.int (((x1 &&& (3 : Int32)) % (3 : Int32)) + (1 : Int32))), .val (.int ((((own_ushr x1 (2 : Int32)) &&& (3 : Int32)) % (3 : Int32)) + (1 : Int32))), .val (.ref b1), .unset, .unset, .unset, .unset] [(.ref b1)])) (fun tG kG => XS.aload X1.here hx rfl (hb hby at_29) rfl rfl kG) ?_
  refine Go.via (U' := T1.setTop (mkF m 32 #[.val (.int x0), .val (.int x1), .val (.int x2), .val (.int x3), .val (.int x4), .val (.int x5), .val (.int (((x1 &&& (3 : Int32)) % (3 : Int32)) + (1 : Int32))), .val (.int ((((own_ushr x1 (2 : Int32)) &&& (3 : Int32)) % (3 : Int32)) + (1 : Int32))), .val (.ref b1), .unset, .unset, .unset, .unset] [(.int x2), (.ref b1)])) (fun tG kG => XS.iloadN X1.here hx rfl (hb hby at_31) rfl kG) ?_
  obtain ⟨_, T2, L2, X2, ⟨rfl, N2q, K2q, f3⟩, st2⟩ := callSQ X1 hx hZ hown (hw _ (List.mem_of_getElem? (i := 1) rfl)) (hw _ (List.mem_of_getElem? (i := 2) rfl)) (hw _ (List.mem_of_getElem? (i := 3) rfl)) (hw _ (List.mem_of_getElem? (i := 4) rfl)) (by decide) (av := [(.ref b1), (.int x2)]) (own_rm1 l Z a0 hw [] b1 x2 k1 ((((x1 &&& (3 : Int32)) % (3 : Int32)) + (1 : Int32)) * ((((own_ushr x1 (2 : Int32)) &&& (3 : Int32)) % (3 : Int32)) + (1 : Int32))) (fun _ => (0 : Int32)) h1 n0 Z1 V1 g_b1) e1 (pc := 32) (Ls := #[.val (.int x0), .val (.int x1), .val (.int x2), .val (.int x3), .val (.int x4), .val (.int x5), .val (.int (((x1 &&& (3 : Int32)) % (3 : Int32)) + (1 : Int32))), .val (.int ((((own_ushr x1 (2 : Int32)) &&& (3 : Int32)) % (3 : Int32)) + (1 : Int32))), .val (.ref b1), .unset, .unset, .unset, .unset]) (rest := []) (by rw [hml]; rfl) own_k208 rfl 0 (Nat.le_of_eq rfl) (by decide) (by decide) (by decide) (by decide) (hb hby at_32)
  have f4 := B1.keep K2q
  have N2 := Fr.app N0 N2q
  have Z2 := Nat.le_trans Z1 K2q.1
  have K2 := K1.trans K2q (allS (Or.inr sz_b1) all0)
  replace f3 : Arf Z T2.heap b1 k1 .boolean ((((x1 &&& (3 : Int32)) % (3 : Int32)) + (1 : Int32)) * ((((own_ushr x1 (2 : Int32)) &&& (3 : Int32)) % (3 : Int32)) + (1 : Int32))) (own_w0_17 x1 x2) := f3
  refine Go.via (U' := T2.setTop (mkF m 35 #[.val (.int x0), .val (.int x1), .val (.int x2), .val (.int x3), .val (.int x4), .val (.int x5), .val (.int (((x1 &&& (3 : Int32)) % (3 : Int32)) + (1 : Int32))), .val (.int ((((own_ushr x1 (2 : Int32)) &&& (3 : Int32)) % (3 : Int32)) + (1 : Int32))), .val (.ref b1), .unset, .unset, .unset, .unset] [])) (fun tG kG => st2 tG kG) ?_
  obtain ⟨T5, h5, X5, e5, E5, A5, D5, -, st5⟩ := newO X2 hx hZ hown (hw _ (List.mem_of_getElem? (i := 5) rfl)) (hw _ (List.mem_of_getElem? (i := 6) rfl)) (hw _ (List.mem_of_getElem? (i := 7) rfl)) rfl (g := (mkF m 35 #[.val (.int x0), .val (.int x1), .val (.int x2), .val (.int x3), .val (.int x4), .val (.int x5), .val (.int (((x1 &&& (3 : Int32)) % (3 : Int32)) + (1 : Int32))), .val (.int ((((own_ushr x1 (2 : Int32)) &&& (3 : Int32)) % (3 : Int32)) + (1 : Int32))), .val (.ref b1), .unset, .unset, .unset, .unset] [])) rfl (hb hby at_35) (by decide) (by decide)
  obtain ⟨b5, g5⟩ : ∃ z, z = T2.heap.size := ⟨_, rfl⟩
  rw [← g5] at A5 D5 st5
  have g_b5 : n0 ≤ b5 := Nat.le_trans Z2 (Nat.le_of_eq g5.symm)
  have sz_b5 : h0.size ≤ b5 := Nat.le_trans K2.1 (Nat.le_of_eq g5.symm)
  have ne_b1_b5 : b1 ≠ b5 := Nat.ne_of_lt (Nat.lt_of_lt_of_le f4.lt (Nat.le_of_eq g5.symm))
  have f6 := f4.ext E5
  have f7 := f3.ext E5
  have K5 := K2.ext E5
  have Z5 := Nat.le_trans Z2 E5.1
  have f8 : Fld Z h5 b5 "com/example/sidik/sidik/template/FingerprintArea" "blockSize" "I" (.int (0 : Int32)) := D5 (Or.inr (hw _ (List.mem_of_getElem? (i := 19) rfl))) (ty := .int) (by decide)
  have f9 : Fld Z h5 b5 "com/example/sidik/sidik/template/FingerprintArea" "columns" "I" (.int (0 : Int32)) := D5 (Or.inr (hw _ (List.mem_of_getElem? (i := 21) rfl))) (ty := .int) (by decide)
  have f10 : Fld Z h5 b5 "com/example/sidik/sidik/template/FingerprintArea" "rows" "I" (.int (0 : Int32)) := D5 (Or.inr (hw _ (List.mem_of_getElem? (i := 23) rfl))) (ty := .int) (by decide)
  have f11 : Fld Z h5 b5 "com/example/sidik/sidik/template/FingerprintArea" "inside" "[Z" .null := D5 (Or.inr (hw _ (List.mem_of_getElem? (i := 34) rfl))) (ty := (.array .boolean)) (by decide)
  refine Go.via (U' := T5.setTop (mkF m 38 #[.val (.int x0), .val (.int x1), .val (.int x2), .val (.int x3), .val (.int x4), .val (.int x5), .val (.int (((x1 &&& (3 : Int32)) % (3 : Int32)) + (1 : Int32))), .val (.int ((((own_ushr x1 (2 : Int32)) &&& (3 : Int32)) % (3 : Int32)) + (1 : Int32))), .val (.ref b1), .unset, .unset, .unset, .unset] [(.ref b5)])) (fun tG kG => st5 tG kG) ?_
  refine Go.via (U' := T5.setTop (mkF m 39 #[.val (.int x0), .val (.int x1), .val (.int x2), .val (.int x3), .val (.int x4), .val (.int x5), .val (.int (((x1 &&& (3 : Int32)) % (3 : Int32)) + (1 : Int32))), .val (.int ((((own_ushr x1 (2 : Int32)) &&& (3 : Int32)) % (3 : Int32)) + (1 : Int32))), .val (.ref b1), .unset, .unset, .unset, .unset] [(.ref b5), (.ref b5)])) (fun tG kG => XS.dup X5.here hx rfl (hb hby at_38) rfl rfl kG) ?_
  refine Go.via (U' := T5.setTop (mkF m 40 #[.val (.int x0), .val (.int x1), .val (.int x2), .val (.int x3), .val (.int x4), .val (.int x5), .val (.int (((x1 &&& (3 : Int32)) % (3 : Int32)) + (1 : Int32))), .val (.int ((((own_ushr x1 (2 : Int32)) &&& (3 : Int32)) % (3 : Int32)) + (1 : Int32))), .val (.ref b1), .unset, .unset, .unset, .unset] [(.int (1 : Int32)), (.ref b5), (.ref b5)])) (fun tG kG => XS.iconst X5.here hx rfl (hb hby at_39) kG) ?_
  refine Go.via (U' := T5.setTop (mkF m 41 #[.val (.int x0), .val (.int x1), .val (.int x2), .val (.int x3), .val (.int x4), .val (.int x5), .val (.int (((x1 &&& (3 : Int32)) % (3 : Int32)) + (1 : Int32))), .val (.int ((((own_ushr x1 (2 : Int32)) &&& (3 : Int32)) % (3 : Int32)) + (1 : Int32))), .val (.ref b1), .unset, .unset, .unset, .unset] [(.int x0), (.int (1 : Int32)), (.ref b5), (.ref b5)])) (fun tG kG => XS.iloadN X5.here hx rfl (hb hby at_40) rfl kG) ?_
  obtain ⟨T12, X12, e12, st12⟩ := callS0 X5 hx hZ hown (hw _ (List.mem_of_getElem? (i := 8) rfl)) (hw _ (List.mem_of_getElem? (i := 9) rfl)) (hw _ (List.mem_of_getElem? (i := 10) rfl)) (hw _ (List.mem_of_getElem? (i := 11) rfl)) (by decide) (av := [(.int (1 : Int32)), (.int x0)]) (own_rm2 l Z a0 hw [] (1 : Int32) x0  h5) e5 (pc := 41) (Ls := #[.val (.int x0), .val (.int x1), .val (.int x2), .val (.int x3), .val (.int x4), .val (.int x5), .val (.int (((x1 &&& (3 : Int32)) % (3 : Int32)) + (1 : Int32))), .val (.int ((((own_ushr x1 (2 : Int32)) &&& (3 : Int32)) % (3 : Int32)) + (1 : Int32))), .val (.ref b1), .unset, .unset, .unset, .unset]) (rest := [(.ref b5), (.ref b5)]) (by rw [hml]; rfl) own_k209 rfl 2 (Nat.le_of_eq rfl) (by decide) (by decide) (by decide) (by decide) (hb hby at_41)
  refine Go.via (U' := T12.setTop (mkF m 44 #[.val (.int x0), .val (.int x1), .val (.int x2), .val (.int x3), .val (.int x4), .val (.int x5), .val (.int (((x1 &&& (3 : Int32)) % (3 : Int32)) + (1 : Int32))), .val (.int ((((own_ushr x1 (2 : Int32)) &&& (3 : Int32)) % (3 : Int32)) + (1 : Int32))), .val (.ref b1), .unset, .unset, .unset, .unset] [(.int (own_f2 (1 : Int32) x0)), (.ref b5), (.ref b5)])) (fun tG kG => st12 tG kG) ?_
  refine Go.via (U' := T12.setTop (mkF m 46 #[.val (.int x0), .val (.int x1), .val (.int x2), .val (.int x3), .val (.int x4), .val (.int x5), .val (.int (((x1 &&& (3 : Int32)) % (3 : Int32)) + (1 : Int32))), .val (.int ((((own_ushr x1 (2 : Int32)) &&& (3 : Int32)) % (3 : Int32)) + (1 : Int32))), .val (.ref b1), .unset, .unset, .unset, .unset] [(.int (((x1 &&& (3 : Int32)) % (3 : Int32)) + (1 : Int32))), (.int (own_f2 (1 : Int32) x0)), (.ref b5), (.ref b5)])) (fun tG kG => XS.iload X12.here hx rfl (hb hby at_44) rfl kG) ?_
  refine Go.via (U' := T12.setTop (mkF m 48 #[.val (.int x0), .val (.int x1), .val (.int x2), .val (.int x3), .val (.int x4), .val (.int x5), .val (.int (((x1 &&& (3 : Int32)) % (3 : Int32)) + (1 : Int32))), .val (.int ((((own_ushr x1 (2 : Int32)) &&& (3 : Int32)) % (3 : Int32)) + (1 : Int32))), .val (.ref b1), .unset, .unset, .unset, .unset] [(.int ((((own_ushr x1 (2 : Int32)) &&& (3 : Int32)) % (3 : Int32)) + (1 : Int32))), (.int (((x1 &&& (3 : Int32)) % (3 : Int32)) + (1 : Int32))), (.int (own_f2 (1 : Int32) x0)), (.ref b5), (.ref b5)])) (fun tG kG => XS.iload X12.here hx rfl (hb hby at_46) rfl kG) ?_
  refine Go.via (U' := T12.setTop (mkF m 50 #[.val (.int x0), .val (.int x1), .val (.int x2), .val (.int x3), .val (.int x4), .val (.int x5), .val (.int (((x1 &&& (3 : Int32)) % (3 : Int32)) + (1 : Int32))), .val (.int ((((own_ushr x1 (2 : Int32)) &&& (3 : Int32)) % (3 : Int32)) + (1 : Int32))), .val (.ref b1), .unset, .unset, .unset, .unset] [(.ref b1), (.int ((((own_ushr x1 (2 : Int32)) &&& (3 : Int32)) % (3 : Int32)) + (1 : Int32))), (.int (((x1 &&& (3 : Int32)) % (3 : Int32)) + (1 : Int32))), (.int (own_f2 (1 : Int32) x0)), (.ref b5), (.ref b5)])) (fun tG kG => XS.aload X12.here hx rfl (hb hby at_48) rfl rfl kG) ?_
  obtain ⟨_, T13, L13, X13, ⟨rfl, N13q, K13q, b14, gb14, zb14, f15, f16, f17, f18, f19, f20, f21⟩, st13⟩ := callIQ X12 hx hZ rfl hown (hw _ (List.mem_of_getElem? (i := 12) rfl)) (hw _ (List.mem_of_getElem? (i := 13) rfl)) (hw _ (List.mem_of_getElem? (i := 7) rfl)) (hw _ (List.mem_of_getElem? (i := 14) rfl)) (by decide) (b := b5) (av := [(.int (own_f2 (1 : Int32) x0)), (.int (((x1 &&& (3 : Int32)) % (3 : Int32)) + (1 : Int32))), (.int ((((own_ushr x1 (2 : Int32)) &&& (3 : Int32)) % (3 : Int32)) + (1 : Int32))), (.ref b1)]) (own_rm3 l Z a0 hw [] b5 (own_f2 (1 : Int32) x0) (((x1 &&& (3 : Int32)) % (3 : Int32)) + (1 : Int32)) ((((own_ushr x1 (2 : Int32)) &&& (3 : Int32)) % (3 : Int32)) + (1 : Int32)) b1 k1 ((((x1 &&& (3 : Int32)) % (3 : Int32)) + (1 : Int32)) * ((((own_ushr x1 (2 : Int32)) &&& (3 : Int32)) % (3 : Int32)) + (1 : Int32))) (own_w0_17 x1 x2) h5 n0 Z5 A5 f8 f9 f10 f11 f6 f7 g_b5 (Ne.symm ne_b1_b5) (own_h0 _) (own_h1 _) (own_h1 _) rfl (own_n _ _).2) e12 (pc := 50) (Ls := #[.val (.int x0), .val (.int x1), .val (.int x2), .val (.int x3), .val (.int x4), .val (.int x5), .val (.int (((x1 &&& (3 : Int32)) % (3 : Int32)) + (1 : Int32))), .val (.int ((((own_ushr x1 (2 : Int32)) &&& (3 : Int32)) % (3 : Int32)) + (1 : Int32))), .val (.ref b1), .unset, .unset, .unset, .unset]) (rest := [(.ref b5)]) (by rw [hml]; rfl) own_k210 rfl 1 (Nat.le_of_eq rfl) (by decide) (by decide) (by decide) (by decide) (hb hby at_50)
  have f22 := f6.keep K13q
  have f23 := f7.keep K13q (ninS ne_b1_b5 nin0)
  have f24 := A5.keep K13q
  have N13 := Fr.app N2 N13q
  have Z13 := Nat.le_trans Z5 K13q.1
  have K13 := K5.trans K13q (allS (Or.inr sz_b5) all0)
  have sb14 : h0.size ≤ b14 := Nat.le_trans K5.1 zb14
  have ne_b1_b14 : b1 ≠ b14 := Nat.ne_of_lt (Nat.lt_of_lt_of_le f6.lt zb14)
  have ne_b5_b14 : b5 ≠ b14 := Nat.ne_of_lt (Nat.lt_of_lt_of_le A5.lt zb14)
  refine Go.via (U' := T13.setTop (mkF m 53 #[.val (.int x0), .val (.int x1), .val (.int x2), .val (.int x3), .val (.int x4), .val (.int x5), .val (.int (((x1 &&& (3 : Int32)) % (3 : Int32)) + (1 : Int32))), .val (.int ((((own_ushr x1 (2 : Int32)) &&& (3 : Int32)) % (3 : Int32)) + (1 : Int32))), .val (.ref b1), .unset, .unset, .unset, .unset] [(.ref b5)])) (fun tG kG => st13 tG kG) ?_
  refine Go.via (U' := T13.setTop (mkF m 55 #[.val (.int x0), .val (.int x1), .val (.int x2), .val (.int x3), .val (.int x4), .val (.int x5), .val (.int (((x1 &&& (3 : Int32)) % (3 : Int32)) + (1 : Int32))), .val (.int ((((own_ushr x1 (2 : Int32)) &&& (3 : Int32)) % (3 : Int32)) + (1 : Int32))), .val (.ref b1), .val (.ref b5), .unset, .unset, .unset] [])) (fun tG kG => XS.astore X13.here hx rfl (hb hby at_53) rfl rfl (l' := #[.val (.int x0), .val (.int x1), .val (.int x2), .val (.int x3), .val (.int x4), .val (.int x5), .val (.int (((x1 &&& (3 : Int32)) % (3 : Int32)) + (1 : Int32))), .val (.int ((((own_ushr x1 (2 : Int32)) &&& (3 : Int32)) % (3 : Int32)) + (1 : Int32))), .val (.ref b1), .val (.ref b5), .unset, .unset, .unset]) rfl kG) ?_
  refine Go.via (U' := T13.setTop (mkF m 57 #[.val (.int x0), .val (.int x1), .val (.int x2), .val (.int x3), .val (.int x4), .val (.int x5), .val (.int (((x1 &&& (3 : Int32)) % (3 : Int32)) + (1 : Int32))), .val (.int ((((own_ushr x1 (2 : Int32)) &&& (3 : Int32)) % (3 : Int32)) + (1 : Int32))), .val (.ref b1), .val (.ref b5), .unset, .unset, .unset] [(.ref b1)])) (fun tG kG => XS.aload X13.here hx rfl (hb hby at_55) rfl rfl kG) ?_
  refine Go.via (U' := T13.setTop (mkF m 58 #[.val (.int x0), .val (.int x1), .val (.int x2), .val (.int x3), .val (.int x4), .val (.int x5), .val (.int (((x1 &&& (3 : Int32)) % (3 : Int32)) + (1 : Int32))), .val (.int ((((own_ushr x1 (2 : Int32)) &&& (3 : Int32)) % (3 : Int32)) + (1 : Int32))), .val (.ref b1), .val (.ref b5), .unset, .unset, .unset] [(.int x2), (.ref b1)])) (fun tG kG => XS.iloadN X13.here hx rfl (hb hby at_57) rfl kG) ?_
  refine Go.via (U' := T13.setTop (mkF m 59 #[.val (.int x0), .val (.int x1), .val (.int x2), .val (.int x3), .val (.int x4), .val (.int x5), .val (.int (((x1 &&& (3 : Int32)) % (3 : Int32)) + (1 : Int32))), .val (.int ((((own_ushr x1 (2 : Int32)) &&& (3 : Int32)) % (3 : Int32)) + (1 : Int32))), .val (.ref b1), .val (.ref b5), .unset, .unset, .unset] [(.int (-1 : Int32)), (.int x2), (.ref b1)])) (fun tG kG => XS.iconst X13.here hx rfl (hb hby at_58) kG) ?_
  refine Go.via (U' := T13.setTop (mkF m 60 #[.val (.int x0), .val (.int x1), .val (.int x2), .val (.int x3), .val (.int x4), .val (.int x5), .val (.int (((x1 &&& (3 : Int32)) % (3 : Int32)) + (1 : Int32))), .val (.int ((((own_ushr x1 (2 : Int32)) &&& (3 : Int32)) % (3 : Int32)) + (1 : Int32))), .val (.ref b1), .val (.ref b5), .unset, .unset, .unset] [(.int (x2 ^^^ (-1 : Int32))), (.ref b1)])) (fun tG kG => XS.ixor X13.here hx rfl (hb hby at_59) rfl kG) ?_
  obtain ⟨_, T25, L25, X25, ⟨rfl, N25q, K25q, f26⟩, st25⟩ := callSQ X13 hx hZ hown (hw _ (List.mem_of_getElem? (i := 1) rfl)) (hw _ (List.mem_of_getElem? (i := 2) rfl)) (hw _ (List.mem_of_getElem? (i := 3) rfl)) (hw _ (List.mem_of_getElem? (i := 4) rfl)) (by decide) (av := [(.ref b1), (.int (x2 ^^^ (-1 : Int32)))]) (own_rm1 l Z a0 hw [] b1 (x2 ^^^ (-1 : Int32)) k1 ((((x1 &&& (3 : Int32)) % (3 : Int32)) + (1 : Int32)) * ((((own_ushr x1 (2 : Int32)) &&& (3 : Int32)) % (3 : Int32)) + (1 : Int32))) (own_w0_17 x1 x2) T13.heap n0 Z13 f23 g_b1) rfl (pc := 60) (Ls := #[.val (.int x0), .val (.int x1), .val (.int x2), .val (.int x3), .val (.int x4), .val (.int x5), .val (.int (((x1 &&& (3 : Int32)) % (3 : Int32)) + (1 : Int32))), .val (.int ((((own_ushr x1 (2 : Int32)) &&& (3 : Int32)) % (3 : Int32)) + (1 : Int32))), .val (.ref b1), .val (.ref b5), .unset, .unset, .unset]) (rest := []) (by rw [hml]; rfl) own_k208 rfl 0 (Nat.le_of_eq rfl) (by decide) (by decide) (by decide) (by decide) (hb hby at_60)
  have f27 := f22.keep K25q
  have f28 := f15.keep K25q
  have f29 := f16.keep K25q (ninS (Ne.symm ne_b1_b5) nin0)
  have f30 := f17.keep K25q (ninS (Ne.symm ne_b1_b5) nin0)
  have f31 := f18.keep K25q (ninS (Ne.symm ne_b1_b5) nin0)
  have f32 := f19.keep K25q (ninS (Ne.symm ne_b1_b5) nin0)
  have f33 := f20.keep K25q (ninS (Ne.symm ne_b1_b14) nin0)
  have f34 := f21.keep K25q
  have N25 := Fr.app N13 N25q
  have Z25 := Nat.le_trans Z13 K25q.1
  have K25 := K13.trans K25q (allS (Or.inr sz_b1) all0)
  replace f26 : Arf Z T25.heap b1 k1 .boolean ((((x1 &&& (3 : Int32)) % (3 : Int32)) + (1 : Int32)) * ((((own_ushr x1 (2 : Int32)) &&& (3 : Int32)) % (3 : Int32)) + (1 : Int32))) (own_w0_18 x1 x2) := f26
  refine Go.via (U' := T25.setTop (mkF m 63 #[.val (.int x0), .val (.int x1), .val (.int x2), .val (.int x3), .val (.int x4), .val (.int x5), .val (.int (((x1 &&& (3 : Int32)) % (3 : Int32)) + (1 : Int32))), .val (.int ((((own_ushr x1 (2 : Int32)) &&& (3 : Int32)) % (3 : Int32)) + (1 : Int32))), .val (.ref b1), .val (.ref b5), .unset, .unset, .unset] [])) (fun tG kG => st25 tG kG) ?_
  refine Go.via (U' := T25.setTop (mkF m 65 #[.val (.int x0), .val (.int x1), .val (.int x2), .val (.int x3), .val (.int x4), .val (.int x5), .val (.int (((x1 &&& (3 : Int32)) % (3 : Int32)) + (1 : Int32))), .val (.int ((((own_ushr x1 (2 : Int32)) &&& (3 : Int32)) % (3 : Int32)) + (1 : Int32))), .val (.ref b1), .val (.ref b5), .unset, .unset, .unset] [(.int x5)])) (fun tG kG => XS.iload X25.here hx rfl (hb hby at_63) rfl kG) ?_
  refine Go.via (U' := T25.setTop (mkF m 66 #[.val (.int x0), .val (.int x1), .val (.int x2), .val (.int x3), .val (.int x4), .val (.int x5), .val (.int (((x1 &&& (3 : Int32)) % (3 : Int32)) + (1 : Int32))), .val (.int ((((own_ushr x1 (2 : Int32)) &&& (3 : Int32)) % (3 : Int32)) + (1 : Int32))), .val (.ref b1), .val (.ref b5), .unset, .unset, .unset] [(.int (1 : Int32)), (.int x5)])) (fun tG kG => XS.iconst X25.here hx rfl (hb hby at_65) kG) ?_
  refine Go.via (U' := T25.setTop (mkF m 67 #[.val (.int x0), .val (.int x1), .val (.int x2), .val (.int x3), .val (.int x4), .val (.int x5), .val (.int (((x1 &&& (3 : Int32)) % (3 : Int32)) + (1 : Int32))), .val (.int ((((own_ushr x1 (2 : Int32)) &&& (3 : Int32)) % (3 : Int32)) + (1 : Int32))), .val (.ref b1), .val (.ref b5), .unset, .unset, .unset] [(.int (x5 &&& (1 : Int32)))])) (fun tG kG => XS.iand X25.here hx rfl (hb hby at_66) rfl kG) ?_
  have J35 : ∀ T' L', Stand p l e room_1 s m #[(.int x0), (.int x1), (.int x2), (.int x3), (.int x4), (.int x5)] below meth c T' L' 3 22 → T'.heap = T25.heap → Fr n0 L' → Go p e below s room_1.cells room_1.slots (fun v h L => v = some (.int (own_f0 x0 x1 x2 x3 x4 x5)) ∧ Fr n0 L) (T'.setTop (mkF m 80 #[.val (.int x0), .val (.int x1), .val (.int x2), .val (.int x3), .val (.int x4), .val (.int x5), .val (.int (((x1 &&& (3 : Int32)) % (3 : Int32)) + (1 : Int32))), .val (.int ((((own_ushr x1 (2 : Int32)) &&& (3 : Int32)) % (3 : Int32)) + (1 : Int32))), .val (.ref b1), .val (.ref b5), .unset, .unset, .unset] [(.int (own_j0_67_s0 x3 x5))])) := by
    intro T36 L39 X37 e38 N40
    refine Go.via (U' := T36.setTop (mkF m 82 #[.val (.int x0), .val (.int x1), .val (.int x2), .val (.int x3), .val (.int x4), .val (.int x5), .val (.int (((x1 &&& (3 : Int32)) % (3 : Int32)) + (1 : Int32))), .val (.int ((((own_ushr x1 (2 : Int32)) &&& (3 : Int32)) % (3 : Int32)) + (1 : Int32))), .val (.ref b1), .val (.ref b5), .val (.int (own_j0_67_s0 x3 x5)), .unset, .unset] [])) (fun tG kG => XS.istore X37.here hx rfl (hb hby at_80) rfl (l' := #[.val (.int x0), .val (.int x1), .val (.int x2), .val (.int x3), .val (.int x4), .val (.int x5), .val (.int (((x1 &&& (3 : Int32)) % (3 : Int32)) + (1 : Int32))), .val (.int ((((own_ushr x1 (2 : Int32)) &&& (3 : Int32)) % (3 : Int32)) + (1 : Int32))), .val (.ref b1), .val (.ref b5), .val (.int (own_j0_67_s0 x3 x5)), .unset, .unset]) rfl kG) ?_
    refine Go.via (U' := T36.setTop (mkF m 84 #[.val (.int x0), .val (.int x1), .val (.int x2), .val (.int x3), .val (.int x4), .val (.int x5), .val (.int (((x1 &&& (3 : Int32)) % (3 : Int32)) + (1 : Int32))), .val (.int ((((own_ushr x1 (2 : Int32)) &&& (3 : Int32)) % (3 : Int32)) + (1 : Int32))), .val (.ref b1), .val (.ref b5), .val (.int (own_j0_67_s0 x3 x5)), .unset, .unset] [(.int x5)])) (fun tG kG => XS.iload X37.here hx rfl (hb hby at_82) rfl kG) ?_
    refine Go.via (U' := T36.setTop (mkF m 85 #[.val (.int x0), .val (.int x1), .val (.int x2), .val (.int x3), .val (.int x4), .val (.int x5), .val (.int (((x1 &&& (3 : Int32)) % (3 : Int32)) + (1 : Int32))), .val (.int ((((own_ushr x1 (2 : Int32)) &&& (3 : Int32)) % (3 : Int32)) + (1 : Int32))), .val (.ref b1), .val (.ref b5), .val (.int (own_j0_67_s0 x3 x5)), .unset, .unset] [(.int (2 : Int32)), (.int x5)])) (fun tG kG => XS.iconst X37.here hx rfl (hb hby at_84) kG) ?_
    refine Go.via (U' := T36.setTop (mkF m 86 #[.val (.int x0), .val (.int x1), .val (.int x2), .val (.int x3), .val (.int x4), .val (.int x5), .val (.int (((x1 &&& (3 : Int32)) % (3 : Int32)) + (1 : Int32))), .val (.int ((((own_ushr x1 (2 : Int32)) &&& (3 : Int32)) % (3 : Int32)) + (1 : Int32))), .val (.ref b1), .val (.ref b5), .val (.int (own_j0_67_s0 x3 x5)), .unset, .unset] [(.int (x5 &&& (2 : Int32)))])) (fun tG kG => XS.iand X37.here hx rfl (hb hby at_85) rfl kG) ?_
    have J41 : ∀ T' L', Stand p l e room_1 s m #[(.int x0), (.int x1), (.int x2), (.int x3), (.int x4), (.int x5)] below meth c T' L' 3 22 → T'.heap = T25.heap → Fr n0 L' → Go p e below s room_1.cells room_1.slots (fun v h L => v = some (.int (own_f0 x0 x1 x2 x3 x4 x5)) ∧ Fr n0 L) (T'.setTop (mkF m 101 #[.val (.int x0), .val (.int x1), .val (.int x2), .val (.int x3), .val (.int x4), .val (.int x5), .val (.int (((x1 &&& (3 : Int32)) % (3 : Int32)) + (1 : Int32))), .val (.int ((((own_ushr x1 (2 : Int32)) &&& (3 : Int32)) % (3 : Int32)) + (1 : Int32))), .val (.ref b1), .val (.ref b5), .val (.int (own_j0_67_s0 x3 x5)), .unset, .unset] [(.int (own_j0_86_s0 x4 x5))])) := by
      intro T42 L45 X43 e44 N46
      refine Go.via (U' := T42.setTop (mkF m 103 #[.val (.int x0), .val (.int x1), .val (.int x2), .val (.int x3), .val (.int x4), .val (.int x5), .val (.int (((x1 &&& (3 : Int32)) % (3 : Int32)) + (1 : Int32))), .val (.int ((((own_ushr x1 (2 : Int32)) &&& (3 : Int32)) % (3 : Int32)) + (1 : Int32))), .val (.ref b1), .val (.ref b5), .val (.int (own_j0_67_s0 x3 x5)), .val (.int (own_j0_86_s0 x4 x5)), .unset] [])) (fun tG kG => XS.istore X43.here hx rfl (hb hby at_101) rfl (l' := #[.val (.int x0), .val (.int x1), .val (.int x2), .val (.int x3), .val (.int x4), .val (.int x5), .val (.int (((x1 &&& (3 : Int32)) % (3 : Int32)) + (1 : Int32))), .val (.int ((((own_ushr x1 (2 : Int32)) &&& (3 : Int32)) % (3 : Int32)) + (1 : Int32))), .val (.ref b1), .val (.ref b5), .val (.int (own_j0_67_s0 x3 x5)), .val (.int (own_j0_86_s0 x4 x5)), .unset]) rfl kG) ?_
      refine Go.via (U' := T42.setTop (mkF m 105 #[.val (.int x0), .val (.int x1), .val (.int x2), .val (.int x3), .val (.int x4), .val (.int x5), .val (.int (((x1 &&& (3 : Int32)) % (3 : Int32)) + (1 : Int32))), .val (.int ((((own_ushr x1 (2 : Int32)) &&& (3 : Int32)) % (3 : Int32)) + (1 : Int32))), .val (.ref b1), .val (.ref b5), .val (.int (own_j0_67_s0 x3 x5)), .val (.int (own_j0_86_s0 x4 x5)), .unset] [(.int (own_j0_67_s0 x3 x5))])) (fun tG kG => XS.iload X43.here hx rfl (hb hby at_103) rfl kG) ?_
      have J47 : ∀ T' L', Stand p l e room_1 s m #[(.int x0), (.int x1), (.int x2), (.int x3), (.int x4), (.int x5)] below meth c T' L' 3 22 → T'.heap = T25.heap → Fr n0 L' → Go p e below s room_1.cells room_1.slots (fun v h L => v = some (.int (own_f0 x0 x1 x2 x3 x4 x5)) ∧ Fr n0 L) (T'.setTop (mkF m 155 #[.val (.int x0), .val (.int x1), .val (.int x2), .val (.int x3), .val (.int x4), .val (.int x5), .val (.int (((x1 &&& (3 : Int32)) % (3 : Int32)) + (1 : Int32))), .val (.int ((((own_ushr x1 (2 : Int32)) &&& (3 : Int32)) % (3 : Int32)) + (1 : Int32))), .val (.ref b1), .val (.ref b5), .val (.int (own_j0_67_s0 x3 x5)), .val (.int (own_j0_86_s0 x4 x5)), .val (.int (own_j0_105_l12 x1 x2 x3 x4 x5))] [])) := by
        intro T48 L51 X49 e50 N52
        refine Go.via (U' := T48.setTop (mkF m 157 #[.val (.int x0), .val (.int x1), .val (.int x2), .val (.int x3), .val (.int x4), .val (.int x5), .val (.int (((x1 &&& (3 : Int32)) % (3 : Int32)) + (1 : Int32))), .val (.int ((((own_ushr x1 (2 : Int32)) &&& (3 : Int32)) % (3 : Int32)) + (1 : Int32))), .val (.ref b1), .val (.ref b5), .val (.int (own_j0_67_s0 x3 x5)), .val (.int (own_j0_86_s0 x4 x5)), .val (.int (own_j0_105_l12 x1 x2 x3 x4 x5))] [(.ref b5)])) (fun tG kG => XS.aload X49.here hx rfl (hb hby at_155) rfl rfl kG) ?_
        refine Go.via (U' := T48.setTop (mkF m 159 #[.val (.int x0), .val (.int x1), .val (.int x2), .val (.int x3), .val (.int x4), .val (.int x5), .val (.int (((x1 &&& (3 : Int32)) % (3 : Int32)) + (1 : Int32))), .val (.int ((((own_ushr x1 (2 : Int32)) &&& (3 : Int32)) % (3 : Int32)) + (1 : Int32))), .val (.ref b1), .val (.ref b5), .val (.int (own_j0_67_s0 x3 x5)), .val (.int (own_j0_86_s0 x4 x5)), .val (.int (own_j0_105_l12 x1 x2 x3 x4 x5))] [(.int (own_j0_67_s0 x3 x5)), (.ref b5)])) (fun tG kG => XS.iload X49.here hx rfl (hb hby at_157) rfl kG) ?_
        refine Go.via (U' := T48.setTop (mkF m 161 #[.val (.int x0), .val (.int x1), .val (.int x2), .val (.int x3), .val (.int x4), .val (.int x5), .val (.int (((x1 &&& (3 : Int32)) % (3 : Int32)) + (1 : Int32))), .val (.int ((((own_ushr x1 (2 : Int32)) &&& (3 : Int32)) % (3 : Int32)) + (1 : Int32))), .val (.ref b1), .val (.ref b5), .val (.int (own_j0_67_s0 x3 x5)), .val (.int (own_j0_86_s0 x4 x5)), .val (.int (own_j0_105_l12 x1 x2 x3 x4 x5))] [(.int (own_j0_86_s0 x4 x5)), (.int (own_j0_67_s0 x3 x5)), (.ref b5)])) (fun tG kG => XS.iload X49.here hx rfl (hb hby at_159) rfl kG) ?_
        obtain ⟨T53, X53, e53, st53⟩ := callV0 X49 hx hZ hown (hw _ (List.mem_of_getElem? (i := 35) rfl)) (hw _ (List.mem_of_getElem? (i := 36) rfl)) (hw _ (List.mem_of_getElem? (i := 38) rfl)) (hw _ (List.mem_of_getElem? (i := 37) rfl)) (hw _ (List.mem_of_getElem? (i := 7) rfl)) (hw _ (List.mem_of_getElem? (i := 39) rfl)) (by decide) (b := b5) (av := [(.int (own_j0_67_s0 x3 x5)), (.int (own_j0_86_s0 x4 x5))]) f28 (own_rm5 l Z a0 hw [] b5 (own_j0_67_s0 x3 x5) (own_j0_86_s0 x4 x5) (((x1 &&& (3 : Int32)) % (3 : Int32)) + (1 : Int32)) ((((own_ushr x1 (2 : Int32)) &&& (3 : Int32)) % (3 : Int32)) + (1 : Int32)) b14 k1 ((((x1 &&& (3 : Int32)) % (3 : Int32)) + (1 : Int32)) * ((((own_ushr x1 (2 : Int32)) &&& (3 : Int32)) % (3 : Int32)) + (1 : Int32))) (own_w0_17 x1 x2) T25.heap f30 f31 f32 f33 (own_ix _ _ _ _)) e50 (pc := 161) (Ls := #[.val (.int x0), .val (.int x1), .val (.int x2), .val (.int x3), .val (.int x4), .val (.int x5), .val (.int (((x1 &&& (3 : Int32)) % (3 : Int32)) + (1 : Int32))), .val (.int ((((own_ushr x1 (2 : Int32)) &&& (3 : Int32)) % (3 : Int32)) + (1 : Int32))), .val (.ref b1), .val (.ref b5), .val (.int (own_j0_67_s0 x3 x5)), .val (.int (own_j0_86_s0 x4 x5)), .val (.int (own_j0_105_l12 x1 x2 x3 x4 x5))]) (rest := []) (by rw [hml]; rfl) own_k211 rfl 0 (Nat.le_of_eq rfl) (by decide) (by decide) (by decide) (by decide) (hb hby at_161)
        refine Go.via (U' := T53.setTop (mkF m 164 #[.val (.int x0), .val (.int x1), .val (.int x2), .val (.int x3), .val (.int x4), .val (.int x5), .val (.int (((x1 &&& (3 : Int32)) % (3 : Int32)) + (1 : Int32))), .val (.int ((((own_ushr x1 (2 : Int32)) &&& (3 : Int32)) % (3 : Int32)) + (1 : Int32))), .val (.ref b1), .val (.ref b5), .val (.int (own_j0_67_s0 x3 x5)), .val (.int (own_j0_86_s0 x4 x5)), .val (.int (own_j0_105_l12 x1 x2 x3 x4 x5))] [(.int (own_f5 (own_j0_67_s0 x3 x5) (own_j0_86_s0 x4 x5) (((x1 &&& (3 : Int32)) % (3 : Int32)) + (1 : Int32)) ((((own_ushr x1 (2 : Int32)) &&& (3 : Int32)) % (3 : Int32)) + (1 : Int32)) (own_w0_17 x1 x2)))])) (fun tG kG => st53 tG kG) ?_
        refine Go.via (U' := T53.setTop (mkF m 166 #[.val (.int x0), .val (.int x1), .val (.int x2), .val (.int x3), .val (.int x4), .val (.int x5), .val (.int (((x1 &&& (3 : Int32)) % (3 : Int32)) + (1 : Int32))), .val (.int ((((own_ushr x1 (2 : Int32)) &&& (3 : Int32)) % (3 : Int32)) + (1 : Int32))), .val (.ref b1), .val (.ref b5), .val (.int (own_j0_67_s0 x3 x5)), .val (.int (own_j0_86_s0 x4 x5)), .val (.int (own_j0_105_l12 x1 x2 x3 x4 x5))] [(.int (own_j0_105_l12 x1 x2 x3 x4 x5)), (.int (own_f5 (own_j0_67_s0 x3 x5) (own_j0_86_s0 x4 x5) (((x1 &&& (3 : Int32)) % (3 : Int32)) + (1 : Int32)) ((((own_ushr x1 (2 : Int32)) &&& (3 : Int32)) % (3 : Int32)) + (1 : Int32)) (own_w0_17 x1 x2)))])) (fun tG kG => XS.iload X53.here hx rfl (hb hby at_164) rfl kG) ?_
        by_cases hc166 : (own_f5 (own_j0_67_s0 x3 x5) (own_j0_86_s0 x4 x5) (((x1 &&& (3 : Int32)) % (3 : Int32)) + (1 : Int32)) ((((own_ushr x1 (2 : Int32)) &&& (3 : Int32)) % (3 : Int32)) + (1 : Int32)) (own_w0_17 x1 x2)) = (own_j0_105_l12 x1 x2 x3 x4 x5)
        · refine Go.via (U' := T53.setTop (mkF m 169 #[.val (.int x0), .val (.int x1), .val (.int x2), .val (.int x3), .val (.int x4), .val (.int x5), .val (.int (((x1 &&& (3 : Int32)) % (3 : Int32)) + (1 : Int32))), .val (.int ((((own_ushr x1 (2 : Int32)) &&& (3 : Int32)) % (3 : Int32)) + (1 : Int32))), .val (.ref b1), .val (.ref b5), .val (.int (own_j0_67_s0 x3 x5)), .val (.int (own_j0_86_s0 x4 x5)), .val (.int (own_j0_105_l12 x1 x2 x3 x4 x5))] [])) (fun tG kG => XS.icmpNo X53.here hx rfl (hb hby at_166) rfl (teq hc166).2 kG) ?_
          refine Go.via (U' := T53.setTop (mkF m 170 #[.val (.int x0), .val (.int x1), .val (.int x2), .val (.int x3), .val (.int x4), .val (.int x5), .val (.int (((x1 &&& (3 : Int32)) % (3 : Int32)) + (1 : Int32))), .val (.int ((((own_ushr x1 (2 : Int32)) &&& (3 : Int32)) % (3 : Int32)) + (1 : Int32))), .val (.ref b1), .val (.ref b5), .val (.int (own_j0_67_s0 x3 x5)), .val (.int (own_j0_86_s0 x4 x5)), .val (.int (own_j0_105_l12 x1 x2 x3 x4 x5))] [(.int (1 : Int32))])) (fun tG kG => XS.iconst X53.here hx rfl (hb hby at_169) kG) ?_
          refine Go.via (U' := T53.setTop (mkF m 174 #[.val (.int x0), .val (.int x1), .val (.int x2), .val (.int x3), .val (.int x4), .val (.int x5), .val (.int (((x1 &&& (3 : Int32)) % (3 : Int32)) + (1 : Int32))), .val (.int ((((own_ushr x1 (2 : Int32)) &&& (3 : Int32)) % (3 : Int32)) + (1 : Int32))), .val (.ref b1), .val (.ref b5), .val (.int (own_j0_67_s0 x3 x5)), .val (.int (own_j0_86_s0 x4 x5)), .val (.int (own_j0_105_l12 x1 x2 x3 x4 x5))] [(.int (1 : Int32))])) (fun tG kG => XS.goto X53.here hx rfl (pc0 := 170) (pc' := 174) rfl (hb hby at_170) (by decide) (by decide) kG) ?_
          exact go_retN X53 hx hlk (t := .boolean) hret (by simp) (hb hby at_174) e53 ⟨(congrArg (fun z => some (Value.int z)) (show nar .boolean (1 : Int32) = (own_f0 x0 x1 x2 x3 x4 x5) from by unfold own_f0; simp only [if_pos hc166] <;> rfl)), N52⟩ (by decide) (by decide)
        · refine Go.via (U' := T53.setTop (mkF m 173 #[.val (.int x0), .val (.int x1), .val (.int x2), .val (.int x3), .val (.int x4), .val (.int x5), .val (.int (((x1 &&& (3 : Int32)) % (3 : Int32)) + (1 : Int32))), .val (.int ((((own_ushr x1 (2 : Int32)) &&& (3 : Int32)) % (3 : Int32)) + (1 : Int32))), .val (.ref b1), .val (.ref b5), .val (.int (own_j0_67_s0 x3 x5)), .val (.int (own_j0_86_s0 x4 x5)), .val (.int (own_j0_105_l12 x1 x2 x3 x4 x5))] [])) (fun tG kG => XS.icmpYes X53.here hx rfl (pc0 := 166) (pc' := 173) rfl (hb hby at_166) rfl (feq hc166).2 (by decide) (by decide) kG) ?_
          refine Go.via (U' := T53.setTop (mkF m 174 #[.val (.int x0), .val (.int x1), .val (.int x2), .val (.int x3), .val (.int x4), .val (.int x5), .val (.int (((x1 &&& (3 : Int32)) % (3 : Int32)) + (1 : Int32))), .val (.int ((((own_ushr x1 (2 : Int32)) &&& (3 : Int32)) % (3 : Int32)) + (1 : Int32))), .val (.ref b1), .val (.ref b5), .val (.int (own_j0_67_s0 x3 x5)), .val (.int (own_j0_86_s0 x4 x5)), .val (.int (own_j0_105_l12 x1 x2 x3 x4 x5))] [(.int (0 : Int32))])) (fun tG kG => XS.iconst X53.here hx rfl (hb hby at_173) kG) ?_
          exact go_retN X53 hx hlk (t := .boolean) hret (by simp) (hb hby at_174) e53 ⟨(congrArg (fun z => some (Value.int z)) (show nar .boolean (0 : Int32) = (own_f0 x0 x1 x2 x3 x4 x5) from by unfold own_f0; simp only [if_neg hc166] <;> rfl)), N52⟩ (by decide) (by decide)
      by_cases hc105 : (own_j0_67_s0 x3 x5) < (0 : Int32)
      · refine Go.via (U' := T42.setTop (mkF m 127 #[.val (.int x0), .val (.int x1), .val (.int x2), .val (.int x3), .val (.int x4), .val (.int x5), .val (.int (((x1 &&& (3 : Int32)) % (3 : Int32)) + (1 : Int32))), .val (.int ((((own_ushr x1 (2 : Int32)) &&& (3 : Int32)) % (3 : Int32)) + (1 : Int32))), .val (.ref b1), .val (.ref b5), .val (.int (own_j0_67_s0 x3 x5)), .val (.int (own_j0_86_s0 x4 x5)), .unset] [])) (fun tG kG => XS.ifYes X43.here hx rfl (pc0 := 105) (pc' := 127) rfl (hb hby at_105) rfl ((if0 _ _).trans (tlt hc105).1) (by decide) (by decide) kG) ?_
        refine Go.via (U' := T42.setTop (mkF m 128 #[.val (.int x0), .val (.int x1), .val (.int x2), .val (.int x3), .val (.int x4), .val (.int x5), .val (.int (((x1 &&& (3 : Int32)) % (3 : Int32)) + (1 : Int32))), .val (.int ((((own_ushr x1 (2 : Int32)) &&& (3 : Int32)) % (3 : Int32)) + (1 : Int32))), .val (.ref b1), .val (.ref b5), .val (.int (own_j0_67_s0 x3 x5)), .val (.int (own_j0_86_s0 x4 x5)), .unset] [(.int (0 : Int32))])) (fun tG kG => XS.iconst X43.here hx rfl (hb hby at_127) kG) ?_
        refine Go.via (U' := T42.setTop (mkF m 130 #[.val (.int x0), .val (.int x1), .val (.int x2), .val (.int x3), .val (.int x4), .val (.int x5), .val (.int (((x1 &&& (3 : Int32)) % (3 : Int32)) + (1 : Int32))), .val (.int ((((own_ushr x1 (2 : Int32)) &&& (3 : Int32)) % (3 : Int32)) + (1 : Int32))), .val (.ref b1), .val (.ref b5), .val (.int (own_j0_67_s0 x3 x5)), .val (.int (own_j0_86_s0 x4 x5)), .val (.int (0 : Int32))] [])) (fun tG kG => XS.istore X43.here hx rfl (hb hby at_128) rfl (l' := #[.val (.int x0), .val (.int x1), .val (.int x2), .val (.int x3), .val (.int x4), .val (.int x5), .val (.int (((x1 &&& (3 : Int32)) % (3 : Int32)) + (1 : Int32))), .val (.int ((((own_ushr x1 (2 : Int32)) &&& (3 : Int32)) % (3 : Int32)) + (1 : Int32))), .val (.ref b1), .val (.ref b5), .val (.int (own_j0_67_s0 x3 x5)), .val (.int (own_j0_86_s0 x4 x5)), .val (.int (0 : Int32))]) rfl kG) ?_
        refine Go.via (U' := T42.setTop (mkF m 155 #[.val (.int x0), .val (.int x1), .val (.int x2), .val (.int x3), .val (.int x4), .val (.int x5), .val (.int (((x1 &&& (3 : Int32)) % (3 : Int32)) + (1 : Int32))), .val (.int ((((own_ushr x1 (2 : Int32)) &&& (3 : Int32)) % (3 : Int32)) + (1 : Int32))), .val (.ref b1), .val (.ref b5), .val (.int (own_j0_67_s0 x3 x5)), .val (.int (own_j0_86_s0 x4 x5)), .val (.int (0 : Int32))] [])) (fun tG kG => XS.goto X43.here hx rfl (pc0 := 130) (pc' := 155) rfl (hb hby at_130) (by decide) (by decide) kG) ?_
        have q_own_j0_105_l12 : (own_j0_105_l12 x1 x2 x3 x4 x5) = (0 : Int32) := by unfold own_j0_105_l12; simp only [if_pos hc105]
        have q_J := J47 T42 _ X43 e44 N46
        rw [q_own_j0_105_l12] at q_J
        exact q_J
      · refine Go.via (U' := T42.setTop (mkF m 108 #[.val (.int x0), .val (.int x1), .val (.int x2), .val (.int x3), .val (.int x4), .val (.int x5), .val (.int (((x1 &&& (3 : Int32)) % (3 : Int32)) + (1 : Int32))), .val (.int ((((own_ushr x1 (2 : Int32)) &&& (3 : Int32)) % (3 : Int32)) + (1 : Int32))), .val (.ref b1), .val (.ref b5), .val (.int (own_j0_67_s0 x3 x5)), .val (.int (own_j0_86_s0 x4 x5)), .unset] [])) (fun tG kG => XS.ifNo X43.here hx rfl (hb hby at_105) rfl ((if0 _ _).trans (flt hc105).1) kG) ?_
        refine Go.via (U' := T42.setTop (mkF m 110 #[.val (.int x0), .val (.int x1), .val (.int x2), .val (.int x3), .val (.int x4), .val (.int x5), .val (.int (((x1 &&& (3 : Int32)) % (3 : Int32)) + (1 : Int32))), .val (.int ((((own_ushr x1 (2 : Int32)) &&& (3 : Int32)) % (3 : Int32)) + (1 : Int32))), .val (.ref b1), .val (.ref b5), .val (.int (own_j0_67_s0 x3 x5)), .val (.int (own_j0_86_s0 x4 x5)), .unset] [(.int (own_j0_86_s0 x4 x5))])) (fun tG kG => XS.iload X43.here hx rfl (hb hby at_108) rfl kG) ?_
        by_cases hc110 : (own_j0_86_s0 x4 x5) < (0 : Int32)
        · refine Go.via (U' := T42.setTop (mkF m 127 #[.val (.int x0), .val (.int x1), .val (.int x2), .val (.int x3), .val (.int x4), .val (.int x5), .val (.int (((x1 &&& (3 : Int32)) % (3 : Int32)) + (1 : Int32))), .val (.int ((((own_ushr x1 (2 : Int32)) &&& (3 : Int32)) % (3 : Int32)) + (1 : Int32))), .val (.ref b1), .val (.ref b5), .val (.int (own_j0_67_s0 x3 x5)), .val (.int (own_j0_86_s0 x4 x5)), .unset] [])) (fun tG kG => XS.ifYes X43.here hx rfl (pc0 := 110) (pc' := 127) rfl (hb hby at_110) rfl ((if0 _ _).trans (tlt hc110).1) (by decide) (by decide) kG) ?_
          refine Go.via (U' := T42.setTop (mkF m 128 #[.val (.int x0), .val (.int x1), .val (.int x2), .val (.int x3), .val (.int x4), .val (.int x5), .val (.int (((x1 &&& (3 : Int32)) % (3 : Int32)) + (1 : Int32))), .val (.int ((((own_ushr x1 (2 : Int32)) &&& (3 : Int32)) % (3 : Int32)) + (1 : Int32))), .val (.ref b1), .val (.ref b5), .val (.int (own_j0_67_s0 x3 x5)), .val (.int (own_j0_86_s0 x4 x5)), .unset] [(.int (0 : Int32))])) (fun tG kG => XS.iconst X43.here hx rfl (hb hby at_127) kG) ?_
          refine Go.via (U' := T42.setTop (mkF m 130 #[.val (.int x0), .val (.int x1), .val (.int x2), .val (.int x3), .val (.int x4), .val (.int x5), .val (.int (((x1 &&& (3 : Int32)) % (3 : Int32)) + (1 : Int32))), .val (.int ((((own_ushr x1 (2 : Int32)) &&& (3 : Int32)) % (3 : Int32)) + (1 : Int32))), .val (.ref b1), .val (.ref b5), .val (.int (own_j0_67_s0 x3 x5)), .val (.int (own_j0_86_s0 x4 x5)), .val (.int (0 : Int32))] [])) (fun tG kG => XS.istore X43.here hx rfl (hb hby at_128) rfl (l' := #[.val (.int x0), .val (.int x1), .val (.int x2), .val (.int x3), .val (.int x4), .val (.int x5), .val (.int (((x1 &&& (3 : Int32)) % (3 : Int32)) + (1 : Int32))), .val (.int ((((own_ushr x1 (2 : Int32)) &&& (3 : Int32)) % (3 : Int32)) + (1 : Int32))), .val (.ref b1), .val (.ref b5), .val (.int (own_j0_67_s0 x3 x5)), .val (.int (own_j0_86_s0 x4 x5)), .val (.int (0 : Int32))]) rfl kG) ?_
          refine Go.via (U' := T42.setTop (mkF m 155 #[.val (.int x0), .val (.int x1), .val (.int x2), .val (.int x3), .val (.int x4), .val (.int x5), .val (.int (((x1 &&& (3 : Int32)) % (3 : Int32)) + (1 : Int32))), .val (.int ((((own_ushr x1 (2 : Int32)) &&& (3 : Int32)) % (3 : Int32)) + (1 : Int32))), .val (.ref b1), .val (.ref b5), .val (.int (own_j0_67_s0 x3 x5)), .val (.int (own_j0_86_s0 x4 x5)), .val (.int (0 : Int32))] [])) (fun tG kG => XS.goto X43.here hx rfl (pc0 := 130) (pc' := 155) rfl (hb hby at_130) (by decide) (by decide) kG) ?_
          have q_own_j0_105_l12 : (own_j0_105_l12 x1 x2 x3 x4 x5) = (0 : Int32) := by unfold own_j0_105_l12; simp only [if_neg hc105, if_pos hc110]
          have q_J := J47 T42 _ X43 e44 N46
          rw [q_own_j0_105_l12] at q_J
          exact q_J
        · refine Go.via (U' := T42.setTop (mkF m 113 #[.val (.int x0), .val (.int x1), .val (.int x2), .val (.int x3), .val (.int x4), .val (.int x5), .val (.int (((x1 &&& (3 : Int32)) % (3 : Int32)) + (1 : Int32))), .val (.int ((((own_ushr x1 (2 : Int32)) &&& (3 : Int32)) % (3 : Int32)) + (1 : Int32))), .val (.ref b1), .val (.ref b5), .val (.int (own_j0_67_s0 x3 x5)), .val (.int (own_j0_86_s0 x4 x5)), .unset] [])) (fun tG kG => XS.ifNo X43.here hx rfl (hb hby at_110) rfl ((if0 _ _).trans (flt hc110).1) kG) ?_
          refine Go.via (U' := T42.setTop (mkF m 115 #[.val (.int x0), .val (.int x1), .val (.int x2), .val (.int x3), .val (.int x4), .val (.int x5), .val (.int (((x1 &&& (3 : Int32)) % (3 : Int32)) + (1 : Int32))), .val (.int ((((own_ushr x1 (2 : Int32)) &&& (3 : Int32)) % (3 : Int32)) + (1 : Int32))), .val (.ref b1), .val (.ref b5), .val (.int (own_j0_67_s0 x3 x5)), .val (.int (own_j0_86_s0 x4 x5)), .unset] [(.int (own_j0_67_s0 x3 x5))])) (fun tG kG => XS.iload X43.here hx rfl (hb hby at_113) rfl kG) ?_
          refine Go.via (U' := T42.setTop (mkF m 117 #[.val (.int x0), .val (.int x1), .val (.int x2), .val (.int x3), .val (.int x4), .val (.int x5), .val (.int (((x1 &&& (3 : Int32)) % (3 : Int32)) + (1 : Int32))), .val (.int ((((own_ushr x1 (2 : Int32)) &&& (3 : Int32)) % (3 : Int32)) + (1 : Int32))), .val (.ref b1), .val (.ref b5), .val (.int (own_j0_67_s0 x3 x5)), .val (.int (own_j0_86_s0 x4 x5)), .unset] [(.int (((x1 &&& (3 : Int32)) % (3 : Int32)) + (1 : Int32))), (.int (own_j0_67_s0 x3 x5))])) (fun tG kG => XS.iload X43.here hx rfl (hb hby at_115) rfl kG) ?_
          by_cases hc117 : (own_j0_67_s0 x3 x5) < (((x1 &&& (3 : Int32)) % (3 : Int32)) + (1 : Int32))
          · refine Go.via (U' := T42.setTop (mkF m 120 #[.val (.int x0), .val (.int x1), .val (.int x2), .val (.int x3), .val (.int x4), .val (.int x5), .val (.int (((x1 &&& (3 : Int32)) % (3 : Int32)) + (1 : Int32))), .val (.int ((((own_ushr x1 (2 : Int32)) &&& (3 : Int32)) % (3 : Int32)) + (1 : Int32))), .val (.ref b1), .val (.ref b5), .val (.int (own_j0_67_s0 x3 x5)), .val (.int (own_j0_86_s0 x4 x5)), .unset] [])) (fun tG kG => XS.icmpNo X43.here hx rfl (hb hby at_117) rfl (tlt hc117).2.1 kG) ?_
            refine Go.via (U' := T42.setTop (mkF m 122 #[.val (.int x0), .val (.int x1), .val (.int x2), .val (.int x3), .val (.int x4), .val (.int x5), .val (.int (((x1 &&& (3 : Int32)) % (3 : Int32)) + (1 : Int32))), .val (.int ((((own_ushr x1 (2 : Int32)) &&& (3 : Int32)) % (3 : Int32)) + (1 : Int32))), .val (.ref b1), .val (.ref b5), .val (.int (own_j0_67_s0 x3 x5)), .val (.int (own_j0_86_s0 x4 x5)), .unset] [(.int (own_j0_86_s0 x4 x5))])) (fun tG kG => XS.iload X43.here hx rfl (hb hby at_120) rfl kG) ?_
            refine Go.via (U' := T42.setTop (mkF m 124 #[.val (.int x0), .val (.int x1), .val (.int x2), .val (.int x3), .val (.int x4), .val (.int x5), .val (.int (((x1 &&& (3 : Int32)) % (3 : Int32)) + (1 : Int32))), .val (.int ((((own_ushr x1 (2 : Int32)) &&& (3 : Int32)) % (3 : Int32)) + (1 : Int32))), .val (.ref b1), .val (.ref b5), .val (.int (own_j0_67_s0 x3 x5)), .val (.int (own_j0_86_s0 x4 x5)), .unset] [(.int ((((own_ushr x1 (2 : Int32)) &&& (3 : Int32)) % (3 : Int32)) + (1 : Int32))), (.int (own_j0_86_s0 x4 x5))])) (fun tG kG => XS.iload X43.here hx rfl (hb hby at_122) rfl kG) ?_
            by_cases hc124 : (own_j0_86_s0 x4 x5) < ((((own_ushr x1 (2 : Int32)) &&& (3 : Int32)) % (3 : Int32)) + (1 : Int32))
            · refine Go.via (U' := T42.setTop (mkF m 133 #[.val (.int x0), .val (.int x1), .val (.int x2), .val (.int x3), .val (.int x4), .val (.int x5), .val (.int (((x1 &&& (3 : Int32)) % (3 : Int32)) + (1 : Int32))), .val (.int ((((own_ushr x1 (2 : Int32)) &&& (3 : Int32)) % (3 : Int32)) + (1 : Int32))), .val (.ref b1), .val (.ref b5), .val (.int (own_j0_67_s0 x3 x5)), .val (.int (own_j0_86_s0 x4 x5)), .unset] [])) (fun tG kG => XS.icmpYes X43.here hx rfl (pc0 := 124) (pc' := 133) rfl (hb hby at_124) rfl (tlt hc124).1 (by decide) (by decide) kG) ?_
              refine Go.via (U' := T42.setTop (mkF m 134 #[.val (.int x0), .val (.int x1), .val (.int x2), .val (.int x3), .val (.int x4), .val (.int x5), .val (.int (((x1 &&& (3 : Int32)) % (3 : Int32)) + (1 : Int32))), .val (.int ((((own_ushr x1 (2 : Int32)) &&& (3 : Int32)) % (3 : Int32)) + (1 : Int32))), .val (.ref b1), .val (.ref b5), .val (.int (own_j0_67_s0 x3 x5)), .val (.int (own_j0_86_s0 x4 x5)), .unset] [(.int x2)])) (fun tG kG => XS.iloadN X43.here hx rfl (hb hby at_133) rfl kG) ?_
              refine Go.via (U' := T42.setTop (mkF m 136 #[.val (.int x0), .val (.int x1), .val (.int x2), .val (.int x3), .val (.int x4), .val (.int x5), .val (.int (((x1 &&& (3 : Int32)) % (3 : Int32)) + (1 : Int32))), .val (.int ((((own_ushr x1 (2 : Int32)) &&& (3 : Int32)) % (3 : Int32)) + (1 : Int32))), .val (.ref b1), .val (.ref b5), .val (.int (own_j0_67_s0 x3 x5)), .val (.int (own_j0_86_s0 x4 x5)), .unset] [(.int (own_j0_86_s0 x4 x5)), (.int x2)])) (fun tG kG => XS.iload X43.here hx rfl (hb hby at_134) rfl kG) ?_
              refine Go.via (U' := T42.setTop (mkF m 138 #[.val (.int x0), .val (.int x1), .val (.int x2), .val (.int x3), .val (.int x4), .val (.int x5), .val (.int (((x1 &&& (3 : Int32)) % (3 : Int32)) + (1 : Int32))), .val (.int ((((own_ushr x1 (2 : Int32)) &&& (3 : Int32)) % (3 : Int32)) + (1 : Int32))), .val (.ref b1), .val (.ref b5), .val (.int (own_j0_67_s0 x3 x5)), .val (.int (own_j0_86_s0 x4 x5)), .unset] [(.int (((x1 &&& (3 : Int32)) % (3 : Int32)) + (1 : Int32))), (.int (own_j0_86_s0 x4 x5)), (.int x2)])) (fun tG kG => XS.iload X43.here hx rfl (hb hby at_136) rfl kG) ?_
              refine Go.via (U' := T42.setTop (mkF m 139 #[.val (.int x0), .val (.int x1), .val (.int x2), .val (.int x3), .val (.int x4), .val (.int x5), .val (.int (((x1 &&& (3 : Int32)) % (3 : Int32)) + (1 : Int32))), .val (.int ((((own_ushr x1 (2 : Int32)) &&& (3 : Int32)) % (3 : Int32)) + (1 : Int32))), .val (.ref b1), .val (.ref b5), .val (.int (own_j0_67_s0 x3 x5)), .val (.int (own_j0_86_s0 x4 x5)), .unset] [(.int ((own_j0_86_s0 x4 x5) * (((x1 &&& (3 : Int32)) % (3 : Int32)) + (1 : Int32)))), (.int x2)])) (fun tG kG => XS.imul X43.here hx rfl (hb hby at_138) rfl kG) ?_
              refine Go.via (U' := T42.setTop (mkF m 141 #[.val (.int x0), .val (.int x1), .val (.int x2), .val (.int x3), .val (.int x4), .val (.int x5), .val (.int (((x1 &&& (3 : Int32)) % (3 : Int32)) + (1 : Int32))), .val (.int ((((own_ushr x1 (2 : Int32)) &&& (3 : Int32)) % (3 : Int32)) + (1 : Int32))), .val (.ref b1), .val (.ref b5), .val (.int (own_j0_67_s0 x3 x5)), .val (.int (own_j0_86_s0 x4 x5)), .unset] [(.int (own_j0_67_s0 x3 x5)), (.int ((own_j0_86_s0 x4 x5) * (((x1 &&& (3 : Int32)) % (3 : Int32)) + (1 : Int32)))), (.int x2)])) (fun tG kG => XS.iload X43.here hx rfl (hb hby at_139) rfl kG) ?_
              refine Go.via (U' := T42.setTop (mkF m 142 #[.val (.int x0), .val (.int x1), .val (.int x2), .val (.int x3), .val (.int x4), .val (.int x5), .val (.int (((x1 &&& (3 : Int32)) % (3 : Int32)) + (1 : Int32))), .val (.int ((((own_ushr x1 (2 : Int32)) &&& (3 : Int32)) % (3 : Int32)) + (1 : Int32))), .val (.ref b1), .val (.ref b5), .val (.int (own_j0_67_s0 x3 x5)), .val (.int (own_j0_86_s0 x4 x5)), .unset] [(.int (((own_j0_86_s0 x4 x5) * (((x1 &&& (3 : Int32)) % (3 : Int32)) + (1 : Int32))) + (own_j0_67_s0 x3 x5))), (.int x2)])) (fun tG kG => XS.iadd X43.here hx rfl (hb hby at_141) rfl kG) ?_
              refine Go.via (U' := T42.setTop (mkF m 143 #[.val (.int x0), .val (.int x1), .val (.int x2), .val (.int x3), .val (.int x4), .val (.int x5), .val (.int (((x1 &&& (3 : Int32)) % (3 : Int32)) + (1 : Int32))), .val (.int ((((own_ushr x1 (2 : Int32)) &&& (3 : Int32)) % (3 : Int32)) + (1 : Int32))), .val (.ref b1), .val (.ref b5), .val (.int (own_j0_67_s0 x3 x5)), .val (.int (own_j0_86_s0 x4 x5)), .unset] [(.int (own_ushr x2 (((own_j0_86_s0 x4 x5) * (((x1 &&& (3 : Int32)) % (3 : Int32)) + (1 : Int32))) + (own_j0_67_s0 x3 x5))))])) (fun tG kG => XS.iushr X43.here hx rfl (hb hby at_142) rfl kG) ?_
              refine Go.via (U' := T42.setTop (mkF m 144 #[.val (.int x0), .val (.int x1), .val (.int x2), .val (.int x3), .val (.int x4), .val (.int x5), .val (.int (((x1 &&& (3 : Int32)) % (3 : Int32)) + (1 : Int32))), .val (.int ((((own_ushr x1 (2 : Int32)) &&& (3 : Int32)) % (3 : Int32)) + (1 : Int32))), .val (.ref b1), .val (.ref b5), .val (.int (own_j0_67_s0 x3 x5)), .val (.int (own_j0_86_s0 x4 x5)), .unset] [(.int (1 : Int32)), (.int (own_ushr x2 (((own_j0_86_s0 x4 x5) * (((x1 &&& (3 : Int32)) % (3 : Int32)) + (1 : Int32))) + (own_j0_67_s0 x3 x5))))])) (fun tG kG => XS.iconst X43.here hx rfl (hb hby at_143) kG) ?_
              refine Go.via (U' := T42.setTop (mkF m 145 #[.val (.int x0), .val (.int x1), .val (.int x2), .val (.int x3), .val (.int x4), .val (.int x5), .val (.int (((x1 &&& (3 : Int32)) % (3 : Int32)) + (1 : Int32))), .val (.int ((((own_ushr x1 (2 : Int32)) &&& (3 : Int32)) % (3 : Int32)) + (1 : Int32))), .val (.ref b1), .val (.ref b5), .val (.int (own_j0_67_s0 x3 x5)), .val (.int (own_j0_86_s0 x4 x5)), .unset] [(.int ((own_ushr x2 (((own_j0_86_s0 x4 x5) * (((x1 &&& (3 : Int32)) % (3 : Int32)) + (1 : Int32))) + (own_j0_67_s0 x3 x5))) &&& (1 : Int32)))])) (fun tG kG => XS.iand X43.here hx rfl (hb hby at_144) rfl kG) ?_
              have J54 : ∀ T' L', Stand p l e room_1 s m #[(.int x0), (.int x1), (.int x2), (.int x3), (.int x4), (.int x5)] below meth c T' L' 3 22 → T'.heap = T25.heap → Fr n0 L' → Go p e below s room_1.cells room_1.slots (fun v h L => v = some (.int (own_f0 x0 x1 x2 x3 x4 x5)) ∧ Fr n0 L) (T'.setTop (mkF m 153 #[.val (.int x0), .val (.int x1), .val (.int x2), .val (.int x3), .val (.int x4), .val (.int x5), .val (.int (((x1 &&& (3 : Int32)) % (3 : Int32)) + (1 : Int32))), .val (.int ((((own_ushr x1 (2 : Int32)) &&& (3 : Int32)) % (3 : Int32)) + (1 : Int32))), .val (.ref b1), .val (.ref b5), .val (.int (own_j0_67_s0 x3 x5)), .val (.int (own_j0_86_s0 x4 x5)), .unset] [(.int (own_j0_145_s0 x1 x2 x3 x4 x5))])) := by
                intro T55 L58 X56 e57 N59
                refine Go.via (U' := T55.setTop (mkF m 155 #[.val (.int x0), .val (.int x1), .val (.int x2), .val (.int x3), .val (.int x4), .val (.int x5), .val (.int (((x1 &&& (3 : Int32)) % (3 : Int32)) + (1 : Int32))), .val (.int ((((own_ushr x1 (2 : Int32)) &&& (3 : Int32)) % (3 : Int32)) + (1 : Int32))), .val (.ref b1), .val (.ref b5), .val (.int (own_j0_67_s0 x3 x5)), .val (.int (own_j0_86_s0 x4 x5)), .val (.int (own_j0_145_s0 x1 x2 x3 x4 x5))] [])) (fun tG kG => XS.istore X56.here hx rfl (hb hby at_153) rfl (l' := #[.val (.int x0), .val (.int x1), .val (.int x2), .val (.int x3), .val (.int x4), .val (.int x5), .val (.int (((x1 &&& (3 : Int32)) % (3 : Int32)) + (1 : Int32))), .val (.int ((((own_ushr x1 (2 : Int32)) &&& (3 : Int32)) % (3 : Int32)) + (1 : Int32))), .val (.ref b1), .val (.ref b5), .val (.int (own_j0_67_s0 x3 x5)), .val (.int (own_j0_86_s0 x4 x5)), .val (.int (own_j0_145_s0 x1 x2 x3 x4 x5))]) rfl kG) ?_
                have q_own_j0_105_l12 : (own_j0_105_l12 x1 x2 x3 x4 x5) = (own_j0_145_s0 x1 x2 x3 x4 x5) := by unfold own_j0_105_l12; simp only [if_neg hc105, if_neg hc110, if_pos hc117, if_pos hc124]
                have q_J := J47 T55 _ X56 e57 N59
                rw [q_own_j0_105_l12] at q_J
                exact q_J
              by_cases hc145 : ((own_ushr x2 (((own_j0_86_s0 x4 x5) * (((x1 &&& (3 : Int32)) % (3 : Int32)) + (1 : Int32))) + (own_j0_67_s0 x3 x5))) &&& (1 : Int32)) = (0 : Int32)
              · refine Go.via (U' := T42.setTop (mkF m 152 #[.val (.int x0), .val (.int x1), .val (.int x2), .val (.int x3), .val (.int x4), .val (.int x5), .val (.int (((x1 &&& (3 : Int32)) % (3 : Int32)) + (1 : Int32))), .val (.int ((((own_ushr x1 (2 : Int32)) &&& (3 : Int32)) % (3 : Int32)) + (1 : Int32))), .val (.ref b1), .val (.ref b5), .val (.int (own_j0_67_s0 x3 x5)), .val (.int (own_j0_86_s0 x4 x5)), .unset] [])) (fun tG kG => XS.ifYes X43.here hx rfl (pc0 := 145) (pc' := 152) rfl (hb hby at_145) rfl ((if0 _ _).trans (teq hc145).1) (by decide) (by decide) kG) ?_
                refine Go.via (U' := T42.setTop (mkF m 153 #[.val (.int x0), .val (.int x1), .val (.int x2), .val (.int x3), .val (.int x4), .val (.int x5), .val (.int (((x1 &&& (3 : Int32)) % (3 : Int32)) + (1 : Int32))), .val (.int ((((own_ushr x1 (2 : Int32)) &&& (3 : Int32)) % (3 : Int32)) + (1 : Int32))), .val (.ref b1), .val (.ref b5), .val (.int (own_j0_67_s0 x3 x5)), .val (.int (own_j0_86_s0 x4 x5)), .unset] [(.int (0 : Int32))])) (fun tG kG => XS.iconst X43.here hx rfl (hb hby at_152) kG) ?_
                have q_own_j0_145_s0 : (own_j0_145_s0 x1 x2 x3 x4 x5) = (0 : Int32) := by unfold own_j0_145_s0; simp only [if_pos hc145]
                have q_J := J54 T42 _ X43 e44 N46
                rw [q_own_j0_145_s0] at q_J
                exact q_J
              · refine Go.via (U' := T42.setTop (mkF m 148 #[.val (.int x0), .val (.int x1), .val (.int x2), .val (.int x3), .val (.int x4), .val (.int x5), .val (.int (((x1 &&& (3 : Int32)) % (3 : Int32)) + (1 : Int32))), .val (.int ((((own_ushr x1 (2 : Int32)) &&& (3 : Int32)) % (3 : Int32)) + (1 : Int32))), .val (.ref b1), .val (.ref b5), .val (.int (own_j0_67_s0 x3 x5)), .val (.int (own_j0_86_s0 x4 x5)), .unset] [])) (fun tG kG => XS.ifNo X43.here hx rfl (hb hby at_145) rfl ((if0 _ _).trans (feq hc145).1) kG) ?_
                refine Go.via (U' := T42.setTop (mkF m 149 #[.val (.int x0), .val (.int x1), .val (.int x2), .val (.int x3), .val (.int x4), .val (.int x5), .val (.int (((x1 &&& (3 : Int32)) % (3 : Int32)) + (1 : Int32))), .val (.int ((((own_ushr x1 (2 : Int32)) &&& (3 : Int32)) % (3 : Int32)) + (1 : Int32))), .val (.ref b1), .val (.ref b5), .val (.int (own_j0_67_s0 x3 x5)), .val (.int (own_j0_86_s0 x4 x5)), .unset] [(.int (1 : Int32))])) (fun tG kG => XS.iconst X43.here hx rfl (hb hby at_148) kG) ?_
                refine Go.via (U' := T42.setTop (mkF m 153 #[.val (.int x0), .val (.int x1), .val (.int x2), .val (.int x3), .val (.int x4), .val (.int x5), .val (.int (((x1 &&& (3 : Int32)) % (3 : Int32)) + (1 : Int32))), .val (.int ((((own_ushr x1 (2 : Int32)) &&& (3 : Int32)) % (3 : Int32)) + (1 : Int32))), .val (.ref b1), .val (.ref b5), .val (.int (own_j0_67_s0 x3 x5)), .val (.int (own_j0_86_s0 x4 x5)), .unset] [(.int (1 : Int32))])) (fun tG kG => XS.goto X43.here hx rfl (pc0 := 149) (pc' := 153) rfl (hb hby at_149) (by decide) (by decide) kG) ?_
                have q_own_j0_145_s0 : (own_j0_145_s0 x1 x2 x3 x4 x5) = (1 : Int32) := by unfold own_j0_145_s0; simp only [if_neg hc145]
                have q_J := J54 T42 _ X43 e44 N46
                rw [q_own_j0_145_s0] at q_J
                exact q_J
            · refine Go.via (U' := T42.setTop (mkF m 127 #[.val (.int x0), .val (.int x1), .val (.int x2), .val (.int x3), .val (.int x4), .val (.int x5), .val (.int (((x1 &&& (3 : Int32)) % (3 : Int32)) + (1 : Int32))), .val (.int ((((own_ushr x1 (2 : Int32)) &&& (3 : Int32)) % (3 : Int32)) + (1 : Int32))), .val (.ref b1), .val (.ref b5), .val (.int (own_j0_67_s0 x3 x5)), .val (.int (own_j0_86_s0 x4 x5)), .unset] [])) (fun tG kG => XS.icmpNo X43.here hx rfl (hb hby at_124) rfl (flt hc124).1 kG) ?_
              refine Go.via (U' := T42.setTop (mkF m 128 #[.val (.int x0), .val (.int x1), .val (.int x2), .val (.int x3), .val (.int x4), .val (.int x5), .val (.int (((x1 &&& (3 : Int32)) % (3 : Int32)) + (1 : Int32))), .val (.int ((((own_ushr x1 (2 : Int32)) &&& (3 : Int32)) % (3 : Int32)) + (1 : Int32))), .val (.ref b1), .val (.ref b5), .val (.int (own_j0_67_s0 x3 x5)), .val (.int (own_j0_86_s0 x4 x5)), .unset] [(.int (0 : Int32))])) (fun tG kG => XS.iconst X43.here hx rfl (hb hby at_127) kG) ?_
              refine Go.via (U' := T42.setTop (mkF m 130 #[.val (.int x0), .val (.int x1), .val (.int x2), .val (.int x3), .val (.int x4), .val (.int x5), .val (.int (((x1 &&& (3 : Int32)) % (3 : Int32)) + (1 : Int32))), .val (.int ((((own_ushr x1 (2 : Int32)) &&& (3 : Int32)) % (3 : Int32)) + (1 : Int32))), .val (.ref b1), .val (.ref b5), .val (.int (own_j0_67_s0 x3 x5)), .val (.int (own_j0_86_s0 x4 x5)), .val (.int (0 : Int32))] [])) (fun tG kG => XS.istore X43.here hx rfl (hb hby at_128) rfl (l' := #[.val (.int x0), .val (.int x1), .val (.int x2), .val (.int x3), .val (.int x4), .val (.int x5), .val (.int (((x1 &&& (3 : Int32)) % (3 : Int32)) + (1 : Int32))), .val (.int ((((own_ushr x1 (2 : Int32)) &&& (3 : Int32)) % (3 : Int32)) + (1 : Int32))), .val (.ref b1), .val (.ref b5), .val (.int (own_j0_67_s0 x3 x5)), .val (.int (own_j0_86_s0 x4 x5)), .val (.int (0 : Int32))]) rfl kG) ?_
              refine Go.via (U' := T42.setTop (mkF m 155 #[.val (.int x0), .val (.int x1), .val (.int x2), .val (.int x3), .val (.int x4), .val (.int x5), .val (.int (((x1 &&& (3 : Int32)) % (3 : Int32)) + (1 : Int32))), .val (.int ((((own_ushr x1 (2 : Int32)) &&& (3 : Int32)) % (3 : Int32)) + (1 : Int32))), .val (.ref b1), .val (.ref b5), .val (.int (own_j0_67_s0 x3 x5)), .val (.int (own_j0_86_s0 x4 x5)), .val (.int (0 : Int32))] [])) (fun tG kG => XS.goto X43.here hx rfl (pc0 := 130) (pc' := 155) rfl (hb hby at_130) (by decide) (by decide) kG) ?_
              have q_own_j0_105_l12 : (own_j0_105_l12 x1 x2 x3 x4 x5) = (0 : Int32) := by unfold own_j0_105_l12; simp only [if_neg hc105, if_neg hc110, if_pos hc117, if_neg hc124]
              have q_J := J47 T42 _ X43 e44 N46
              rw [q_own_j0_105_l12] at q_J
              exact q_J
          · refine Go.via (U' := T42.setTop (mkF m 127 #[.val (.int x0), .val (.int x1), .val (.int x2), .val (.int x3), .val (.int x4), .val (.int x5), .val (.int (((x1 &&& (3 : Int32)) % (3 : Int32)) + (1 : Int32))), .val (.int ((((own_ushr x1 (2 : Int32)) &&& (3 : Int32)) % (3 : Int32)) + (1 : Int32))), .val (.ref b1), .val (.ref b5), .val (.int (own_j0_67_s0 x3 x5)), .val (.int (own_j0_86_s0 x4 x5)), .unset] [])) (fun tG kG => XS.icmpYes X43.here hx rfl (pc0 := 117) (pc' := 127) rfl (hb hby at_117) rfl (flt hc117).2.1 (by decide) (by decide) kG) ?_
            refine Go.via (U' := T42.setTop (mkF m 128 #[.val (.int x0), .val (.int x1), .val (.int x2), .val (.int x3), .val (.int x4), .val (.int x5), .val (.int (((x1 &&& (3 : Int32)) % (3 : Int32)) + (1 : Int32))), .val (.int ((((own_ushr x1 (2 : Int32)) &&& (3 : Int32)) % (3 : Int32)) + (1 : Int32))), .val (.ref b1), .val (.ref b5), .val (.int (own_j0_67_s0 x3 x5)), .val (.int (own_j0_86_s0 x4 x5)), .unset] [(.int (0 : Int32))])) (fun tG kG => XS.iconst X43.here hx rfl (hb hby at_127) kG) ?_
            refine Go.via (U' := T42.setTop (mkF m 130 #[.val (.int x0), .val (.int x1), .val (.int x2), .val (.int x3), .val (.int x4), .val (.int x5), .val (.int (((x1 &&& (3 : Int32)) % (3 : Int32)) + (1 : Int32))), .val (.int ((((own_ushr x1 (2 : Int32)) &&& (3 : Int32)) % (3 : Int32)) + (1 : Int32))), .val (.ref b1), .val (.ref b5), .val (.int (own_j0_67_s0 x3 x5)), .val (.int (own_j0_86_s0 x4 x5)), .val (.int (0 : Int32))] [])) (fun tG kG => XS.istore X43.here hx rfl (hb hby at_128) rfl (l' := #[.val (.int x0), .val (.int x1), .val (.int x2), .val (.int x3), .val (.int x4), .val (.int x5), .val (.int (((x1 &&& (3 : Int32)) % (3 : Int32)) + (1 : Int32))), .val (.int ((((own_ushr x1 (2 : Int32)) &&& (3 : Int32)) % (3 : Int32)) + (1 : Int32))), .val (.ref b1), .val (.ref b5), .val (.int (own_j0_67_s0 x3 x5)), .val (.int (own_j0_86_s0 x4 x5)), .val (.int (0 : Int32))]) rfl kG) ?_
            refine Go.via (U' := T42.setTop (mkF m 155 #[.val (.int x0), .val (.int x1), .val (.int x2), .val (.int x3), .val (.int x4), .val (.int x5), .val (.int (((x1 &&& (3 : Int32)) % (3 : Int32)) + (1 : Int32))), .val (.int ((((own_ushr x1 (2 : Int32)) &&& (3 : Int32)) % (3 : Int32)) + (1 : Int32))), .val (.ref b1), .val (.ref b5), .val (.int (own_j0_67_s0 x3 x5)), .val (.int (own_j0_86_s0 x4 x5)), .val (.int (0 : Int32))] [])) (fun tG kG => XS.goto X43.here hx rfl (pc0 := 130) (pc' := 155) rfl (hb hby at_130) (by decide) (by decide) kG) ?_
            have q_own_j0_105_l12 : (own_j0_105_l12 x1 x2 x3 x4 x5) = (0 : Int32) := by unfold own_j0_105_l12; simp only [if_neg hc105, if_neg hc110, if_neg hc117]
            have q_J := J47 T42 _ X43 e44 N46
            rw [q_own_j0_105_l12] at q_J
            exact q_J
    by_cases hc86 : (x5 &&& (2 : Int32)) = (0 : Int32)
    · refine Go.via (U' := T36.setTop (mkF m 94 #[.val (.int x0), .val (.int x1), .val (.int x2), .val (.int x3), .val (.int x4), .val (.int x5), .val (.int (((x1 &&& (3 : Int32)) % (3 : Int32)) + (1 : Int32))), .val (.int ((((own_ushr x1 (2 : Int32)) &&& (3 : Int32)) % (3 : Int32)) + (1 : Int32))), .val (.ref b1), .val (.ref b5), .val (.int (own_j0_67_s0 x3 x5)), .unset, .unset] [])) (fun tG kG => XS.ifYes X37.here hx rfl (pc0 := 86) (pc' := 94) rfl (hb hby at_86) rfl ((if0 _ _).trans (teq hc86).1) (by decide) (by decide) kG) ?_
      refine Go.via (U' := T36.setTop (mkF m 96 #[.val (.int x0), .val (.int x1), .val (.int x2), .val (.int x3), .val (.int x4), .val (.int x5), .val (.int (((x1 &&& (3 : Int32)) % (3 : Int32)) + (1 : Int32))), .val (.int ((((own_ushr x1 (2 : Int32)) &&& (3 : Int32)) % (3 : Int32)) + (1 : Int32))), .val (.ref b1), .val (.ref b5), .val (.int (own_j0_67_s0 x3 x5)), .unset, .unset] [(.int x4)])) (fun tG kG => XS.iload X37.here hx rfl (hb hby at_94) rfl kG) ?_
      refine Go.via (U' := T36.setTop (mkF m 98 #[.val (.int x0), .val (.int x1), .val (.int x2), .val (.int x3), .val (.int x4), .val (.int x5), .val (.int (((x1 &&& (3 : Int32)) % (3 : Int32)) + (1 : Int32))), .val (.int ((((own_ushr x1 (2 : Int32)) &&& (3 : Int32)) % (3 : Int32)) + (1 : Int32))), .val (.ref b1), .val (.ref b5), .val (.int (own_j0_67_s0 x3 x5)), .unset, .unset] [(.int (7 : Int32)), (.int x4)])) (fun tG kG => XS.bipush X37.here hx rfl (hb hby at_96) kG) ?_
      refine Go.via (U' := T36.setTop (mkF m 99 #[.val (.int x0), .val (.int x1), .val (.int x2), .val (.int x3), .val (.int x4), .val (.int x5), .val (.int (((x1 &&& (3 : Int32)) % (3 : Int32)) + (1 : Int32))), .val (.int ((((own_ushr x1 (2 : Int32)) &&& (3 : Int32)) % (3 : Int32)) + (1 : Int32))), .val (.ref b1), .val (.ref b5), .val (.int (own_j0_67_s0 x3 x5)), .unset, .unset] [(.int (x4 &&& (7 : Int32)))])) (fun tG kG => XS.iand X37.here hx rfl (hb hby at_98) rfl kG) ?_
      refine Go.via (U' := T36.setTop (mkF m 100 #[.val (.int x0), .val (.int x1), .val (.int x2), .val (.int x3), .val (.int x4), .val (.int x5), .val (.int (((x1 &&& (3 : Int32)) % (3 : Int32)) + (1 : Int32))), .val (.int ((((own_ushr x1 (2 : Int32)) &&& (3 : Int32)) % (3 : Int32)) + (1 : Int32))), .val (.ref b1), .val (.ref b5), .val (.int (own_j0_67_s0 x3 x5)), .unset, .unset] [(.int (2 : Int32)), (.int (x4 &&& (7 : Int32)))])) (fun tG kG => XS.iconst X37.here hx rfl (hb hby at_99) kG) ?_
      refine Go.via (U' := T36.setTop (mkF m 101 #[.val (.int x0), .val (.int x1), .val (.int x2), .val (.int x3), .val (.int x4), .val (.int x5), .val (.int (((x1 &&& (3 : Int32)) % (3 : Int32)) + (1 : Int32))), .val (.int ((((own_ushr x1 (2 : Int32)) &&& (3 : Int32)) % (3 : Int32)) + (1 : Int32))), .val (.ref b1), .val (.ref b5), .val (.int (own_j0_67_s0 x3 x5)), .unset, .unset] [(.int ((x4 &&& (7 : Int32)) - (2 : Int32)))])) (fun tG kG => XS.isub X37.here hx rfl (hb hby at_100) rfl kG) ?_
      have q_own_j0_86_s0 : (own_j0_86_s0 x4 x5) = ((x4 &&& (7 : Int32)) - (2 : Int32)) := by unfold own_j0_86_s0; simp only [if_pos hc86]
      have q_J := J41 T36 _ X37 e38 N40
      rw [q_own_j0_86_s0] at q_J
      exact q_J
    · refine Go.via (U' := T36.setTop (mkF m 89 #[.val (.int x0), .val (.int x1), .val (.int x2), .val (.int x3), .val (.int x4), .val (.int x5), .val (.int (((x1 &&& (3 : Int32)) % (3 : Int32)) + (1 : Int32))), .val (.int ((((own_ushr x1 (2 : Int32)) &&& (3 : Int32)) % (3 : Int32)) + (1 : Int32))), .val (.ref b1), .val (.ref b5), .val (.int (own_j0_67_s0 x3 x5)), .unset, .unset] [])) (fun tG kG => XS.ifNo X37.here hx rfl (hb hby at_86) rfl ((if0 _ _).trans (feq hc86).1) kG) ?_
      refine Go.via (U' := T36.setTop (mkF m 91 #[.val (.int x0), .val (.int x1), .val (.int x2), .val (.int x3), .val (.int x4), .val (.int x5), .val (.int (((x1 &&& (3 : Int32)) % (3 : Int32)) + (1 : Int32))), .val (.int ((((own_ushr x1 (2 : Int32)) &&& (3 : Int32)) % (3 : Int32)) + (1 : Int32))), .val (.ref b1), .val (.ref b5), .val (.int (own_j0_67_s0 x3 x5)), .unset, .unset] [(.int x4)])) (fun tG kG => XS.iload X37.here hx rfl (hb hby at_89) rfl kG) ?_
      refine Go.via (U' := T36.setTop (mkF m 101 #[.val (.int x0), .val (.int x1), .val (.int x2), .val (.int x3), .val (.int x4), .val (.int x5), .val (.int (((x1 &&& (3 : Int32)) % (3 : Int32)) + (1 : Int32))), .val (.int ((((own_ushr x1 (2 : Int32)) &&& (3 : Int32)) % (3 : Int32)) + (1 : Int32))), .val (.ref b1), .val (.ref b5), .val (.int (own_j0_67_s0 x3 x5)), .unset, .unset] [(.int x4)])) (fun tG kG => XS.goto X37.here hx rfl (pc0 := 91) (pc' := 101) rfl (hb hby at_91) (by decide) (by decide) kG) ?_
      have q_own_j0_86_s0 : (own_j0_86_s0 x4 x5) = x4 := by unfold own_j0_86_s0; simp only [if_neg hc86]
      have q_J := J41 T36 _ X37 e38 N40
      rw [q_own_j0_86_s0] at q_J
      exact q_J
  by_cases hc67 : (x5 &&& (1 : Int32)) = (0 : Int32)
  · refine Go.via (U' := T25.setTop (mkF m 74 #[.val (.int x0), .val (.int x1), .val (.int x2), .val (.int x3), .val (.int x4), .val (.int x5), .val (.int (((x1 &&& (3 : Int32)) % (3 : Int32)) + (1 : Int32))), .val (.int ((((own_ushr x1 (2 : Int32)) &&& (3 : Int32)) % (3 : Int32)) + (1 : Int32))), .val (.ref b1), .val (.ref b5), .unset, .unset, .unset] [])) (fun tG kG => XS.ifYes X25.here hx rfl (pc0 := 67) (pc' := 74) rfl (hb hby at_67) rfl ((if0 _ _).trans (teq hc67).1) (by decide) (by decide) kG) ?_
    refine Go.via (U' := T25.setTop (mkF m 75 #[.val (.int x0), .val (.int x1), .val (.int x2), .val (.int x3), .val (.int x4), .val (.int x5), .val (.int (((x1 &&& (3 : Int32)) % (3 : Int32)) + (1 : Int32))), .val (.int ((((own_ushr x1 (2 : Int32)) &&& (3 : Int32)) % (3 : Int32)) + (1 : Int32))), .val (.ref b1), .val (.ref b5), .unset, .unset, .unset] [(.int x3)])) (fun tG kG => XS.iloadN X25.here hx rfl (hb hby at_74) rfl kG) ?_
    refine Go.via (U' := T25.setTop (mkF m 77 #[.val (.int x0), .val (.int x1), .val (.int x2), .val (.int x3), .val (.int x4), .val (.int x5), .val (.int (((x1 &&& (3 : Int32)) % (3 : Int32)) + (1 : Int32))), .val (.int ((((own_ushr x1 (2 : Int32)) &&& (3 : Int32)) % (3 : Int32)) + (1 : Int32))), .val (.ref b1), .val (.ref b5), .unset, .unset, .unset] [(.int (7 : Int32)), (.int x3)])) (fun tG kG => XS.bipush X25.here hx rfl (hb hby at_75) kG) ?_
    refine Go.via (U' := T25.setTop (mkF m 78 #[.val (.int x0), .val (.int x1), .val (.int x2), .val (.int x3), .val (.int x4), .val (.int x5), .val (.int (((x1 &&& (3 : Int32)) % (3 : Int32)) + (1 : Int32))), .val (.int ((((own_ushr x1 (2 : Int32)) &&& (3 : Int32)) % (3 : Int32)) + (1 : Int32))), .val (.ref b1), .val (.ref b5), .unset, .unset, .unset] [(.int (x3 &&& (7 : Int32)))])) (fun tG kG => XS.iand X25.here hx rfl (hb hby at_77) rfl kG) ?_
    refine Go.via (U' := T25.setTop (mkF m 79 #[.val (.int x0), .val (.int x1), .val (.int x2), .val (.int x3), .val (.int x4), .val (.int x5), .val (.int (((x1 &&& (3 : Int32)) % (3 : Int32)) + (1 : Int32))), .val (.int ((((own_ushr x1 (2 : Int32)) &&& (3 : Int32)) % (3 : Int32)) + (1 : Int32))), .val (.ref b1), .val (.ref b5), .unset, .unset, .unset] [(.int (2 : Int32)), (.int (x3 &&& (7 : Int32)))])) (fun tG kG => XS.iconst X25.here hx rfl (hb hby at_78) kG) ?_
    refine Go.via (U' := T25.setTop (mkF m 80 #[.val (.int x0), .val (.int x1), .val (.int x2), .val (.int x3), .val (.int x4), .val (.int x5), .val (.int (((x1 &&& (3 : Int32)) % (3 : Int32)) + (1 : Int32))), .val (.int ((((own_ushr x1 (2 : Int32)) &&& (3 : Int32)) % (3 : Int32)) + (1 : Int32))), .val (.ref b1), .val (.ref b5), .unset, .unset, .unset] [(.int ((x3 &&& (7 : Int32)) - (2 : Int32)))])) (fun tG kG => XS.isub X25.here hx rfl (hb hby at_79) rfl kG) ?_
    have q_own_j0_67_s0 : (own_j0_67_s0 x3 x5) = ((x3 &&& (7 : Int32)) - (2 : Int32)) := by unfold own_j0_67_s0; simp only [if_pos hc67]
    have q_J := J35 T25 _ X25 rfl N25
    rw [q_own_j0_67_s0] at q_J
    exact q_J
  · refine Go.via (U' := T25.setTop (mkF m 70 #[.val (.int x0), .val (.int x1), .val (.int x2), .val (.int x3), .val (.int x4), .val (.int x5), .val (.int (((x1 &&& (3 : Int32)) % (3 : Int32)) + (1 : Int32))), .val (.int ((((own_ushr x1 (2 : Int32)) &&& (3 : Int32)) % (3 : Int32)) + (1 : Int32))), .val (.ref b1), .val (.ref b5), .unset, .unset, .unset] [])) (fun tG kG => XS.ifNo X25.here hx rfl (hb hby at_67) rfl ((if0 _ _).trans (feq hc67).1) kG) ?_
    refine Go.via (U' := T25.setTop (mkF m 71 #[.val (.int x0), .val (.int x1), .val (.int x2), .val (.int x3), .val (.int x4), .val (.int x5), .val (.int (((x1 &&& (3 : Int32)) % (3 : Int32)) + (1 : Int32))), .val (.int ((((own_ushr x1 (2 : Int32)) &&& (3 : Int32)) % (3 : Int32)) + (1 : Int32))), .val (.ref b1), .val (.ref b5), .unset, .unset, .unset] [(.int x3)])) (fun tG kG => XS.iloadN X25.here hx rfl (hb hby at_70) rfl kG) ?_
    refine Go.via (U' := T25.setTop (mkF m 80 #[.val (.int x0), .val (.int x1), .val (.int x2), .val (.int x3), .val (.int x4), .val (.int x5), .val (.int (((x1 &&& (3 : Int32)) % (3 : Int32)) + (1 : Int32))), .val (.int ((((own_ushr x1 (2 : Int32)) &&& (3 : Int32)) % (3 : Int32)) + (1 : Int32))), .val (.ref b1), .val (.ref b5), .unset, .unset, .unset] [(.int x3)])) (fun tG kG => XS.goto X25.here hx rfl (pc0 := 71) (pc' := 80) rfl (hb hby at_71) (by decide) (by decide) kG) ?_
    have q_own_j0_67_s0 : (own_j0_67_s0 x3 x5) = x3 := by unfold own_j0_67_s0; simp only [if_neg hc67]
    have q_J := J35 T25 _ X25 rfl N25
    rw [q_own_j0_67_s0] at q_J
    exact q_J
theorem own_skip (C : Prop) [Decidable C] (F : Nat → Int32) (k : Nat) (v : Int32) (j : Nat) (h : j ≠ k) : (if C then own_upd F k v else F) j = F j := by
  by_cases c : C
  · rw [if_pos c]; exact if_neg h
  · rw [if_neg c]
theorem own_hit (C : Prop) [Decidable C] (c : C) (F : Nat → Int32) (k : Nat) (v : Int32) : (if C then own_upd F k v else F) k = v := by
  rw [if_pos c]; exact if_pos rfl
theorem own_ushr0 (x : Int32) : own_ushr x 0 = x := by
  have h : own_ushr x 0 = (x.toUInt32 >>> (0 : UInt32)).toInt32 := rfl
  rw [h]
  simp
theorem own_at0 (x z : Int32) (h : (0 : Int32) < z) : own_q1_a x z (fun _ => 0) 0 = nar .boolean (if (own_ushr x (0 : Int32) &&& (1 : Int32)) = 0 then 0 else 1) := by
  unfold own_q1_a
  rw [own_skip _ _ _ _ _ (by decide)]
  unfold own_h1_153_Aa
  rw [own_skip _ _ _ _ _ (by decide)]
  unfold own_h1_129_Aa
  rw [own_skip _ _ _ _ _ (by decide)]
  unfold own_h1_107_Aa
  rw [own_skip _ _ _ _ _ (by decide)]
  unfold own_h1_86_Aa
  rw [own_skip _ _ _ _ _ (by decide)]
  unfold own_h1_65_Aa
  rw [own_skip _ _ _ _ _ (by decide)]
  unfold own_h1_44_Aa
  rw [own_skip _ _ _ _ _ (by decide)]
  unfold own_h1_23_Aa
  rw [own_skip _ _ _ _ _ (by decide)]
  unfold own_h1_4_Aa
  rw [own_hit _ h]
  unfold own_j1_12_s0
  rw [own_ushr0]
theorem own_at1 (x z : Int32) (h : (1 : Int32) < z) : own_q1_a x z (fun _ => 0) 1 = nar .boolean (if (own_ushr x (1 : Int32) &&& (1 : Int32)) = 0 then 0 else 1) := by
  unfold own_q1_a
  rw [own_skip _ _ _ _ _ (by decide)]
  unfold own_h1_153_Aa
  rw [own_skip _ _ _ _ _ (by decide)]
  unfold own_h1_129_Aa
  rw [own_skip _ _ _ _ _ (by decide)]
  unfold own_h1_107_Aa
  rw [own_skip _ _ _ _ _ (by decide)]
  unfold own_h1_86_Aa
  rw [own_skip _ _ _ _ _ (by decide)]
  unfold own_h1_65_Aa
  rw [own_skip _ _ _ _ _ (by decide)]
  unfold own_h1_44_Aa
  rw [own_skip _ _ _ _ _ (by decide)]
  unfold own_h1_23_Aa
  rw [own_hit _ h]
  unfold own_j1_33_s0
  rfl
theorem own_at2 (x z : Int32) (h : (2 : Int32) < z) : own_q1_a x z (fun _ => 0) 2 = nar .boolean (if (own_ushr x (2 : Int32) &&& (1 : Int32)) = 0 then 0 else 1) := by
  unfold own_q1_a
  rw [own_skip _ _ _ _ _ (by decide)]
  unfold own_h1_153_Aa
  rw [own_skip _ _ _ _ _ (by decide)]
  unfold own_h1_129_Aa
  rw [own_skip _ _ _ _ _ (by decide)]
  unfold own_h1_107_Aa
  rw [own_skip _ _ _ _ _ (by decide)]
  unfold own_h1_86_Aa
  rw [own_skip _ _ _ _ _ (by decide)]
  unfold own_h1_65_Aa
  rw [own_skip _ _ _ _ _ (by decide)]
  unfold own_h1_44_Aa
  rw [own_hit _ h]
  unfold own_j1_54_s0
  rfl
theorem own_at3 (x z : Int32) (h : (3 : Int32) < z) : own_q1_a x z (fun _ => 0) 3 = nar .boolean (if (own_ushr x (3 : Int32) &&& (1 : Int32)) = 0 then 0 else 1) := by
  unfold own_q1_a
  rw [own_skip _ _ _ _ _ (by decide)]
  unfold own_h1_153_Aa
  rw [own_skip _ _ _ _ _ (by decide)]
  unfold own_h1_129_Aa
  rw [own_skip _ _ _ _ _ (by decide)]
  unfold own_h1_107_Aa
  rw [own_skip _ _ _ _ _ (by decide)]
  unfold own_h1_86_Aa
  rw [own_skip _ _ _ _ _ (by decide)]
  unfold own_h1_65_Aa
  rw [own_hit _ h]
  unfold own_j1_75_s0
  rfl
theorem own_at4 (x z : Int32) (h : (4 : Int32) < z) : own_q1_a x z (fun _ => 0) 4 = nar .boolean (if (own_ushr x (4 : Int32) &&& (1 : Int32)) = 0 then 0 else 1) := by
  unfold own_q1_a
  rw [own_skip _ _ _ _ _ (by decide)]
  unfold own_h1_153_Aa
  rw [own_skip _ _ _ _ _ (by decide)]
  unfold own_h1_129_Aa
  rw [own_skip _ _ _ _ _ (by decide)]
  unfold own_h1_107_Aa
  rw [own_skip _ _ _ _ _ (by decide)]
  unfold own_h1_86_Aa
  rw [own_hit _ h]
  unfold own_j1_96_s0
  rfl
theorem own_at5 (x z : Int32) (h : (5 : Int32) < z) : own_q1_a x z (fun _ => 0) 5 = nar .boolean (if (own_ushr x (5 : Int32) &&& (1 : Int32)) = 0 then 0 else 1) := by
  unfold own_q1_a
  rw [own_skip _ _ _ _ _ (by decide)]
  unfold own_h1_153_Aa
  rw [own_skip _ _ _ _ _ (by decide)]
  unfold own_h1_129_Aa
  rw [own_skip _ _ _ _ _ (by decide)]
  unfold own_h1_107_Aa
  rw [own_hit _ h]
  unfold own_j1_117_s0
  rfl
theorem own_at6 (x z : Int32) (h : (6 : Int32) < z) : own_q1_a x z (fun _ => 0) 6 = nar .boolean (if (own_ushr x (6 : Int32) &&& (1 : Int32)) = 0 then 0 else 1) := by
  unfold own_q1_a
  rw [own_skip _ _ _ _ _ (by decide)]
  unfold own_h1_153_Aa
  rw [own_skip _ _ _ _ _ (by decide)]
  unfold own_h1_129_Aa
  rw [own_hit _ h]
  unfold own_j1_141_s0
  rfl
theorem own_at7 (x z : Int32) (h : (7 : Int32) < z) : own_q1_a x z (fun _ => 0) 7 = nar .boolean (if (own_ushr x (7 : Int32) &&& (1 : Int32)) = 0 then 0 else 1) := by
  unfold own_q1_a
  rw [own_skip _ _ _ _ _ (by decide)]
  unfold own_h1_153_Aa
  rw [own_hit _ h]
  unfold own_j1_165_s0
  rfl
theorem own_at8 (x z : Int32) (h : (8 : Int32) < z) : own_q1_a x z (fun _ => 0) 8 = nar .boolean (if (own_ushr x (8 : Int32) &&& (1 : Int32)) = 0 then 0 else 1) := by
  unfold own_q1_a
  rw [own_hit _ h]
  unfold own_j1_189_s0
  rfl
theorem own_atI (x z j : Int32) (h0 : ¬ j < 0) (h1 : j < z) (h2 : j.toInt ≤ 8) : own_q1_a x z (fun _ => 0) j.toNatClampNeg = nar .boolean (if (own_ushr x j &&& (1 : Int32)) = 0 then 0 else 1) := by
  have hj : j = 0 ∨ j = 1 ∨ j = 2 ∨ j = 3 ∨ j = 4 ∨ j = 5 ∨ j = 6 ∨ j = 7 ∨ j = 8 := by
    rw [Int32.lt_iff_toInt_lt, show (0 : Int32).toInt = 0 from rfl] at h0
    simp only [← Int32.toInt_inj, show (0 : Int32).toInt = 0 from rfl, show (1 : Int32).toInt = 1 from rfl, show (2 : Int32).toInt = 2 from rfl, show (3 : Int32).toInt = 3 from rfl, show (4 : Int32).toInt = 4 from rfl, show (5 : Int32).toInt = 5 from rfl, show (6 : Int32).toInt = 6 from rfl, show (7 : Int32).toInt = 7 from rfl, show (8 : Int32).toInt = 8 from rfl]
    omega
  rcases hj with rfl | rfl | rfl | rfl | rfl | rfl | rfl | rfl | rfl
  · exact own_at0 x z h1
  · exact own_at1 x z h1
  · exact own_at2 x z h1
  · exact own_at3 x z h1
  · exact own_at4 x z h1
  · exact own_at5 x z h1
  · exact own_at6 x z h1
  · exact own_at7 x z h1
  · exact own_at8 x z h1
theorem own_plain (x0 x1 x2 x3 x4 x5 : Int32) : own_f0 x0 x1 x2 x3 x4 x5 = 1 := by
  unfold own_f0
  refine if_pos ?_
  unfold own_j0_105_l12 own_j0_145_s0 own_f5 own_w0_17
  generalize own_j0_67_s0 x3 x5 = a
  generalize own_j0_86_s0 x4 x5 = b
  have ix := own_ix x1 (own_ushr x1 2) a b
  have nn := own_n x1 (own_ushr x1 2)
  generalize ((x1 &&& 3) % 3) + 1 = c at *
  generalize ((own_ushr x1 2 &&& 3) % 3) + 1 = r at *
  by_cases h1 : a < 0
  · rw [if_pos h1, if_pos h1]
  rw [if_neg h1, if_neg h1]
  by_cases h2 : b < 0
  · rw [if_pos h2, if_pos h2]
  rw [if_neg h2, if_neg h2]
  by_cases h3 : a < c
  · rw [if_pos h3, if_pos h3]
    by_cases h4 : b < r
    · rw [if_pos h4, if_pos h4]
      have q := ix h1 h2 h3 h4
      have hz : (c * r).toNatClampNeg = (c * r).toInt.toNat := rfl
      have q2 := Int32.lt_iff_toInt_lt.mp q.2
      rw [own_atI x2 (c * r) ((b * c) + a) q.1 q.2 (by omega)]
      by_cases p : (own_ushr x2 ((b * c) + a) &&& (1 : Int32)) = 0
      · rw [if_pos p]; decide
      · rw [if_neg p]; decide
    · rw [if_neg h4, if_neg h4]
  · rw [if_neg h3, if_neg h3]
set_option maxRecDepth 65536 in
set_option maxHeartbeats 40000000 in
theorem own_comes {Post : Tables → Env → Array Value → State → Outcome → State → Prop} (hpost : ∀ tb e args s v u, (limb_1_1.after args s (.returned v) u = true ∧ limb_1_2.after args s (.returned v) u = true) → FrameEnd s (.returned v) u (Jvm.fieldLocs frame_1_writes args s ++ Jvm.arrayLocs frame_1_arrays args s ++ Jvm.staticLocs frame_1_statics s) 16 128 → Post tb e args s (.returned v) u) :
    ArmFor flags0 classFile x code maxLocals ret World_1 tables_1 room_1 Calls_1 rest_1 Pre_1 Post := by
  intro l hfl _ _ p e ha hc hk s m args below hf hA hF happ hP
  obtain ⟨hcalls, hrest, hpre⟩ := hP
  obtain ⟨-, -, -, hnamed, -, -, -, hat⟩ := (Spec.applies_iff hf).mp happ
  obtain ⟨hg, hn⟩ := and_e (Cond.before_iff.mp (show (Jvm.Cond.and given_1 narrow_1).before args s = true from hpre))
  obtain ⟨hcnt, hg⟩ := and_e hg
  obtain ⟨w0, w1, w2, w3, w4, w5, rfl⟩ : ∃ w0 w1 w2 w3 w4 w5 : Value, args = #[w0, w1, w2, w3, w4, w5] := by
    have hs : args.size = 6 := by simpa [Cond.value, given_1] using hcnt
    obtain ⟨L⟩ := args
    match L, hs with
    | [w0, w1, w2, w3, w4, w5], _ => exact ⟨w0, w1, w2, w3, w4, w5, rfl⟩
  have hw := fun d (hd : d ∈ tables_1) => atoms_spec (ws := Jvm.Cond.code x code maxLocals ret :: tables_1) hat d (List.mem_cons_of_mem _ hd)
  have hfit : Fit s := fun {y c} hc i hi => by
    obtain ⟨ha, rfl⟩ := Array.getElem?_eq_some_iff.mp hc
    have q := List.all_eq_true.mp ((Array.all_eq_true_iff_forall_mem.mp hF) _ (Array.getElem_mem ha)) i (List.mem_range.mpr hi)
    simpa [Array.getElem?_eq_getElem hi] using q
  obtain ⟨hg0, hg⟩ := and_e hg
  obtain ⟨i0, ei0⟩ := is_v hg0
  obtain rfl : w0 = (.int i0) := Option.some.inj ei0
  obtain ⟨hg1, hg⟩ := and_e hg
  obtain ⟨i1, ei1⟩ := is_v hg1
  obtain rfl : w1 = (.int i1) := Option.some.inj ei1
  obtain ⟨hg2, hg⟩ := and_e hg
  obtain ⟨i2, ei2⟩ := is_v hg2
  obtain rfl : w2 = (.int i2) := Option.some.inj ei2
  obtain ⟨hg3, hg⟩ := and_e hg
  obtain ⟨i3, ei3⟩ := is_v hg3
  obtain rfl : w3 = (.int i3) := Option.some.inj ei3
  obtain ⟨hg4, hg⟩ := and_e hg
  obtain ⟨i4, ei4⟩ := is_v hg4
  obtain rfl : w4 = (.int i4) := Option.some.inj ei4
  obtain ⟨i5, ei5⟩ := is_v hg
  obtain rfl : w5 = (.int i5) := Option.some.inj ei5
  obtain ⟨n, o, h1, h2, h3, _, L, rfl, ⟨rfl, N⟩, hq⟩ := own_rm0 l s _ hw tables_1 i0 i1 i2 i3 i4 i5 s.heap s.heap.size (Nat.le_refl _) p e ha hc hk s m _ below hf ((Spec.applies_iff_loose hf).mp happ).1 ⟨rfl, State.Warmed39.refl s, rfl⟩ trivial
  refine ⟨n, _, h1, h2, h3, hpost _ _ _ _ _ _ ⟨Cond.after_iff.mpr rfl, Cond.after_iff.mpr (eq_i res_at (Term.int_eval (1)) (congrArg Value.int (own_plain i0 i1 i2 i3 i4 i5)))⟩ ⟨hq.1, hq.2.1, (hq.2.2.sift fun y hy => Or.inr (N y hy)).mono (by decide) (by decide)⟩⟩
theorem main_1_1 : Claimed_1_1 := own_comes fun _ _ _ _ _ _ h hF => ⟨h.1, hF⟩
theorem main_1_2 : Claimed_1_2 := own_comes fun _ _ _ _ _ _ h hF => ⟨h.2, hF⟩
end Jvm.Pilot.@@N@@
namespace Jvm.Pilot.@@N@@
open Jvm Jvm.ClassFile Sem Op Lib Jvm.Free Jvm.Stand Jvm.Pilot.@@N@@.Jvm.D
/-! MADE BY PROGRAM (witnessworld.py) out of the Statement's table words and the real class files: 12 classes; the members and pool entries that the words name. The judged class is class 1, her method 1. -/
namespace start1
open Jvm.ClassFile
def u (s : String) : CpInfo := .utf8 (stringToUtf16 s)
/-- a pool by its gaps: so many unusable entries, then the entry; so many at the end -/
def gap : Nat → List CpInfo → List CpInfo
  | 0, r => r
  | n + 1, r => .unusable :: gap n r
def poolList (es : List (Nat × CpInfo)) (last : Nat) : List CpInfo := es.foldr (fun e r => gap e.1 (e.2 :: r)) (gap last [])
def pool (es : List (Nat × CpInfo)) (last : Nat) : Array CpInfo := ⟨poolList es last⟩
def fileOf (pool : Array CpInfo) (this : Nat) (attrs : Array Attribute := #[]) (ms : Array MethodInfo := #[]) (fl : Nat := 33) (sup : Nat := 0) (ifs : Array Nat := #[]) (fds : Array FieldInfo := #[]) : ClassFile where
  minorVersion := 0
  majorVersion := 65
  constantPool := pool
  accessFlags := fl
  thisClass := this
  superClass := sup
  interfaces := ifs
  fields := fds
  methods := ms
  attributes := attrs
def plain (name : String) (sup : Option ClassId) : Class where
  name := name
  kind := .ordinary
  loader := none
  accessFlags := 33
  super := sup
  interfaces := #[]
  cf := none
  fields := #[]
  methods := #[]
  instanceTypes := #[]
  staticTypes := #[]
  resolved := #[]
  callSites := []
  init := .initialized
  statics := none
  mirror := none

def pool0 : Array CpInfo := pool [(5, u "<init>"), (0, u "()V"), (1, .class_ 10), (1, u "java/lang/Object"), (85, u "clone"), (0, u "()Ljava/lang/Object;")] 26

def k0c0 : Code := { maxStack := 0, maxLocals := 1, code := object_method_1_code, exceptionTable := #[], attributes := #[] }
def k0m0 : Method := { name := "<init>", desc := "()V", sig := { parameters := [], returnType := none }, accessFlags := 1, code := some k0c0 }
def k0m1 : Method := { name := "clone", desc := "()Ljava/lang/Object;", sig := { parameters := [], returnType := some (.object "java/lang/Object") }, accessFlags := 260, code := none }
/-- java/lang/Object -/
def k0 : Class := { plain "java/lang/Object" none with
  accessFlags := 33
  interfaces := #[]
  cf := some (fileOf pool0 8 #[] #[{ accessFlags := 1, nameIndex := 5, descriptorIndex := 6, attributes := #[] }, { accessFlags := 260, nameIndex := 96, descriptorIndex := 97, attributes := #[] }] 33 0 #[] #[])
  fields := #[]
  methods := #[k0m0, k0m1]
  instanceTypes := #[]
  staticTypes := #[]
  resolved := Array.replicate 124 none
  statics := none }

def pool1 : Array CpInfo := pool [(2, .class_ 4), (1, u "java/lang/Object"), (0, u "<init>"), (0, u "()V"), (0, .methodref 8 9), (0, .class_ 10), (0, .nameAndType 11 12), (0, u "com/example/sidik/sidik/template/FingerprintAreaIsInsidePinLaw"), (0, u "fill"), (0, u "([ZI)V"), (0, .class_ 14), (0, u "com/example/sidik/sidik/template/FingerprintArea"), (0, .methodref 16 17), (0, .class_ 18), (0, .nameAndType 19 20), (0, u "java/lang/Math"), (0, u "max"), (0, u "(II)I"), (0, .methodref 13 22), (0, .nameAndType 5 23), (0, u "(III[Z)V"), (0, .methodref 13 25), (0, .nameAndType 26 27), (0, u "isInside"), (0, u "(II)Z"), (2, u "law"), (0, u "(IIIIII)Z")] 5

def k1m0 : Method := { name := "<init>", desc := "()V", sig := { parameters := [], returnType := none }, accessFlags := 1, code := none }
def k1c1 : Code := { maxStack := 6, maxLocals := 13, code := code, exceptionTable := #[], attributes := #[] }
def k1m1 : Method := { name := "law", desc := "(IIIIII)Z", sig := { parameters := [.int, .int, .int, .int, .int, .int], returnType := some .boolean }, accessFlags := 9, code := some k1c1 }
def k1c2 : Code := { maxStack := 4, maxLocals := 3, code := method_3_code, exceptionTable := #[], attributes := #[] }
def k1m2 : Method := { name := "fill", desc := "([ZI)V", sig := { parameters := [(.array .boolean), .int], returnType := none }, accessFlags := 10, code := some k1c2 }
/-- com/example/sidik/sidik/template/FingerprintAreaIsInsidePinLaw -/
def k1 : Class := { plain "com/example/sidik/sidik/template/FingerprintAreaIsInsidePinLaw" (some 0) with
  accessFlags := 49
  interfaces := #[]
  cf := some (fileOf pool1 8 #[] #[{ accessFlags := 1, nameIndex := 5, descriptorIndex := 6, attributes := #[] }, { accessFlags := 9, nameIndex := 30, descriptorIndex := 31, attributes := #[] }, { accessFlags := 10, nameIndex := 11, descriptorIndex := 12, attributes := #[] }] 49 2 #[] #[])
  fields := #[]
  methods := #[k1m0, k1m1, k1m2]
  instanceTypes := #[]
  staticTypes := #[]
  resolved := Array.replicate 37 none
  statics := none }

def pool2 : Array CpInfo := pool [(1, .methodref 2 3), (0, .class_ 4), (0, .nameAndType 5 6), (0, u "java/lang/Object"), (0, u "<init>"), (0, u "()V"), (11, .fieldref 19 20), (0, .class_ 21), (0, .nameAndType 22 23), (0, u "com/example/sidik/sidik/template/FingerprintArea"), (0, u "blockSize"), (0, u "I"), (0, .fieldref 19 25), (0, .nameAndType 26 23), (0, u "columns"), (0, .fieldref 19 28), (0, .nameAndType 29 23), (0, u "rows"), (0, .methodref 31 32), (0, .class_ 33), (0, .nameAndType 34 35), (0, u "[Z"), (0, u "clone"), (0, u "()Ljava/lang/Object;"), (0, .fieldref 19 37), (0, .nameAndType 38 33), (0, u "inside"), (2, u "isInside"), (0, u "(II)Z"), (0, u "(III[Z)V")] 27

def k2c0 : Code := { maxStack := 5, maxLocals := 5, code := prog_51_method_1_code, exceptionTable := #[], attributes := #[] }
def k2m0 : Method := { name := "<init>", desc := "(III[Z)V", sig := { parameters := [.int, .int, .int, (.array .boolean)], returnType := none }, accessFlags := 1, code := some k2c0 }
def k2c1 : Code := { maxStack := 3, maxLocals := 3, code := prog_51_method_5_code, exceptionTable := #[], attributes := #[] }
def k2m1 : Method := { name := "isInside", desc := "(II)Z", sig := { parameters := [.int, .int], returnType := some .boolean }, accessFlags := 1, code := some k2c1 }
/-- com/example/sidik/sidik/template/FingerprintArea -/
def k2 : Class := { plain "com/example/sidik/sidik/template/FingerprintArea" (some 0) with
  accessFlags := 49
  interfaces := #[]
  cf := some (fileOf pool2 19 #[] #[{ accessFlags := 1, nameIndex := 5, descriptorIndex := 43, attributes := #[] }, { accessFlags := 1, nameIndex := 41, descriptorIndex := 42, attributes := #[] }] 49 2 #[] #[{ accessFlags := 18, nameIndex := 22, descriptorIndex := 23, attributes := #[] }, { accessFlags := 18, nameIndex := 26, descriptorIndex := 23, attributes := #[] }, { accessFlags := 18, nameIndex := 29, descriptorIndex := 23, attributes := #[] }, { accessFlags := 18, nameIndex := 38, descriptorIndex := 33, attributes := #[] }])
  fields := #[{ name := "blockSize", type := .int, accessFlags := 18, slot := 0, constantValue := 0 }, { name := "columns", type := .int, accessFlags := 18, slot := 1, constantValue := 0 }, { name := "rows", type := .int, accessFlags := 18, slot := 2, constantValue := 0 }, { name := "inside", type := (.array .boolean), accessFlags := 18, slot := 3, constantValue := 0 }]
  methods := #[k2m0, k2m1]
  instanceTypes := #[.int, .int, .int, (.array .boolean)]
  staticTypes := #[]
  resolved := Array.replicate 71 none
  statics := none }

def pool3 : Array CpInfo := pool [(1, .class_ 2), (0, u "java/lang/Math"), (1, .class_ 6), (1, u "java/lang/Object"), (0, u "<init>"), (0, u "()V"), (89, .class_ 100), (1, u "java/lang/Math$RandomNumberGeneratorHolder"), (71, u "negativeZeroFloatBits"), (0, u "J"), (2, u "negativeZeroDoubleBits"), (21, u "max"), (46, u "$assertionsDisabled"), (0, u "Z"), (88, u "(II)I"), (2, u "twoToTheDoubleScaleDown"), (0, u "D"), (4, u "twoToTheDoubleScaleUp"), (9, u "E"), (3, u "PI"), (2, u "TAU"), (2, u "DEGREES_TO_RADIANS"), (0, u "RADIANS_TO_DEGREES")] 94

def k3m0 : Method := { name := "<init>", desc := "()V", sig := { parameters := [], returnType := none }, accessFlags := 2, code := none }
def k3c1 : Code := { maxStack := 2, maxLocals := 2, code := jdk_29_method_65_code, exceptionTable := #[], attributes := #[] }
def k3m1 : Method := { name := "max", desc := "(II)I", sig := { parameters := [.int, .int], returnType := some .int }, accessFlags := 9, code := some k3c1 }
/-- java/lang/Math -/
def k3 : Class := { plain "java/lang/Math" (some 0) with
  accessFlags := 49
  interfaces := #[]
  cf := some (fileOf pool3 1 #[.nestMembers #[98]] #[{ accessFlags := 2, nameIndex := 7, descriptorIndex := 8, attributes := #[] }, { accessFlags := 9, nameIndex := 198, descriptorIndex := 335, attributes := #[] }] 49 4 #[] #[{ accessFlags := 25, nameIndex := 354, descriptorIndex := 339, attributes := #[] }, { accessFlags := 25, nameIndex := 358, descriptorIndex := 339, attributes := #[] }, { accessFlags := 25, nameIndex := 361, descriptorIndex := 339, attributes := #[] }, { accessFlags := 26, nameIndex := 364, descriptorIndex := 339, attributes := #[] }, { accessFlags := 26, nameIndex := 365, descriptorIndex := 339, attributes := #[] }, { accessFlags := 26, nameIndex := 172, descriptorIndex := 173, attributes := #[] }, { accessFlags := 26, nameIndex := 176, descriptorIndex := 173, attributes := #[] }, { accessFlags := 8, nameIndex := 344, descriptorIndex := 339, attributes := #[] }, { accessFlags := 8, nameIndex := 338, descriptorIndex := 339, attributes := #[] }, { accessFlags := 4120, nameIndex := 245, descriptorIndex := 246, attributes := #[] }])
  fields := #[{ name := "E", type := .double, accessFlags := 25, slot := 0, constantValue := 0 }, { name := "PI", type := .double, accessFlags := 25, slot := 1, constantValue := 0 }, { name := "TAU", type := .double, accessFlags := 25, slot := 2, constantValue := 0 }, { name := "DEGREES_TO_RADIANS", type := .double, accessFlags := 26, slot := 3, constantValue := 0 }, { name := "RADIANS_TO_DEGREES", type := .double, accessFlags := 26, slot := 4, constantValue := 0 }, { name := "negativeZeroFloatBits", type := .long, accessFlags := 26, slot := 5, constantValue := 0 }, { name := "negativeZeroDoubleBits", type := .long, accessFlags := 26, slot := 6, constantValue := 0 }, { name := "twoToTheDoubleScaleUp", type := .double, accessFlags := 8, slot := 7, constantValue := 0 }, { name := "twoToTheDoubleScaleDown", type := .double, accessFlags := 8, slot := 8, constantValue := 0 }, { name := "$assertionsDisabled", type := .boolean, accessFlags := 4120, slot := 9, constantValue := 0 }]
  methods := #[k3m0, k3m1]
  instanceTypes := #[]
  staticTypes := #[.double, .double, .double, .double, .double, .long, .long, .double, .double, .boolean]
  resolved := Array.replicate 460 none
  statics := none }

def pool4 : Array CpInfo := pool [(1, .class_ 2), (0, u "java/lang/Cloneable"), (0, .class_ 4), (0, u "java/lang/Object")] 2

/-- java/lang/Cloneable -/
def k4 : Class := { plain "java/lang/Cloneable" (some 0) with
  accessFlags := 1537
  interfaces := #[]
  cf := some (fileOf pool4 1 #[] #[] 1537 3 #[] #[])
  fields := #[]
  methods := #[]
  instanceTypes := #[]
  staticTypes := #[]
  resolved := Array.replicate 7 none
  statics := none }

def pool5 : Array CpInfo := pool [(1, u "java/io/Serializable"), (0, .class_ 1), (0, u "java/lang/Object"), (0, .class_ 3)] 3

/-- java/io/Serializable -/
def k5 : Class := { plain "java/io/Serializable" (some 0) with
  accessFlags := 1537
  interfaces := #[]
  cf := some (fileOf pool5 2 #[] #[] 1537 4 #[] #[])
  fields := #[]
  methods := #[]
  instanceTypes := #[]
  staticTypes := #[]
  resolved := Array.replicate 8 none
  statics := none }

/-- the primitive boolean -/
def k6 : Class := { plain "boolean" none with kind := .primitive 'Z', accessFlags := 0x411 }
/-- [Z -/
def k7 : Class := { plain "[Z" (some 0) with kind := .array 6 .boolean, interfaces := #[4, 5], accessFlags := 1041 }

/-- the primitive byte -/
def k8 : Class := { plain "byte" none with kind := .primitive 'B', accessFlags := 0x411 }
/-- [B -/
def k9 : Class := { plain "[B" (some 0) with kind := .array 8 .byte, interfaces := #[4, 5], accessFlags := 1041 }

/-- the primitive int -/
def k10 : Class := { plain "int" none with kind := .primitive 'I', accessFlags := 0x411 }
/-- [I -/
def k11 : Class := { plain "[I" (some 0) with kind := .array 10 .int, interfaces := #[4, 5], accessFlags := 1041 }

def heap : Heap := #[]
def classes : Array Class := #[k0, k1, k2, k3, k4, k5, k6, k7, k8, k9, k10, k11]
def interned : List (Array UInt16 × Addr) := []
def slotsUsed : Nat := 0
def theMethod : MethodId := ⟨1, 1⟩
def args0 : Array Value := #[.int 5, .int 3, .int 2, .int 1, .int 1, .int 0]
def aboutOver (below : List Frame) : State where
  vm := { classes := classes, interned := interned.toArray }
  heap := heap
  slotsUsed := slotsUsed
  threads := #[{ frames := .invoking theMethod args0 :: below }]
def below0 : List Frame := [.native { method := ⟨0, 0⟩, args := #[] }]
def about1 : State := aboutOver below0
def p0 : Program := .bare "" "" ""
def e0 : Env := launch0.env 0 0 0
theorem w_frames : about1.frames = Frame.invoking theMethod args0 :: below0 := rfl
set_option maxRecDepth 65536 in
theorem w_args : argsFit about1.vm theMethod args0 = true := by decide +kernel
set_option maxRecDepth 65536 in
theorem w_heap : heapFits about1 = true := by decide +kernel
set_option maxRecDepth 65536 in
theorem w_runnable : about1.curStatus? = some .runnable := by decide +kernel
set_option maxRecDepth 65536 in
theorem w_alone : about1.alone = true := by decide +kernel
set_option maxRecDepth 65536 in
theorem w_named : about1.methodNamed? x = some theMethod := by decide +kernel
set_option maxRecDepth 65536 in
theorem w_hears : about1.hears theMethod below0 = true := by decide +kernel
set_option maxRecDepth 65536 in
theorem w_ripe : about1.ripe theMethod args0 below0 = true := by decide +kernel
theorem w_running : about1.status = .running := rfl
set_option maxRecDepth 65536 in
theorem w_room : about1.hasRoom e0.platform room_1 = true :=
  launch0.hasRoom_least _ room_1 (by decide +kernel) (by decide +kernel) (by decide +kernel) (by decide +kernel) (by decide +kernel) (by decide +kernel)
theorem allAtoms_all (ts : List Jvm.Cond) (a : Array Jvm.Value) (st : Jvm.State) : (allAtoms ts).before a st = ts.all (fun c => c.before a st) := by
  induction ts with
  | nil => rfl
  | cons c t ih =>
    show (Jvm.Cond.and c (allAtoms t)).before a st = _
    rw [Jvm.Cond.before_and, ih, List.all_cons]
def words1 : List Jvm.Cond := Jvm.Cond.code x code maxLocals ret :: tables_1
/-- a 'code' word, met by the world's own term for the bytes: nothing is compared byte by byte -/
theorem code_word {y : MethodName} {bytes : ByteArray} {mx : Nat} {rt : Option FieldType} {a : Array Value} {s : State} {m : MethodId} {meth : Method} {c : Code} (h1 : s.methodNamed? y = some m) (h2 : s.vm.method? m = some meth) (h3 : meth.code = some c) (h4 : c.code = bytes)
    (h5 : (c.maxLocals == mx && c.exceptionTable.isEmpty && decide (c.maxStack ≤ mostOperands) && decide (meth.sig.returnType = rt) && !meth.locks && decide (parseMethodDescriptor y.desc = some meth.sig)) = true) : (Jvm.Cond.code y bytes mx rt).before a s = true := by
  simp only [Bool.and_eq_true, beq_iff_eq, Bool.not_eq_true', decide_eq_true_eq] at h5
  obtain ⟨⟨⟨⟨⟨g1, g2⟩, g3⟩, g4⟩, g5⟩, g6⟩ := h5
  simp [Cond.before, Cond.holds, Cond.value, h1, h2, h3, h4, g1, g2, g3, g4, g5, g6]
def isCode : Jvm.Cond → Bool
  | .code _ _ _ _ => true
  | _ => false
theorem all_split {L : List Jvm.Cond} {P : Jvm.Cond → Bool} (h1 : L.all (fun c => isCode c || P c) = true) (h2 : ∀ c ∈ L.filter isCode, P c = true) : L.all P = true := by
  refine List.all_eq_true.mpr fun c hc => ?_
  have h := List.all_eq_true.mp h1 c hc
  rcases Bool.eq_false_or_eq_true (isCode c) with hi | hi
  · exact h2 c (List.mem_filter.mpr ⟨hc, hi⟩)
  · simpa [hi] using h
set_option maxRecDepth 65536 in
theorem w_c0 : (Jvm.Cond.code x code maxLocals ret).before args0 about1 = true := code_word (m := ⟨1, 1⟩) (meth := k1m1) (c := k1c1) (by decide +kernel) rfl rfl rfl (by decide +kernel)
set_option maxRecDepth 65536 in
theorem w_c1 : (Jvm.Cond.code ({ cls := "com/example/sidik/sidik/template/FingerprintAreaIsInsidePinLaw", name := "fill", desc := "([ZI)V" } : Jvm.MethodName) method_3_code (3 : Nat) (Option.none : Option Jvm.ClassFile.FieldType)).before args0 about1 = true := code_word (m := ⟨1, 2⟩) (meth := k1m2) (c := k1c2) (by decide +kernel) rfl rfl rfl (by decide +kernel)
set_option maxRecDepth 65536 in
theorem w_c2 : (Jvm.Cond.code ({ cls := "java/lang/Math", name := "max", desc := "(II)I" } : Jvm.MethodName) jdk_29_method_65_code (2 : Nat) (Option.some Jvm.ClassFile.FieldType.int)).before args0 about1 = true := code_word (m := ⟨3, 1⟩) (meth := k3m1) (c := k3c1) (by decide +kernel) rfl rfl rfl (by decide +kernel)
set_option maxRecDepth 65536 in
theorem w_c3 : (Jvm.Cond.code ({ cls := "com/example/sidik/sidik/template/FingerprintArea", name := "<init>", desc := "(III[Z)V" } : Jvm.MethodName) prog_51_method_1_code (5 : Nat) (Option.none : Option Jvm.ClassFile.FieldType)).before args0 about1 = true := code_word (m := ⟨2, 0⟩) (meth := k2m0) (c := k2c0) (by decide +kernel) rfl rfl rfl (by decide +kernel)
set_option maxRecDepth 65536 in
theorem w_c4 : (Jvm.Cond.code ({ cls := "java/lang/Object", name := "<init>", desc := "()V" } : Jvm.MethodName) object_method_1_code (1 : Nat) (Option.none : Option Jvm.ClassFile.FieldType)).before args0 about1 = true := code_word (m := ⟨0, 0⟩) (meth := k0m0) (c := k0c0) (by decide +kernel) rfl rfl rfl (by decide +kernel)
set_option maxRecDepth 65536 in
theorem w_c5 : (Jvm.Cond.code ({ cls := "com/example/sidik/sidik/template/FingerprintArea", name := "isInside", desc := "(II)Z" } : Jvm.MethodName) prog_51_method_5_code (3 : Nat) (Option.some Jvm.ClassFile.FieldType.boolean)).before args0 about1 = true := code_word (m := ⟨2, 1⟩) (meth := k2m1) (c := k2c1) (by decide +kernel) rfl rfl rfl (by decide +kernel)
def codes1 : List Jvm.Cond := [Jvm.Cond.code x code maxLocals ret, Jvm.Cond.code ({ cls := "com/example/sidik/sidik/template/FingerprintAreaIsInsidePinLaw", name := "fill", desc := "([ZI)V" } : Jvm.MethodName) method_3_code (3 : Nat) (Option.none : Option Jvm.ClassFile.FieldType), Jvm.Cond.code ({ cls := "java/lang/Math", name := "max", desc := "(II)I" } : Jvm.MethodName) jdk_29_method_65_code (2 : Nat) (Option.some Jvm.ClassFile.FieldType.int), Jvm.Cond.code ({ cls := "com/example/sidik/sidik/template/FingerprintArea", name := "<init>", desc := "(III[Z)V" } : Jvm.MethodName) prog_51_method_1_code (5 : Nat) (Option.none : Option Jvm.ClassFile.FieldType), Jvm.Cond.code ({ cls := "java/lang/Object", name := "<init>", desc := "()V" } : Jvm.MethodName) object_method_1_code (1 : Nat) (Option.none : Option Jvm.ClassFile.FieldType), Jvm.Cond.code ({ cls := "com/example/sidik/sidik/template/FingerprintArea", name := "isInside", desc := "(II)Z" } : Jvm.MethodName) prog_51_method_5_code (3 : Nat) (Option.some Jvm.ClassFile.FieldType.boolean)]
set_option maxRecDepth 65536 in
theorem codes_eq : words1.filter isCode = codes1 := rfl
theorem w_codes : ∀ c ∈ words1.filter isCode, c.before args0 about1 = true := by
  rw [codes_eq]
  intro c hc
  simp only [codes1, List.mem_cons, List.not_mem_nil, or_false] at hc
  rcases hc with rfl | rfl | rfl | rfl | rfl | rfl
  · exact w_c0
  · exact w_c1
  · exact w_c2
  · exact w_c3
  · exact w_c4
  · exact w_c5
set_option maxRecDepth 65536 in
theorem w_t1 : (words1.take 24).all (fun c => isCode c || c.before args0 about1) = true := by decide +kernel
set_option maxRecDepth 65536 in
theorem w_t2 : (words1.drop 24).all (fun c => isCode c || c.before args0 about1) = true := by decide +kernel
theorem w_tables : (allAtoms (Jvm.Cond.code x code maxLocals ret :: tables_1)).before args0 about1 = true := by
  rw [allAtoms_all]
  show words1.all (fun c => c.before args0 about1) = true
  refine all_split ?_ w_codes
  rw [← List.take_append_drop 24 words1, List.all_append, w_t1, w_t2]
  rfl
set_option maxRecDepth 65536 in
theorem w_case : (Jvm.Cond.and given_1 narrow_1).before args0 about1 = true := by decide +kernel
theorem w_applies : (headSpec (Jvm.Cond.code x code maxLocals ret :: tables_1) room_1).applies x e0.platform about1 = true :=
  (Spec.applies_iff w_frames).mpr ⟨w_running, w_runnable, w_alone, w_named, w_hears, w_ripe, w_room, w_tables⟩
theorem atStart : AtStart classFile x code maxLocals ret World_1 tables_1 room_1 Calls_1 rest_1 Pre_1 launch0 p0 e0 about1 theMethod args0 below0 :=
  ⟨lists_1, trivial, launch0.admits_env _ _ _, launch0.least_env, fairChoices_fair.cas, fairChoices_fair.clock, w_frames, w_args, w_heap, w_applies, trivial, trivial, w_case⟩
end start1
theorem witness_1 : WitnessClaimed_1 := ⟨start1.p0, start1.e0, start1.about1, start1.theMethod, start1.args0, start1.below0, start1.atStart⟩
end Jvm.Pilot.@@N@@

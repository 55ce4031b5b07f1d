import JvmDerived
import JvmDerived.Pilot.@@N@@Statement
import JvmDerived.Pilot.@@N@@Code
set_option linter.unusedVariables false
set_option linter.unusedSimpArgs false
namespace Jvm.Pilot.@@N@@
open Jvm Jvm.ClassFile Sem Op Lib Jvm.Free Jvm.Stand Jvm.LawKit Jvm.RoadKit Bundle Jvm.Pilot.@@N@@.Jvm.D
def own_ushr (x y : Int32) : Int32 := (x.toUInt32 >>> (y &&& 31).toUInt32).toInt32
def own_ushrL (x : Int64) (y : Int32) : Int64 := (x.toUInt64 >>> (y &&& 0x3f).toInt64.toUInt64).toInt64
section OwnKit
variable {p : Program} {l : Launch} {e : Env} {R : Room} {s : State} {m : MethodId} {args : Array Value} {below : List Frame} {meth : Method} {c : Code} {T : State} {locs : List Loc} {cells slots : Nat} {Z : State} {h h0 : Heap} {ce sl : Nat} {Q : Option Value → Heap → List Loc → Prop} {U U' : State} {a0 : Array Value}
/-- from U the walk comes to its return, and what it leaves is Q -/
def Go (p : Program) (e : Env) (below : List Frame) (s : State) (ce sl : Nat) (Q : Option Value → Heap → List Loc → Prop) (U : State) : Prop :=
  ∃ s₂ o, Steps p.tables e below U s₂ ∧ s₂.status = .running ∧ Ended s₂ below o ∧ ∃ v L, o = .returned v ∧ Q v s₂.heap L ∧ FrameEnd s o s₂ L ce sl
theorem Go.via (h : ∀ t, Steps p.tables e below U' t → Steps p.tables e below U t) (g : Go p e below s ce sl Q U') : Go p e below s ce sl Q U := by
  obtain ⟨s₂, o, h1, h2⟩ := g
  exact ⟨s₂, o, h _ h1, h2⟩
theorem Go.cast {g g' : JFrame} (q : g = g') (k : Go p e below s ce sl Q (T.setTop g')) : Go p e below s ce sl Q (T.setTop g) := q ▸ k
/-- the contract of a body: called with as', over the heap h0, it returns and leaves Q -/
def Meets (l : Launch) (Z : State) (y : MethodName) (bytes : ByteArray) (maxL : Nat) (rt : Option FieldType) (ws : List Jvm.Cond) (rm : Room) (as' : Array Value) (h0 : Heap) (Q : Option Value → Heap → List Loc → Prop) : Prop :=
  MetFree l y (head1 (Jvm.Cond.code y bytes maxL rt :: ws) rm) (fun a U => a = as' ∧ Z.Warmed39 U.vm ∧ U.heap = h0) (fun _ _ _ _ _ => True) (fun _ U o U' => ∃ v L, o = .returned v ∧ Q v U'.heap L ∧ FrameEnd U o U' L rm.cells rm.slots)
theorem meets_of {y : MethodName} {bytes : ByteArray} {maxL : Nat} {rt : Option FieldType} {ws : List Jvm.Cond} {rm : Room} {as' : Array Value} (hpl : plainFor y = true)
    (body : ∀ p e s m below meth c s₁, Stand p l e rm s m as' below meth c s₁ [] 0 0 → p.tables.exec = Jvm.exec → Z.Warmed39 s.vm → c.code = bytes → c.maxLocals = maxL → meth.sig.returnType = rt → meth.locks = false → s.vm.findClass y.cls = some m.cls → meth.name = y.name → s₁.heap = h0 →
      Go p e below s rm.cells rm.slots Q (s₁.setTop (entryFrame m as' maxL))) : Meets l Z y bytes maxL rt ws rm as' h0 Q := by
  refine MetFree.of_bodySF hpl hisR ?_
  intro p e s m args below meth c s₁ Bd hml hP hK
  obtain ⟨rfl, hZ, hh⟩ := hP
  exact body p e s m below meth c s₁ (Stand.of_body Bd) Bd.exec hZ Bd.bytes hml Bd.returns Bd.notSynchronized (findClass_of_methodNamed Bd.named) (name_of_methodNamed Bd.named Bd.method).1 (by rw [← hh, Bd.state]; rfl)
theorem go_ret (X : Stand p l e R s m args below meth c T locs cells slots) (hlk : meth.locks = false) {v : Option Value} (hv : meth.sig.returnType = none → v = none) (eT : T.heap = h) (hQ : Q v h locs) (hc : cells ≤ ce) (hs : slots ≤ sl)
    (st : ∀ fs, (∀ (f : JFrame) (acts : List Action), f.method = m → f.locked = none → f.entered = [] → (doReturn e (T.setTop f) acts v).1 = T.setFrames fs) → Steps p.tables e below U (T.setFrames fs)) : Go p e below s ce sl Q U := by
  obtain ⟨fs, hr, hrun, hended, hW, hsame⟩ := X.leave hv hlk
  exact ⟨_, _, st fs hr, hrun, hended, v, locs, rfl, (by show Q v T.heap locs; rw [eT]; exact hQ), ⟨_, rfl⟩, hW, hsame.mono hc hs⟩
theorem go_retN (X : Stand p l e R s m args below meth c T locs cells slots) (hx : p.tables.exec = Jvm.exec) (hlk : meth.locks = false) {t : FieldType} (hret : meth.sig.returnType = some t) (ht : t = .boolean ∨ t = .byte ∨ t = .char ∨ t = .short) {pc : Nat} {Ls : Array Slot} {z : Int32} {rest : List Value}
    (hd : decode c.code pc = .ok (.ireturn, 1)) (eT : T.heap = h) (hQ : Q (some (.int (nar t z))) h locs) (hc : cells ≤ ce) (hs : slots ≤ sl) : Go p e below s ce sl Q (T.setTop (mkF m pc Ls (.int z :: rest))) :=
  go_ret X hlk (fun h => by rw [hret] at h; cases h) eT hQ hc hs (fun fs hr => retN X hx hret ht hd hr)
theorem go_retI (X : Stand p l e R s m args below meth c T locs cells slots) (hx : p.tables.exec = Jvm.exec) (hlk : meth.locks = false) (hret : meth.sig.returnType = some .int) {pc : Nat} {Ls : Array Slot} {z : Int32} {rest : List Value}
    (hd : decode c.code pc = .ok (.ireturn, 1)) (eT : T.heap = h) (hQ : Q (some (.int z)) h locs) (hc : cells ≤ ce) (hs : slots ≤ sl) : Go p e below s ce sl Q (T.setTop (mkF m pc Ls (.int z :: rest))) :=
  go_ret X hlk (fun h => by rw [hret] at h; cases h) eT hQ hc hs (fun fs hr => retOut X hx hret rfl (Or.inl ⟨rfl, Or.inl rfl, z, rfl⟩) hd hr)
theorem go_retJ (X : Stand p l e R s m args below meth c T locs cells slots) (hx : p.tables.exec = Jvm.exec) (hlk : meth.locks = false) (hret : meth.sig.returnType = some .long) {pc : Nat} {Ls : Array Slot} {z : Int64} {rest : List Value}
    (hd : decode c.code pc = .ok (.lreturn, 1)) (eT : T.heap = h) (hQ : Q (some (.long z)) h locs) (hc : cells ≤ ce) (hs : slots ≤ sl) : Go p e below s ce sl Q (T.setTop (mkF m pc Ls (.long z :: rest))) :=
  go_ret X hlk (fun h => by rw [hret] at h; cases h) eT hQ hc hs (fun fs hr => retOut X hx hret rfl (Or.inr (Or.inl ⟨rfl, rfl, z, rfl⟩)) hd hr)
theorem go_retA (X : Stand p l e R s m args below meth c T locs cells slots) (hx : p.tables.exec = Jvm.exec) (hlk : meth.locks = false) {t : FieldType} (hret : meth.sig.returnType = some t) (ht : t.isReference = true) {pc : Nat} {Ls : Array Slot} {w : Value} (hw : w.isRef = true) (hn : narrow t w = w) {rest : List Value}
    (hd : decode c.code pc = .ok (.areturn, 1)) (eT : T.heap = h) (hQ : Q (some w) h locs) (hc : cells ≤ ce) (hs : slots ≤ sl) : Go p e below s ce sl Q (T.setTop (mkF m pc Ls (w :: rest))) :=
  go_ret X hlk (fun h => by rw [hret] at h; cases h) eT hQ hc hs (fun fs hr => retOut X hx hret hn (Or.inr (Or.inr (Or.inr (Or.inr ⟨rfl, ht, hw⟩)))) hd hr)
theorem go_retV (X : Stand p l e R s m args below meth c T locs cells slots) (hx : p.tables.exec = Jvm.exec) (hlk : meth.locks = false) (hret : meth.sig.returnType = none) {pc : Nat} {Ls : Array Slot}
    (hd : decode c.code pc = .ok (.return_, 1)) (eT : T.heap = h) (hQ : Q none h locs) (hc : cells ≤ ce) (hs : slots ≤ sl) : Go p e below s ce sl Q (T.setTop (mkF m pc Ls [])) :=
  go_ret X hlk (fun _ => rfl) eT hQ hc hs (fun fs hr => X.returnOut hx hret hd hr)
/-- it returned v, wrote nothing and made nothing -/
def PureR (v : Option Value) (h0 : Heap) : Option Value → Heap → List Loc → Prop := fun v' h L => v' = v ∧ h = h0 ∧ L = []
/-- a static method by its contract -/
theorem callSQ (X : Stand p l e R s m args below meth c T locs cells slots) (hx : p.tables.exec = Jvm.exec) (hZ : Z.Warmed39 s.vm) {own : String} {index : Nat} {y : MethodName} {bytes : ByteArray} {maxL : Nat} {rt : Option FieldType} {rm : Room}
    (hown : s.vm.findClass own = some m.cls) (w1 : (Jvm.Cond.methodLink own index y).before a0 Z = true) (w2 : (Jvm.Cond.static y).before a0 Z = true) (w3 : (Jvm.Cond.initialized y.cls).before a0 Z = true) (w4 : (Jvm.Cond.code y bytes maxL rt).before a0 Z = true)
    (hy : y.cls ≠ "java/lang/invoke/MethodHandle" ∧ y.cls ≠ "java/lang/invoke/VarHandle") {av : List Value} (hM : Meets l Z y bytes maxL rt [] rm av.toArray h Q) (eT : T.heap = h)
    {pc : Nat} {Ls : Array Slot} {rest : List Value} {ps : List FieldType} {r : Option FieldType} (hsize : Ls.size = c.maxLocals) (hp : parseMethodDescriptor y.desc = some ⟨ps, r⟩) (hlen : av.length = ps.length)
    (W : Nat) (hW : (rest.map fun v => v.category).sum ≤ W) (hf : rm.frames + 1 ≤ R.frames) (hl : W + (maxL + 11) + rm.locals ≤ R.locals) (hc : cells + rm.cells ≤ R.cells) (hs : slots + rm.slots ≤ R.slots) (hd : decode c.code pc = .ok (.invokestatic index, 3)) :
    ∃ v T' L, Stand p l e R s m args below meth c T' (locs ++ L) (cells + rm.cells) (slots + rm.slots) ∧ Q v T'.heap L ∧
      ∀ t, Steps p.tables e below (T'.setTop (mkF m (pc + 3) Ls (v.toList ++ rest))) t → Steps p.tables e below (T.setTop (mkF m pc Ls (av.reverse ++ rest))) t := by
  obtain ⟨v, _, ⟨T2, L2, k2, n2⟩, -, X2, ⟨Lc2, hQ2, l2, y2, z2⟩, st2⟩ := Jvm.LawKit.callS X hx (y := y) hown (mvT hZ w1) (mvT hZ w2) (mvT hZ w3) (mvT hZ w4) hy (backOf (W := W) hM hZ w4 w3 hf hl) (g := mkF m pc Ls (av.reverse ++ rest)) rfl hsize (argsL := av) (rest := rest) (lenOf hp hlen) rfl (by show 2 * 0 + _ ≤ _; rw [Nat.mul_zero, Nat.zero_add]; exact hW) hd (fun _ _ => ⟨rfl, eT, hc, hs⟩)
  dsimp only [Pt.U, Pt.locs, Pt.cells, Pt.slots] at X2 l2 y2 z2 st2 hQ2
  subst l2 y2 z2
  exact ⟨v, T2, Lc2, X2, hQ2, st2⟩
/-- a static method that writes and makes nothing -/
theorem callS0 (X : Stand p l e R s m args below meth c T locs cells slots) (hx : p.tables.exec = Jvm.exec) (hZ : Z.Warmed39 s.vm) {own : String} {index : Nat} {y : MethodName} {bytes : ByteArray} {maxL : Nat} {rt : Option FieldType} {fr lo : Nat} {v : Option Value}
    (hown : s.vm.findClass own = some m.cls) (w1 : (Jvm.Cond.methodLink own index y).before a0 Z = true) (w2 : (Jvm.Cond.static y).before a0 Z = true) (w3 : (Jvm.Cond.initialized y.cls).before a0 Z = true) (w4 : (Jvm.Cond.code y bytes maxL rt).before a0 Z = true)
    (hy : y.cls ≠ "java/lang/invoke/MethodHandle" ∧ y.cls ≠ "java/lang/invoke/VarHandle") {av : List Value} (hM : Meets l Z y bytes maxL rt [] ({ frames := fr, cells := 0, slots := 0, locals := lo } : Room) av.toArray h (PureR v h)) (eT : T.heap = h)
    {pc : Nat} {Ls : Array Slot} {rest : List Value} {ps : List FieldType} {r : Option FieldType} (hsize : Ls.size = c.maxLocals) (hp : parseMethodDescriptor y.desc = some ⟨ps, r⟩) (hlen : av.length = ps.length)
    (W : Nat) (hW : (rest.map fun v => v.category).sum ≤ W) (hf : fr + 1 ≤ R.frames) (hl : W + (maxL + 11) + lo ≤ R.locals) (hc : cells ≤ R.cells) (hs : slots ≤ R.slots) (hd : decode c.code pc = .ok (.invokestatic index, 3)) :
    ∃ T', Stand p l e R s m args below meth c T' locs cells slots ∧ T'.heap = h ∧
      ∀ t, Steps p.tables e below (T'.setTop (mkF m (pc + 3) Ls (v.toList ++ rest))) t → Steps p.tables e below (T.setTop (mkF m pc Ls (av.reverse ++ rest))) t := by
  obtain ⟨_, T2, _, X2, ⟨rfl, h2, rfl⟩, st2⟩ := callSQ X hx hZ hown w1 w2 w3 w4 hy hM eT hsize hp hlen W hW hf hl hc hs hd
  rw [List.append_nil] at X2
  exact ⟨T2, X2, h2, st2⟩
end OwnKit
section OwnKit2
variable {p : Program} {l : Launch} {e : Env} {R : Room} {s : State} {m : MethodId} {args : Array Value} {below : List Frame} {meth : Method} {c : Code} {T : State} {locs : List Loc} {cells slots : Nat} {Z : State} {h h0 : Heap} {ce sl : Nat} {Q : Option Value → Heap → List Loc → Prop} {U U' : State} {a0 : Array Value}
/-- an instance method by its contract, the resolved one being the selected one -/
theorem callVQ (X : Stand p l e R s m args below meth c T locs cells slots) (hx : p.tables.exec = Jvm.exec) (hZ : Z.Warmed39 s.vm) {own C : String} {index : Nat} {y : MethodName} {bytes : ByteArray} {maxL : Nat} {rt : Option FieldType} {rm : Room}
    (hown : s.vm.findClass own = some m.cls) (w1 : (Jvm.Cond.methodLink own index y).before a0 Z = true) (w2 : (Jvm.Cond.declares y).before a0 Z = true) (w3 : (Jvm.Cond.selects C y y).before a0 Z = true) (w5 : (Jvm.Cond.instanceMethod y).before a0 Z = true) (w6 : (Jvm.Cond.initialized y.cls).before a0 Z = true) (w4 : (Jvm.Cond.code y bytes maxL rt).before a0 Z = true)
    (hy : y.cls ≠ "java/lang/invoke/MethodHandle" ∧ y.cls ≠ "java/lang/invoke/VarHandle") {b : Addr} {av : List Value} (hE : Exa Z h b C) (hM : Meets l Z y bytes maxL rt [] rm (.ref b :: av).toArray h Q) (eT : T.heap = h)
    {pc : Nat} {Ls : Array Slot} {rest : List Value} {ps : List FieldType} {r : Option FieldType} (hsize : Ls.size = c.maxLocals) (hp : parseMethodDescriptor y.desc = some ⟨ps, r⟩) (hlen : av.length = ps.length)
    (W : Nat) (hW : (rest.map fun v => v.category).sum ≤ W) (hf : rm.frames + 1 ≤ R.frames) (hl : W + (maxL + 11) + rm.locals ≤ R.locals) (hc : cells + rm.cells ≤ R.cells) (hs : slots + rm.slots ≤ R.slots) (hd : decode c.code pc = .ok (.invokevirtual index, 3)) :
    ∃ v T' L, Stand p l e R s m args below meth c T' (locs ++ L) (cells + rm.cells) (slots + rm.slots) ∧ Q v T'.heap L ∧
      ∀ t, Steps p.tables e below (T'.setTop (mkF m (pc + 3) Ls (v.toList ++ rest))) t → Steps p.tables e below (T.setTop (mkF m pc Ls (av.reverse ++ .ref b :: rest))) t := by
  obtain ⟨cq, kq, qa, qb, qc⟩ := isOf hZ eT hE
  obtain ⟨v, _, ⟨T2, L2, k2, n2⟩, -, X2, ⟨Lc2, hQ2, l2, y2, z2⟩, st2⟩ := X.virtualBack hx (y := y) (z := y) hown (mvT hZ w1) (mvT hZ w2) (notFace_of_selects (args := #[]) (mvT hZ w3)) (mvT hZ w3) (mvT hZ w5) hy (backOf (W := W) hM hZ w4 w6 hf hl) qa qc (g := mkF m pc Ls (av.reverse ++ .ref b :: rest)) rfl hsize (Steps.refl _) (argsL := av) (rest := rest) (lenOf hp hlen) rfl (by show 2 * 0 + _ ≤ _; rw [Nat.mul_zero, Nat.zero_add]; exact hW) hd (fun _ _ => ⟨rfl, eT, hc, hs⟩)
  dsimp only [Pt.U, Pt.locs, Pt.cells, Pt.slots] at X2 l2 y2 z2 st2 hQ2
  subst l2 y2 z2
  exact ⟨v, T2, Lc2, X2, hQ2, fun t k => st2.trans k⟩
theorem callV0 (X : Stand p l e R s m args below meth c T locs cells slots) (hx : p.tables.exec = Jvm.exec) (hZ : Z.Warmed39 s.vm) {own C : String} {index : Nat} {y : MethodName} {bytes : ByteArray} {maxL : Nat} {rt : Option FieldType} {fr lo : Nat} {v : Option Value}
    (hown : s.vm.findClass own = some m.cls) (w1 : (Jvm.Cond.methodLink own index y).before a0 Z = true) (w2 : (Jvm.Cond.declares y).before a0 Z = true) (w3 : (Jvm.Cond.selects C y y).before a0 Z = true) (w5 : (Jvm.Cond.instanceMethod y).before a0 Z = true) (w6 : (Jvm.Cond.initialized y.cls).before a0 Z = true) (w4 : (Jvm.Cond.code y bytes maxL rt).before a0 Z = true)
    (hy : y.cls ≠ "java/lang/invoke/MethodHandle" ∧ y.cls ≠ "java/lang/invoke/VarHandle") {b : Addr} {av : List Value} (hE : Exa Z h b C) (hM : Meets l Z y bytes maxL rt [] ({ frames := fr, cells := 0, slots := 0, locals := lo } : Room) (.ref b :: av).toArray h (PureR v h)) (eT : T.heap = h)
    {pc : Nat} {Ls : Array Slot} {rest : List Value} {ps : List FieldType} {r : Option FieldType} (hsize : Ls.size = c.maxLocals) (hp : parseMethodDescriptor y.desc = some ⟨ps, r⟩) (hlen : av.length = ps.length)
    (W : Nat) (hW : (rest.map fun v => v.category).sum ≤ W) (hf : fr + 1 ≤ R.frames) (hl : W + (maxL + 11) + lo ≤ R.locals) (hc : cells ≤ R.cells) (hs : slots ≤ R.slots) (hd : decode c.code pc = .ok (.invokevirtual index, 3)) :
    ∃ T', Stand p l e R s m args below meth c T' locs cells slots ∧ T'.heap = h ∧
      ∀ t, Steps p.tables e below (T'.setTop (mkF m (pc + 3) Ls (v.toList ++ rest))) t → Steps p.tables e below (T.setTop (mkF m pc Ls (av.reverse ++ .ref b :: rest))) t := by
  obtain ⟨_, T2, _, X2, ⟨rfl, h2, rfl⟩, st2⟩ := callVQ X hx hZ hown w1 w2 w3 w5 w6 w4 hy hE hM eT hsize hp hlen W hW hf hl hc hs hd
  rw [List.append_nil] at X2
  exact ⟨T2, X2, h2, st2⟩
/-- a constructor by its contract -/
theorem callIQ (X : Stand p l e R s m args below meth c T locs cells slots) (hx : p.tables.exec = Jvm.exec) (hZ : Z.Warmed39 s.vm) {own : String} {index : Nat} {y : MethodName} {bytes : ByteArray} {maxL : Nat} {rm : Room} (hy1 : y.name = "<init>")
    (hown : s.vm.findClass own = some m.cls) (w1 : (Jvm.Cond.methodLink own index y).before a0 Z = true) (w5 : (Jvm.Cond.instanceMethod y).before a0 Z = true) (w6 : (Jvm.Cond.initialized y.cls).before a0 Z = true) (w4 : (Jvm.Cond.code y bytes maxL none).before a0 Z = true)
    (hy : y.cls ≠ "java/lang/invoke/MethodHandle" ∧ y.cls ≠ "java/lang/invoke/VarHandle") {b : Addr} {av : List Value} (hM : Meets l Z y bytes maxL none [] rm (.ref b :: av).toArray h Q) (eT : T.heap = h)
    {pc : Nat} {Ls : Array Slot} {rest : List Value} {ps : List FieldType} {r : Option FieldType} (hsize : Ls.size = c.maxLocals) (hp : parseMethodDescriptor y.desc = some ⟨ps, r⟩) (hlen : av.length = ps.length)
    (W : Nat) (hW : (rest.map fun v => v.category).sum ≤ W) (hf : rm.frames + 1 ≤ R.frames) (hl : W + (maxL + 11) + rm.locals ≤ R.locals) (hc : cells + rm.cells ≤ R.cells) (hs : slots + rm.slots ≤ R.slots) (hd : decode c.code pc = .ok (.invokespecial index, 3)) :
    ∃ v T' L, Stand p l e R s m args below meth c T' (locs ++ L) (cells + rm.cells) (slots + rm.slots) ∧ Q v T'.heap L ∧
      ∀ t, Steps p.tables e below (T'.setTop (mkF m (pc + 3) Ls (v.toList ++ rest))) t → Steps p.tables e below (T.setTop (mkF m pc Ls (av.reverse ++ .ref b :: rest))) t := by
  obtain ⟨v, _, ⟨T2, L2, k2, n2⟩, -, X2, ⟨Lc2, hQ2, l2, y2, z2⟩, st2⟩ := X.specialBack hx (y := y) hy1 hown (mvT hZ w1) (mvT hZ w5) (mvT hZ w4) hy (backOf (W := W) hM hZ w4 w6 hf hl) (g := mkF m pc Ls (av.reverse ++ .ref b :: rest)) rfl hsize (Steps.refl _) (a := b) (argsL := av) (rest := rest) (lenOf hp hlen) rfl (by show 2 * 0 + _ ≤ _; rw [Nat.mul_zero, Nat.zero_add]; exact hW) hd (fun _ _ => ⟨rfl, eT, hc, hs⟩)
  dsimp only [Pt.U, Pt.locs, Pt.cells, Pt.slots] at X2 l2 y2 z2 st2 hQ2
  subst l2 y2 z2
  exact ⟨v, T2, Lc2, X2, hQ2, fun t k => st2.trans k⟩
end OwnKit2
theorem own_k0 (m : MethodId) (x0 : Int64) (x1 : Int64) : entryFrame m #[(.long x0), (.long x1)] 4 = mkF m 0 #[.val (.long x0), .second, .val (.long x1), .second] [] := by first | (simp [entryFrame, mkF, argsToLocals, Value.category]; done) | rfl
theorem own_k1 : decode jdk_29_method_66_code 0 = .ok (.lload_n 0, 1) := by decide +kernel
theorem own_k2 : decode jdk_29_method_66_code 1 = .ok (.lload_n 2, 1) := by decide +kernel
theorem own_k3 : decode jdk_29_method_66_code 2 = .ok (.lcmp, 1) := by decide +kernel
theorem own_k4 : decode jdk_29_method_66_code 3 = .ok (.ifCond .lt 7, 3) := by decide +kernel
theorem own_k5 : decode jdk_29_method_66_code 10 = .ok (.lload_n 2, 1) := by decide +kernel
theorem own_k6 : decode jdk_29_method_66_code 11 = .ok (.lreturn, 1) := by decide +kernel
theorem own_k7 : decode jdk_29_method_66_code 6 = .ok (.lload_n 0, 1) := by decide +kernel
theorem own_k8 : decode jdk_29_method_66_code 7 = .ok (.goto 4, 3) := by decide +kernel
def own_f1 (x0 : Int64) (x1 : Int64) : Int64 := (if (lcmpW x0 x1) < (0 : Int32) then x1 else x0)
set_option maxRecDepth 65536 in
set_option maxHeartbeats 40000000 in
theorem own_rm1 (l : Launch) (Z : State) (a0 : Array Value) (hw : ∀ d ∈ tables_1, d.before a0 Z = true) (ws : List Jvm.Cond) (x0 : Int64) (x1 : Int64) (h0 : Heap) : Meets l Z (⟨"java/lang/Math", "max", "(JJ)J"⟩ : MethodName) jdk_29_method_66_code 4 (some .long) ws ({ frames := 0, cells := 0, slots := 0, locals := 0 } : Room) #[(.long x0), (.long x1)] h0 (PureR (some (.long (own_f1 x0 x1))) h0) := by
  refine meets_of (Jvm.Free.JP.mathPlain rfl (by decide +kernel)) ?_
  intro p e s m below meth c s₁ X0 hx hZ hby hml hret hlk hown hnm e0
  replace hml : c.maxLocals = 4 := hml
  replace hown : s.vm.findClass "java/lang/Math" = some m.cls := hown
  refine Go.cast (own_k0 m x0 x1) ?_
  refine Go.via (U' := s₁.setTop (mkF m 1 #[.val (.long x0), .second, .val (.long x1), .second] [(.long x0)])) (fun tG kG => XS.lloadN X0.here hx rfl (hb hby own_k1) rfl kG) ?_
  refine Go.via (U' := s₁.setTop (mkF m 2 #[.val (.long x0), .second, .val (.long x1), .second] [(.long x1), (.long x0)])) (fun tG kG => XS.lloadN X0.here hx rfl (hb hby own_k2) rfl kG) ?_
  refine Go.via (U' := s₁.setTop (mkF m 3 #[.val (.long x0), .second, .val (.long x1), .second] [(.int (lcmpW x0 x1))])) (fun tG kG => XS.lcmp X0.here hx rfl (hb hby own_k3) rfl kG) ?_
  by_cases hc3 : (lcmpW x0 x1) < (0 : Int32)
  · refine Go.via (U' := s₁.setTop (mkF m 10 #[.val (.long x0), .second, .val (.long x1), .second] [])) (fun tG kG => XS.ifYes X0.here hx rfl (pc0 := 3) (pc' := 10) rfl (hb hby own_k4) rfl ((if0 _ _).trans (tlt hc3).1) (by decide) (by decide) kG) ?_
    refine Go.via (U' := s₁.setTop (mkF m 11 #[.val (.long x0), .second, .val (.long x1), .second] [(.long x1)])) (fun tG kG => XS.lloadN X0.here hx rfl (hb hby own_k5) rfl kG) ?_
    exact go_retJ X0 hx hlk hret (hb hby own_k6) e0 ⟨(congrArg (fun z => some (Value.long z)) (show x1 = (own_f1 x0 x1) from by unfold own_f1; simp only [if_pos hc3])), rfl, rfl⟩ (by decide) (by decide)
  · refine Go.via (U' := s₁.setTop (mkF m 6 #[.val (.long x0), .second, .val (.long x1), .second] [])) (fun tG kG => XS.ifNo X0.here hx rfl (hb hby own_k4) rfl ((if0 _ _).trans (flt hc3).1) kG) ?_
    refine Go.via (U' := s₁.setTop (mkF m 7 #[.val (.long x0), .second, .val (.long x1), .second] [(.long x0)])) (fun tG kG => XS.lloadN X0.here hx rfl (hb hby own_k7) rfl kG) ?_
    refine Go.via (U' := s₁.setTop (mkF m 11 #[.val (.long x0), .second, .val (.long x1), .second] [(.long x0)])) (fun tG kG => XS.goto X0.here hx rfl (pc0 := 7) (pc' := 11) rfl (hb hby own_k8) (by decide) (by decide) kG) ?_
    exact go_retJ X0 hx hlk hret (hb hby own_k6) e0 ⟨(congrArg (fun z => some (Value.long z)) (show x0 = (own_f1 x0 x1) from by unfold own_f1; simp only [if_neg hc3])), rfl, rfl⟩ (by decide) (by decide)
theorem own_k9 (m : MethodId) (x0 : Int32) (x1 : Int32) : entryFrame m #[(.int x0), (.int x1)] 2 = mkF m 0 #[.val (.int x0), .val (.int x1)] [] := by first | (simp [entryFrame, mkF, argsToLocals, Value.category]; done) | rfl
theorem own_k10 : decode jdk_29_method_65_code 0 = .ok (.iload_n 0, 1) := by decide +kernel
theorem own_k11 : decode jdk_29_method_65_code 1 = .ok (.iload_n 1, 1) := by decide +kernel
theorem own_k12 : decode jdk_29_method_65_code 2 = .ok (.if_icmp .lt 7, 3) := by decide +kernel
theorem own_k13 : decode jdk_29_method_65_code 9 = .ok (.iload_n 1, 1) := by decide +kernel
theorem own_k14 : decode jdk_29_method_65_code 10 = .ok (.ireturn, 1) := by decide +kernel
theorem own_k15 : decode jdk_29_method_65_code 5 = .ok (.iload_n 0, 1) := by decide +kernel
theorem own_k16 : decode jdk_29_method_65_code 6 = .ok (.goto 4, 3) := by decide +kernel
def own_f2 (x0 : Int32) (x1 : Int32) : Int32 := (if x0 < x1 then x1 else x0)
set_option maxRecDepth 65536 in
set_option maxHeartbeats 40000000 in
theorem own_rm2 (l : Launch) (Z : State) (a0 : Array Value) (hw : ∀ d ∈ tables_1, d.before a0 Z = true) (ws : List Jvm.Cond) (x0 : Int32) (x1 : Int32) (h0 : Heap) : Meets l Z (⟨"java/lang/Math", "max", "(II)I"⟩ : MethodName) jdk_29_method_65_code 2 (some .int) ws ({ frames := 0, cells := 0, slots := 0, locals := 0 } : Room) #[(.int x0), (.int x1)] h0 (PureR (some (.int (own_f2 x0 x1))) h0) := by
  refine meets_of (Jvm.Free.JP.mathPlain rfl (by decide +kernel)) ?_
  intro p e s m below meth c s₁ X0 hx hZ hby hml hret hlk hown hnm e0
  replace hml : c.maxLocals = 2 := hml
  replace hown : s.vm.findClass "java/lang/Math" = some m.cls := hown
  refine Go.cast (own_k9 m x0 x1) ?_
  refine Go.via (U' := s₁.setTop (mkF m 1 #[.val (.int x0), .val (.int x1)] [(.int x0)])) (fun tG kG => XS.iloadN X0.here hx rfl (hb hby own_k10) rfl kG) ?_
  refine Go.via (U' := s₁.setTop (mkF m 2 #[.val (.int x0), .val (.int x1)] [(.int x1), (.int x0)])) (fun tG kG => XS.iloadN X0.here hx rfl (hb hby own_k11) rfl kG) ?_
  by_cases hc2 : x0 < x1
  · refine Go.via (U' := s₁.setTop (mkF m 9 #[.val (.int x0), .val (.int x1)] [])) (fun tG kG => XS.icmpYes X0.here hx rfl (pc0 := 2) (pc' := 9) rfl (hb hby own_k12) rfl (tlt hc2).1 (by decide) (by decide) kG) ?_
    refine Go.via (U' := s₁.setTop (mkF m 10 #[.val (.int x0), .val (.int x1)] [(.int x1)])) (fun tG kG => XS.iloadN X0.here hx rfl (hb hby own_k13) rfl kG) ?_
    exact go_retI X0 hx hlk hret (hb hby own_k14) e0 ⟨(congrArg (fun z => some (Value.int z)) (show x1 = (own_f2 x0 x1) from by unfold own_f2; simp only [if_pos hc2])), rfl, rfl⟩ (by decide) (by decide)
  · refine Go.via (U' := s₁.setTop (mkF m 5 #[.val (.int x0), .val (.int x1)] [])) (fun tG kG => XS.icmpNo X0.here hx rfl (hb hby own_k12) rfl (flt hc2).1 kG) ?_
    refine Go.via (U' := s₁.setTop (mkF m 6 #[.val (.int x0), .val (.int x1)] [(.int x0)])) (fun tG kG => XS.iloadN X0.here hx rfl (hb hby own_k15) rfl kG) ?_
    refine Go.via (U' := s₁.setTop (mkF m 10 #[.val (.int x0), .val (.int x1)] [(.int x0)])) (fun tG kG => XS.goto X0.here hx rfl (pc0 := 6) (pc' := 10) rfl (hb hby own_k16) (by decide) (by decide) kG) ?_
    exact go_retI X0 hx hlk hret (hb hby own_k14) e0 ⟨(congrArg (fun z => some (Value.int z)) (show x0 = (own_f2 x0 x1) from by unfold own_f2; simp only [if_neg hc2])), rfl, rfl⟩ (by decide) (by decide)
theorem own_f1ge (x : Int64) : 1 ≤ (own_f1 (1 : Int64) x).toInt := by
  have e1 : (1 : Int64).toInt = 1 := rfl
  unfold own_f1
  by_cases a : (1 : Int64) < x
  · rw [if_pos ((lw_lt _ _).mpr a)]; have := Int64.lt_iff_toInt_lt.mp a; omega
  · rw [if_neg (fun q => a ((lw_lt _ _).mp q))]; omega
theorem own_f2ge (x : Int32) : 1 ≤ (own_f2 (1 : Int32) x).toInt := by
  have e1 : (1 : Int32).toInt = 1 := rfl
  unfold own_f2
  by_cases a : (1 : Int32) < x
  · rw [if_pos a]; have := Int32.lt_iff_toInt_lt.mp a; omega
  · rw [if_neg a]; omega
theorem own_hp (x : Int64) : ¬ ((lcmpW (own_f1 (1 : Int64) x) (1 : Int64)) < (0 : Int32)) := by
  rw [lw_lt, Int64.lt_iff_toInt_lt, show (1 : Int64).toInt = 1 from rfl]
  have := own_f1ge x
  omega
theorem own_hs (x : Int32) : ¬ ((own_f2 (1 : Int32) x) < (1 : Int32)) := by
  rw [Int32.lt_iff_toInt_lt, show (1 : Int32).toInt = 1 from rfl]
  have := own_f2ge x
  omega
theorem own_nz (x : Int32) : (own_f2 (1 : Int32) x).toInt64 ≠ 0 := by
  intro h
  have h' := Int64.toInt_inj.mpr h
  rw [c_i2l, show (0 : Int64).toInt = 0 from rfl] at h'
  have := own_f2ge x
  omega
theorem own_k17 (m : MethodId) (a : Addr) (x0 : Int64) (x1 : Int32) : entryFrame m #[(.ref a), (.long x0), (.int x1)] 4 = mkF m 0 #[.val (.ref a), .val (.long x0), .second, .val (.int x1)] [] := by first | (simp [entryFrame, mkF, argsToLocals, Value.category]; done) | rfl
theorem own_k18 : decode prog_37_method_1_code 0 = .ok (.aload_n 0, 1) := by decide +kernel
theorem own_k19 : decode prog_37_method_1_code 1 = .ok (.invokespecial 1, 3) := by decide +kernel
theorem own_k20 : decode prog_37_method_1_code 4 = .ok (.lload_n 1, 1) := by decide +kernel
theorem own_k21 : decode prog_37_method_1_code 5 = .ok (.lconst 1, 1) := by decide +kernel
theorem own_k22 : decode prog_37_method_1_code 6 = .ok (.lcmp, 1) := by decide +kernel
theorem own_k23 : decode prog_37_method_1_code 7 = .ok (.ifCond .lt 8, 3) := by decide +kernel
theorem own_k24 : decode prog_37_method_1_code 10 = .ok (.iload_n 3, 1) := by decide +kernel
theorem own_k25 : decode prog_37_method_1_code 11 = .ok (.iconst 1, 1) := by decide +kernel
theorem own_k26 : decode prog_37_method_1_code 12 = .ok (.if_icmp .ge 18, 3) := by decide +kernel
theorem own_k27 : decode prog_37_method_1_code 30 = .ok (.aload_n 0, 1) := by decide +kernel
theorem own_k28 : decode prog_37_method_1_code 31 = .ok (.lload_n 1, 1) := by decide +kernel
theorem own_k29 : decode prog_37_method_1_code 32 = .ok (.putfield 16, 3) := by decide +kernel
theorem own_k30 : decode prog_37_method_1_code 35 = .ok (.aload_n 0, 1) := by decide +kernel
theorem own_k31 : decode prog_37_method_1_code 36 = .ok (.iload_n 3, 1) := by decide +kernel
theorem own_k32 : decode prog_37_method_1_code 37 = .ok (.putfield 22, 3) := by decide +kernel
theorem own_k33 : decode prog_37_method_1_code 40 = .ok (.return_, 1) := by decide +kernel
theorem own_k34 : plainName "com/example/orgwarden/orgwarden/core/store/Paging" = true := by first | (simp [plainName, overriddenIn]; done) | decide +kernel
set_option maxRecDepth 65536 in
set_option maxHeartbeats 40000000 in
theorem own_rm3 (l : Launch) (Z : State) (a0 : Array Value) (hw : ∀ d ∈ tables_1, d.before a0 Z = true) (ws : List Jvm.Cond) (a : Addr) (x0 : Int64) (x1 : Int32) (h0 : Heap) (n0 : Nat) (hn0 : n0 ≤ h0.size) (E_a : Exa Z h0 a "com/example/orgwarden/orgwarden/core/store/Paging") (F_a_m_nPage : Fld Z h0 a "com/example/orgwarden/orgwarden/core/store/Paging" "m_nPage" "J" (.long (0 : Int64))) (F_a_m_nPageSize : Fld Z h0 a "com/example/orgwarden/orgwarden/core/store/Paging" "m_nPageSize" "I" (.int (0 : Int32))) (g_a : n0 ≤ a) (hp1 : ¬ ((lcmpW x0 (1 : Int64)) < (0 : Int32))) (hp2 : ¬ (x1 < (1 : Int32))) : Meets l Z (⟨"com/example/orgwarden/orgwarden/core/store/Paging", "<init>", "(JI)V"⟩ : MethodName) prog_37_method_1_code 4 none ws ({ frames := 1, cells := 0, slots := 0, locals := 12 } : Room) #[(.ref a), (.long x0), (.int x1)] h0 (fun v h L => v = none ∧ Fr n0 L ∧ Keep h0 h [a] ∧ Exa Z h a "com/example/orgwarden/orgwarden/core/store/Paging" ∧ Fld Z h a "com/example/orgwarden/orgwarden/core/store/Paging" "m_nPage" "J" (.long x0) ∧ Fld Z h a "com/example/orgwarden/orgwarden/core/store/Paging" "m_nPageSize" "I" (.int x1)) := by
  refine meets_of (plainFor_of_name own_k34) ?_
  intro p e s m below meth c s₁ X0 hx hZ hby hml hret hlk hown hnm e0
  replace hml : c.maxLocals = 4 := hml
  replace hown : s.vm.findClass "com/example/orgwarden/orgwarden/core/store/Paging" = some m.cls := hown
  refine Go.cast (own_k17 m a x0 x1) ?_
  have N0 := Fr.nil n0
  have K0 : Keep h0 h0 [a] := Keep.refl h0 _
  refine Go.via (U' := s₁.setTop (mkF m 1 #[.val (.ref a), .val (.long x0), .second, .val (.int x1)] [(.ref a)])) (fun tG kG => XS.aloadN X0.here hx rfl (hb hby own_k18) rfl rfl kG) ?_
  obtain ⟨T1, X1, e1, st1⟩ := initO X0 hx hZ hown (hw _ (List.mem_of_getElem? (i := 15) rfl)) (hw _ (List.mem_of_getElem? (i := 16) rfl)) (hw _ (List.mem_of_getElem? (i := 17) rfl)) e0 (g := (mkF m 1 #[.val (.ref a), .val (.long x0), .second, .val (.int x1)] [(.ref a)])) rfl (by rw [hml]; rfl) rfl (hb hby own_k19) (by decide) (W := 0) (by show 2 * 0 + _ ≤ _; exact Nat.le_of_eq rfl) (by decide)
  refine Go.via (U' := T1.setTop (mkF m 4 #[.val (.ref a), .val (.long x0), .second, .val (.int x1)] [])) (fun tG kG => st1 tG kG) ?_
  refine Go.via (U' := T1.setTop (mkF m 5 #[.val (.ref a), .val (.long x0), .second, .val (.int x1)] [(.long x0)])) (fun tG kG => XS.lloadN X1.here hx rfl (hb hby own_k20) rfl kG) ?_
  refine Go.via (U' := T1.setTop (mkF m 6 #[.val (.ref a), .val (.long x0), .second, .val (.int x1)] [(.long (1 : Int64)), (.long x0)])) (fun tG kG => XS.lconst X1.here hx rfl (hb hby own_k21) kG) ?_
  refine Go.via (U' := T1.setTop (mkF m 7 #[.val (.ref a), .val (.long x0), .second, .val (.int x1)] [(.int (lcmpW x0 (1 : Int64)))])) (fun tG kG => XS.lcmp X1.here hx rfl (hb hby own_k22) rfl kG) ?_
  have hc7 : ¬ ((lcmpW x0 (1 : Int64)) < (0 : Int32)) := hp1
  refine Go.via (U' := T1.setTop (mkF m 10 #[.val (.ref a), .val (.long x0), .second, .val (.int x1)] [])) (fun tG kG => XS.ifNo X1.here hx rfl (hb hby own_k23) rfl ((if0 _ _).trans (flt hc7).1) kG) ?_
  refine Go.via (U' := T1.setTop (mkF m 11 #[.val (.ref a), .val (.long x0), .second, .val (.int x1)] [(.int x1)])) (fun tG kG => XS.iloadN X1.here hx rfl (hb hby own_k24) rfl kG) ?_
  refine Go.via (U' := T1.setTop (mkF m 12 #[.val (.ref a), .val (.long x0), .second, .val (.int x1)] [(.int (1 : Int32)), (.int x1)])) (fun tG kG => XS.iconst X1.here hx rfl (hb hby own_k25) kG) ?_
  have hc12 : ¬ (x1 < (1 : Int32)) := hp2
  refine Go.via (U' := T1.setTop (mkF m 30 #[.val (.ref a), .val (.long x0), .second, .val (.int x1)] [])) (fun tG kG => XS.icmpYes X1.here hx rfl (pc0 := 12) (pc' := 30) rfl (hb hby own_k26) rfl (flt hc12).2.1 (by decide) (by decide) kG) ?_
  refine Go.via (U' := T1.setTop (mkF m 31 #[.val (.ref a), .val (.long x0), .second, .val (.int x1)] [(.ref a)])) (fun tG kG => XS.aloadN X1.here hx rfl (hb hby own_k27) rfl rfl kG) ?_
  refine Go.via (U' := T1.setTop (mkF m 32 #[.val (.ref a), .val (.long x0), .second, .val (.int x1)] [(.long x0), (.ref a)])) (fun tG kG => XS.lloadN X1.here hx rfl (hb hby own_k28) rfl kG) ?_
  obtain ⟨T2, h2, X2, e2, W2, st2⟩ := putF X1 hx hZ hown (host := "") (Or.inl (hw _ (List.mem_of_getElem? (i := 18) rfl))) Via.refl e1 F_a_m_nPage E_a (Or.inr ⟨(hw _ (List.mem_of_getElem? (i := 19) rfl)), rfl, hnm⟩) (hw _ (List.mem_of_getElem? (i := 10) rfl)) (ty := .long) (by decide) rfl rfl (g := (mkF m 32 #[.val (.ref a), .val (.long x0), .second, .val (.int x1)] [(.long x0), (.ref a)])) rfl rfl (hb hby own_k29)
  have f3 := E_a.wr W2
  have f4 := F_a_m_nPage.same W2
  have f5 := F_a_m_nPageSize.other W2 (Or.inr (slot_ne (Or.inr (hw _ (List.mem_of_getElem? (i := 21) rfl))) (Or.inr (hw _ (List.mem_of_getElem? (i := 19) rfl))) (by decide) (t := .int) (t' := .long) (by decide) (by decide)))
  have K2 := K0.wr W2 (Or.inl (List.mem_of_getElem? (i := 0) rfl))
  have N2 := Fr.snoc X2 N0 g_a
  have Z2 := Nat.le_trans hn0 (Keep.of_wr W2).1
  refine Go.via (U' := T2.setTop (mkF m 35 #[.val (.ref a), .val (.long x0), .second, .val (.int x1)] [])) (fun tG kG => st2 tG kG) ?_
  refine Go.via (U' := T2.setTop (mkF m 36 #[.val (.ref a), .val (.long x0), .second, .val (.int x1)] [(.ref a)])) (fun tG kG => XS.aloadN X2.here hx rfl (hb hby own_k30) rfl rfl kG) ?_
  refine Go.via (U' := T2.setTop (mkF m 37 #[.val (.ref a), .val (.long x0), .second, .val (.int x1)] [(.int x1), (.ref a)])) (fun tG kG => XS.iloadN X2.here hx rfl (hb hby own_k31) rfl kG) ?_
  obtain ⟨T6, h6, X6, e6, W6, st6⟩ := putF X2 hx hZ hown (host := "") (Or.inl (hw _ (List.mem_of_getElem? (i := 20) rfl))) Via.refl e2 f5 f3 (Or.inr ⟨(hw _ (List.mem_of_getElem? (i := 21) rfl)), rfl, hnm⟩) (hw _ (List.mem_of_getElem? (i := 10) rfl)) (ty := .int) (by decide) rfl rfl (g := (mkF m 37 #[.val (.ref a), .val (.long x0), .second, .val (.int x1)] [(.int x1), (.ref a)])) rfl rfl (hb hby own_k32)
  have f7 := f3.wr W6
  have f8 := f4.other W6 (Or.inr (slot_ne (Or.inr (hw _ (List.mem_of_getElem? (i := 19) rfl))) (Or.inr (hw _ (List.mem_of_getElem? (i := 21) rfl))) (by decide) (t := .long) (t' := .int) (by decide) (by decide)))
  have f9 := f5.same W6
  have K6 := K2.wr W6 (Or.inl (List.mem_of_getElem? (i := 0) rfl))
  have N6 := Fr.snoc X6 N2 g_a
  have Z6 := Nat.le_trans Z2 (Keep.of_wr W6).1
  refine Go.via (U' := T6.setTop (mkF m 40 #[.val (.ref a), .val (.long x0), .second, .val (.int x1)] [])) (fun tG kG => st6 tG kG) ?_
  exact go_retV X6 hx hlk hret (hb hby own_k33) e6 ⟨rfl, N6, K6, f7, f8, f9⟩ (by decide) (by decide)
theorem own_k35 (m : MethodId) (a : Addr) : entryFrame m #[(.ref a)] 3 = mkF m 0 #[.val (.ref a), .unset, .unset] [] := by first | (simp [entryFrame, mkF, argsToLocals, Value.category]; done) | rfl
theorem own_k36 : decode prog_37_method_4_code 0 = .ok (.aload_n 0, 1) := by decide +kernel
theorem own_k37 : decode prog_37_method_4_code 1 = .ok (.getfield 16, 3) := by decide +kernel
theorem own_k38 : decode prog_37_method_4_code 4 = .ok (.lconst 1, 1) := by decide +kernel
theorem own_k39 : decode prog_37_method_4_code 5 = .ok (.lsub, 1) := by decide +kernel
theorem own_k40 : decode prog_37_method_4_code 6 = .ok (.lstore_n 1, 1) := by decide +kernel
theorem own_k41 : decode prog_37_method_4_code 7 = .ok (.lload_n 1, 1) := by decide +kernel
theorem own_k42 : decode prog_37_method_4_code 8 = .ok (.ldc2_w 28, 3) := by decide +kernel
theorem own_k43 : decode prog_37_method_4_code 11 = .ok (.aload_n 0, 1) := by decide +kernel
theorem own_k44 : decode prog_37_method_4_code 12 = .ok (.getfield 22, 3) := by decide +kernel
theorem own_k45 : decode prog_37_method_4_code 15 = .ok (.i2l, 1) := by decide +kernel
theorem own_k46 : decode prog_37_method_4_code 16 = .ok (.ldiv, 1) := by decide +kernel
theorem own_k47 : decode prog_37_method_4_code 17 = .ok (.lcmp, 1) := by decide +kernel
theorem own_k48 : decode prog_37_method_4_code 18 = .ok (.ifCond .le 9, 3) := by decide +kernel
theorem own_k49 : decode prog_37_method_4_code 21 = .ok (.ldc2_w 28, 3) := by decide +kernel
theorem own_k50 : decode prog_37_method_4_code 24 = .ok (.goto 10, 3) := by decide +kernel
theorem own_k51 : decode prog_37_method_4_code 34 = .ok (.lreturn, 1) := by decide +kernel
theorem own_k52 : decode prog_37_method_4_code 27 = .ok (.lload_n 1, 1) := by decide +kernel
theorem own_k53 : decode prog_37_method_4_code 28 = .ok (.aload_n 0, 1) := by decide +kernel
theorem own_k54 : decode prog_37_method_4_code 29 = .ok (.getfield 22, 3) := by decide +kernel
theorem own_k55 : decode prog_37_method_4_code 32 = .ok (.i2l, 1) := by decide +kernel
theorem own_k56 : decode prog_37_method_4_code 33 = .ok (.lmul, 1) := by decide +kernel
def own_f5 (u : Int64) (w : Int32) : Int64 := (if (0 : Int32) < (lcmpW (u - (1 : Int64)) ((9223372036854775807 : Int64) / (w.toInt64))) then (9223372036854775807 : Int64) else ((u - (1 : Int64)) * (w.toInt64)))
set_option maxRecDepth 65536 in
set_option maxHeartbeats 40000000 in
theorem own_rm5 (l : Launch) (Z : State) (a0 : Array Value) (hw : ∀ d ∈ tables_1, d.before a0 Z = true) (ws : List Jvm.Cond) (a : Addr) (u : Int64) (w : Int32) (h0 : Heap) (E_a : Exa Z h0 a "com/example/orgwarden/orgwarden/core/store/Paging") (F_a_m_nPage : Fld Z h0 a "com/example/orgwarden/orgwarden/core/store/Paging" "m_nPage" "J" (.long u)) (F_a_m_nPageSize : Fld Z h0 a "com/example/orgwarden/orgwarden/core/store/Paging" "m_nPageSize" "I" (.int w)) (hnz : w.toInt64 ≠ 0) : Meets l Z (⟨"com/example/orgwarden/orgwarden/core/store/Paging", "getOffset", "()J"⟩ : MethodName) prog_37_method_4_code 3 (some .long) ws ({ frames := 0, cells := 0, slots := 0, locals := 0 } : Room) #[(.ref a)] h0 (PureR (some (.long (own_f5 u w))) h0) := by
  refine meets_of (plainFor_of_name own_k34) ?_
  intro p e s m below meth c s₁ X0 hx hZ hby hml hret hlk hown hnm e0
  replace hml : c.maxLocals = 3 := hml
  replace hown : s.vm.findClass "com/example/orgwarden/orgwarden/core/store/Paging" = some m.cls := hown
  refine Go.cast (own_k35 m a) ?_
  refine Go.via (U' := s₁.setTop (mkF m 1 #[.val (.ref a), .unset, .unset] [(.ref a)])) (fun tG kG => XS.aloadN X0.here hx rfl (hb hby own_k36) rfl rfl kG) ?_
  obtain ⟨T1, X1, e1, st1⟩ := getF X0 hx hZ hown (host := "") (Or.inl (hw _ (List.mem_of_getElem? (i := 18) rfl))) Via.refl e0 F_a_m_nPage (g := (mkF m 1 #[.val (.ref a), .unset, .unset] [(.ref a)])) rfl rfl (hb hby own_k37)
  refine Go.via (U' := T1.setTop (mkF m 4 #[.val (.ref a), .unset, .unset] [(.long u)])) (fun tG kG => st1 tG kG) ?_
  refine Go.via (U' := T1.setTop (mkF m 5 #[.val (.ref a), .unset, .unset] [(.long (1 : Int64)), (.long u)])) (fun tG kG => XS.lconst X1.here hx rfl (hb hby own_k38) kG) ?_
  refine Go.via (U' := T1.setTop (mkF m 6 #[.val (.ref a), .unset, .unset] [(.long (u - (1 : Int64)))])) (fun tG kG => XS.lsub X1.here hx rfl (hb hby own_k39) rfl kG) ?_
  refine Go.via (U' := T1.setTop (mkF m 7 #[.val (.ref a), .val (.long (u - (1 : Int64))), .second] [])) (fun tG kG => XS.lstoreN X1.here hx rfl (hb hby own_k40) rfl (l' := #[.val (.ref a), .val (.long (u - (1 : Int64))), .second]) rfl kG) ?_
  refine Go.via (U' := T1.setTop (mkF m 8 #[.val (.ref a), .val (.long (u - (1 : Int64))), .second] [(.long (u - (1 : Int64)))])) (fun tG kG => XS.lloadN X1.here hx rfl (hb hby own_k41) rfl kG) ?_
  refine Go.via (U' := T1.setTop (mkF m 11 #[.val (.ref a), .val (.long (u - (1 : Int64))), .second] [(.long (9223372036854775807 : Int64)), (.long (u - (1 : Int64)))])) (fun tG kG => X1.ldc2Long hx hown (mvT hZ (hw _ (List.mem_of_getElem? (i := 27) rfl))) (g := (mkF m 8 #[.val (.ref a), .val (.long (u - (1 : Int64))), .second] [(.long (u - (1 : Int64)))])) rfl (hb hby own_k42) tG kG) ?_
  refine Go.via (U' := T1.setTop (mkF m 12 #[.val (.ref a), .val (.long (u - (1 : Int64))), .second] [(.ref a), (.long (9223372036854775807 : Int64)), (.long (u - (1 : Int64)))])) (fun tG kG => XS.aloadN X1.here hx rfl (hb hby own_k43) rfl rfl kG) ?_
  obtain ⟨T2, X2, e2, st2⟩ := getF X1 hx hZ hown (host := "") (Or.inl (hw _ (List.mem_of_getElem? (i := 20) rfl))) Via.refl e1 F_a_m_nPageSize (g := (mkF m 12 #[.val (.ref a), .val (.long (u - (1 : Int64))), .second] [(.ref a), (.long (9223372036854775807 : Int64)), (.long (u - (1 : Int64)))])) rfl rfl (hb hby own_k44)
  refine Go.via (U' := T2.setTop (mkF m 15 #[.val (.ref a), .val (.long (u - (1 : Int64))), .second] [(.int w), (.long (9223372036854775807 : Int64)), (.long (u - (1 : Int64)))])) (fun tG kG => st2 tG kG) ?_
  refine Go.via (U' := T2.setTop (mkF m 16 #[.val (.ref a), .val (.long (u - (1 : Int64))), .second] [(.long (w.toInt64)), (.long (9223372036854775807 : Int64)), (.long (u - (1 : Int64)))])) (fun tG kG => XS.i2l X2.here hx rfl (hb hby own_k45) rfl kG) ?_
  refine Go.via (U' := T2.setTop (mkF m 17 #[.val (.ref a), .val (.long (u - (1 : Int64))), .second] [(.long ((9223372036854775807 : Int64) / (w.toInt64))), (.long (u - (1 : Int64)))])) (fun tG kG => XS.ldiv X2.here hx rfl (hb hby own_k46) rfl hnz kG) ?_
  refine Go.via (U' := T2.setTop (mkF m 18 #[.val (.ref a), .val (.long (u - (1 : Int64))), .second] [(.int (lcmpW (u - (1 : Int64)) ((9223372036854775807 : Int64) / (w.toInt64))))])) (fun tG kG => XS.lcmp X2.here hx rfl (hb hby own_k47) rfl kG) ?_
  by_cases hc18 : (0 : Int32) < (lcmpW (u - (1 : Int64)) ((9223372036854775807 : Int64) / (w.toInt64)))
  · refine Go.via (U' := T2.setTop (mkF m 21 #[.val (.ref a), .val (.long (u - (1 : Int64))), .second] [])) (fun tG kG => XS.ifNo X2.here hx rfl (hb hby own_k48) rfl ((if0 _ _).trans (tlt hc18).2.2.2) kG) ?_
    refine Go.via (U' := T2.setTop (mkF m 24 #[.val (.ref a), .val (.long (u - (1 : Int64))), .second] [(.long (9223372036854775807 : Int64))])) (fun tG kG => X2.ldc2Long hx hown (mvT hZ (hw _ (List.mem_of_getElem? (i := 27) rfl))) (g := (mkF m 21 #[.val (.ref a), .val (.long (u - (1 : Int64))), .second] [])) rfl (hb hby own_k49) tG kG) ?_
    refine Go.via (U' := T2.setTop (mkF m 34 #[.val (.ref a), .val (.long (u - (1 : Int64))), .second] [(.long (9223372036854775807 : Int64))])) (fun tG kG => XS.goto X2.here hx rfl (pc0 := 24) (pc' := 34) rfl (hb hby own_k50) (by decide) (by decide) kG) ?_
    exact go_retJ X2 hx hlk hret (hb hby own_k51) e2 ⟨(congrArg (fun z => some (Value.long z)) (show (9223372036854775807 : Int64) = (own_f5 u w) from by unfold own_f5; simp only [if_pos hc18])), rfl, rfl⟩ (by decide) (by decide)
  · refine Go.via (U' := T2.setTop (mkF m 27 #[.val (.ref a), .val (.long (u - (1 : Int64))), .second] [])) (fun tG kG => XS.ifYes X2.here hx rfl (pc0 := 18) (pc' := 27) rfl (hb hby own_k48) rfl ((if0 _ _).trans (flt hc18).2.2.2) (by decide) (by decide) kG) ?_
    refine Go.via (U' := T2.setTop (mkF m 28 #[.val (.ref a), .val (.long (u - (1 : Int64))), .second] [(.long (u - (1 : Int64)))])) (fun tG kG => XS.lloadN X2.here hx rfl (hb hby own_k52) rfl kG) ?_
    refine Go.via (U' := T2.setTop (mkF m 29 #[.val (.ref a), .val (.long (u - (1 : Int64))), .second] [(.ref a), (.long (u - (1 : Int64)))])) (fun tG kG => XS.aloadN X2.here hx rfl (hb hby own_k53) rfl rfl kG) ?_
    obtain ⟨T3, X3, e3, st3⟩ := getF X2 hx hZ hown (host := "") (Or.inl (hw _ (List.mem_of_getElem? (i := 20) rfl))) Via.refl e2 F_a_m_nPageSize (g := (mkF m 29 #[.val (.ref a), .val (.long (u - (1 : Int64))), .second] [(.ref a), (.long (u - (1 : Int64)))])) rfl rfl (hb hby own_k54)
    refine Go.via (U' := T3.setTop (mkF m 32 #[.val (.ref a), .val (.long (u - (1 : Int64))), .second] [(.int w), (.long (u - (1 : Int64)))])) (fun tG kG => st3 tG kG) ?_
    refine Go.via (U' := T3.setTop (mkF m 33 #[.val (.ref a), .val (.long (u - (1 : Int64))), .second] [(.long (w.toInt64)), (.long (u - (1 : Int64)))])) (fun tG kG => XS.i2l X3.here hx rfl (hb hby own_k55) rfl kG) ?_
    refine Go.via (U' := T3.setTop (mkF m 34 #[.val (.ref a), .val (.long (u - (1 : Int64))), .second] [(.long ((u - (1 : Int64)) * (w.toInt64)))])) (fun tG kG => XS.lmul X3.here hx rfl (hb hby own_k56) rfl kG) ?_
    exact go_retJ X3 hx hlk hret (hb hby own_k51) e3 ⟨(congrArg (fun z => some (Value.long z)) (show ((u - (1 : Int64)) * (w.toInt64)) = (own_f5 u w) from by unfold own_f5; simp only [if_neg hc18])), rfl, rfl⟩ (by decide) (by decide)
theorem own_k57 (m : MethodId) (x0 : Int64) (x1 : Int32) (x2 : Int32) (x3 : Int32) : entryFrame m #[(.long x0), (.int x1), (.int x2), (.int x3)] maxLocals = mkF m 0 #[.val (.long x0), .second, .val (.int x1), .val (.int x2), .val (.int x3), .unset, .unset, .unset, .unset, .unset, .unset, .unset, .unset, .unset, .unset, .unset] [] := by first | (simp [entryFrame, mkF, argsToLocals, Value.category, maxLocals]; done) | rfl
theorem own_k58 : parseMethodDescriptor "(JJ)J" = some ⟨[.long, .long], some .long⟩ := by decide +kernel
theorem own_k59 : parseMethodDescriptor "(II)I" = some ⟨[.int, .int], some .int⟩ := by decide +kernel
theorem own_k60 : parseMethodDescriptor "(JI)V" = some ⟨[.long, .int], none⟩ := by decide +kernel
theorem own_k61 : parseMethodDescriptor "()J" = some ⟨[], some .long⟩ := by decide +kernel
def own_w0_0 (x0 : Int64) (x1 : Int32) (x2 : Int32) (x3 : Int32) : Int64 := (own_f5 (own_f1 (1 : Int64) (own_ushrL (x0 &&& (9223372036854775807 : Int64)) (x1 &&& (63 : Int32)))) (own_f2 (1 : Int32) (own_ushr (x2 &&& (2147483647 : Int32)) (x3 &&& (31 : Int32)))))
def own_w0_1 (x0 : Int64) (x1 : Int32) (x2 : Int32) (x3 : Int32) : Int64 := (((own_f1 (1 : Int64) (own_ushrL (x0 &&& (9223372036854775807 : Int64)) (x1 &&& (63 : Int32)))) - (1 : Int64)) * ((own_f2 (1 : Int32) (own_ushr (x2 &&& (2147483647 : Int32)) (x3 &&& (31 : Int32)))).toInt64))
def own_j0_120_s0 (x0 : Int64) (x1 : Int32) (x2 : Int32) (x3 : Int32) : Int32 := (if (lcmpW ((own_w0_1 x0 x1 x2 x3) / ((own_f2 (1 : Int32) (own_ushr (x2 &&& (2147483647 : Int32)) (x3 &&& (31 : Int32)))).toInt64)) ((own_f1 (1 : Int64) (own_ushrL (x0 &&& (9223372036854775807 : Int64)) (x1 &&& (63 : Int32)))) - (1 : Int64))) = (0 : Int32) then (0 : Int32) else (1 : Int32))
def own_w0_3 (x0 : Int64) (x1 : Int32) (x2 : Int32) (x3 : Int32) : Int64 := ((own_w0_0 x0 x1 x2 x3) - ((own_w0_0 x0 x1 x2 x3) / ((own_f2 (1 : Int32) (own_ushr (x2 &&& (2147483647 : Int32)) (x3 &&& (31 : Int32)))).toInt64)) * ((own_f2 (1 : Int32) (own_ushr (x2 &&& (2147483647 : Int32)) (x3 &&& (31 : Int32)))).toInt64))
theorem own_k62 : plainName "com/example/orgwarden/orgwarden/core/store/PagingGetOffsetPinLaw" = true := by first | (simp [plainName, overriddenIn]; done) | decide +kernel
def own_f0 (x0 : Int64) (x1 : Int32) (x2 : Int32) (x3 : Int32) : Int32 := (if (lcmpW (own_w0_0 x0 x1 x2 x3) (9223372036854775807 : Int64)) = (0 : Int32) then (if (own_j0_120_s0 x0 x1 x2 x3) = (0 : Int32) then (if (lcmpW (own_w0_1 x0 x1 x2 x3) (9223372036854775807 : Int64)) = (0 : Int32) then (1 : Int32) else (0 : Int32)) else (1 : Int32)) else (if (lcmpW (own_w0_0 x0 x1 x2 x3) (0 : Int64)) < (0 : Int32) then (0 : Int32) else (if (lcmpW (own_w0_3 x0 x1 x2 x3) (0 : Int64)) = (0 : Int32) then (if (lcmpW ((own_w0_0 x0 x1 x2 x3) / ((own_f2 (1 : Int32) (own_ushr (x2 &&& (2147483647 : Int32)) (x3 &&& (31 : Int32)))).toInt64)) ((own_f1 (1 : Int64) (own_ushrL (x0 &&& (9223372036854775807 : Int64)) (x1 &&& (63 : Int32)))) - (1 : Int64))) = (0 : Int32) then (1 : Int32) else (0 : Int32)) else (0 : Int32))))
set_option maxRecDepth 65536 in
set_option maxHeartbeats 40000000 in
theorem own_rm0 (l : Launch) (Z : State) (a0 : Array Value) (hw : ∀ d ∈ tables_1, d.before a0 Z = true) (ws : List Jvm.Cond) (x0 : Int64) (x1 : Int32) (x2 : Int32) (x3 : Int32) (h0 : Heap) (n0 : Nat) (hn0 : n0 ≤ h0.size) : Meets l Z x code maxLocals ret ws room_1 #[(.long x0), (.int x1), (.int x2), (.int x3)] h0 (fun v h L => v = some (.int (own_f0 x0 x1 x2 x3)) ∧ Fr n0 L) := by
  refine meets_of (plainFor_of_name own_k62) ?_
  intro p e s m below meth c s₁ X0 hx hZ hby hml hret hlk hown hnm e0
  replace hml : c.maxLocals = 16 := hml
  replace hown : s.vm.findClass "com/example/orgwarden/orgwarden/core/store/PagingGetOffsetPinLaw" = some m.cls := hown
  refine Go.cast (own_k57 m x0 x1 x2 x3) ?_
  have N0 := Fr.nil n0
  have K0 : Keep h0 h0 [] := Keep.refl h0 _
  refine Go.via (U' := s₁.setTop (mkF m 1 #[.val (.long x0), .second, .val (.int x1), .val (.int x2), .val (.int x3), .unset, .unset, .unset, .unset, .unset, .unset, .unset, .unset, .unset, .unset, .unset] [(.long (1 : Int64))])) (fun tG kG => XS.lconst X0.here hx rfl (hb hby at_0) kG) ?_
  refine Go.via (U' := s₁.setTop (mkF m 2 #[.val (.long x0), .second, .val (.int x1), .val (.int x2), .val (.int x3), .unset, .unset, .unset, .unset, .unset, .unset, .unset, .unset, .unset, .unset, .unset] [(.long x0), (.long (1 : Int64))])) (fun tG kG => XS.lloadN X0.here hx rfl (hb hby at_1) rfl kG) ?_
  refine Go.via (U' := s₁.setTop (mkF m 5 #[.val (.long x0), .second, .val (.int x1), .val (.int x2), .val (.int x3), .unset, .unset, .unset, .unset, .unset, .unset, .unset, .unset, .unset, .unset, .unset] [(.long (9223372036854775807 : Int64)), (.long x0), (.long (1 : Int64))])) (fun tG kG => X0.ldc2Long hx hown (mvT hZ (hw _ (List.mem_of_getElem? (i := 0) rfl))) (g := (mkF m 2 #[.val (.long x0), .second, .val (.int x1), .val (.int x2), .val (.int x3), .unset, .unset, .unset, .unset, .unset, .unset, .unset, .unset, .unset, .unset, .unset] [(.long x0), (.long (1 : Int64))])) rfl (hb hby at_2) tG kG) ?_
  refine Go.via (U' := s₁.setTop (mkF m 6 #[.val (.long x0), .second, .val (.int x1), .val (.int x2), .val (.int x3), .unset, .unset, .unset, .unset, .unset, .unset, .unset, .unset, .unset, .unset, .unset] [(.long (x0 &&& (9223372036854775807 : Int64))), (.long (1 : Int64))])) (fun tG kG => XS.land X0.here hx rfl (hb hby at_5) rfl kG) ?_
  refine Go.via (U' := s₁.setTop (mkF m 7 #[.val (.long x0), .second, .val (.int x1), .val (.int x2), .val (.int x3), .unset, .unset, .unset, .unset, .unset, .unset, .unset, .unset, .unset, .unset, .unset] [(.int x1), (.long (x0 &&& (9223372036854775807 : Int64))), (.long (1 : Int64))])) (fun tG kG => XS.iloadN X0.here hx rfl (hb hby at_6) rfl kG) ?_
  refine Go.via (U' := s₁.setTop (mkF m 9 #[.val (.long x0), .second, .val (.int x1), .val (.int x2), .val (.int x3), .unset, .unset, .unset, .unset, .unset, .unset, .unset, .unset, .unset, .unset, .unset] [(.int (63 : Int32)), (.int x1), (.long (x0 &&& (9223372036854775807 : Int64))), (.long (1 : Int64))])) (fun tG kG => XS.bipush X0.here hx rfl (hb hby at_7) kG) ?_
  refine Go.via (U' := s₁.setTop (mkF m 10 #[.val (.long x0), .second, .val (.int x1), .val (.int x2), .val (.int x3), .unset, .unset, .unset, .unset, .unset, .unset, .unset, .unset, .unset, .unset, .unset] [(.int (x1 &&& (63 : Int32))), (.long (x0 &&& (9223372036854775807 : Int64))), (.long (1 : Int64))])) (fun tG kG => XS.iand X0.here hx rfl (hb hby at_9) rfl kG) ?_
  refine Go.via (U' := s₁.setTop (mkF m 11 #[.val (.long x0), .second, .val (.int x1), .val (.int x2), .val (.int x3), .unset, .unset, .unset, .unset, .unset, .unset, .unset, .unset, .unset, .unset, .unset] [(.long (own_ushrL (x0 &&& (9223372036854775807 : Int64)) (x1 &&& (63 : Int32)))), (.long (1 : Int64))])) (fun tG kG => XS.lushr X0.here hx rfl (hb hby at_10) rfl kG) ?_
  obtain ⟨T1, X1, e1, st1⟩ := callS0 X0 hx hZ hown (hw _ (List.mem_of_getElem? (i := 1) rfl)) (hw _ (List.mem_of_getElem? (i := 2) rfl)) (hw _ (List.mem_of_getElem? (i := 3) rfl)) (hw _ (List.mem_of_getElem? (i := 4) rfl)) (by decide) (av := [(.long (1 : Int64)), (.long (own_ushrL (x0 &&& (9223372036854775807 : Int64)) (x1 &&& (63 : Int32))))]) (own_rm1 l Z a0 hw [] (1 : Int64) (own_ushrL (x0 &&& (9223372036854775807 : Int64)) (x1 &&& (63 : Int32)))  h0) e0 (pc := 11) (Ls := #[.val (.long x0), .second, .val (.int x1), .val (.int x2), .val (.int x3), .unset, .unset, .unset, .unset, .unset, .unset, .unset, .unset, .unset, .unset, .unset]) (rest := []) (by rw [hml]; rfl) own_k58 rfl 0 (Nat.le_of_eq rfl) (by decide) (by decide) (by decide) (by decide) (hb hby at_11)
  refine Go.via (U' := T1.setTop (mkF m 14 #[.val (.long x0), .second, .val (.int x1), .val (.int x2), .val (.int x3), .unset, .unset, .unset, .unset, .unset, .unset, .unset, .unset, .unset, .unset, .unset] [(.long (own_f1 (1 : Int64) (own_ushrL (x0 &&& (9223372036854775807 : Int64)) (x1 &&& (63 : Int32)))))])) (fun tG kG => st1 tG kG) ?_
  refine Go.via (U' := T1.setTop (mkF m 16 #[.val (.long x0), .second, .val (.int x1), .val (.int x2), .val (.int x3), .val (.long (own_f1 (1 : Int64) (own_ushrL (x0 &&& (9223372036854775807 : Int64)) (x1 &&& (63 : Int32))))), .second, .unset, .unset, .unset, .unset, .unset, .unset, .unset, .unset, .unset] [])) (fun tG kG => XS.lstore X1.here hx rfl (hb hby at_14) rfl (l' := #[.val (.long x0), .second, .val (.int x1), .val (.int x2), .val (.int x3), .val (.long (own_f1 (1 : Int64) (own_ushrL (x0 &&& (9223372036854775807 : Int64)) (x1 &&& (63 : Int32))))), .second, .unset, .unset, .unset, .unset, .unset, .unset, .unset, .unset, .unset]) rfl kG) ?_
  refine Go.via (U' := T1.setTop (mkF m 17 #[.val (.long x0), .second, .val (.int x1), .val (.int x2), .val (.int x3), .val (.long (own_f1 (1 : Int64) (own_ushrL (x0 &&& (9223372036854775807 : Int64)) (x1 &&& (63 : Int32))))), .second, .unset, .unset, .unset, .unset, .unset, .unset, .unset, .unset, .unset] [(.int (1 : Int32))])) (fun tG kG => XS.iconst X1.here hx rfl (hb hby at_16) kG) ?_
  refine Go.via (U' := T1.setTop (mkF m 18 #[.val (.long x0), .second, .val (.int x1), .val (.int x2), .val (.int x3), .val (.long (own_f1 (1 : Int64) (own_ushrL (x0 &&& (9223372036854775807 : Int64)) (x1 &&& (63 : Int32))))), .second, .unset, .unset, .unset, .unset, .unset, .unset, .unset, .unset, .unset] [(.int x2), (.int (1 : Int32))])) (fun tG kG => XS.iloadN X1.here hx rfl (hb hby at_17) rfl kG) ?_
  refine Go.via (U' := T1.setTop (mkF m 20 #[.val (.long x0), .second, .val (.int x1), .val (.int x2), .val (.int x3), .val (.long (own_f1 (1 : Int64) (own_ushrL (x0 &&& (9223372036854775807 : Int64)) (x1 &&& (63 : Int32))))), .second, .unset, .unset, .unset, .unset, .unset, .unset, .unset, .unset, .unset] [(.int (2147483647 : Int32)), (.int x2), (.int (1 : Int32))])) (fun tG kG => X1.ldcInt hx hown (mvT hZ (hw _ (List.mem_of_getElem? (i := 5) rfl))) (g := (mkF m 18 #[.val (.long x0), .second, .val (.int x1), .val (.int x2), .val (.int x3), .val (.long (own_f1 (1 : Int64) (own_ushrL (x0 &&& (9223372036854775807 : Int64)) (x1 &&& (63 : Int32))))), .second, .unset, .unset, .unset, .unset, .unset, .unset, .unset, .unset, .unset] [(.int x2), (.int (1 : Int32))])) rfl (hb hby at_18) tG kG) ?_
  refine Go.via (U' := T1.setTop (mkF m 21 #[.val (.long x0), .second, .val (.int x1), .val (.int x2), .val (.int x3), .val (.long (own_f1 (1 : Int64) (own_ushrL (x0 &&& (9223372036854775807 : Int64)) (x1 &&& (63 : Int32))))), .second, .unset, .unset, .unset, .unset, .unset, .unset, .unset, .unset, .unset] [(.int (x2 &&& (2147483647 : Int32))), (.int (1 : Int32))])) (fun tG kG => XS.iand X1.here hx rfl (hb hby at_20) rfl kG) ?_
  refine Go.via (U' := T1.setTop (mkF m 23 #[.val (.long x0), .second, .val (.int x1), .val (.int x2), .val (.int x3), .val (.long (own_f1 (1 : Int64) (own_ushrL (x0 &&& (9223372036854775807 : Int64)) (x1 &&& (63 : Int32))))), .second, .unset, .unset, .unset, .unset, .unset, .unset, .unset, .unset, .unset] [(.int x3), (.int (x2 &&& (2147483647 : Int32))), (.int (1 : Int32))])) (fun tG kG => XS.iload X1.here hx rfl (hb hby at_21) rfl kG) ?_
  refine Go.via (U' := T1.setTop (mkF m 25 #[.val (.long x0), .second, .val (.int x1), .val (.int x2), .val (.int x3), .val (.long (own_f1 (1 : Int64) (own_ushrL (x0 &&& (9223372036854775807 : Int64)) (x1 &&& (63 : Int32))))), .second, .unset, .unset, .unset, .unset, .unset, .unset, .unset, .unset, .unset] [(.int (31 : Int32)), (.int x3), (.int (x2 &&& (2147483647 : Int32))), (.int (1 : Int32))])) (fun tG kG => XS.bipush X1.here hx rfl (hb hby at_23) kG) ?_
  refine Go.via (U' := T1.setTop (mkF m 26 #[.val (.long x0), .second, .val (.int x1), .val (.int x2), .val (.int x3), .val (.long (own_f1 (1 : Int64) (own_ushrL (x0 &&& (9223372036854775807 : Int64)) (x1 &&& (63 : Int32))))), .second, .unset, .unset, .unset, .unset, .unset, .unset, .unset, .unset, .unset] [(.int (x3 &&& (31 : Int32))), (.int (x2 &&& (2147483647 : Int32))), (.int (1 : Int32))])) (fun tG kG => XS.iand X1.here hx rfl (hb hby at_25) rfl kG) ?_
  refine Go.via (U' := T1.setTop (mkF m 27 #[.val (.long x0), .second, .val (.int x1), .val (.int x2), .val (.int x3), .val (.long (own_f1 (1 : Int64) (own_ushrL (x0 &&& (9223372036854775807 : Int64)) (x1 &&& (63 : Int32))))), .second, .unset, .unset, .unset, .unset, .unset, .unset, .unset, .unset, .unset] [(.int (own_ushr (x2 &&& (2147483647 : Int32)) (x3 &&& (31 : Int32)))), (.int (1 : Int32))])) (fun tG kG => XS.iushr X1.here hx rfl (hb hby at_26) rfl kG) ?_
  obtain ⟨T2, X2, e2, st2⟩ := callS0 X1 hx hZ hown (hw _ (List.mem_of_getElem? (i := 6) rfl)) (hw _ (List.mem_of_getElem? (i := 7) rfl)) (hw _ (List.mem_of_getElem? (i := 3) rfl)) (hw _ (List.mem_of_getElem? (i := 8) rfl)) (by decide) (av := [(.int (1 : Int32)), (.int (own_ushr (x2 &&& (2147483647 : Int32)) (x3 &&& (31 : Int32))))]) (own_rm2 l Z a0 hw [] (1 : Int32) (own_ushr (x2 &&& (2147483647 : Int32)) (x3 &&& (31 : Int32)))  h0) e1 (pc := 27) (Ls := #[.val (.long x0), .second, .val (.int x1), .val (.int x2), .val (.int x3), .val (.long (own_f1 (1 : Int64) (own_ushrL (x0 &&& (9223372036854775807 : Int64)) (x1 &&& (63 : Int32))))), .second, .unset, .unset, .unset, .unset, .unset, .unset, .unset, .unset, .unset]) (rest := []) (by rw [hml]; rfl) own_k59 rfl 0 (Nat.le_of_eq rfl) (by decide) (by decide) (by decide) (by decide) (hb hby at_27)
  refine Go.via (U' := T2.setTop (mkF m 30 #[.val (.long x0), .second, .val (.int x1), .val (.int x2), .val (.int x3), .val (.long (own_f1 (1 : Int64) (own_ushrL (x0 &&& (9223372036854775807 : Int64)) (x1 &&& (63 : Int32))))), .second, .unset, .unset, .unset, .unset, .unset, .unset, .unset, .unset, .unset] [(.int (own_f2 (1 : Int32) (own_ushr (x2 &&& (2147483647 : Int32)) (x3 &&& (31 : Int32)))))])) (fun tG kG => st2 tG kG) ?_
  refine Go.via (U' := T2.setTop (mkF m 32 #[.val (.long x0), .second, .val (.int x1), .val (.int x2), .val (.int x3), .val (.long (own_f1 (1 : Int64) (own_ushrL (x0 &&& (9223372036854775807 : Int64)) (x1 &&& (63 : Int32))))), .second, .val (.int (own_f2 (1 : Int32) (own_ushr (x2 &&& (2147483647 : Int32)) (x3 &&& (31 : Int32))))), .unset, .unset, .unset, .unset, .unset, .unset, .unset, .unset] [])) (fun tG kG => XS.istore X2.here hx rfl (hb hby at_30) rfl (l' := #[.val (.long x0), .second, .val (.int x1), .val (.int x2), .val (.int x3), .val (.long (own_f1 (1 : Int64) (own_ushrL (x0 &&& (9223372036854775807 : Int64)) (x1 &&& (63 : Int32))))), .second, .val (.int (own_f2 (1 : Int32) (own_ushr (x2 &&& (2147483647 : Int32)) (x3 &&& (31 : Int32))))), .unset, .unset, .unset, .unset, .unset, .unset, .unset, .unset]) rfl kG) ?_
  obtain ⟨T3, h3, X3, e3, E3, A3, D3, -, st3⟩ := newO X2 hx hZ hown (hw _ (List.mem_of_getElem? (i := 9) rfl)) (hw _ (List.mem_of_getElem? (i := 10) rfl)) (hw _ (List.mem_of_getElem? (i := 11) rfl)) e2 (g := (mkF m 32 #[.val (.long x0), .second, .val (.int x1), .val (.int x2), .val (.int x3), .val (.long (own_f1 (1 : Int64) (own_ushrL (x0 &&& (9223372036854775807 : Int64)) (x1 &&& (63 : Int32))))), .second, .val (.int (own_f2 (1 : Int32) (own_ushr (x2 &&& (2147483647 : Int32)) (x3 &&& (31 : Int32))))), .unset, .unset, .unset, .unset, .unset, .unset, .unset, .unset] [])) rfl (hb hby at_32) (by decide) (by decide)
  obtain ⟨b3, g3⟩ : ∃ z, z = h0.size := ⟨_, rfl⟩
  rw [← g3] at A3 D3 st3
  have g_b3 : n0 ≤ b3 := Nat.le_trans hn0 (Nat.le_of_eq g3.symm)
  have sz_b3 : h0.size ≤ b3 := Nat.le_trans K0.1 (Nat.le_of_eq g3.symm)
  have K3 := K0.ext E3
  have Z3 := Nat.le_trans hn0 E3.1
  have f4 : Fld Z h3 b3 "com/example/orgwarden/orgwarden/core/store/Paging" "m_nPage" "J" (.long (0 : Int64)) := D3 (Or.inr (hw _ (List.mem_of_getElem? (i := 19) rfl))) (ty := .long) (by decide)
  have f5 : Fld Z h3 b3 "com/example/orgwarden/orgwarden/core/store/Paging" "m_nPageSize" "I" (.int (0 : Int32)) := D3 (Or.inr (hw _ (List.mem_of_getElem? (i := 21) rfl))) (ty := .int) (by decide)
  refine Go.via (U' := T3.setTop (mkF m 35 #[.val (.long x0), .second, .val (.int x1), .val (.int x2), .val (.int x3), .val (.long (own_f1 (1 : Int64) (own_ushrL (x0 &&& (9223372036854775807 : Int64)) (x1 &&& (63 : Int32))))), .second, .val (.int (own_f2 (1 : Int32) (own_ushr (x2 &&& (2147483647 : Int32)) (x3 &&& (31 : Int32))))), .unset, .unset, .unset, .unset, .unset, .unset, .unset, .unset] [(.ref b3)])) (fun tG kG => st3 tG kG) ?_
  refine Go.via (U' := T3.setTop (mkF m 36 #[.val (.long x0), .second, .val (.int x1), .val (.int x2), .val (.int x3), .val (.long (own_f1 (1 : Int64) (own_ushrL (x0 &&& (9223372036854775807 : Int64)) (x1 &&& (63 : Int32))))), .second, .val (.int (own_f2 (1 : Int32) (own_ushr (x2 &&& (2147483647 : Int32)) (x3 &&& (31 : Int32))))), .unset, .unset, .unset, .unset, .unset, .unset, .unset, .unset] [(.ref b3), (.ref b3)])) (fun tG kG => XS.dup X3.here hx rfl (hb hby at_35) rfl rfl kG) ?_
  refine Go.via (U' := T3.setTop (mkF m 38 #[.val (.long x0), .second, .val (.int x1), .val (.int x2), .val (.int x3), .val (.long (own_f1 (1 : Int64) (own_ushrL (x0 &&& (9223372036854775807 : Int64)) (x1 &&& (63 : Int32))))), .second, .val (.int (own_f2 (1 : Int32) (own_ushr (x2 &&& (2147483647 : Int32)) (x3 &&& (31 : Int32))))), .unset, .unset, .unset, .unset, .unset, .unset, .unset, .unset] [(.long (own_f1 (1 : Int64) (own_ushrL (x0 &&& (9223372036854775807 : Int64)) (x1 &&& (63 : Int32))))), (.ref b3), (.ref b3)])) (fun tG kG => XS.lload X3.here hx rfl (hb hby at_36) rfl kG) ?_
  refine Go.via (U' := T3.setTop (mkF m 40 #[.val (.long x0), .second, .val (.int x1), .val (.int x2), .val (.int x3), .val (.long (own_f1 (1 : Int64) (own_ushrL (x0 &&& (9223372036854775807 : Int64)) (x1 &&& (63 : Int32))))), .second, .val (.int (own_f2 (1 : Int32) (own_ushr (x2 &&& (2147483647 : Int32)) (x3 &&& (31 : Int32))))), .unset, .unset, .unset, .unset, .unset, .unset, .unset, .unset] [(.int (own_f2 (1 : Int32) (own_ushr (x2 &&& (2147483647 : Int32)) (x3 &&& (31 : Int32))))), (.long (own_f1 (1 : Int64) (own_ushrL (x0 &&& (9223372036854775807 : Int64)) (x1 &&& (63 : Int32))))), (.ref b3), (.ref b3)])) (fun tG kG => XS.iload X3.here hx rfl (hb hby at_38) rfl kG) ?_
  obtain ⟨_, T6, L6, X6, ⟨rfl, N6q, K6q, f7, f8, f9⟩, st6⟩ := callIQ X3 hx hZ rfl hown (hw _ (List.mem_of_getElem? (i := 12) rfl)) (hw _ (List.mem_of_getElem? (i := 13) rfl)) (hw _ (List.mem_of_getElem? (i := 11) rfl)) (hw _ (List.mem_of_getElem? (i := 14) rfl)) (by decide) (b := b3) (av := [(.long (own_f1 (1 : Int64) (own_ushrL (x0 &&& (9223372036854775807 : Int64)) (x1 &&& (63 : Int32))))), (.int (own_f2 (1 : Int32) (own_ushr (x2 &&& (2147483647 : Int32)) (x3 &&& (31 : Int32)))))]) (own_rm3 l Z a0 hw [] b3 (own_f1 (1 : Int64) (own_ushrL (x0 &&& (9223372036854775807 : Int64)) (x1 &&& (63 : Int32)))) (own_f2 (1 : Int32) (own_ushr (x2 &&& (2147483647 : Int32)) (x3 &&& (31 : Int32))))  h3 n0 Z3 A3 f4 f5 g_b3 (own_hp _) (own_hs _)) e3 (pc := 40) (Ls := #[.val (.long x0), .second, .val (.int x1), .val (.int x2), .val (.int x3), .val (.long (own_f1 (1 : Int64) (own_ushrL (x0 &&& (9223372036854775807 : Int64)) (x1 &&& (63 : Int32))))), .second, .val (.int (own_f2 (1 : Int32) (own_ushr (x2 &&& (2147483647 : Int32)) (x3 &&& (31 : Int32))))), .unset, .unset, .unset, .unset, .unset, .unset, .unset, .unset]) (rest := [(.ref b3)]) (by rw [hml]; rfl) own_k60 rfl 1 (Nat.le_of_eq rfl) (by decide) (by decide) (by decide) (by decide) (hb hby at_40)
  have f10 := A3.keep K6q
  have N6 := Fr.app N0 N6q
  have Z6 := Nat.le_trans Z3 K6q.1
  have K6 := K3.trans K6q (allS (Or.inr sz_b3) all0)
  refine Go.via (U' := T6.setTop (mkF m 43 #[.val (.long x0), .second, .val (.int x1), .val (.int x2), .val (.int x3), .val (.long (own_f1 (1 : Int64) (own_ushrL (x0 &&& (9223372036854775807 : Int64)) (x1 &&& (63 : Int32))))), .second, .val (.int (own_f2 (1 : Int32) (own_ushr (x2 &&& (2147483647 : Int32)) (x3 &&& (31 : Int32))))), .unset, .unset, .unset, .unset, .unset, .unset, .unset, .unset] [(.ref b3)])) (fun tG kG => st6 tG kG) ?_
  refine Go.via (U' := T6.setTop (mkF m 45 #[.val (.long x0), .second, .val (.int x1), .val (.int x2), .val (.int x3), .val (.long (own_f1 (1 : Int64) (own_ushrL (x0 &&& (9223372036854775807 : Int64)) (x1 &&& (63 : Int32))))), .second, .val (.int (own_f2 (1 : Int32) (own_ushr (x2 &&& (2147483647 : Int32)) (x3 &&& (31 : Int32))))), .val (.ref b3), .unset, .unset, .unset, .unset, .unset, .unset, .unset] [])) (fun tG kG => XS.astore X6.here hx rfl (hb hby at_43) rfl rfl (l' := #[.val (.long x0), .second, .val (.int x1), .val (.int x2), .val (.int x3), .val (.long (own_f1 (1 : Int64) (own_ushrL (x0 &&& (9223372036854775807 : Int64)) (x1 &&& (63 : Int32))))), .second, .val (.int (own_f2 (1 : Int32) (own_ushr (x2 &&& (2147483647 : Int32)) (x3 &&& (31 : Int32))))), .val (.ref b3), .unset, .unset, .unset, .unset, .unset, .unset, .unset]) rfl kG) ?_
  refine Go.via (U' := T6.setTop (mkF m 47 #[.val (.long x0), .second, .val (.int x1), .val (.int x2), .val (.int x3), .val (.long (own_f1 (1 : Int64) (own_ushrL (x0 &&& (9223372036854775807 : Int64)) (x1 &&& (63 : Int32))))), .second, .val (.int (own_f2 (1 : Int32) (own_ushr (x2 &&& (2147483647 : Int32)) (x3 &&& (31 : Int32))))), .val (.ref b3), .unset, .unset, .unset, .unset, .unset, .unset, .unset] [(.ref b3)])) (fun tG kG => XS.aload X6.here hx rfl (hb hby at_45) rfl rfl kG) ?_
  obtain ⟨T11, X11, e11, st11⟩ := callV0 X6 hx hZ hown (hw _ (List.mem_of_getElem? (i := 22) rfl)) (hw _ (List.mem_of_getElem? (i := 23) rfl)) (hw _ (List.mem_of_getElem? (i := 25) rfl)) (hw _ (List.mem_of_getElem? (i := 24) rfl)) (hw _ (List.mem_of_getElem? (i := 11) rfl)) (hw _ (List.mem_of_getElem? (i := 26) rfl)) (by decide) (b := b3) (av := []) f7 (own_rm5 l Z a0 hw [] b3 (own_f1 (1 : Int64) (own_ushrL (x0 &&& (9223372036854775807 : Int64)) (x1 &&& (63 : Int32)))) (own_f2 (1 : Int32) (own_ushr (x2 &&& (2147483647 : Int32)) (x3 &&& (31 : Int32)))) T6.heap f7 f8 f9 (own_nz _)) rfl (pc := 47) (Ls := #[.val (.long x0), .second, .val (.int x1), .val (.int x2), .val (.int x3), .val (.long (own_f1 (1 : Int64) (own_ushrL (x0 &&& (9223372036854775807 : Int64)) (x1 &&& (63 : Int32))))), .second, .val (.int (own_f2 (1 : Int32) (own_ushr (x2 &&& (2147483647 : Int32)) (x3 &&& (31 : Int32))))), .val (.ref b3), .unset, .unset, .unset, .unset, .unset, .unset, .unset]) (rest := []) (by rw [hml]; rfl) own_k61 rfl 0 (Nat.le_of_eq rfl) (by decide) (by decide) (by decide) (by decide) (hb hby at_47)
  refine Go.via (U' := T11.setTop (mkF m 50 #[.val (.long x0), .second, .val (.int x1), .val (.int x2), .val (.int x3), .val (.long (own_f1 (1 : Int64) (own_ushrL (x0 &&& (9223372036854775807 : Int64)) (x1 &&& (63 : Int32))))), .second, .val (.int (own_f2 (1 : Int32) (own_ushr (x2 &&& (2147483647 : Int32)) (x3 &&& (31 : Int32))))), .val (.ref b3), .unset, .unset, .unset, .unset, .unset, .unset, .unset] [(.long (own_f5 (own_f1 (1 : Int64) (own_ushrL (x0 &&& (9223372036854775807 : Int64)) (x1 &&& (63 : Int32)))) (own_f2 (1 : Int32) (own_ushr (x2 &&& (2147483647 : Int32)) (x3 &&& (31 : Int32))))))])) (fun tG kG => st11 tG kG) ?_
  refine Go.via (U' := T11.setTop (mkF m 52 #[.val (.long x0), .second, .val (.int x1), .val (.int x2), .val (.int x3), .val (.long (own_f1 (1 : Int64) (own_ushrL (x0 &&& (9223372036854775807 : Int64)) (x1 &&& (63 : Int32))))), .second, .val (.int (own_f2 (1 : Int32) (own_ushr (x2 &&& (2147483647 : Int32)) (x3 &&& (31 : Int32))))), .val (.ref b3), .val (.long (own_w0_0 x0 x1 x2 x3)), .second, .unset, .unset, .unset, .unset, .unset] [])) (fun tG kG => XS.lstore X11.here hx rfl (hb hby at_50) rfl (l' := #[.val (.long x0), .second, .val (.int x1), .val (.int x2), .val (.int x3), .val (.long (own_f1 (1 : Int64) (own_ushrL (x0 &&& (9223372036854775807 : Int64)) (x1 &&& (63 : Int32))))), .second, .val (.int (own_f2 (1 : Int32) (own_ushr (x2 &&& (2147483647 : Int32)) (x3 &&& (31 : Int32))))), .val (.ref b3), .val (.long (own_w0_0 x0 x1 x2 x3)), .second, .unset, .unset, .unset, .unset, .unset]) rfl kG) ?_
  refine Go.via (U' := T11.setTop (mkF m 54 #[.val (.long x0), .second, .val (.int x1), .val (.int x2), .val (.int x3), .val (.long (own_f1 (1 : Int64) (own_ushrL (x0 &&& (9223372036854775807 : Int64)) (x1 &&& (63 : Int32))))), .second, .val (.int (own_f2 (1 : Int32) (own_ushr (x2 &&& (2147483647 : Int32)) (x3 &&& (31 : Int32))))), .val (.ref b3), .val (.long (own_w0_0 x0 x1 x2 x3)), .second, .unset, .unset, .unset, .unset, .unset] [(.long (own_f1 (1 : Int64) (own_ushrL (x0 &&& (9223372036854775807 : Int64)) (x1 &&& (63 : Int32)))))])) (fun tG kG => XS.lload X11.here hx rfl (hb hby at_52) rfl kG) ?_
  refine Go.via (U' := T11.setTop (mkF m 55 #[.val (.long x0), .second, .val (.int x1), .val (.int x2), .val (.int x3), .val (.long (own_f1 (1 : Int64) (own_ushrL (x0 &&& (9223372036854775807 : Int64)) (x1 &&& (63 : Int32))))), .second, .val (.int (own_f2 (1 : Int32) (own_ushr (x2 &&& (2147483647 : Int32)) (x3 &&& (31 : Int32))))), .val (.ref b3), .val (.long (own_w0_0 x0 x1 x2 x3)), .second, .unset, .unset, .unset, .unset, .unset] [(.long (1 : Int64)), (.long (own_f1 (1 : Int64) (own_ushrL (x0 &&& (9223372036854775807 : Int64)) (x1 &&& (63 : Int32)))))])) (fun tG kG => XS.lconst X11.here hx rfl (hb hby at_54) kG) ?_
  refine Go.via (U' := T11.setTop (mkF m 56 #[.val (.long x0), .second, .val (.int x1), .val (.int x2), .val (.int x3), .val (.long (own_f1 (1 : Int64) (own_ushrL (x0 &&& (9223372036854775807 : Int64)) (x1 &&& (63 : Int32))))), .second, .val (.int (own_f2 (1 : Int32) (own_ushr (x2 &&& (2147483647 : Int32)) (x3 &&& (31 : Int32))))), .val (.ref b3), .val (.long (own_w0_0 x0 x1 x2 x3)), .second, .unset, .unset, .unset, .unset, .unset] [(.long ((own_f1 (1 : Int64) (own_ushrL (x0 &&& (9223372036854775807 : Int64)) (x1 &&& (63 : Int32)))) - (1 : Int64)))])) (fun tG kG => XS.lsub X11.here hx rfl (hb hby at_55) rfl kG) ?_
  refine Go.via (U' := T11.setTop (mkF m 58 #[.val (.long x0), .second, .val (.int x1), .val (.int x2), .val (.int x3), .val (.long (own_f1 (1 : Int64) (own_ushrL (x0 &&& (9223372036854775807 : Int64)) (x1 &&& (63 : Int32))))), .second, .val (.int (own_f2 (1 : Int32) (own_ushr (x2 &&& (2147483647 : Int32)) (x3 &&& (31 : Int32))))), .val (.ref b3), .val (.long (own_w0_0 x0 x1 x2 x3)), .second, .val (.long ((own_f1 (1 : Int64) (own_ushrL (x0 &&& (9223372036854775807 : Int64)) (x1 &&& (63 : Int32)))) - (1 : Int64))), .second, .unset, .unset, .unset] [])) (fun tG kG => XS.lstore X11.here hx rfl (hb hby at_56) rfl (l' := #[.val (.long x0), .second, .val (.int x1), .val (.int x2), .val (.int x3), .val (.long (own_f1 (1 : Int64) (own_ushrL (x0 &&& (9223372036854775807 : Int64)) (x1 &&& (63 : Int32))))), .second, .val (.int (own_f2 (1 : Int32) (own_ushr (x2 &&& (2147483647 : Int32)) (x3 &&& (31 : Int32))))), .val (.ref b3), .val (.long (own_w0_0 x0 x1 x2 x3)), .second, .val (.long ((own_f1 (1 : Int64) (own_ushrL (x0 &&& (9223372036854775807 : Int64)) (x1 &&& (63 : Int32)))) - (1 : Int64))), .second, .unset, .unset, .unset]) rfl kG) ?_
  refine Go.via (U' := T11.setTop (mkF m 60 #[.val (.long x0), .second, .val (.int x1), .val (.int x2), .val (.int x3), .val (.long (own_f1 (1 : Int64) (own_ushrL (x0 &&& (9223372036854775807 : Int64)) (x1 &&& (63 : Int32))))), .second, .val (.int (own_f2 (1 : Int32) (own_ushr (x2 &&& (2147483647 : Int32)) (x3 &&& (31 : Int32))))), .val (.ref b3), .val (.long (own_w0_0 x0 x1 x2 x3)), .second, .val (.long ((own_f1 (1 : Int64) (own_ushrL (x0 &&& (9223372036854775807 : Int64)) (x1 &&& (63 : Int32)))) - (1 : Int64))), .second, .unset, .unset, .unset] [(.long (own_w0_0 x0 x1 x2 x3))])) (fun tG kG => XS.lload X11.here hx rfl (hb hby at_58) rfl kG) ?_
  refine Go.via (U' := T11.setTop (mkF m 63 #[.val (.long x0), .second, .val (.int x1), .val (.int x2), .val (.int x3), .val (.long (own_f1 (1 : Int64) (own_ushrL (x0 &&& (9223372036854775807 : Int64)) (x1 &&& (63 : Int32))))), .second, .val (.int (own_f2 (1 : Int32) (own_ushr (x2 &&& (2147483647 : Int32)) (x3 &&& (31 : Int32))))), .val (.ref b3), .val (.long (own_w0_0 x0 x1 x2 x3)), .second, .val (.long ((own_f1 (1 : Int64) (own_ushrL (x0 &&& (9223372036854775807 : Int64)) (x1 &&& (63 : Int32)))) - (1 : Int64))), .second, .unset, .unset, .unset] [(.long (9223372036854775807 : Int64)), (.long (own_w0_0 x0 x1 x2 x3))])) (fun tG kG => X11.ldc2Long hx hown (mvT hZ (hw _ (List.mem_of_getElem? (i := 0) rfl))) (g := (mkF m 60 #[.val (.long x0), .second, .val (.int x1), .val (.int x2), .val (.int x3), .val (.long (own_f1 (1 : Int64) (own_ushrL (x0 &&& (9223372036854775807 : Int64)) (x1 &&& (63 : Int32))))), .second, .val (.int (own_f2 (1 : Int32) (own_ushr (x2 &&& (2147483647 : Int32)) (x3 &&& (31 : Int32))))), .val (.ref b3), .val (.long (own_w0_0 x0 x1 x2 x3)), .second, .val (.long ((own_f1 (1 : Int64) (own_ushrL (x0 &&& (9223372036854775807 : Int64)) (x1 &&& (63 : Int32)))) - (1 : Int64))), .second, .unset, .unset, .unset] [(.long (own_w0_0 x0 x1 x2 x3))])) rfl (hb hby at_60) tG kG) ?_
  refine Go.via (U' := T11.setTop (mkF m 64 #[.val (.long x0), .second, .val (.int x1), .val (.int x2), .val (.int x3), .val (.long (own_f1 (1 : Int64) (own_ushrL (x0 &&& (9223372036854775807 : Int64)) (x1 &&& (63 : Int32))))), .second, .val (.int (own_f2 (1 : Int32) (own_ushr (x2 &&& (2147483647 : Int32)) (x3 &&& (31 : Int32))))), .val (.ref b3), .val (.long (own_w0_0 x0 x1 x2 x3)), .second, .val (.long ((own_f1 (1 : Int64) (own_ushrL (x0 &&& (9223372036854775807 : Int64)) (x1 &&& (63 : Int32)))) - (1 : Int64))), .second, .unset, .unset, .unset] [(.int (lcmpW (own_w0_0 x0 x1 x2 x3) (9223372036854775807 : Int64)))])) (fun tG kG => XS.lcmp X11.here hx rfl (hb hby at_63) rfl kG) ?_
  by_cases hc64 : (lcmpW (own_w0_0 x0 x1 x2 x3) (9223372036854775807 : Int64)) = (0 : Int32)
  · refine Go.via (U' := T11.setTop (mkF m 103 #[.val (.long x0), .second, .val (.int x1), .val (.int x2), .val (.int x3), .val (.long (own_f1 (1 : Int64) (own_ushrL (x0 &&& (9223372036854775807 : Int64)) (x1 &&& (63 : Int32))))), .second, .val (.int (own_f2 (1 : Int32) (own_ushr (x2 &&& (2147483647 : Int32)) (x3 &&& (31 : Int32))))), .val (.ref b3), .val (.long (own_w0_0 x0 x1 x2 x3)), .second, .val (.long ((own_f1 (1 : Int64) (own_ushrL (x0 &&& (9223372036854775807 : Int64)) (x1 &&& (63 : Int32)))) - (1 : Int64))), .second, .unset, .unset, .unset] [])) (fun tG kG => XS.ifYes X11.here hx rfl (pc0 := 64) (pc' := 103) rfl (hb hby at_64) rfl ((if0 _ _).trans (teq hc64).1) (by decide) (by decide) kG) ?_
    refine Go.via (U' := T11.setTop (mkF m 105 #[.val (.long x0), .second, .val (.int x1), .val (.int x2), .val (.int x3), .val (.long (own_f1 (1 : Int64) (own_ushrL (x0 &&& (9223372036854775807 : Int64)) (x1 &&& (63 : Int32))))), .second, .val (.int (own_f2 (1 : Int32) (own_ushr (x2 &&& (2147483647 : Int32)) (x3 &&& (31 : Int32))))), .val (.ref b3), .val (.long (own_w0_0 x0 x1 x2 x3)), .second, .val (.long ((own_f1 (1 : Int64) (own_ushrL (x0 &&& (9223372036854775807 : Int64)) (x1 &&& (63 : Int32)))) - (1 : Int64))), .second, .unset, .unset, .unset] [(.long ((own_f1 (1 : Int64) (own_ushrL (x0 &&& (9223372036854775807 : Int64)) (x1 &&& (63 : Int32)))) - (1 : Int64)))])) (fun tG kG => XS.lload X11.here hx rfl (hb hby at_103) rfl kG) ?_
    refine Go.via (U' := T11.setTop (mkF m 107 #[.val (.long x0), .second, .val (.int x1), .val (.int x2), .val (.int x3), .val (.long (own_f1 (1 : Int64) (own_ushrL (x0 &&& (9223372036854775807 : Int64)) (x1 &&& (63 : Int32))))), .second, .val (.int (own_f2 (1 : Int32) (own_ushr (x2 &&& (2147483647 : Int32)) (x3 &&& (31 : Int32))))), .val (.ref b3), .val (.long (own_w0_0 x0 x1 x2 x3)), .second, .val (.long ((own_f1 (1 : Int64) (own_ushrL (x0 &&& (9223372036854775807 : Int64)) (x1 &&& (63 : Int32)))) - (1 : Int64))), .second, .unset, .unset, .unset] [(.int (own_f2 (1 : Int32) (own_ushr (x2 &&& (2147483647 : Int32)) (x3 &&& (31 : Int32))))), (.long ((own_f1 (1 : Int64) (own_ushrL (x0 &&& (9223372036854775807 : Int64)) (x1 &&& (63 : Int32)))) - (1 : Int64)))])) (fun tG kG => XS.iload X11.here hx rfl (hb hby at_105) rfl kG) ?_
    refine Go.via (U' := T11.setTop (mkF m 108 #[.val (.long x0), .second, .val (.int x1), .val (.int x2), .val (.int x3), .val (.long (own_f1 (1 : Int64) (own_ushrL (x0 &&& (9223372036854775807 : Int64)) (x1 &&& (63 : Int32))))), .second, .val (.int (own_f2 (1 : Int32) (own_ushr (x2 &&& (2147483647 : Int32)) (x3 &&& (31 : Int32))))), .val (.ref b3), .val (.long (own_w0_0 x0 x1 x2 x3)), .second, .val (.long ((own_f1 (1 : Int64) (own_ushrL (x0 &&& (9223372036854775807 : Int64)) (x1 &&& (63 : Int32)))) - (1 : Int64))), .second, .unset, .unset, .unset] [(.long ((own_f2 (1 : Int32) (own_ushr (x2 &&& (2147483647 : Int32)) (x3 &&& (31 : Int32)))).toInt64)), (.long ((own_f1 (1 : Int64) (own_ushrL (x0 &&& (9223372036854775807 : Int64)) (x1 &&& (63 : Int32)))) - (1 : Int64)))])) (fun tG kG => XS.i2l X11.here hx rfl (hb hby at_107) rfl kG) ?_
    refine Go.via (U' := T11.setTop (mkF m 109 #[.val (.long x0), .second, .val (.int x1), .val (.int x2), .val (.int x3), .val (.long (own_f1 (1 : Int64) (own_ushrL (x0 &&& (9223372036854775807 : Int64)) (x1 &&& (63 : Int32))))), .second, .val (.int (own_f2 (1 : Int32) (own_ushr (x2 &&& (2147483647 : Int32)) (x3 &&& (31 : Int32))))), .val (.ref b3), .val (.long (own_w0_0 x0 x1 x2 x3)), .second, .val (.long ((own_f1 (1 : Int64) (own_ushrL (x0 &&& (9223372036854775807 : Int64)) (x1 &&& (63 : Int32)))) - (1 : Int64))), .second, .unset, .unset, .unset] [(.long (own_w0_1 x0 x1 x2 x3))])) (fun tG kG => XS.lmul X11.here hx rfl (hb hby at_108) rfl kG) ?_
    refine Go.via (U' := T11.setTop (mkF m 111 #[.val (.long x0), .second, .val (.int x1), .val (.int x2), .val (.int x3), .val (.long (own_f1 (1 : Int64) (own_ushrL (x0 &&& (9223372036854775807 : Int64)) (x1 &&& (63 : Int32))))), .second, .val (.int (own_f2 (1 : Int32) (own_ushr (x2 &&& (2147483647 : Int32)) (x3 &&& (31 : Int32))))), .val (.ref b3), .val (.long (own_w0_0 x0 x1 x2 x3)), .second, .val (.long ((own_f1 (1 : Int64) (own_ushrL (x0 &&& (9223372036854775807 : Int64)) (x1 &&& (63 : Int32)))) - (1 : Int64))), .second, .val (.long (own_w0_1 x0 x1 x2 x3)), .second, .unset] [])) (fun tG kG => XS.lstore X11.here hx rfl (hb hby at_109) rfl (l' := #[.val (.long x0), .second, .val (.int x1), .val (.int x2), .val (.int x3), .val (.long (own_f1 (1 : Int64) (own_ushrL (x0 &&& (9223372036854775807 : Int64)) (x1 &&& (63 : Int32))))), .second, .val (.int (own_f2 (1 : Int32) (own_ushr (x2 &&& (2147483647 : Int32)) (x3 &&& (31 : Int32))))), .val (.ref b3), .val (.long (own_w0_0 x0 x1 x2 x3)), .second, .val (.long ((own_f1 (1 : Int64) (own_ushrL (x0 &&& (9223372036854775807 : Int64)) (x1 &&& (63 : Int32)))) - (1 : Int64))), .second, .val (.long (own_w0_1 x0 x1 x2 x3)), .second, .unset]) rfl kG) ?_
    refine Go.via (U' := T11.setTop (mkF m 113 #[.val (.long x0), .second, .val (.int x1), .val (.int x2), .val (.int x3), .val (.long (own_f1 (1 : Int64) (own_ushrL (x0 &&& (9223372036854775807 : Int64)) (x1 &&& (63 : Int32))))), .second, .val (.int (own_f2 (1 : Int32) (own_ushr (x2 &&& (2147483647 : Int32)) (x3 &&& (31 : Int32))))), .val (.ref b3), .val (.long (own_w0_0 x0 x1 x2 x3)), .second, .val (.long ((own_f1 (1 : Int64) (own_ushrL (x0 &&& (9223372036854775807 : Int64)) (x1 &&& (63 : Int32)))) - (1 : Int64))), .second, .val (.long (own_w0_1 x0 x1 x2 x3)), .second, .unset] [(.long (own_w0_1 x0 x1 x2 x3))])) (fun tG kG => XS.lload X11.here hx rfl (hb hby at_111) rfl kG) ?_
    refine Go.via (U' := T11.setTop (mkF m 115 #[.val (.long x0), .second, .val (.int x1), .val (.int x2), .val (.int x3), .val (.long (own_f1 (1 : Int64) (own_ushrL (x0 &&& (9223372036854775807 : Int64)) (x1 &&& (63 : Int32))))), .second, .val (.int (own_f2 (1 : Int32) (own_ushr (x2 &&& (2147483647 : Int32)) (x3 &&& (31 : Int32))))), .val (.ref b3), .val (.long (own_w0_0 x0 x1 x2 x3)), .second, .val (.long ((own_f1 (1 : Int64) (own_ushrL (x0 &&& (9223372036854775807 : Int64)) (x1 &&& (63 : Int32)))) - (1 : Int64))), .second, .val (.long (own_w0_1 x0 x1 x2 x3)), .second, .unset] [(.int (own_f2 (1 : Int32) (own_ushr (x2 &&& (2147483647 : Int32)) (x3 &&& (31 : Int32))))), (.long (own_w0_1 x0 x1 x2 x3))])) (fun tG kG => XS.iload X11.here hx rfl (hb hby at_113) rfl kG) ?_
    refine Go.via (U' := T11.setTop (mkF m 116 #[.val (.long x0), .second, .val (.int x1), .val (.int x2), .val (.int x3), .val (.long (own_f1 (1 : Int64) (own_ushrL (x0 &&& (9223372036854775807 : Int64)) (x1 &&& (63 : Int32))))), .second, .val (.int (own_f2 (1 : Int32) (own_ushr (x2 &&& (2147483647 : Int32)) (x3 &&& (31 : Int32))))), .val (.ref b3), .val (.long (own_w0_0 x0 x1 x2 x3)), .second, .val (.long ((own_f1 (1 : Int64) (own_ushrL (x0 &&& (9223372036854775807 : Int64)) (x1 &&& (63 : Int32)))) - (1 : Int64))), .second, .val (.long (own_w0_1 x0 x1 x2 x3)), .second, .unset] [(.long ((own_f2 (1 : Int32) (own_ushr (x2 &&& (2147483647 : Int32)) (x3 &&& (31 : Int32)))).toInt64)), (.long (own_w0_1 x0 x1 x2 x3))])) (fun tG kG => XS.i2l X11.here hx rfl (hb hby at_115) rfl kG) ?_
    refine Go.via (U' := T11.setTop (mkF m 117 #[.val (.long x0), .second, .val (.int x1), .val (.int x2), .val (.int x3), .val (.long (own_f1 (1 : Int64) (own_ushrL (x0 &&& (9223372036854775807 : Int64)) (x1 &&& (63 : Int32))))), .second, .val (.int (own_f2 (1 : Int32) (own_ushr (x2 &&& (2147483647 : Int32)) (x3 &&& (31 : Int32))))), .val (.ref b3), .val (.long (own_w0_0 x0 x1 x2 x3)), .second, .val (.long ((own_f1 (1 : Int64) (own_ushrL (x0 &&& (9223372036854775807 : Int64)) (x1 &&& (63 : Int32)))) - (1 : Int64))), .second, .val (.long (own_w0_1 x0 x1 x2 x3)), .second, .unset] [(.long ((own_w0_1 x0 x1 x2 x3) / ((own_f2 (1 : Int32) (own_ushr (x2 &&& (2147483647 : Int32)) (x3 &&& (31 : Int32)))).toInt64)))])) (fun tG kG => XS.ldiv X11.here hx rfl (hb hby at_116) rfl (own_nz _) kG) ?_
    refine Go.via (U' := T11.setTop (mkF m 119 #[.val (.long x0), .second, .val (.int x1), .val (.int x2), .val (.int x3), .val (.long (own_f1 (1 : Int64) (own_ushrL (x0 &&& (9223372036854775807 : Int64)) (x1 &&& (63 : Int32))))), .second, .val (.int (own_f2 (1 : Int32) (own_ushr (x2 &&& (2147483647 : Int32)) (x3 &&& (31 : Int32))))), .val (.ref b3), .val (.long (own_w0_0 x0 x1 x2 x3)), .second, .val (.long ((own_f1 (1 : Int64) (own_ushrL (x0 &&& (9223372036854775807 : Int64)) (x1 &&& (63 : Int32)))) - (1 : Int64))), .second, .val (.long (own_w0_1 x0 x1 x2 x3)), .second, .unset] [(.long ((own_f1 (1 : Int64) (own_ushrL (x0 &&& (9223372036854775807 : Int64)) (x1 &&& (63 : Int32)))) - (1 : Int64))), (.long ((own_w0_1 x0 x1 x2 x3) / ((own_f2 (1 : Int32) (own_ushr (x2 &&& (2147483647 : Int32)) (x3 &&& (31 : Int32)))).toInt64)))])) (fun tG kG => XS.lload X11.here hx rfl (hb hby at_117) rfl kG) ?_
    refine Go.via (U' := T11.setTop (mkF m 120 #[.val (.long x0), .second, .val (.int x1), .val (.int x2), .val (.int x3), .val (.long (own_f1 (1 : Int64) (own_ushrL (x0 &&& (9223372036854775807 : Int64)) (x1 &&& (63 : Int32))))), .second, .val (.int (own_f2 (1 : Int32) (own_ushr (x2 &&& (2147483647 : Int32)) (x3 &&& (31 : Int32))))), .val (.ref b3), .val (.long (own_w0_0 x0 x1 x2 x3)), .second, .val (.long ((own_f1 (1 : Int64) (own_ushrL (x0 &&& (9223372036854775807 : Int64)) (x1 &&& (63 : Int32)))) - (1 : Int64))), .second, .val (.long (own_w0_1 x0 x1 x2 x3)), .second, .unset] [(.int (lcmpW ((own_w0_1 x0 x1 x2 x3) / ((own_f2 (1 : Int32) (own_ushr (x2 &&& (2147483647 : Int32)) (x3 &&& (31 : Int32)))).toInt64)) ((own_f1 (1 : Int64) (own_ushrL (x0 &&& (9223372036854775807 : Int64)) (x1 &&& (63 : Int32)))) - (1 : Int64))))])) (fun tG kG => XS.lcmp X11.here hx rfl (hb hby at_119) rfl kG) ?_
    have J12 : ∀ T' L', Stand p l e room_1 s m #[(.long x0), (.int x1), (.int x2), (.int x3)] below meth c T' L' 1 2 → T'.heap = T6.heap → Fr n0 L' → Go p e below s room_1.cells room_1.slots (fun v h L => v = some (.int (own_f0 x0 x1 x2 x3)) ∧ Fr n0 L) (T'.setTop (mkF m 128 #[.val (.long x0), .second, .val (.int x1), .val (.int x2), .val (.int x3), .val (.long (own_f1 (1 : Int64) (own_ushrL (x0 &&& (9223372036854775807 : Int64)) (x1 &&& (63 : Int32))))), .second, .val (.int (own_f2 (1 : Int32) (own_ushr (x2 &&& (2147483647 : Int32)) (x3 &&& (31 : Int32))))), .val (.ref b3), .val (.long (own_w0_0 x0 x1 x2 x3)), .second, .val (.long ((own_f1 (1 : Int64) (own_ushrL (x0 &&& (9223372036854775807 : Int64)) (x1 &&& (63 : Int32)))) - (1 : Int64))), .second, .val (.long (own_w0_1 x0 x1 x2 x3)), .second, .unset] [(.int (own_j0_120_s0 x0 x1 x2 x3))])) := by
      intro T13 L16 X14 e15 N17
      refine Go.via (U' := T13.setTop (mkF m 130 #[.val (.long x0), .second, .val (.int x1), .val (.int x2), .val (.int x3), .val (.long (own_f1 (1 : Int64) (own_ushrL (x0 &&& (9223372036854775807 : Int64)) (x1 &&& (63 : Int32))))), .second, .val (.int (own_f2 (1 : Int32) (own_ushr (x2 &&& (2147483647 : Int32)) (x3 &&& (31 : Int32))))), .val (.ref b3), .val (.long (own_w0_0 x0 x1 x2 x3)), .second, .val (.long ((own_f1 (1 : Int64) (own_ushrL (x0 &&& (9223372036854775807 : Int64)) (x1 &&& (63 : Int32)))) - (1 : Int64))), .second, .val (.long (own_w0_1 x0 x1 x2 x3)), .second, .val (.int (own_j0_120_s0 x0 x1 x2 x3))] [])) (fun tG kG => XS.istore X14.here hx rfl (hb hby at_128) rfl (l' := #[.val (.long x0), .second, .val (.int x1), .val (.int x2), .val (.int x3), .val (.long (own_f1 (1 : Int64) (own_ushrL (x0 &&& (9223372036854775807 : Int64)) (x1 &&& (63 : Int32))))), .second, .val (.int (own_f2 (1 : Int32) (own_ushr (x2 &&& (2147483647 : Int32)) (x3 &&& (31 : Int32))))), .val (.ref b3), .val (.long (own_w0_0 x0 x1 x2 x3)), .second, .val (.long ((own_f1 (1 : Int64) (own_ushrL (x0 &&& (9223372036854775807 : Int64)) (x1 &&& (63 : Int32)))) - (1 : Int64))), .second, .val (.long (own_w0_1 x0 x1 x2 x3)), .second, .val (.int (own_j0_120_s0 x0 x1 x2 x3))]) rfl kG) ?_
      refine Go.via (U' := T13.setTop (mkF m 132 #[.val (.long x0), .second, .val (.int x1), .val (.int x2), .val (.int x3), .val (.long (own_f1 (1 : Int64) (own_ushrL (x0 &&& (9223372036854775807 : Int64)) (x1 &&& (63 : Int32))))), .second, .val (.int (own_f2 (1 : Int32) (own_ushr (x2 &&& (2147483647 : Int32)) (x3 &&& (31 : Int32))))), .val (.ref b3), .val (.long (own_w0_0 x0 x1 x2 x3)), .second, .val (.long ((own_f1 (1 : Int64) (own_ushrL (x0 &&& (9223372036854775807 : Int64)) (x1 &&& (63 : Int32)))) - (1 : Int64))), .second, .val (.long (own_w0_1 x0 x1 x2 x3)), .second, .val (.int (own_j0_120_s0 x0 x1 x2 x3))] [(.int (own_j0_120_s0 x0 x1 x2 x3))])) (fun tG kG => XS.iload X14.here hx rfl (hb hby at_130) rfl kG) ?_
      by_cases hc132 : (own_j0_120_s0 x0 x1 x2 x3) = (0 : Int32)
      · refine Go.via (U' := T13.setTop (mkF m 135 #[.val (.long x0), .second, .val (.int x1), .val (.int x2), .val (.int x3), .val (.long (own_f1 (1 : Int64) (own_ushrL (x0 &&& (9223372036854775807 : Int64)) (x1 &&& (63 : Int32))))), .second, .val (.int (own_f2 (1 : Int32) (own_ushr (x2 &&& (2147483647 : Int32)) (x3 &&& (31 : Int32))))), .val (.ref b3), .val (.long (own_w0_0 x0 x1 x2 x3)), .second, .val (.long ((own_f1 (1 : Int64) (own_ushrL (x0 &&& (9223372036854775807 : Int64)) (x1 &&& (63 : Int32)))) - (1 : Int64))), .second, .val (.long (own_w0_1 x0 x1 x2 x3)), .second, .val (.int (own_j0_120_s0 x0 x1 x2 x3))] [])) (fun tG kG => XS.ifNo X14.here hx rfl (hb hby at_132) rfl ((if0 _ _).trans (teq hc132).2) kG) ?_
        refine Go.via (U' := T13.setTop (mkF m 137 #[.val (.long x0), .second, .val (.int x1), .val (.int x2), .val (.int x3), .val (.long (own_f1 (1 : Int64) (own_ushrL (x0 &&& (9223372036854775807 : Int64)) (x1 &&& (63 : Int32))))), .second, .val (.int (own_f2 (1 : Int32) (own_ushr (x2 &&& (2147483647 : Int32)) (x3 &&& (31 : Int32))))), .val (.ref b3), .val (.long (own_w0_0 x0 x1 x2 x3)), .second, .val (.long ((own_f1 (1 : Int64) (own_ushrL (x0 &&& (9223372036854775807 : Int64)) (x1 &&& (63 : Int32)))) - (1 : Int64))), .second, .val (.long (own_w0_1 x0 x1 x2 x3)), .second, .val (.int (own_j0_120_s0 x0 x1 x2 x3))] [(.long (own_w0_1 x0 x1 x2 x3))])) (fun tG kG => XS.lload X14.here hx rfl (hb hby at_135) rfl kG) ?_
        refine Go.via (U' := T13.setTop (mkF m 140 #[.val (.long x0), .second, .val (.int x1), .val (.int x2), .val (.int x3), .val (.long (own_f1 (1 : Int64) (own_ushrL (x0 &&& (9223372036854775807 : Int64)) (x1 &&& (63 : Int32))))), .second, .val (.int (own_f2 (1 : Int32) (own_ushr (x2 &&& (2147483647 : Int32)) (x3 &&& (31 : Int32))))), .val (.ref b3), .val (.long (own_w0_0 x0 x1 x2 x3)), .second, .val (.long ((own_f1 (1 : Int64) (own_ushrL (x0 &&& (9223372036854775807 : Int64)) (x1 &&& (63 : Int32)))) - (1 : Int64))), .second, .val (.long (own_w0_1 x0 x1 x2 x3)), .second, .val (.int (own_j0_120_s0 x0 x1 x2 x3))] [(.long (9223372036854775807 : Int64)), (.long (own_w0_1 x0 x1 x2 x3))])) (fun tG kG => X14.ldc2Long hx hown (mvT hZ (hw _ (List.mem_of_getElem? (i := 0) rfl))) (g := (mkF m 137 #[.val (.long x0), .second, .val (.int x1), .val (.int x2), .val (.int x3), .val (.long (own_f1 (1 : Int64) (own_ushrL (x0 &&& (9223372036854775807 : Int64)) (x1 &&& (63 : Int32))))), .second, .val (.int (own_f2 (1 : Int32) (own_ushr (x2 &&& (2147483647 : Int32)) (x3 &&& (31 : Int32))))), .val (.ref b3), .val (.long (own_w0_0 x0 x1 x2 x3)), .second, .val (.long ((own_f1 (1 : Int64) (own_ushrL (x0 &&& (9223372036854775807 : Int64)) (x1 &&& (63 : Int32)))) - (1 : Int64))), .second, .val (.long (own_w0_1 x0 x1 x2 x3)), .second, .val (.int (own_j0_120_s0 x0 x1 x2 x3))] [(.long (own_w0_1 x0 x1 x2 x3))])) rfl (hb hby at_137) tG kG) ?_
        refine Go.via (U' := T13.setTop (mkF m 141 #[.val (.long x0), .second, .val (.int x1), .val (.int x2), .val (.int x3), .val (.long (own_f1 (1 : Int64) (own_ushrL (x0 &&& (9223372036854775807 : Int64)) (x1 &&& (63 : Int32))))), .second, .val (.int (own_f2 (1 : Int32) (own_ushr (x2 &&& (2147483647 : Int32)) (x3 &&& (31 : Int32))))), .val (.ref b3), .val (.long (own_w0_0 x0 x1 x2 x3)), .second, .val (.long ((own_f1 (1 : Int64) (own_ushrL (x0 &&& (9223372036854775807 : Int64)) (x1 &&& (63 : Int32)))) - (1 : Int64))), .second, .val (.long (own_w0_1 x0 x1 x2 x3)), .second, .val (.int (own_j0_120_s0 x0 x1 x2 x3))] [(.int (lcmpW (own_w0_1 x0 x1 x2 x3) (9223372036854775807 : Int64)))])) (fun tG kG => XS.lcmp X14.here hx rfl (hb hby at_140) rfl kG) ?_
        by_cases hc141 : (lcmpW (own_w0_1 x0 x1 x2 x3) (9223372036854775807 : Int64)) = (0 : Int32)
        · refine Go.via (U' := T13.setTop (mkF m 144 #[.val (.long x0), .second, .val (.int x1), .val (.int x2), .val (.int x3), .val (.long (own_f1 (1 : Int64) (own_ushrL (x0 &&& (9223372036854775807 : Int64)) (x1 &&& (63 : Int32))))), .second, .val (.int (own_f2 (1 : Int32) (own_ushr (x2 &&& (2147483647 : Int32)) (x3 &&& (31 : Int32))))), .val (.ref b3), .val (.long (own_w0_0 x0 x1 x2 x3)), .second, .val (.long ((own_f1 (1 : Int64) (own_ushrL (x0 &&& (9223372036854775807 : Int64)) (x1 &&& (63 : Int32)))) - (1 : Int64))), .second, .val (.long (own_w0_1 x0 x1 x2 x3)), .second, .val (.int (own_j0_120_s0 x0 x1 x2 x3))] [])) (fun tG kG => XS.ifNo X14.here hx rfl (hb hby at_141) rfl ((if0 _ _).trans (teq hc141).2) kG) ?_
          refine Go.via (U' := T13.setTop (mkF m 145 #[.val (.long x0), .second, .val (.int x1), .val (.int x2), .val (.int x3), .val (.long (own_f1 (1 : Int64) (own_ushrL (x0 &&& (9223372036854775807 : Int64)) (x1 &&& (63 : Int32))))), .second, .val (.int (own_f2 (1 : Int32) (own_ushr (x2 &&& (2147483647 : Int32)) (x3 &&& (31 : Int32))))), .val (.ref b3), .val (.long (own_w0_0 x0 x1 x2 x3)), .second, .val (.long ((own_f1 (1 : Int64) (own_ushrL (x0 &&& (9223372036854775807 : Int64)) (x1 &&& (63 : Int32)))) - (1 : Int64))), .second, .val (.long (own_w0_1 x0 x1 x2 x3)), .second, .val (.int (own_j0_120_s0 x0 x1 x2 x3))] [(.int (1 : Int32))])) (fun tG kG => XS.iconst X14.here hx rfl (hb hby at_144) kG) ?_
          refine Go.via (U' := T13.setTop (mkF m 149 #[.val (.long x0), .second, .val (.int x1), .val (.int x2), .val (.int x3), .val (.long (own_f1 (1 : Int64) (own_ushrL (x0 &&& (9223372036854775807 : Int64)) (x1 &&& (63 : Int32))))), .second, .val (.int (own_f2 (1 : Int32) (own_ushr (x2 &&& (2147483647 : Int32)) (x3 &&& (31 : Int32))))), .val (.ref b3), .val (.long (own_w0_0 x0 x1 x2 x3)), .second, .val (.long ((own_f1 (1 : Int64) (own_ushrL (x0 &&& (9223372036854775807 : Int64)) (x1 &&& (63 : Int32)))) - (1 : Int64))), .second, .val (.long (own_w0_1 x0 x1 x2 x3)), .second, .val (.int (own_j0_120_s0 x0 x1 x2 x3))] [(.int (1 : Int32))])) (fun tG kG => XS.goto X14.here hx rfl (pc0 := 145) (pc' := 149) rfl (hb hby at_145) (by decide) (by decide) kG) ?_
          exact go_retN X14 hx hlk (t := .boolean) hret (by simp) (hb hby at_149) e15 ⟨(congrArg (fun z => some (Value.int z)) (show nar .boolean (1 : Int32) = (own_f0 x0 x1 x2 x3) from by unfold own_f0; simp only [if_pos hc64, if_pos hc132, if_pos hc141] <;> rfl)), N17⟩ (by decide) (by decide)
        · refine Go.via (U' := T13.setTop (mkF m 148 #[.val (.long x0), .second, .val (.int x1), .val (.int x2), .val (.int x3), .val (.long (own_f1 (1 : Int64) (own_ushrL (x0 &&& (9223372036854775807 : Int64)) (x1 &&& (63 : Int32))))), .second, .val (.int (own_f2 (1 : Int32) (own_ushr (x2 &&& (2147483647 : Int32)) (x3 &&& (31 : Int32))))), .val (.ref b3), .val (.long (own_w0_0 x0 x1 x2 x3)), .second, .val (.long ((own_f1 (1 : Int64) (own_ushrL (x0 &&& (9223372036854775807 : Int64)) (x1 &&& (63 : Int32)))) - (1 : Int64))), .second, .val (.long (own_w0_1 x0 x1 x2 x3)), .second, .val (.int (own_j0_120_s0 x0 x1 x2 x3))] [])) (fun tG kG => XS.ifYes X14.here hx rfl (pc0 := 141) (pc' := 148) rfl (hb hby at_141) rfl ((if0 _ _).trans (feq hc141).2) (by decide) (by decide) kG) ?_
          refine Go.via (U' := T13.setTop (mkF m 149 #[.val (.long x0), .second, .val (.int x1), .val (.int x2), .val (.int x3), .val (.long (own_f1 (1 : Int64) (own_ushrL (x0 &&& (9223372036854775807 : Int64)) (x1 &&& (63 : Int32))))), .second, .val (.int (own_f2 (1 : Int32) (own_ushr (x2 &&& (2147483647 : Int32)) (x3 &&& (31 : Int32))))), .val (.ref b3), .val (.long (own_w0_0 x0 x1 x2 x3)), .second, .val (.long ((own_f1 (1 : Int64) (own_ushrL (x0 &&& (9223372036854775807 : Int64)) (x1 &&& (63 : Int32)))) - (1 : Int64))), .second, .val (.long (own_w0_1 x0 x1 x2 x3)), .second, .val (.int (own_j0_120_s0 x0 x1 x2 x3))] [(.int (0 : Int32))])) (fun tG kG => XS.iconst X14.here hx rfl (hb hby at_148) kG) ?_
          exact go_retN X14 hx hlk (t := .boolean) hret (by simp) (hb hby at_149) e15 ⟨(congrArg (fun z => some (Value.int z)) (show nar .boolean (0 : Int32) = (own_f0 x0 x1 x2 x3) from by unfold own_f0; simp only [if_pos hc64, if_pos hc132, if_neg hc141] <;> rfl)), N17⟩ (by decide) (by decide)
      · refine Go.via (U' := T13.setTop (mkF m 144 #[.val (.long x0), .second, .val (.int x1), .val (.int x2), .val (.int x3), .val (.long (own_f1 (1 : Int64) (own_ushrL (x0 &&& (9223372036854775807 : Int64)) (x1 &&& (63 : Int32))))), .second, .val (.int (own_f2 (1 : Int32) (own_ushr (x2 &&& (2147483647 : Int32)) (x3 &&& (31 : Int32))))), .val (.ref b3), .val (.long (own_w0_0 x0 x1 x2 x3)), .second, .val (.long ((own_f1 (1 : Int64) (own_ushrL (x0 &&& (9223372036854775807 : Int64)) (x1 &&& (63 : Int32)))) - (1 : Int64))), .second, .val (.long (own_w0_1 x0 x1 x2 x3)), .second, .val (.int (own_j0_120_s0 x0 x1 x2 x3))] [])) (fun tG kG => XS.ifYes X14.here hx rfl (pc0 := 132) (pc' := 144) rfl (hb hby at_132) rfl ((if0 _ _).trans (feq hc132).2) (by decide) (by decide) kG) ?_
        refine Go.via (U' := T13.setTop (mkF m 145 #[.val (.long x0), .second, .val (.int x1), .val (.int x2), .val (.int x3), .val (.long (own_f1 (1 : Int64) (own_ushrL (x0 &&& (9223372036854775807 : Int64)) (x1 &&& (63 : Int32))))), .second, .val (.int (own_f2 (1 : Int32) (own_ushr (x2 &&& (2147483647 : Int32)) (x3 &&& (31 : Int32))))), .val (.ref b3), .val (.long (own_w0_0 x0 x1 x2 x3)), .second, .val (.long ((own_f1 (1 : Int64) (own_ushrL (x0 &&& (9223372036854775807 : Int64)) (x1 &&& (63 : Int32)))) - (1 : Int64))), .second, .val (.long (own_w0_1 x0 x1 x2 x3)), .second, .val (.int (own_j0_120_s0 x0 x1 x2 x3))] [(.int (1 : Int32))])) (fun tG kG => XS.iconst X14.here hx rfl (hb hby at_144) kG) ?_
        refine Go.via (U' := T13.setTop (mkF m 149 #[.val (.long x0), .second, .val (.int x1), .val (.int x2), .val (.int x3), .val (.long (own_f1 (1 : Int64) (own_ushrL (x0 &&& (9223372036854775807 : Int64)) (x1 &&& (63 : Int32))))), .second, .val (.int (own_f2 (1 : Int32) (own_ushr (x2 &&& (2147483647 : Int32)) (x3 &&& (31 : Int32))))), .val (.ref b3), .val (.long (own_w0_0 x0 x1 x2 x3)), .second, .val (.long ((own_f1 (1 : Int64) (own_ushrL (x0 &&& (9223372036854775807 : Int64)) (x1 &&& (63 : Int32)))) - (1 : Int64))), .second, .val (.long (own_w0_1 x0 x1 x2 x3)), .second, .val (.int (own_j0_120_s0 x0 x1 x2 x3))] [(.int (1 : Int32))])) (fun tG kG => XS.goto X14.here hx rfl (pc0 := 145) (pc' := 149) rfl (hb hby at_145) (by decide) (by decide) kG) ?_
        exact go_retN X14 hx hlk (t := .boolean) hret (by simp) (hb hby at_149) e15 ⟨(congrArg (fun z => some (Value.int z)) (show nar .boolean (1 : Int32) = (own_f0 x0 x1 x2 x3) from by unfold own_f0; simp only [if_pos hc64, if_neg hc132] <;> rfl)), N17⟩ (by decide) (by decide)
    by_cases hc120 : (lcmpW ((own_w0_1 x0 x1 x2 x3) / ((own_f2 (1 : Int32) (own_ushr (x2 &&& (2147483647 : Int32)) (x3 &&& (31 : Int32)))).toInt64)) ((own_f1 (1 : Int64) (own_ushrL (x0 &&& (9223372036854775807 : Int64)) (x1 &&& (63 : Int32)))) - (1 : Int64))) = (0 : Int32)
    · refine Go.via (U' := T11.setTop (mkF m 127 #[.val (.long x0), .second, .val (.int x1), .val (.int x2), .val (.int x3), .val (.long (own_f1 (1 : Int64) (own_ushrL (x0 &&& (9223372036854775807 : Int64)) (x1 &&& (63 : Int32))))), .second, .val (.int (own_f2 (1 : Int32) (own_ushr (x2 &&& (2147483647 : Int32)) (x3 &&& (31 : Int32))))), .val (.ref b3), .val (.long (own_w0_0 x0 x1 x2 x3)), .second, .val (.long ((own_f1 (1 : Int64) (own_ushrL (x0 &&& (9223372036854775807 : Int64)) (x1 &&& (63 : Int32)))) - (1 : Int64))), .second, .val (.long (own_w0_1 x0 x1 x2 x3)), .second, .unset] [])) (fun tG kG => XS.ifYes X11.here hx rfl (pc0 := 120) (pc' := 127) rfl (hb hby at_120) rfl ((if0 _ _).trans (teq hc120).1) (by decide) (by decide) kG) ?_
      refine Go.via (U' := T11.setTop (mkF m 128 #[.val (.long x0), .second, .val (.int x1), .val (.int x2), .val (.int x3), .val (.long (own_f1 (1 : Int64) (own_ushrL (x0 &&& (9223372036854775807 : Int64)) (x1 &&& (63 : Int32))))), .second, .val (.int (own_f2 (1 : Int32) (own_ushr (x2 &&& (2147483647 : Int32)) (x3 &&& (31 : Int32))))), .val (.ref b3), .val (.long (own_w0_0 x0 x1 x2 x3)), .second, .val (.long ((own_f1 (1 : Int64) (own_ushrL (x0 &&& (9223372036854775807 : Int64)) (x1 &&& (63 : Int32)))) - (1 : Int64))), .second, .val (.long (own_w0_1 x0 x1 x2 x3)), .second, .unset] [(.int (0 : Int32))])) (fun tG kG => XS.iconst X11.here hx rfl (hb hby at_127) kG) ?_
      have q_own_j0_120_s0 : (own_j0_120_s0 x0 x1 x2 x3) = (0 : Int32) := by unfold own_j0_120_s0; simp only [if_pos hc120]
      have q_J := J12 T11 _ X11 e11 N6
      rw [q_own_j0_120_s0] at q_J
      exact q_J
    · refine Go.via (U' := T11.setTop (mkF m 123 #[.val (.long x0), .second, .val (.int x1), .val (.int x2), .val (.int x3), .val (.long (own_f1 (1 : Int64) (own_ushrL (x0 &&& (9223372036854775807 : Int64)) (x1 &&& (63 : Int32))))), .second, .val (.int (own_f2 (1 : Int32) (own_ushr (x2 &&& (2147483647 : Int32)) (x3 &&& (31 : Int32))))), .val (.ref b3), .val (.long (own_w0_0 x0 x1 x2 x3)), .second, .val (.long ((own_f1 (1 : Int64) (own_ushrL (x0 &&& (9223372036854775807 : Int64)) (x1 &&& (63 : Int32)))) - (1 : Int64))), .second, .val (.long (own_w0_1 x0 x1 x2 x3)), .second, .unset] [])) (fun tG kG => XS.ifNo X11.here hx rfl (hb hby at_120) rfl ((if0 _ _).trans (feq hc120).1) kG) ?_
      refine Go.via (U' := T11.setTop (mkF m 124 #[.val (.long x0), .second, .val (.int x1), .val (.int x2), .val (.int x3), .val (.long (own_f1 (1 : Int64) (own_ushrL (x0 &&& (9223372036854775807 : Int64)) (x1 &&& (63 : Int32))))), .second, .val (.int (own_f2 (1 : Int32) (own_ushr (x2 &&& (2147483647 : Int32)) (x3 &&& (31 : Int32))))), .val (.ref b3), .val (.long (own_w0_0 x0 x1 x2 x3)), .second, .val (.long ((own_f1 (1 : Int64) (own_ushrL (x0 &&& (9223372036854775807 : Int64)) (x1 &&& (63 : Int32)))) - (1 : Int64))), .second, .val (.long (own_w0_1 x0 x1 x2 x3)), .second, .unset] [(.int (1 : Int32))])) (fun tG kG => XS.iconst X11.here hx rfl (hb hby at_123) kG) ?_
      refine Go.via (U' := T11.setTop (mkF m 128 #[.val (.long x0), .second, .val (.int x1), .val (.int x2), .val (.int x3), .val (.long (own_f1 (1 : Int64) (own_ushrL (x0 &&& (9223372036854775807 : Int64)) (x1 &&& (63 : Int32))))), .second, .val (.int (own_f2 (1 : Int32) (own_ushr (x2 &&& (2147483647 : Int32)) (x3 &&& (31 : Int32))))), .val (.ref b3), .val (.long (own_w0_0 x0 x1 x2 x3)), .second, .val (.long ((own_f1 (1 : Int64) (own_ushrL (x0 &&& (9223372036854775807 : Int64)) (x1 &&& (63 : Int32)))) - (1 : Int64))), .second, .val (.long (own_w0_1 x0 x1 x2 x3)), .second, .unset] [(.int (1 : Int32))])) (fun tG kG => XS.goto X11.here hx rfl (pc0 := 124) (pc' := 128) rfl (hb hby at_124) (by decide) (by decide) kG) ?_
      have q_own_j0_120_s0 : (own_j0_120_s0 x0 x1 x2 x3) = (1 : Int32) := by unfold own_j0_120_s0; simp only [if_neg hc120]
      have q_J := J12 T11 _ X11 e11 N6
      rw [q_own_j0_120_s0] at q_J
      exact q_J
  · refine Go.via (U' := T11.setTop (mkF m 67 #[.val (.long x0), .second, .val (.int x1), .val (.int x2), .val (.int x3), .val (.long (own_f1 (1 : Int64) (own_ushrL (x0 &&& (9223372036854775807 : Int64)) (x1 &&& (63 : Int32))))), .second, .val (.int (own_f2 (1 : Int32) (own_ushr (x2 &&& (2147483647 : Int32)) (x3 &&& (31 : Int32))))), .val (.ref b3), .val (.long (own_w0_0 x0 x1 x2 x3)), .second, .val (.long ((own_f1 (1 : Int64) (own_ushrL (x0 &&& (9223372036854775807 : Int64)) (x1 &&& (63 : Int32)))) - (1 : Int64))), .second, .unset, .unset, .unset] [])) (fun tG kG => XS.ifNo X11.here hx rfl (hb hby at_64) rfl ((if0 _ _).trans (feq hc64).1) kG) ?_
    refine Go.via (U' := T11.setTop (mkF m 69 #[.val (.long x0), .second, .val (.int x1), .val (.int x2), .val (.int x3), .val (.long (own_f1 (1 : Int64) (own_ushrL (x0 &&& (9223372036854775807 : Int64)) (x1 &&& (63 : Int32))))), .second, .val (.int (own_f2 (1 : Int32) (own_ushr (x2 &&& (2147483647 : Int32)) (x3 &&& (31 : Int32))))), .val (.ref b3), .val (.long (own_w0_0 x0 x1 x2 x3)), .second, .val (.long ((own_f1 (1 : Int64) (own_ushrL (x0 &&& (9223372036854775807 : Int64)) (x1 &&& (63 : Int32)))) - (1 : Int64))), .second, .unset, .unset, .unset] [(.long (own_w0_0 x0 x1 x2 x3))])) (fun tG kG => XS.lload X11.here hx rfl (hb hby at_67) rfl kG) ?_
    refine Go.via (U' := T11.setTop (mkF m 70 #[.val (.long x0), .second, .val (.int x1), .val (.int x2), .val (.int x3), .val (.long (own_f1 (1 : Int64) (own_ushrL (x0 &&& (9223372036854775807 : Int64)) (x1 &&& (63 : Int32))))), .second, .val (.int (own_f2 (1 : Int32) (own_ushr (x2 &&& (2147483647 : Int32)) (x3 &&& (31 : Int32))))), .val (.ref b3), .val (.long (own_w0_0 x0 x1 x2 x3)), .second, .val (.long ((own_f1 (1 : Int64) (own_ushrL (x0 &&& (9223372036854775807 : Int64)) (x1 &&& (63 : Int32)))) - (1 : Int64))), .second, .unset, .unset, .unset] [(.long (0 : Int64)), (.long (own_w0_0 x0 x1 x2 x3))])) (fun tG kG => XS.lconst X11.here hx rfl (hb hby at_69) kG) ?_
    refine Go.via (U' := T11.setTop (mkF m 71 #[.val (.long x0), .second, .val (.int x1), .val (.int x2), .val (.int x3), .val (.long (own_f1 (1 : Int64) (own_ushrL (x0 &&& (9223372036854775807 : Int64)) (x1 &&& (63 : Int32))))), .second, .val (.int (own_f2 (1 : Int32) (own_ushr (x2 &&& (2147483647 : Int32)) (x3 &&& (31 : Int32))))), .val (.ref b3), .val (.long (own_w0_0 x0 x1 x2 x3)), .second, .val (.long ((own_f1 (1 : Int64) (own_ushrL (x0 &&& (9223372036854775807 : Int64)) (x1 &&& (63 : Int32)))) - (1 : Int64))), .second, .unset, .unset, .unset] [(.int (lcmpW (own_w0_0 x0 x1 x2 x3) (0 : Int64)))])) (fun tG kG => XS.lcmp X11.here hx rfl (hb hby at_70) rfl kG) ?_
    by_cases hc71 : (lcmpW (own_w0_0 x0 x1 x2 x3) (0 : Int64)) < (0 : Int32)
    · refine Go.via (U' := T11.setTop (mkF m 101 #[.val (.long x0), .second, .val (.int x1), .val (.int x2), .val (.int x3), .val (.long (own_f1 (1 : Int64) (own_ushrL (x0 &&& (9223372036854775807 : Int64)) (x1 &&& (63 : Int32))))), .second, .val (.int (own_f2 (1 : Int32) (own_ushr (x2 &&& (2147483647 : Int32)) (x3 &&& (31 : Int32))))), .val (.ref b3), .val (.long (own_w0_0 x0 x1 x2 x3)), .second, .val (.long ((own_f1 (1 : Int64) (own_ushrL (x0 &&& (9223372036854775807 : Int64)) (x1 &&& (63 : Int32)))) - (1 : Int64))), .second, .unset, .unset, .unset] [])) (fun tG kG => XS.ifYes X11.here hx rfl (pc0 := 71) (pc' := 101) rfl (hb hby at_71) rfl ((if0 _ _).trans (tlt hc71).1) (by decide) (by decide) kG) ?_
      refine Go.via (U' := T11.setTop (mkF m 102 #[.val (.long x0), .second, .val (.int x1), .val (.int x2), .val (.int x3), .val (.long (own_f1 (1 : Int64) (own_ushrL (x0 &&& (9223372036854775807 : Int64)) (x1 &&& (63 : Int32))))), .second, .val (.int (own_f2 (1 : Int32) (own_ushr (x2 &&& (2147483647 : Int32)) (x3 &&& (31 : Int32))))), .val (.ref b3), .val (.long (own_w0_0 x0 x1 x2 x3)), .second, .val (.long ((own_f1 (1 : Int64) (own_ushrL (x0 &&& (9223372036854775807 : Int64)) (x1 &&& (63 : Int32)))) - (1 : Int64))), .second, .unset, .unset, .unset] [(.int (0 : Int32))])) (fun tG kG => XS.iconst X11.here hx rfl (hb hby at_101) kG) ?_
      exact go_retN X11 hx hlk (t := .boolean) hret (by simp) (hb hby at_102) e11 ⟨(congrArg (fun z => some (Value.int z)) (show nar .boolean (0 : Int32) = (own_f0 x0 x1 x2 x3) from by unfold own_f0; simp only [if_neg hc64, if_pos hc71] <;> rfl)), N6⟩ (by decide) (by decide)
    · refine Go.via (U' := T11.setTop (mkF m 74 #[.val (.long x0), .second, .val (.int x1), .val (.int x2), .val (.int x3), .val (.long (own_f1 (1 : Int64) (own_ushrL (x0 &&& (9223372036854775807 : Int64)) (x1 &&& (63 : Int32))))), .second, .val (.int (own_f2 (1 : Int32) (own_ushr (x2 &&& (2147483647 : Int32)) (x3 &&& (31 : Int32))))), .val (.ref b3), .val (.long (own_w0_0 x0 x1 x2 x3)), .second, .val (.long ((own_f1 (1 : Int64) (own_ushrL (x0 &&& (9223372036854775807 : Int64)) (x1 &&& (63 : Int32)))) - (1 : Int64))), .second, .unset, .unset, .unset] [])) (fun tG kG => XS.ifNo X11.here hx rfl (hb hby at_71) rfl ((if0 _ _).trans (flt hc71).1) kG) ?_
      refine Go.via (U' := T11.setTop (mkF m 76 #[.val (.long x0), .second, .val (.int x1), .val (.int x2), .val (.int x3), .val (.long (own_f1 (1 : Int64) (own_ushrL (x0 &&& (9223372036854775807 : Int64)) (x1 &&& (63 : Int32))))), .second, .val (.int (own_f2 (1 : Int32) (own_ushr (x2 &&& (2147483647 : Int32)) (x3 &&& (31 : Int32))))), .val (.ref b3), .val (.long (own_w0_0 x0 x1 x2 x3)), .second, .val (.long ((own_f1 (1 : Int64) (own_ushrL (x0 &&& (9223372036854775807 : Int64)) (x1 &&& (63 : Int32)))) - (1 : Int64))), .second, .unset, .unset, .unset] [(.long (own_w0_0 x0 x1 x2 x3))])) (fun tG kG => XS.lload X11.here hx rfl (hb hby at_74) rfl kG) ?_
      refine Go.via (U' := T11.setTop (mkF m 78 #[.val (.long x0), .second, .val (.int x1), .val (.int x2), .val (.int x3), .val (.long (own_f1 (1 : Int64) (own_ushrL (x0 &&& (9223372036854775807 : Int64)) (x1 &&& (63 : Int32))))), .second, .val (.int (own_f2 (1 : Int32) (own_ushr (x2 &&& (2147483647 : Int32)) (x3 &&& (31 : Int32))))), .val (.ref b3), .val (.long (own_w0_0 x0 x1 x2 x3)), .second, .val (.long ((own_f1 (1 : Int64) (own_ushrL (x0 &&& (9223372036854775807 : Int64)) (x1 &&& (63 : Int32)))) - (1 : Int64))), .second, .unset, .unset, .unset] [(.int (own_f2 (1 : Int32) (own_ushr (x2 &&& (2147483647 : Int32)) (x3 &&& (31 : Int32))))), (.long (own_w0_0 x0 x1 x2 x3))])) (fun tG kG => XS.iload X11.here hx rfl (hb hby at_76) rfl kG) ?_
      refine Go.via (U' := T11.setTop (mkF m 79 #[.val (.long x0), .second, .val (.int x1), .val (.int x2), .val (.int x3), .val (.long (own_f1 (1 : Int64) (own_ushrL (x0 &&& (9223372036854775807 : Int64)) (x1 &&& (63 : Int32))))), .second, .val (.int (own_f2 (1 : Int32) (own_ushr (x2 &&& (2147483647 : Int32)) (x3 &&& (31 : Int32))))), .val (.ref b3), .val (.long (own_w0_0 x0 x1 x2 x3)), .second, .val (.long ((own_f1 (1 : Int64) (own_ushrL (x0 &&& (9223372036854775807 : Int64)) (x1 &&& (63 : Int32)))) - (1 : Int64))), .second, .unset, .unset, .unset] [(.long ((own_f2 (1 : Int32) (own_ushr (x2 &&& (2147483647 : Int32)) (x3 &&& (31 : Int32)))).toInt64)), (.long (own_w0_0 x0 x1 x2 x3))])) (fun tG kG => XS.i2l X11.here hx rfl (hb hby at_78) rfl kG) ?_
      refine Go.via (U' := T11.setTop (mkF m 80 #[.val (.long x0), .second, .val (.int x1), .val (.int x2), .val (.int x3), .val (.long (own_f1 (1 : Int64) (own_ushrL (x0 &&& (9223372036854775807 : Int64)) (x1 &&& (63 : Int32))))), .second, .val (.int (own_f2 (1 : Int32) (own_ushr (x2 &&& (2147483647 : Int32)) (x3 &&& (31 : Int32))))), .val (.ref b3), .val (.long (own_w0_0 x0 x1 x2 x3)), .second, .val (.long ((own_f1 (1 : Int64) (own_ushrL (x0 &&& (9223372036854775807 : Int64)) (x1 &&& (63 : Int32)))) - (1 : Int64))), .second, .unset, .unset, .unset] [(.long (own_w0_3 x0 x1 x2 x3))])) (fun tG kG => XS.lrem X11.here hx rfl (hb hby at_79) rfl (own_nz _) kG) ?_
      refine Go.via (U' := T11.setTop (mkF m 81 #[.val (.long x0), .second, .val (.int x1), .val (.int x2), .val (.int x3), .val (.long (own_f1 (1 : Int64) (own_ushrL (x0 &&& (9223372036854775807 : Int64)) (x1 &&& (63 : Int32))))), .second, .val (.int (own_f2 (1 : Int32) (own_ushr (x2 &&& (2147483647 : Int32)) (x3 &&& (31 : Int32))))), .val (.ref b3), .val (.long (own_w0_0 x0 x1 x2 x3)), .second, .val (.long ((own_f1 (1 : Int64) (own_ushrL (x0 &&& (9223372036854775807 : Int64)) (x1 &&& (63 : Int32)))) - (1 : Int64))), .second, .unset, .unset, .unset] [(.long (0 : Int64)), (.long (own_w0_3 x0 x1 x2 x3))])) (fun tG kG => XS.lconst X11.here hx rfl (hb hby at_80) kG) ?_
      refine Go.via (U' := T11.setTop (mkF m 82 #[.val (.long x0), .second, .val (.int x1), .val (.int x2), .val (.int x3), .val (.long (own_f1 (1 : Int64) (own_ushrL (x0 &&& (9223372036854775807 : Int64)) (x1 &&& (63 : Int32))))), .second, .val (.int (own_f2 (1 : Int32) (own_ushr (x2 &&& (2147483647 : Int32)) (x3 &&& (31 : Int32))))), .val (.ref b3), .val (.long (own_w0_0 x0 x1 x2 x3)), .second, .val (.long ((own_f1 (1 : Int64) (own_ushrL (x0 &&& (9223372036854775807 : Int64)) (x1 &&& (63 : Int32)))) - (1 : Int64))), .second, .unset, .unset, .unset] [(.int (lcmpW (own_w0_3 x0 x1 x2 x3) (0 : Int64)))])) (fun tG kG => XS.lcmp X11.here hx rfl (hb hby at_81) rfl kG) ?_
      by_cases hc82 : (lcmpW (own_w0_3 x0 x1 x2 x3) (0 : Int64)) = (0 : Int32)
      · refine Go.via (U' := T11.setTop (mkF m 85 #[.val (.long x0), .second, .val (.int x1), .val (.int x2), .val (.int x3), .val (.long (own_f1 (1 : Int64) (own_ushrL (x0 &&& (9223372036854775807 : Int64)) (x1 &&& (63 : Int32))))), .second, .val (.int (own_f2 (1 : Int32) (own_ushr (x2 &&& (2147483647 : Int32)) (x3 &&& (31 : Int32))))), .val (.ref b3), .val (.long (own_w0_0 x0 x1 x2 x3)), .second, .val (.long ((own_f1 (1 : Int64) (own_ushrL (x0 &&& (9223372036854775807 : Int64)) (x1 &&& (63 : Int32)))) - (1 : Int64))), .second, .unset, .unset, .unset] [])) (fun tG kG => XS.ifNo X11.here hx rfl (hb hby at_82) rfl ((if0 _ _).trans (teq hc82).2) kG) ?_
        refine Go.via (U' := T11.setTop (mkF m 87 #[.val (.long x0), .second, .val (.int x1), .val (.int x2), .val (.int x3), .val (.long (own_f1 (1 : Int64) (own_ushrL (x0 &&& (9223372036854775807 : Int64)) (x1 &&& (63 : Int32))))), .second, .val (.int (own_f2 (1 : Int32) (own_ushr (x2 &&& (2147483647 : Int32)) (x3 &&& (31 : Int32))))), .val (.ref b3), .val (.long (own_w0_0 x0 x1 x2 x3)), .second, .val (.long ((own_f1 (1 : Int64) (own_ushrL (x0 &&& (9223372036854775807 : Int64)) (x1 &&& (63 : Int32)))) - (1 : Int64))), .second, .unset, .unset, .unset] [(.long (own_w0_0 x0 x1 x2 x3))])) (fun tG kG => XS.lload X11.here hx rfl (hb hby at_85) rfl kG) ?_
        refine Go.via (U' := T11.setTop (mkF m 89 #[.val (.long x0), .second, .val (.int x1), .val (.int x2), .val (.int x3), .val (.long (own_f1 (1 : Int64) (own_ushrL (x0 &&& (9223372036854775807 : Int64)) (x1 &&& (63 : Int32))))), .second, .val (.int (own_f2 (1 : Int32) (own_ushr (x2 &&& (2147483647 : Int32)) (x3 &&& (31 : Int32))))), .val (.ref b3), .val (.long (own_w0_0 x0 x1 x2 x3)), .second, .val (.long ((own_f1 (1 : Int64) (own_ushrL (x0 &&& (9223372036854775807 : Int64)) (x1 &&& (63 : Int32)))) - (1 : Int64))), .second, .unset, .unset, .unset] [(.int (own_f2 (1 : Int32) (own_ushr (x2 &&& (2147483647 : Int32)) (x3 &&& (31 : Int32))))), (.long (own_w0_0 x0 x1 x2 x3))])) (fun tG kG => XS.iload X11.here hx rfl (hb hby at_87) rfl kG) ?_
        refine Go.via (U' := T11.setTop (mkF m 90 #[.val (.long x0), .second, .val (.int x1), .val (.int x2), .val (.int x3), .val (.long (own_f1 (1 : Int64) (own_ushrL (x0 &&& (9223372036854775807 : Int64)) (x1 &&& (63 : Int32))))), .second, .val (.int (own_f2 (1 : Int32) (own_ushr (x2 &&& (2147483647 : Int32)) (x3 &&& (31 : Int32))))), .val (.ref b3), .val (.long (own_w0_0 x0 x1 x2 x3)), .second, .val (.long ((own_f1 (1 : Int64) (own_ushrL (x0 &&& (9223372036854775807 : Int64)) (x1 &&& (63 : Int32)))) - (1 : Int64))), .second, .unset, .unset, .unset] [(.long ((own_f2 (1 : Int32) (own_ushr (x2 &&& (2147483647 : Int32)) (x3 &&& (31 : Int32)))).toInt64)), (.long (own_w0_0 x0 x1 x2 x3))])) (fun tG kG => XS.i2l X11.here hx rfl (hb hby at_89) rfl kG) ?_
        refine Go.via (U' := T11.setTop (mkF m 91 #[.val (.long x0), .second, .val (.int x1), .val (.int x2), .val (.int x3), .val (.long (own_f1 (1 : Int64) (own_ushrL (x0 &&& (9223372036854775807 : Int64)) (x1 &&& (63 : Int32))))), .second, .val (.int (own_f2 (1 : Int32) (own_ushr (x2 &&& (2147483647 : Int32)) (x3 &&& (31 : Int32))))), .val (.ref b3), .val (.long (own_w0_0 x0 x1 x2 x3)), .second, .val (.long ((own_f1 (1 : Int64) (own_ushrL (x0 &&& (9223372036854775807 : Int64)) (x1 &&& (63 : Int32)))) - (1 : Int64))), .second, .unset, .unset, .unset] [(.long ((own_w0_0 x0 x1 x2 x3) / ((own_f2 (1 : Int32) (own_ushr (x2 &&& (2147483647 : Int32)) (x3 &&& (31 : Int32)))).toInt64)))])) (fun tG kG => XS.ldiv X11.here hx rfl (hb hby at_90) rfl (own_nz _) kG) ?_
        refine Go.via (U' := T11.setTop (mkF m 93 #[.val (.long x0), .second, .val (.int x1), .val (.int x2), .val (.int x3), .val (.long (own_f1 (1 : Int64) (own_ushrL (x0 &&& (9223372036854775807 : Int64)) (x1 &&& (63 : Int32))))), .second, .val (.int (own_f2 (1 : Int32) (own_ushr (x2 &&& (2147483647 : Int32)) (x3 &&& (31 : Int32))))), .val (.ref b3), .val (.long (own_w0_0 x0 x1 x2 x3)), .second, .val (.long ((own_f1 (1 : Int64) (own_ushrL (x0 &&& (9223372036854775807 : Int64)) (x1 &&& (63 : Int32)))) - (1 : Int64))), .second, .unset, .unset, .unset] [(.long ((own_f1 (1 : Int64) (own_ushrL (x0 &&& (9223372036854775807 : Int64)) (x1 &&& (63 : Int32)))) - (1 : Int64))), (.long ((own_w0_0 x0 x1 x2 x3) / ((own_f2 (1 : Int32) (own_ushr (x2 &&& (2147483647 : Int32)) (x3 &&& (31 : Int32)))).toInt64)))])) (fun tG kG => XS.lload X11.here hx rfl (hb hby at_91) rfl kG) ?_
        refine Go.via (U' := T11.setTop (mkF m 94 #[.val (.long x0), .second, .val (.int x1), .val (.int x2), .val (.int x3), .val (.long (own_f1 (1 : Int64) (own_ushrL (x0 &&& (9223372036854775807 : Int64)) (x1 &&& (63 : Int32))))), .second, .val (.int (own_f2 (1 : Int32) (own_ushr (x2 &&& (2147483647 : Int32)) (x3 &&& (31 : Int32))))), .val (.ref b3), .val (.long (own_w0_0 x0 x1 x2 x3)), .second, .val (.long ((own_f1 (1 : Int64) (own_ushrL (x0 &&& (9223372036854775807 : Int64)) (x1 &&& (63 : Int32)))) - (1 : Int64))), .second, .unset, .unset, .unset] [(.int (lcmpW ((own_w0_0 x0 x1 x2 x3) / ((own_f2 (1 : Int32) (own_ushr (x2 &&& (2147483647 : Int32)) (x3 &&& (31 : Int32)))).toInt64)) ((own_f1 (1 : Int64) (own_ushrL (x0 &&& (9223372036854775807 : Int64)) (x1 &&& (63 : Int32)))) - (1 : Int64))))])) (fun tG kG => XS.lcmp X11.here hx rfl (hb hby at_93) rfl kG) ?_
        by_cases hc94 : (lcmpW ((own_w0_0 x0 x1 x2 x3) / ((own_f2 (1 : Int32) (own_ushr (x2 &&& (2147483647 : Int32)) (x3 &&& (31 : Int32)))).toInt64)) ((own_f1 (1 : Int64) (own_ushrL (x0 &&& (9223372036854775807 : Int64)) (x1 &&& (63 : Int32)))) - (1 : Int64))) = (0 : Int32)
        · refine Go.via (U' := T11.setTop (mkF m 97 #[.val (.long x0), .second, .val (.int x1), .val (.int x2), .val (.int x3), .val (.long (own_f1 (1 : Int64) (own_ushrL (x0 &&& (9223372036854775807 : Int64)) (x1 &&& (63 : Int32))))), .second, .val (.int (own_f2 (1 : Int32) (own_ushr (x2 &&& (2147483647 : Int32)) (x3 &&& (31 : Int32))))), .val (.ref b3), .val (.long (own_w0_0 x0 x1 x2 x3)), .second, .val (.long ((own_f1 (1 : Int64) (own_ushrL (x0 &&& (9223372036854775807 : Int64)) (x1 &&& (63 : Int32)))) - (1 : Int64))), .second, .unset, .unset, .unset] [])) (fun tG kG => XS.ifNo X11.here hx rfl (hb hby at_94) rfl ((if0 _ _).trans (teq hc94).2) kG) ?_
          refine Go.via (U' := T11.setTop (mkF m 98 #[.val (.long x0), .second, .val (.int x1), .val (.int x2), .val (.int x3), .val (.long (own_f1 (1 : Int64) (own_ushrL (x0 &&& (9223372036854775807 : Int64)) (x1 &&& (63 : Int32))))), .second, .val (.int (own_f2 (1 : Int32) (own_ushr (x2 &&& (2147483647 : Int32)) (x3 &&& (31 : Int32))))), .val (.ref b3), .val (.long (own_w0_0 x0 x1 x2 x3)), .second, .val (.long ((own_f1 (1 : Int64) (own_ushrL (x0 &&& (9223372036854775807 : Int64)) (x1 &&& (63 : Int32)))) - (1 : Int64))), .second, .unset, .unset, .unset] [(.int (1 : Int32))])) (fun tG kG => XS.iconst X11.here hx rfl (hb hby at_97) kG) ?_
          refine Go.via (U' := T11.setTop (mkF m 102 #[.val (.long x0), .second, .val (.int x1), .val (.int x2), .val (.int x3), .val (.long (own_f1 (1 : Int64) (own_ushrL (x0 &&& (9223372036854775807 : Int64)) (x1 &&& (63 : Int32))))), .second, .val (.int (own_f2 (1 : Int32) (own_ushr (x2 &&& (2147483647 : Int32)) (x3 &&& (31 : Int32))))), .val (.ref b3), .val (.long (own_w0_0 x0 x1 x2 x3)), .second, .val (.long ((own_f1 (1 : Int64) (own_ushrL (x0 &&& (9223372036854775807 : Int64)) (x1 &&& (63 : Int32)))) - (1 : Int64))), .second, .unset, .unset, .unset] [(.int (1 : Int32))])) (fun tG kG => XS.goto X11.here hx rfl (pc0 := 98) (pc' := 102) rfl (hb hby at_98) (by decide) (by decide) kG) ?_
          exact go_retN X11 hx hlk (t := .boolean) hret (by simp) (hb hby at_102) e11 ⟨(congrArg (fun z => some (Value.int z)) (show nar .boolean (1 : Int32) = (own_f0 x0 x1 x2 x3) from by unfold own_f0; simp only [if_neg hc64, if_neg hc71, if_pos hc82, if_pos hc94] <;> rfl)), N6⟩ (by decide) (by decide)
        · refine Go.via (U' := T11.setTop (mkF m 101 #[.val (.long x0), .second, .val (.int x1), .val (.int x2), .val (.int x3), .val (.long (own_f1 (1 : Int64) (own_ushrL (x0 &&& (9223372036854775807 : Int64)) (x1 &&& (63 : Int32))))), .second, .val (.int (own_f2 (1 : Int32) (own_ushr (x2 &&& (2147483647 : Int32)) (x3 &&& (31 : Int32))))), .val (.ref b3), .val (.long (own_w0_0 x0 x1 x2 x3)), .second, .val (.long ((own_f1 (1 : Int64) (own_ushrL (x0 &&& (9223372036854775807 : Int64)) (x1 &&& (63 : Int32)))) - (1 : Int64))), .second, .unset, .unset, .unset] [])) (fun tG kG => XS.ifYes X11.here hx rfl (pc0 := 94) (pc' := 101) rfl (hb hby at_94) rfl ((if0 _ _).trans (feq hc94).2) (by decide) (by decide) kG) ?_
          refine Go.via (U' := T11.setTop (mkF m 102 #[.val (.long x0), .second, .val (.int x1), .val (.int x2), .val (.int x3), .val (.long (own_f1 (1 : Int64) (own_ushrL (x0 &&& (9223372036854775807 : Int64)) (x1 &&& (63 : Int32))))), .second, .val (.int (own_f2 (1 : Int32) (own_ushr (x2 &&& (2147483647 : Int32)) (x3 &&& (31 : Int32))))), .val (.ref b3), .val (.long (own_w0_0 x0 x1 x2 x3)), .second, .val (.long ((own_f1 (1 : Int64) (own_ushrL (x0 &&& (9223372036854775807 : Int64)) (x1 &&& (63 : Int32)))) - (1 : Int64))), .second, .unset, .unset, .unset] [(.int (0 : Int32))])) (fun tG kG => XS.iconst X11.here hx rfl (hb hby at_101) kG) ?_
          exact go_retN X11 hx hlk (t := .boolean) hret (by simp) (hb hby at_102) e11 ⟨(congrArg (fun z => some (Value.int z)) (show nar .boolean (0 : Int32) = (own_f0 x0 x1 x2 x3) from by unfold own_f0; simp only [if_neg hc64, if_neg hc71, if_pos hc82, if_neg hc94] <;> rfl)), N6⟩ (by decide) (by decide)
      · refine Go.via (U' := T11.setTop (mkF m 101 #[.val (.long x0), .second, .val (.int x1), .val (.int x2), .val (.int x3), .val (.long (own_f1 (1 : Int64) (own_ushrL (x0 &&& (9223372036854775807 : Int64)) (x1 &&& (63 : Int32))))), .second, .val (.int (own_f2 (1 : Int32) (own_ushr (x2 &&& (2147483647 : Int32)) (x3 &&& (31 : Int32))))), .val (.ref b3), .val (.long (own_w0_0 x0 x1 x2 x3)), .second, .val (.long ((own_f1 (1 : Int64) (own_ushrL (x0 &&& (9223372036854775807 : Int64)) (x1 &&& (63 : Int32)))) - (1 : Int64))), .second, .unset, .unset, .unset] [])) (fun tG kG => XS.ifYes X11.here hx rfl (pc0 := 82) (pc' := 101) rfl (hb hby at_82) rfl ((if0 _ _).trans (feq hc82).2) (by decide) (by decide) kG) ?_
        refine Go.via (U' := T11.setTop (mkF m 102 #[.val (.long x0), .second, .val (.int x1), .val (.int x2), .val (.int x3), .val (.long (own_f1 (1 : Int64) (own_ushrL (x0 &&& (9223372036854775807 : Int64)) (x1 &&& (63 : Int32))))), .second, .val (.int (own_f2 (1 : Int32) (own_ushr (x2 &&& (2147483647 : Int32)) (x3 &&& (31 : Int32))))), .val (.ref b3), .val (.long (own_w0_0 x0 x1 x2 x3)), .second, .val (.long ((own_f1 (1 : Int64) (own_ushrL (x0 &&& (9223372036854775807 : Int64)) (x1 &&& (63 : Int32)))) - (1 : Int64))), .second, .unset, .unset, .unset] [(.int (0 : Int32))])) (fun tG kG => XS.iconst X11.here hx rfl (hb hby at_101) kG) ?_
        exact go_retN X11 hx hlk (t := .boolean) hret (by simp) (hb hby at_102) e11 ⟨(congrArg (fun z => some (Value.int z)) (show nar .boolean (0 : Int32) = (own_f0 x0 x1 x2 x3) from by unfold own_f0; simp only [if_neg hc64, if_neg hc71, if_neg hc82] <;> rfl)), N6⟩ (by decide) (by decide)
theorem own_core (p s : Int64) (hp : 1 ≤ p.toInt) (h1 : 1 ≤ s.toInt) (h2 : s.toInt < 2147483648) :
    (if lcmpW (if (0 : Int32) < lcmpW (p - 1) (9223372036854775807 / s) then (9223372036854775807 : Int64) else (p - 1) * s) 9223372036854775807 = 0 then
      (if (if lcmpW (((p - 1) * s) / s) (p - 1) = 0 then (0 : Int32) else 1) = 0 then (if lcmpW ((p - 1) * s) 9223372036854775807 = 0 then (1 : Int32) else 0) else 1)
     else (if lcmpW (if (0 : Int32) < lcmpW (p - 1) (9223372036854775807 / s) then (9223372036854775807 : Int64) else (p - 1) * s) 0 < 0 then 0
       else (if lcmpW ((if (0 : Int32) < lcmpW (p - 1) (9223372036854775807 / s) then (9223372036854775807 : Int64) else (p - 1) * s) - ((if (0 : Int32) < lcmpW (p - 1) (9223372036854775807 / s) then (9223372036854775807 : Int64) else (p - 1) * s) / s) * s) 0 = 0 then
         (if lcmpW ((if (0 : Int32) < lcmpW (p - 1) (9223372036854775807 / s) then (9223372036854775807 : Int64) else (p - 1) * s) / s) (p - 1) = 0 then 1 else 0) else 0))) = 1 := by
  have rp := rng64 p
  have eM : (9223372036854775807 : Int64).toInt = 9223372036854775807 := rfl
  have e0 : (0 : Int64).toInt = 0 := rfl
  have e1 : (1 : Int64).toInt = 1 := rfl
  have sne : s ≠ -1 := fun h => by
    have := Int64.toInt_inj.mpr h
    have e : (-1 : Int64).toInt = -1 := rfl
    omega
  have qd := c_lsub p 1
  have rq := rng64 (p - 1)
  have hq : (p - 1).toInt = p.toInt - 1 := by omega
  generalize p - 1 = q at *
  have md := (c_ldiv 9223372036854775807 s s.toInt rfl sne).1 (by rw [eM]; decide)
  rw [eM] at md
  have wm := c_lmul q s
  have rw_ := rng64 (q * s)
  have hw1 := (c_ldiv (q * s) s s.toInt rfl sne)
  by_cases c : 9223372036854775807 / s < q
  · have c' := Int64.lt_iff_toInt_lt.mp c
    rw [md] at c'
    have big : 9223372036854775807 < q.toInt * s.toInt := Int.lt_mul_of_ediv_lt (by omega) c'
    have hne : ¬ (q * s) / s = q := by
      intro h
      have h' := Int64.toInt_inj.mpr h
      have pos : 0 ≤ (9223372036854775807 : Int) / s.toInt := Int.ediv_nonneg (by decide) (by omega)
      by_cases z : 0 ≤ (q * s).toInt
      · have a := hw1.1 z
        rw [h'] at a
        have b : q.toInt * s.toInt ≤ (q * s).toInt := by rw [a]; exact Int.ediv_mul_le _ (by omega)
        omega
      · have a := hw1.2 (by omega)
        have b : 0 ≤ (-(q * s).toInt) / s.toInt := Int.ediv_nonneg (by omega) (by omega)
        omega
    rw [if_pos ((lw_gt q (9223372036854775807 / s)).mpr c)]
    rw [if_pos ((lw_eq 9223372036854775807 9223372036854775807).mpr rfl)]
    rw [if_neg (fun h => hne ((lw_eq (q * s / s) q).mp h))]
    exact if_neg (by decide)
  · have c' : ¬ ((9223372036854775807 : Int) / s.toInt < q.toInt) := fun h => c (Int64.lt_iff_toInt_lt.mpr (by rw [md]; exact h))
    have fit : q.toInt * s.toInt ≤ 9223372036854775807 := Int.mul_le_of_le_ediv (by omega) (by omega)
    have nn : 0 ≤ q.toInt * s.toInt := Int.mul_nonneg (by omega) (by omega)
    have hw : (q * s).toInt = q.toInt * s.toInt := by omega
    have hd : (q * s) / s = q := Int64.toInt_inj.mp (by
      rw [hw1.1 (by omega), hw]
      exact Int.mul_ediv_cancel _ (by omega))
    have hr : (q * s) - (q * s / s) * s = 0 := by rw [hd]; exact Int64.sub_self _
    have hlt : ¬ q * s < 0 := by rw [Int64.lt_iff_toInt_lt, e0]; omega
    rw [if_neg (fun h => c ((lw_gt q (9223372036854775807 / s)).mp h))]
    rw [if_neg (fun h => hlt ((lw_lt (q * s) 0).mp h)), if_pos ((lw_eq (q * s - q * s / s * s) 0).mpr hr), if_pos ((lw_eq (q * s / s) q).mpr hd)]
    by_cases z : q * s = 9223372036854775807
    · rw [if_pos ((lw_eq (q * s) 9223372036854775807).mpr z), if_pos rfl]
      exact if_pos ((lw_eq (q * s) 9223372036854775807).mpr z)
    · rw [if_neg (fun h => z ((lw_eq (q * s) 9223372036854775807).mp h))]
      exact if_pos ((lw_eq (q * s / s) q).mpr hd)
theorem own_plain (x : Int64) (k y k2 : Int32) : own_f0 x k y k2 = 1 := by
  have h1 := own_f2ge (own_ushr (y &&& (2147483647 : Int32)) (k2 &&& (31 : Int32)))
  have h2 := rng32 (own_f2 (1 : Int32) (own_ushr (y &&& (2147483647 : Int32)) (k2 &&& (31 : Int32))))
  exact own_core (own_f1 (1 : Int64) (own_ushrL (x &&& (9223372036854775807 : Int64)) (k &&& (63 : Int32)))) ((own_f2 (1 : Int32) (own_ushr (y &&& (2147483647 : Int32)) (k2 &&& (31 : Int32)))).toInt64) (own_f1ge _) (by rw [c_i2l]; exact h1) (by rw [c_i2l]; omega)
set_option maxRecDepth 65536 in
set_option maxHeartbeats 40000000 in
theorem own_comes {Post : Tables → Env → Array Value → State → Outcome → State → Prop} (hpost : ∀ tb e args s v u, (limb_1_1.after args s (.returned v) u = true ∧ limb_1_2.after args s (.returned v) u = true) → FrameEnd s (.returned v) u (Jvm.fieldLocs frame_1_writes args s ++ Jvm.arrayLocs frame_1_arrays args s ++ Jvm.staticLocs frame_1_statics s) 16 128 → Post tb e args s (.returned v) u) :
    ArmFor flags0 classFile x code maxLocals ret World_1 tables_1 room_1 Calls_1 rest_1 Pre_1 Post := by
  intro l hfl _ _ p e ha hc hk s m args below hf hA hF happ hP
  obtain ⟨hcalls, hrest, hpre⟩ := hP
  obtain ⟨-, -, -, hnamed, -, -, -, hat⟩ := (Spec.applies_iff hf).mp happ
  obtain ⟨hg, hn⟩ := and_e (Cond.before_iff.mp (show (Jvm.Cond.and given_1 narrow_1).before args s = true from hpre))
  obtain ⟨hcnt, hg⟩ := and_e hg
  obtain ⟨w0, w1, w2, w3, rfl⟩ : ∃ w0 w1 w2 w3 : Value, args = #[w0, w1, w2, w3] := by
    have hs : args.size = 4 := by simpa [Cond.value, given_1] using hcnt
    obtain ⟨L⟩ := args
    match L, hs with
    | [w0, w1, w2, w3], _ => exact ⟨w0, w1, w2, w3, rfl⟩
  have hw := fun d (hd : d ∈ tables_1) => atoms_spec (ws := Jvm.Cond.code x code maxLocals ret :: tables_1) hat d (List.mem_cons_of_mem _ hd)
  have hfit : Fit s := fun {y c} hc i hi => by
    obtain ⟨ha, rfl⟩ := Array.getElem?_eq_some_iff.mp hc
    have q := List.all_eq_true.mp ((Array.all_eq_true_iff_forall_mem.mp hF) _ (Array.getElem_mem ha)) i (List.mem_range.mpr hi)
    simpa [Array.getElem?_eq_getElem hi] using q
  obtain ⟨hg0, hg⟩ := and_e hg
  obtain ⟨i0, ei0⟩ := isL_v hg0
  obtain rfl : w0 = (.long i0) := Option.some.inj ei0
  obtain ⟨hg1, hg⟩ := and_e hg
  obtain ⟨i1, ei1⟩ := is_v hg1
  obtain rfl : w1 = (.int i1) := Option.some.inj ei1
  obtain ⟨hg2, hg⟩ := and_e hg
  obtain ⟨i2, ei2⟩ := is_v hg2
  obtain rfl : w2 = (.int i2) := Option.some.inj ei2
  obtain ⟨i3, ei3⟩ := is_v hg
  obtain rfl : w3 = (.int i3) := Option.some.inj ei3
  obtain ⟨n, o, h1, h2, h3, _, L, rfl, ⟨rfl, N⟩, hq⟩ := own_rm0 l s _ hw tables_1 i0 i1 i2 i3 s.heap s.heap.size (Nat.le_refl _) p e ha hc hk s m _ below hf ((Spec.applies_iff_loose hf).mp happ).1 ⟨rfl, State.Warmed39.refl s, rfl⟩ trivial
  refine ⟨n, _, h1, h2, h3, hpost _ _ _ _ _ _ ⟨Cond.after_iff.mpr rfl, Cond.after_iff.mpr (eq_i res_at (Term.int_eval (1)) (congrArg Value.int (own_plain i0 i1 i2 i3)))⟩ ⟨hq.1, hq.2.1, (hq.2.2.sift fun y hy => Or.inr (N y hy)).mono (by decide) (by decide)⟩⟩
theorem main_1_1 : Claimed_1_1 := own_comes fun _ _ _ _ _ _ h hF => ⟨h.1, hF⟩
theorem main_1_2 : Claimed_1_2 := own_comes fun _ _ _ _ _ _ h hF => ⟨h.2, hF⟩
end Jvm.Pilot.@@N@@
namespace Jvm.Pilot.@@N@@
open Jvm Jvm.ClassFile Sem Op Lib Jvm.Free Jvm.Stand Jvm.Pilot.@@N@@.Jvm.D
/-! MADE BY PROGRAM (witnessworld.py) out of the Statement's table words and the real class files: 10 classes; the members and pool entries that the words name. The judged class is class 1, her method 1. -/
namespace start1
open Jvm.ClassFile
def u (s : String) : CpInfo := .utf8 (stringToUtf16 s)
/-- a pool by its gaps: so many unusable entries, then the entry; so many at the end -/
def gap : Nat → List CpInfo → List CpInfo
  | 0, r => r
  | n + 1, r => .unusable :: gap n r
def poolList (es : List (Nat × CpInfo)) (last : Nat) : List CpInfo := es.foldr (fun e r => gap e.1 (e.2 :: r)) (gap last [])
def pool (es : List (Nat × CpInfo)) (last : Nat) : Array CpInfo := ⟨poolList es last⟩
def fileOf (pool : Array CpInfo) (this : Nat) (attrs : Array Attribute := #[]) (ms : Array MethodInfo := #[]) (fl : Nat := 33) (sup : Nat := 0) (ifs : Array Nat := #[]) (fds : Array FieldInfo := #[]) : ClassFile where
  minorVersion := 0
  majorVersion := 65
  constantPool := pool
  accessFlags := fl
  thisClass := this
  superClass := sup
  interfaces := ifs
  fields := fds
  methods := ms
  attributes := attrs
def plain (name : String) (sup : Option ClassId) : Class where
  name := name
  kind := .ordinary
  loader := none
  accessFlags := 33
  super := sup
  interfaces := #[]
  cf := none
  fields := #[]
  methods := #[]
  instanceTypes := #[]
  staticTypes := #[]
  resolved := #[]
  callSites := []
  init := .initialized
  statics := none
  mirror := none

def pool0 : Array CpInfo := pool [(5, u "<init>"), (0, u "()V"), (1, .class_ 10), (1, u "java/lang/Object")] 113

def k0c0 : Code := { maxStack := 0, maxLocals := 1, code := object_method_1_code, exceptionTable := #[], attributes := #[] }
def k0m0 : Method := { name := "<init>", desc := "()V", sig := { parameters := [], returnType := none }, accessFlags := 1, code := some k0c0 }
/-- java/lang/Object -/
def k0 : Class := { plain "java/lang/Object" none with
  accessFlags := 33
  interfaces := #[]
  cf := some (fileOf pool0 8 #[] #[{ accessFlags := 1, nameIndex := 5, descriptorIndex := 6, attributes := #[] }] 33 0 #[] #[])
  fields := #[]
  methods := #[k0m0]
  instanceTypes := #[]
  staticTypes := #[]
  resolved := Array.replicate 124 none
  statics := none }

def pool1 : Array CpInfo := pool [(2, .class_ 4), (1, u "java/lang/Object"), (0, u "<init>"), (0, u "()V"), (2, .long 9223372036854775807), (1, .methodref 12 13), (0, .class_ 14), (0, .nameAndType 15 16), (0, u "java/lang/Math"), (0, u "max"), (0, u "(JJ)J"), (0, .integer 2147483647), (0, .methodref 12 19), (0, .nameAndType 15 20), (0, u "(II)I"), (0, .class_ 22), (0, u "com/example/orgwarden/orgwarden/core/store/Paging"), (0, .methodref 21 24), (0, .nameAndType 5 25), (0, u "(JI)V"), (0, .methodref 21 27), (0, .nameAndType 28 29), (0, u "getOffset"), (0, u "()J"), (0, .class_ 31), (0, u "com/example/orgwarden/orgwarden/core/store/PagingGetOffsetPinLaw"), (2, u "law"), (0, u "(JIII)Z")] 3

def k1m0 : Method := { name := "<init>", desc := "()V", sig := { parameters := [], returnType := none }, accessFlags := 1, code := none }
def k1c1 : Code := { maxStack := 6, maxLocals := 16, code := code, exceptionTable := #[], attributes := #[] }
def k1m1 : Method := { name := "law", desc := "(JIII)Z", sig := { parameters := [.long, .int, .int, .int], returnType := some .boolean }, accessFlags := 9, code := some k1c1 }
/-- com/example/orgwarden/orgwarden/core/store/PagingGetOffsetPinLaw -/
def k1 : Class := { plain "com/example/orgwarden/orgwarden/core/store/PagingGetOffsetPinLaw" (some 0) with
  accessFlags := 49
  interfaces := #[]
  cf := some (fileOf pool1 30 #[] #[{ accessFlags := 1, nameIndex := 5, descriptorIndex := 6, attributes := #[] }, { accessFlags := 9, nameIndex := 34, descriptorIndex := 35, attributes := #[] }] 49 2 #[] #[])
  fields := #[]
  methods := #[k1m0, k1m1]
  instanceTypes := #[]
  staticTypes := #[]
  resolved := Array.replicate 39 none
  statics := none }

def pool2 : Array CpInfo := pool [(1, .class_ 2), (0, u "java/lang/Math"), (1, .class_ 6), (1, u "java/lang/Object"), (0, u "<init>"), (0, u "()V"), (89, .class_ 100), (1, u "java/lang/Math$RandomNumberGeneratorHolder"), (20, u "(JJ)J"), (50, u "negativeZeroFloatBits"), (0, u "J"), (2, u "negativeZeroDoubleBits"), (21, u "max"), (46, u "$assertionsDisabled"), (0, u "Z"), (88, u "(II)I"), (2, u "twoToTheDoubleScaleDown"), (0, u "D"), (4, u "twoToTheDoubleScaleUp"), (9, u "E"), (3, u "PI"), (2, u "TAU"), (2, u "DEGREES_TO_RADIANS"), (0, u "RADIANS_TO_DEGREES")] 94

def k2m0 : Method := { name := "<init>", desc := "()V", sig := { parameters := [], returnType := none }, accessFlags := 2, code := none }
def k2c1 : Code := { maxStack := 2, maxLocals := 2, code := jdk_29_method_65_code, exceptionTable := #[], attributes := #[] }
def k2m1 : Method := { name := "max", desc := "(II)I", sig := { parameters := [.int, .int], returnType := some .int }, accessFlags := 9, code := some k2c1 }
def k2c2 : Code := { maxStack := 4, maxLocals := 4, code := jdk_29_method_66_code, exceptionTable := #[], attributes := #[] }
def k2m2 : Method := { name := "max", desc := "(JJ)J", sig := { parameters := [.long, .long], returnType := some .long }, accessFlags := 9, code := some k2c2 }
/-- java/lang/Math -/
def k2 : Class := { plain "java/lang/Math" (some 0) with
  accessFlags := 49
  interfaces := #[]
  cf := some (fileOf pool2 1 #[.nestMembers #[98]] #[{ accessFlags := 2, nameIndex := 7, descriptorIndex := 8, attributes := #[] }, { accessFlags := 9, nameIndex := 198, descriptorIndex := 335, attributes := #[] }, { accessFlags := 9, nameIndex := 198, descriptorIndex := 121, attributes := #[] }] 49 4 #[] #[{ accessFlags := 25, nameIndex := 354, descriptorIndex := 339, attributes := #[] }, { accessFlags := 25, nameIndex := 358, descriptorIndex := 339, attributes := #[] }, { accessFlags := 25, nameIndex := 361, descriptorIndex := 339, attributes := #[] }, { accessFlags := 26, nameIndex := 364, descriptorIndex := 339, attributes := #[] }, { accessFlags := 26, nameIndex := 365, descriptorIndex := 339, attributes := #[] }, { accessFlags := 26, nameIndex := 172, descriptorIndex := 173, attributes := #[] }, { accessFlags := 26, nameIndex := 176, descriptorIndex := 173, attributes := #[] }, { accessFlags := 8, nameIndex := 344, descriptorIndex := 339, attributes := #[] }, { accessFlags := 8, nameIndex := 338, descriptorIndex := 339, attributes := #[] }, { accessFlags := 4120, nameIndex := 245, descriptorIndex := 246, attributes := #[] }])
  fields := #[{ name := "E", type := .double, accessFlags := 25, slot := 0, constantValue := 0 }, { name := "PI", type := .double, accessFlags := 25, slot := 1, constantValue := 0 }, { name := "TAU", type := .double, accessFlags := 25, slot := 2, constantValue := 0 }, { name := "DEGREES_TO_RADIANS", type := .double, accessFlags := 26, slot := 3, constantValue := 0 }, { name := "RADIANS_TO_DEGREES", type := .double, accessFlags := 26, slot := 4, constantValue := 0 }, { name := "negativeZeroFloatBits", type := .long, accessFlags := 26, slot := 5, constantValue := 0 }, { name := "negativeZeroDoubleBits", type := .long, accessFlags := 26, slot := 6, constantValue := 0 }, { name := "twoToTheDoubleScaleUp", type := .double, accessFlags := 8, slot := 7, constantValue := 0 }, { name := "twoToTheDoubleScaleDown", type := .double, accessFlags := 8, slot := 8, constantValue := 0 }, { name := "$assertionsDisabled", type := .boolean, accessFlags := 4120, slot := 9, constantValue := 0 }]
  methods := #[k2m0, k2m1, k2m2]
  instanceTypes := #[]
  staticTypes := #[.double, .double, .double, .double, .double, .long, .long, .double, .double, .boolean]
  resolved := Array.replicate 460 none
  statics := none }

def pool3 : Array CpInfo := pool [(1, .methodref 2 3), (0, .class_ 4), (0, .nameAndType 5 6), (0, u "java/lang/Object"), (0, u "<init>"), (0, u "()V"), (9, .fieldref 17 18), (0, .class_ 19), (0, .nameAndType 20 21), (0, u "com/example/orgwarden/orgwarden/core/store/Paging"), (0, u "m_nPage"), (0, u "J"), (0, .fieldref 17 23), (0, .nameAndType 24 25), (0, u "m_nPageSize"), (0, u "I"), (2, .long 9223372036854775807), (1, u "(JI)V"), (4, u "()J"), (2, u "getOffset")] 17

def k3c0 : Code := { maxStack := 5, maxLocals := 4, code := prog_37_method_1_code, exceptionTable := #[], attributes := #[] }
def k3m0 : Method := { name := "<init>", desc := "(JI)V", sig := { parameters := [.long, .int], returnType := none }, accessFlags := 1, code := some k3c0 }
def k3c1 : Code := { maxStack := 6, maxLocals := 3, code := prog_37_method_4_code, exceptionTable := #[], attributes := #[] }
def k3m1 : Method := { name := "getOffset", desc := "()J", sig := { parameters := [], returnType := some .long }, accessFlags := 0, code := some k3c1 }
/-- com/example/orgwarden/orgwarden/core/store/Paging -/
def k3 : Class := { plain "com/example/orgwarden/orgwarden/core/store/Paging" (some 0) with
  accessFlags := 49
  interfaces := #[]
  cf := some (fileOf pool3 17 #[] #[{ accessFlags := 1, nameIndex := 5, descriptorIndex := 30, attributes := #[] }, { accessFlags := 0, nameIndex := 38, descriptorIndex := 35, attributes := #[] }] 49 2 #[] #[{ accessFlags := 18, nameIndex := 20, descriptorIndex := 21, attributes := #[] }, { accessFlags := 18, nameIndex := 24, descriptorIndex := 25, attributes := #[] }])
  fields := #[{ name := "m_nPage", type := .long, accessFlags := 18, slot := 0, constantValue := 0 }, { name := "m_nPageSize", type := .int, accessFlags := 18, slot := 1, constantValue := 0 }]
  methods := #[k3m0, k3m1]
  instanceTypes := #[.long, .int]
  staticTypes := #[]
  resolved := Array.replicate 56 none
  statics := none }

def pool4 : Array CpInfo := pool [(1, u "java/lang/Cloneable"), (0, .class_ 1), (0, u "java/lang/Object"), (0, .class_ 3)] 3

/-- java/lang/Cloneable -/
def k4 : Class := { plain "java/lang/Cloneable" (some 0) with
  accessFlags := 1537
  interfaces := #[]
  cf := some (fileOf pool4 2 #[] #[] 1537 4 #[] #[])
  fields := #[]
  methods := #[]
  instanceTypes := #[]
  staticTypes := #[]
  resolved := Array.replicate 8 none
  statics := none }

def pool5 : Array CpInfo := pool [(1, u "java/io/Serializable"), (0, .class_ 1), (0, u "java/lang/Object"), (0, .class_ 3)] 3

/-- java/io/Serializable -/
def k5 : Class := { plain "java/io/Serializable" (some 0) with
  accessFlags := 1537
  interfaces := #[]
  cf := some (fileOf pool5 2 #[] #[] 1537 4 #[] #[])
  fields := #[]
  methods := #[]
  instanceTypes := #[]
  staticTypes := #[]
  resolved := Array.replicate 8 none
  statics := none }

/-- the primitive byte -/
def k6 : Class := { plain "byte" none with kind := .primitive 'B', accessFlags := 0x411 }
/-- [B -/
def k7 : Class := { plain "[B" (some 0) with kind := .array 6 .byte, interfaces := #[4, 5], accessFlags := 1041 }

/-- the primitive int -/
def k8 : Class := { plain "int" none with kind := .primitive 'I', accessFlags := 0x411 }
/-- [I -/
def k9 : Class := { plain "[I" (some 0) with kind := .array 8 .int, interfaces := #[4, 5], accessFlags := 1041 }

def heap : Heap := #[]
def classes : Array Class := #[k0, k1, k2, k3, k4, k5, k6, k7, k8, k9]
def interned : List (Array UInt16 × Addr) := []
def slotsUsed : Nat := 0
def theMethod : MethodId := ⟨1, 1⟩
def args0 : Array Value := #[.long 5, .int 3, .int 2, .int 1]
def aboutOver (below : List Frame) : State where
  vm := { classes := classes, interned := interned.toArray }
  heap := heap
  slotsUsed := slotsUsed
  threads := #[{ frames := .invoking theMethod args0 :: below }]
def below0 : List Frame := [.native { method := ⟨0, 0⟩, args := #[] }]
def about1 : State := aboutOver below0
def p0 : Program := .bare "" "" ""
def e0 : Env := launch0.env 0 0 0
theorem w_frames : about1.frames = Frame.invoking theMethod args0 :: below0 := rfl
set_option maxRecDepth 65536 in
theorem w_args : argsFit about1.vm theMethod args0 = true := by decide +kernel
set_option maxRecDepth 65536 in
theorem w_heap : heapFits about1 = true := by decide +kernel
set_option maxRecDepth 65536 in
theorem w_runnable : about1.curStatus? = some .runnable := by decide +kernel
set_option maxRecDepth 65536 in
theorem w_alone : about1.alone = true := by decide +kernel
set_option maxRecDepth 65536 in
theorem w_named : about1.methodNamed? x = some theMethod := by decide +kernel
set_option maxRecDepth 65536 in
theorem w_hears : about1.hears theMethod below0 = true := by decide +kernel
set_option maxRecDepth 65536 in
theorem w_ripe : about1.ripe theMethod args0 below0 = true := by decide +kernel
theorem w_running : about1.status = .running := rfl
set_option maxRecDepth 65536 in
theorem w_room : about1.hasRoom e0.platform room_1 = true :=
  launch0.hasRoom_least _ room_1 (by decide +kernel) (by decide +kernel) (by decide +kernel) (by decide +kernel) (by decide +kernel) (by decide +kernel)
theorem allAtoms_all (ts : List Jvm.Cond) (a : Array Jvm.Value) (st : Jvm.State) : (allAtoms ts).before a st = ts.all (fun c => c.before a st) := by
  induction ts with
  | nil => rfl
  | cons c t ih =>
    show (Jvm.Cond.and c (allAtoms t)).before a st = _
    rw [Jvm.Cond.before_and, ih, List.all_cons]
def words1 : List Jvm.Cond := Jvm.Cond.code x code maxLocals ret :: tables_1
/-- a 'code' word, met by the world's own term for the bytes: nothing is compared byte by byte -/
theorem code_word {y : MethodName} {bytes : ByteArray} {mx : Nat} {rt : Option FieldType} {a : Array Value} {s : State} {m : MethodId} {meth : Method} {c : Code} (h1 : s.methodNamed? y = some m) (h2 : s.vm.method? m = some meth) (h3 : meth.code = some c) (h4 : c.code = bytes)
    (h5 : (c.maxLocals == mx && c.exceptionTable.isEmpty && decide (c.maxStack ≤ mostOperands) && decide (meth.sig.returnType = rt) && !meth.locks && decide (parseMethodDescriptor y.desc = some meth.sig)) = true) : (Jvm.Cond.code y bytes mx rt).before a s = true := by
  simp only [Bool.and_eq_true, beq_iff_eq, Bool.not_eq_true', decide_eq_true_eq] at h5
  obtain ⟨⟨⟨⟨⟨g1, g2⟩, g3⟩, g4⟩, g5⟩, g6⟩ := h5
  simp [Cond.before, Cond.holds, Cond.value, h1, h2, h3, h4, g1, g2, g3, g4, g5, g6]
def isCode : Jvm.Cond → Bool
  | .code _ _ _ _ => true
  | _ => false
theorem all_split {L : List Jvm.Cond} {P : Jvm.Cond → Bool} (h1 : L.all (fun c => isCode c || P c) = true) (h2 : ∀ c ∈ L.filter isCode, P c = true) : L.all P = true := by
  refine List.all_eq_true.mpr fun c hc => ?_
  have h := List.all_eq_true.mp h1 c hc
  rcases Bool.eq_false_or_eq_true (isCode c) with hi | hi
  · exact h2 c (List.mem_filter.mpr ⟨hc, hi⟩)
  · simpa [hi] using h
set_option maxRecDepth 65536 in
theorem w_c0 : (Jvm.Cond.code x code maxLocals ret).before args0 about1 = true := code_word (m := ⟨1, 1⟩) (meth := k1m1) (c := k1c1) (by decide +kernel) rfl rfl rfl (by decide +kernel)
set_option maxRecDepth 65536 in
theorem w_c1 : (Jvm.Cond.code ({ cls := "java/lang/Math", name := "max", desc := "(JJ)J" } : Jvm.MethodName) jdk_29_method_66_code (4 : Nat) (Option.some Jvm.ClassFile.FieldType.long)).before args0 about1 = true := code_word (m := ⟨2, 2⟩) (meth := k2m2) (c := k2c2) (by decide +kernel) rfl rfl rfl (by decide +kernel)
set_option maxRecDepth 65536 in
theorem w_c2 : (Jvm.Cond.code ({ cls := "java/lang/Math", name := "max", desc := "(II)I" } : Jvm.MethodName) jdk_29_method_65_code (2 : Nat) (Option.some Jvm.ClassFile.FieldType.int)).before args0 about1 = true := code_word (m := ⟨2, 1⟩) (meth := k2m1) (c := k2c1) (by decide +kernel) rfl rfl rfl (by decide +kernel)
set_option maxRecDepth 65536 in
theorem w_c3 : (Jvm.Cond.code ({ cls := "com/example/orgwarden/orgwarden/core/store/Paging", name := "<init>", desc := "(JI)V" } : Jvm.MethodName) prog_37_method_1_code (4 : Nat) (Option.none : Option Jvm.ClassFile.FieldType)).before args0 about1 = true := code_word (m := ⟨3, 0⟩) (meth := k3m0) (c := k3c0) (by decide +kernel) rfl rfl rfl (by decide +kernel)
set_option maxRecDepth 65536 in
theorem w_c4 : (Jvm.Cond.code ({ cls := "java/lang/Object", name := "<init>", desc := "()V" } : Jvm.MethodName) object_method_1_code (1 : Nat) (Option.none : Option Jvm.ClassFile.FieldType)).before args0 about1 = true := code_word (m := ⟨0, 0⟩) (meth := k0m0) (c := k0c0) (by decide +kernel) rfl rfl rfl (by decide +kernel)
set_option maxRecDepth 65536 in
theorem w_c5 : (Jvm.Cond.code ({ cls := "com/example/orgwarden/orgwarden/core/store/Paging", name := "getOffset", desc := "()J" } : Jvm.MethodName) prog_37_method_4_code (3 : Nat) (Option.some Jvm.ClassFile.FieldType.long)).before args0 about1 = true := code_word (m := ⟨3, 1⟩) (meth := k3m1) (c := k3c1) (by decide +kernel) rfl rfl rfl (by decide +kernel)
def codes1 : List Jvm.Cond := [Jvm.Cond.code x code maxLocals ret, Jvm.Cond.code ({ cls := "java/lang/Math", name := "max", desc := "(JJ)J" } : Jvm.MethodName) jdk_29_method_66_code (4 : Nat) (Option.some Jvm.ClassFile.FieldType.long), Jvm.Cond.code ({ cls := "java/lang/Math", name := "max", desc := "(II)I" } : Jvm.MethodName) jdk_29_method_65_code (2 : Nat) (Option.some Jvm.ClassFile.FieldType.int), Jvm.Cond.code ({ cls := "com/example/orgwarden/orgwarden/core/store/Paging", name := "<init>", desc := "(JI)V" } : Jvm.MethodName) prog_37_method_1_code (4 : Nat) (Option.none : Option Jvm.ClassFile.FieldType), Jvm.Cond.code ({ cls := "java/lang/Object", name := "<init>", desc := "()V" } : Jvm.MethodName) object_method_1_code (1 : Nat) (Option.none : Option Jvm.ClassFile.FieldType), Jvm.Cond.code ({ cls := "com/example/orgwarden/orgwarden/core/store/Paging", name := "getOffset", desc := "()J" } : Jvm.MethodName) prog_37_method_4_code (3 : Nat) (Option.some Jvm.ClassFile.FieldType.long)]
set_option maxRecDepth 65536 in
theorem codes_eq : words1.filter isCode = codes1 := rfl
theorem w_codes : ∀ c ∈ words1.filter isCode, c.before args0 about1 = true := by
  rw [codes_eq]
  intro c hc
  simp only [codes1, List.mem_cons, List.not_mem_nil, or_false] at hc
  rcases hc with rfl | rfl | rfl | rfl | rfl | rfl
  · exact w_c0
  · exact w_c1
  · exact w_c2
  · exact w_c3
  · exact w_c4
  · exact w_c5
set_option maxRecDepth 65536 in
theorem w_t1 : (words1.take 24).all (fun c => isCode c || c.before args0 about1) = true := by decide +kernel
set_option maxRecDepth 65536 in
theorem w_t2 : (words1.drop 24).all (fun c => isCode c || c.before args0 about1) = true := by decide +kernel
theorem w_tables : (allAtoms (Jvm.Cond.code x code maxLocals ret :: tables_1)).before args0 about1 = true := by
  rw [allAtoms_all]
  show words1.all (fun c => c.before args0 about1) = true
  refine all_split ?_ w_codes
  rw [← List.take_append_drop 24 words1, List.all_append, w_t1, w_t2]
  rfl
set_option maxRecDepth 65536 in
theorem w_case : (Jvm.Cond.and given_1 narrow_1).before args0 about1 = true := by decide +kernel
theorem w_applies : (headSpec (Jvm.Cond.code x code maxLocals ret :: tables_1) room_1).applies x e0.platform about1 = true :=
  (Spec.applies_iff w_frames).mpr ⟨w_running, w_runnable, w_alone, w_named, w_hears, w_ripe, w_room, w_tables⟩
theorem atStart : AtStart classFile x code maxLocals ret World_1 tables_1 room_1 Calls_1 rest_1 Pre_1 launch0 p0 e0 about1 theMethod args0 below0 :=
  ⟨lists_1, trivial, launch0.admits_env _ _ _, launch0.least_env, fairChoices_fair.cas, fairChoices_fair.clock, w_frames, w_args, w_heap, w_applies, trivial, trivial, w_case⟩
end start1
theorem witness_1 : WitnessClaimed_1 := ⟨start1.p0, start1.e0, start1.about1, start1.theMethod, start1.args0, start1.below0, start1.atStart⟩
end Jvm.Pilot.@@N@@

import JvmDerived
import JvmDerived.Pilot.@@N@@Statement
import JvmDerived.Pilot.@@N@@Code
set_option linter.unusedVariables false
set_option linter.unusedSimpArgs false
namespace Jvm.Pilot.@@N@@
open Jvm Jvm.ClassFile Sem Op Lib Jvm.Free Jvm.Stand Jvm.LawKit Jvm.RoadKit Bundle Jvm.Pilot.@@N@@.Jvm.D
def own_ushr (x y : Int32) : Int32 := (x.toUInt32 >>> (y &&& 31).toUInt32).toInt32
def own_ushrL (x : Int64) (y : Int32) : Int64 := (x.toUInt64 >>> (y &&& 0x3f).toInt64.toUInt64).toInt64
section OwnKit
variable {p : Program} {l : Launch} {e : Env} {R : Room} {s : State} {m : MethodId} {args : Array Value} {below : List Frame} {meth : Method} {c : Code} {T : State} {locs : List Loc} {cells slots : Nat} {Z : State} {h h0 : Heap} {ce sl : Nat} {Q : Option Value → Heap → List Loc → Prop} {U U' : State} {a0 : Array Value}
/-- from U the walk comes to its return, and what it leaves is Q -/
def Go (p : Program) (e : Env) (below : List Frame) (s : State) (ce sl : Nat) (Q : Option Value → Heap → List Loc → Prop) (U : State) : Prop :=
  ∃ s₂ o, Steps p.tables e below U s₂ ∧ s₂.status = .running ∧ Ended s₂ below o ∧ ∃ v L, o = .returned v ∧ Q v s₂.heap L ∧ FrameEnd s o s₂ L ce sl
theorem Go.via (h : ∀ t, Steps p.tables e below U' t → Steps p.tables e below U t) (g : Go p e below s ce sl Q U') : Go p e below s ce sl Q U := by
  obtain ⟨s₂, o, h1, h2⟩ := g
  exact ⟨s₂, o, h _ h1, h2⟩
theorem Go.cast {g g' : JFrame} (q : g = g') (k : Go p e below s ce sl Q (T.setTop g')) : Go p e below s ce sl Q (T.setTop g) := q ▸ k
/-- the contract of a body: called with as', over the heap h0, it returns and leaves Q -/
def Meets (l : Launch) (Z : State) (y : MethodName) (bytes : ByteArray) (maxL : Nat) (rt : Option FieldType) (ws : List Jvm.Cond) (rm : Room) (as' : Array Value) (h0 : Heap) (Q : Option Value → Heap → List Loc → Prop) : Prop :=
  MetFree l y (head1 (Jvm.Cond.code y bytes maxL rt :: ws) rm) (fun a U => a = as' ∧ Z.Warmed39 U.vm ∧ U.heap = h0) (fun _ _ _ _ _ => True) (fun _ U o U' => ∃ v L, o = .returned v ∧ Q v U'.heap L ∧ FrameEnd U o U' L rm.cells rm.slots)
theorem meets_of {y : MethodName} {bytes : ByteArray} {maxL : Nat} {rt : Option FieldType} {ws : List Jvm.Cond} {rm : Room} {as' : Array Value} (hpl : plainFor y = true)
    (body : ∀ p e s m below meth c s₁, Stand p l e rm s m as' below meth c s₁ [] 0 0 → p.tables.exec = Jvm.exec → Z.Warmed39 s.vm → c.code = bytes → c.maxLocals = maxL → meth.sig.returnType = rt → meth.locks = false → s.vm.findClass y.cls = some m.cls → meth.name = y.name → s₁.heap = h0 →
      Go p e below s rm.cells rm.slots Q (s₁.setTop (entryFrame m as' maxL))) : Meets l Z y bytes maxL rt ws rm as' h0 Q := by
  refine MetFree.of_bodySF hpl hisR ?_
  intro p e s m args below meth c s₁ Bd hml hP hK
  obtain ⟨rfl, hZ, hh⟩ := hP
  exact body p e s m below meth c s₁ (Stand.of_body Bd) Bd.exec hZ Bd.bytes hml Bd.returns Bd.notSynchronized (findClass_of_methodNamed Bd.named) (name_of_methodNamed Bd.named Bd.method).1 (by rw [← hh, Bd.state]; rfl)
theorem go_ret (X : Stand p l e R s m args below meth c T locs cells slots) (hlk : meth.locks = false) {v : Option Value} (hv : meth.sig.returnType = none → v = none) (eT : T.heap = h) (hQ : Q v h locs) (hc : cells ≤ ce) (hs : slots ≤ sl)
    (st : ∀ fs, (∀ (f : JFrame) (acts : List Action), f.method = m → f.locked = none → f.entered = [] → (doReturn e (T.setTop f) acts v).1 = T.setFrames fs) → Steps p.tables e below U (T.setFrames fs)) : Go p e below s ce sl Q U := by
  obtain ⟨fs, hr, hrun, hended, hW, hsame⟩ := X.leave hv hlk
  exact ⟨_, _, st fs hr, hrun, hended, v, locs, rfl, (by show Q v T.heap locs; rw [eT]; exact hQ), ⟨_, rfl⟩, hW, hsame.mono hc hs⟩
theorem go_retN (X : Stand p l e R s m args below meth c T locs cells slots) (hx : p.tables.exec = Jvm.exec) (hlk : meth.locks = false) {t : FieldType} (hret : meth.sig.returnType = some t) (ht : t = .boolean ∨ t = .byte ∨ t = .char ∨ t = .short) {pc : Nat} {Ls : Array Slot} {z : Int32} {rest : List Value}
    (hd : decode c.code pc = .ok (.ireturn, 1)) (eT : T.heap = h) (hQ : Q (some (.int (nar t z))) h locs) (hc : cells ≤ ce) (hs : slots ≤ sl) : Go p e below s ce sl Q (T.setTop (mkF m pc Ls (.int z :: rest))) :=
  go_ret X hlk (fun h => by rw [hret] at h; cases h) eT hQ hc hs (fun fs hr => retN X hx hret ht hd hr)
theorem go_retI (X : Stand p l e R s m args below meth c T locs cells slots) (hx : p.tables.exec = Jvm.exec) (hlk : meth.locks = false) (hret : meth.sig.returnType = some .int) {pc : Nat} {Ls : Array Slot} {z : Int32} {rest : List Value}
    (hd : decode c.code pc = .ok (.ireturn, 1)) (eT : T.heap = h) (hQ : Q (some (.int z)) h locs) (hc : cells ≤ ce) (hs : slots ≤ sl) : Go p e below s ce sl Q (T.setTop (mkF m pc Ls (.int z :: rest))) :=
  go_ret X hlk (fun h => by rw [hret] at h; cases h) eT hQ hc hs (fun fs hr => retOut X hx hret rfl (Or.inl ⟨rfl, Or.inl rfl, z, rfl⟩) hd hr)
theorem go_retJ (X : Stand p l e R s m args below meth c T locs cells slots) (hx : p.tables.exec = Jvm.exec) (hlk : meth.locks = false) (hret : meth.sig.returnType = some .long) {pc : Nat} {Ls : Array Slot} {z : Int64} {rest : List Value}
    (hd : decode c.code pc = .ok (.lreturn, 1)) (eT : T.heap = h) (hQ : Q (some (.long z)) h locs) (hc : cells ≤ ce) (hs : slots ≤ sl) : Go p e below s ce sl Q (T.setTop (mkF m pc Ls (.long z :: rest))) :=
  go_ret X hlk (fun h => by rw [hret] at h; cases h) eT hQ hc hs (fun fs hr => retOut X hx hret rfl (Or.inr (Or.inl ⟨rfl, rfl, z, rfl⟩)) hd hr)
theorem go_retA (X : Stand p l e R s m args below meth c T locs cells slots) (hx : p.tables.exec = Jvm.exec) (hlk : meth.locks = false) {t : FieldType} (hret : meth.sig.returnType = some t) (ht : t.isReference = true) {pc : Nat} {Ls : Array Slot} {w : Value} (hw : w.isRef = true) (hn : narrow t w = w) {rest : List Value}
    (hd : decode c.code pc = .ok (.areturn, 1)) (eT : T.heap = h) (hQ : Q (some w) h locs) (hc : cells ≤ ce) (hs : slots ≤ sl) : Go p e below s ce sl Q (T.setTop (mkF m pc Ls (w :: rest))) :=
  go_ret X hlk (fun h => by rw [hret] at h; cases h) eT hQ hc hs (fun fs hr => retOut X hx hret hn (Or.inr (Or.inr (Or.inr (Or.inr ⟨rfl, ht, hw⟩)))) hd hr)
theorem go_retV (X : Stand p l e R s m args below meth c T locs cells slots) (hx : p.tables.exec = Jvm.exec) (hlk : meth.locks = false) (hret : meth.sig.returnType = none) {pc : Nat} {Ls : Array Slot}
    (hd : decode c.code pc = .ok (.return_, 1)) (eT : T.heap = h) (hQ : Q none h locs) (hc : cells ≤ ce) (hs : slots ≤ sl) : Go p e below s ce sl Q (T.setTop (mkF m pc Ls [])) :=
  go_ret X hlk (fun _ => rfl) eT hQ hc hs (fun fs hr => X.returnOut hx hret hd hr)
/-- it returned v, wrote nothing and made nothing -/
def PureR (v : Option Value) (h0 : Heap) : Option Value → Heap → List Loc → Prop := fun v' h L => v' = v ∧ h = h0 ∧ L = []
/-- a static method by its contract -/
theorem callSQ (X : Stand p l e R s m args below meth c T locs cells slots) (hx : p.tables.exec = Jvm.exec) (hZ : Z.Warmed39 s.vm) {own : String} {index : Nat} {y : MethodName} {bytes : ByteArray} {maxL : Nat} {rt : Option FieldType} {rm : Room}
    (hown : s.vm.findClass own = some m.cls) (w1 : (Jvm.Cond.methodLink own index y).before a0 Z = true) (w2 : (Jvm.Cond.static y).before a0 Z = true) (w3 : (Jvm.Cond.initialized y.cls).before a0 Z = true) (w4 : (Jvm.Cond.code y bytes maxL rt).before a0 Z = true)
    (hy : y.cls ≠ "java/lang/invoke/MethodHandle" ∧ y.cls ≠ "java/lang/invoke/VarHandle") {av : List Value} (hM : Meets l Z y bytes maxL rt [] rm av.toArray h Q) (eT : T.heap = h)
    {pc : Nat} {Ls : Array Slot} {rest : List Value} {ps : List FieldType} {r : Option FieldType} (hsize : Ls.size = c.maxLocals) (hp : parseMethodDescriptor y.desc = some ⟨ps, r⟩) (hlen : av.length = ps.length)
    (W : Nat) (hW : (rest.map fun v => v.category).sum ≤ W) (hf : rm.frames + 1 ≤ R.frames) (hl : W + (maxL + 11) + rm.locals ≤ R.locals) (hc : cells + rm.cells ≤ R.cells) (hs : slots + rm.slots ≤ R.slots) (hd : decode c.code pc = .ok (.invokestatic index, 3)) :
    ∃ v T' L, Stand p l e R s m args below meth c T' (locs ++ L) (cells + rm.cells) (slots + rm.slots) ∧ Q v T'.heap L ∧
      ∀ t, Steps p.tables e below (T'.setTop (mkF m (pc + 3) Ls (v.toList ++ rest))) t → Steps p.tables e below (T.setTop (mkF m pc Ls (av.reverse ++ rest))) t := by
  obtain ⟨v, _, ⟨T2, L2, k2, n2⟩, -, X2, ⟨Lc2, hQ2, l2, y2, z2⟩, st2⟩ := Jvm.LawKit.callS X hx (y := y) hown (mvT hZ w1) (mvT hZ w2) (mvT hZ w3) (mvT hZ w4) hy (backOf (W := W) hM hZ w4 w3 hf hl) (g := mkF m pc Ls (av.reverse ++ rest)) rfl hsize (argsL := av) (rest := rest) (lenOf hp hlen) rfl (by show 2 * 0 + _ ≤ _; rw [Nat.mul_zero, Nat.zero_add]; exact hW) hd (fun _ _ => ⟨rfl, eT, hc, hs⟩)
  dsimp only [Pt.U, Pt.locs, Pt.cells, Pt.slots] at X2 l2 y2 z2 st2 hQ2
  subst l2 y2 z2
  exact ⟨v, T2, Lc2, X2, hQ2, st2⟩
/-- a static method that writes and makes nothing -/
theorem callS0 (X : Stand p l e R s m args below meth c T locs cells slots) (hx : p.tables.exec = Jvm.exec) (hZ : Z.Warmed39 s.vm) {own : String} {index : Nat} {y : MethodName} {bytes : ByteArray} {maxL : Nat} {rt : Option FieldType} {fr lo : Nat} {v : Option Value}
    (hown : s.vm.findClass own = some m.cls) (w1 : (Jvm.Cond.methodLink own index y).before a0 Z = true) (w2 : (Jvm.Cond.static y).before a0 Z = true) (w3 : (Jvm.Cond.initialized y.cls).before a0 Z = true) (w4 : (Jvm.Cond.code y bytes maxL rt).before a0 Z = true)
    (hy : y.cls ≠ "java/lang/invoke/MethodHandle" ∧ y.cls ≠ "java/lang/invoke/VarHandle") {av : List Value} (hM : Meets l Z y bytes maxL rt [] ({ frames := fr, cells := 0, slots := 0, locals := lo } : Room) av.toArray h (PureR v h)) (eT : T.heap = h)
    {pc : Nat} {Ls : Array Slot} {rest : List Value} {ps : List FieldType} {r : Option FieldType} (hsize : Ls.size = c.maxLocals) (hp : parseMethodDescriptor y.desc = some ⟨ps, r⟩) (hlen : av.length = ps.length)
    (W : Nat) (hW : (rest.map fun v => v.category).sum ≤ W) (hf : fr + 1 ≤ R.frames) (hl : W + (maxL + 11) + lo ≤ R.locals) (hc : cells ≤ R.cells) (hs : slots ≤ R.slots) (hd : decode c.code pc = .ok (.invokestatic index, 3)) :
    ∃ T', Stand p l e R s m args below meth c T' locs cells slots ∧ T'.heap = h ∧
      ∀ t, Steps p.tables e below (T'.setTop (mkF m (pc + 3) Ls (v.toList ++ rest))) t → Steps p.tables e below (T.setTop (mkF m pc Ls (av.reverse ++ rest))) t := by
  obtain ⟨_, T2, _, X2, ⟨rfl, h2, rfl⟩, st2⟩ := callSQ X hx hZ hown w1 w2 w3 w4 hy hM eT hsize hp hlen W hW hf hl hc hs hd
  rw [List.append_nil] at X2
  exact ⟨T2, X2, h2, st2⟩
end OwnKit
section OwnKit2
variable {p : Program} {l : Launch} {e : Env} {R : Room} {s : State} {m : MethodId} {args : Array Value} {below : List Frame} {meth : Method} {c : Code} {T : State} {locs : List Loc} {cells slots : Nat} {Z : State} {h h0 : Heap} {ce sl : Nat} {Q : Option Value → Heap → List Loc → Prop} {U U' : State} {a0 : Array Value}
/-- an instance method by its contract, the resolved one being the selected one -/
theorem callVQ (X : Stand p l e R s m args below meth c T locs cells slots) (hx : p.tables.exec = Jvm.exec) (hZ : Z.Warmed39 s.vm) {own C : String} {index : Nat} {y : MethodName} {bytes : ByteArray} {maxL : Nat} {rt : Option FieldType} {rm : Room}
    (hown : s.vm.findClass own = some m.cls) (w1 : (Jvm.Cond.methodLink own index y).before a0 Z = true) (w2 : (Jvm.Cond.declares y).before a0 Z = true) (w3 : (Jvm.Cond.selects C y y).before a0 Z = true) (w5 : (Jvm.Cond.instanceMethod y).before a0 Z = true) (w6 : (Jvm.Cond.initialized y.cls).before a0 Z = true) (w4 : (Jvm.Cond.code y bytes maxL rt).before a0 Z = true)
    (hy : y.cls ≠ "java/lang/invoke/MethodHandle" ∧ y.cls ≠ "java/lang/invoke/VarHandle") {b : Addr} {av : List Value} (hE : Exa Z h b C) (hM : Meets l Z y bytes maxL rt [] rm (.ref b :: av).toArray h Q) (eT : T.heap = h)
    {pc : Nat} {Ls : Array Slot} {rest : List Value} {ps : List FieldType} {r : Option FieldType} (hsize : Ls.size = c.maxLocals) (hp : parseMethodDescriptor y.desc = some ⟨ps, r⟩) (hlen : av.length = ps.length)
    (W : Nat) (hW : (rest.map fun v => v.category).sum ≤ W) (hf : rm.frames + 1 ≤ R.frames) (hl : W + (maxL + 11) + rm.locals ≤ R.locals) (hc : cells + rm.cells ≤ R.cells) (hs : slots + rm.slots ≤ R.slots) (hd : decode c.code pc = .ok (.invokevirtual index, 3)) :
    ∃ v T' L, Stand p l e R s m args below meth c T' (locs ++ L) (cells + rm.cells) (slots + rm.slots) ∧ Q v T'.heap L ∧
      ∀ t, Steps p.tables e below (T'.setTop (mkF m (pc + 3) Ls (v.toList ++ rest))) t → Steps p.tables e below (T.setTop (mkF m pc Ls (av.reverse ++ .ref b :: rest))) t := by
  obtain ⟨cq, kq, qa, qb, qc⟩ := isOf hZ eT hE
  obtain ⟨v, _, ⟨T2, L2, k2, n2⟩, -, X2, ⟨Lc2, hQ2, l2, y2, z2⟩, st2⟩ := X.virtualBack hx (y := y) (z := y) hown (mvT hZ w1) (mvT hZ w2) (notFace_of_selects (args := #[]) (mvT hZ w3)) (mvT hZ w3) (mvT hZ w5) hy (backOf (W := W) hM hZ w4 w6 hf hl) qa qc (g := mkF m pc Ls (av.reverse ++ .ref b :: rest)) rfl hsize (Steps.refl _) (argsL := av) (rest := rest) (lenOf hp hlen) rfl (by show 2 * 0 + _ ≤ _; rw [Nat.mul_zero, Nat.zero_add]; exact hW) hd (fun _ _ => ⟨rfl, eT, hc, hs⟩)
  dsimp only [Pt.U, Pt.locs, Pt.cells, Pt.slots] at X2 l2 y2 z2 st2 hQ2
  subst l2 y2 z2
  exact ⟨v, T2, Lc2, X2, hQ2, fun t k => st2.trans k⟩
theorem callV0 (X : Stand p l e R s m args below meth c T locs cells slots) (hx : p.tables.exec = Jvm.exec) (hZ : Z.Warmed39 s.vm) {own C : String} {index : Nat} {y : MethodName} {bytes : ByteArray} {maxL : Nat} {rt : Option FieldType} {fr lo : Nat} {v : Option Value}
    (hown : s.vm.findClass own = some m.cls) (w1 : (Jvm.Cond.methodLink own index y).before a0 Z = true) (w2 : (Jvm.Cond.declares y).before a0 Z = true) (w3 : (Jvm.Cond.selects C y y).before a0 Z = true) (w5 : (Jvm.Cond.instanceMethod y).before a0 Z = true) (w6 : (Jvm.Cond.initialized y.cls).before a0 Z = true) (w4 : (Jvm.Cond.code y bytes maxL rt).before a0 Z = true)
    (hy : y.cls ≠ "java/lang/invoke/MethodHandle" ∧ y.cls ≠ "java/lang/invoke/VarHandle") {b : Addr} {av : List Value} (hE : Exa Z h b C) (hM : Meets l Z y bytes maxL rt [] ({ frames := fr, cells := 0, slots := 0, locals := lo } : Room) (.ref b :: av).toArray h (PureR v h)) (eT : T.heap = h)
    {pc : Nat} {Ls : Array Slot} {rest : List Value} {ps : List FieldType} {r : Option FieldType} (hsize : Ls.size = c.maxLocals) (hp : parseMethodDescriptor y.desc = some ⟨ps, r⟩) (hlen : av.length = ps.length)
    (W : Nat) (hW : (rest.map fun v => v.category).sum ≤ W) (hf : fr + 1 ≤ R.frames) (hl : W + (maxL + 11) + lo ≤ R.locals) (hc : cells ≤ R.cells) (hs : slots ≤ R.slots) (hd : decode c.code pc = .ok (.invokevirtual index, 3)) :
    ∃ T', Stand p l e R s m args below meth c T' locs cells slots ∧ T'.heap = h ∧
      ∀ t, Steps p.tables e below (T'.setTop (mkF m (pc + 3) Ls (v.toList ++ rest))) t → Steps p.tables e below (T.setTop (mkF m pc Ls (av.reverse ++ .ref b :: rest))) t := by
  obtain ⟨_, T2, _, X2, ⟨rfl, h2, rfl⟩, st2⟩ := callVQ X hx hZ hown w1 w2 w3 w5 w6 w4 hy hE hM eT hsize hp hlen W hW hf hl hc hs hd
  rw [List.append_nil] at X2
  exact ⟨T2, X2, h2, st2⟩
/-- a constructor by its contract -/
theorem callIQ (X : Stand p l e R s m args below meth c T locs cells slots) (hx : p.tables.exec = Jvm.exec) (hZ : Z.Warmed39 s.vm) {own : String} {index : Nat} {y : MethodName} {bytes : ByteArray} {maxL : Nat} {rm : Room} (hy1 : y.name = "<init>")
    (hown : s.vm.findClass own = some m.cls) (w1 : (Jvm.Cond.methodLink own index y).before a0 Z = true) (w5 : (Jvm.Cond.instanceMethod y).before a0 Z = true) (w6 : (Jvm.Cond.initialized y.cls).before a0 Z = true) (w4 : (Jvm.Cond.code y bytes maxL none).before a0 Z = true)
    (hy : y.cls ≠ "java/lang/invoke/MethodHandle" ∧ y.cls ≠ "java/lang/invoke/VarHandle") {b : Addr} {av : List Value} (hM : Meets l Z y bytes maxL none [] rm (.ref b :: av).toArray h Q) (eT : T.heap = h)
    {pc : Nat} {Ls : Array Slot} {rest : List Value} {ps : List FieldType} {r : Option FieldType} (hsize : Ls.size = c.maxLocals) (hp : parseMethodDescriptor y.desc = some ⟨ps, r⟩) (hlen : av.length = ps.length)
    (W : Nat) (hW : (rest.map fun v => v.category).sum ≤ W) (hf : rm.frames + 1 ≤ R.frames) (hl : W + (maxL + 11) + rm.locals ≤ R.locals) (hc : cells + rm.cells ≤ R.cells) (hs : slots + rm.slots ≤ R.slots) (hd : decode c.code pc = .ok (.invokespecial index, 3)) :
    ∃ v T' L, Stand p l e R s m args below meth c T' (locs ++ L) (cells + rm.cells) (slots + rm.slots) ∧ Q v T'.heap L ∧
      ∀ t, Steps p.tables e below (T'.setTop (mkF m (pc + 3) Ls (v.toList ++ rest))) t → Steps p.tables e below (T.setTop (mkF m pc Ls (av.reverse ++ .ref b :: rest))) t := by
  obtain ⟨v, _, ⟨T2, L2, k2, n2⟩, -, X2, ⟨Lc2, hQ2, l2, y2, z2⟩, st2⟩ := X.specialBack hx (y := y) hy1 hown (mvT hZ w1) (mvT hZ w5) (mvT hZ w4) hy (backOf (W := W) hM hZ w4 w6 hf hl) (g := mkF m pc Ls (av.reverse ++ .ref b :: rest)) rfl hsize (Steps.refl _) (a := b) (argsL := av) (rest := rest) (lenOf hp hlen) rfl (by show 2 * 0 + _ ≤ _; rw [Nat.mul_zero, Nat.zero_add]; exact hW) hd (fun _ _ => ⟨rfl, eT, hc, hs⟩)
  dsimp only [Pt.U, Pt.locs, Pt.cells, Pt.slots] at X2 l2 y2 z2 st2 hQ2
  subst l2 y2 z2
  exact ⟨v, T2, Lc2, X2, hQ2, fun t k => st2.trans k⟩
end OwnKit2
theorem own_k0 (m : MethodId) (a : Addr) (x0 : Int64) : entryFrame m #[(.ref a), (.long x0)] 3 = mkF m 0 #[.val (.ref a), .val (.long x0), .second] [] := by first | (simp [entryFrame, mkF, argsToLocals, Value.category]; done) | rfl
theorem own_k1 : decode prog_55_method_1_code 0 = .ok (.aload_n 0, 1) := by decide +kernel
theorem own_k2 : decode prog_55_method_1_code 1 = .ok (.invokespecial 1, 3) := by decide +kernel
theorem own_k3 : decode prog_55_method_1_code 4 = .ok (.aload_n 0, 1) := by decide +kernel
theorem own_k4 : decode prog_55_method_1_code 5 = .ok (.lload_n 1, 1) := by decide +kernel
theorem own_k5 : decode prog_55_method_1_code 6 = .ok (.putfield 7, 3) := by decide +kernel
theorem own_k6 : decode prog_55_method_1_code 9 = .ok (.return_, 1) := by decide +kernel
theorem own_k7 : plainName "com/example/fusewire/fusewire/SeededRandom" = true := by first | (simp [plainName, overriddenIn]; done) | decide +kernel
set_option maxRecDepth 65536 in
set_option maxHeartbeats 40000000 in
theorem own_rm1 (l : Launch) (Z : State) (a0 : Array Value) (hw : ∀ d ∈ tables_1, d.before a0 Z = true) (ws : List Jvm.Cond) (a : Addr) (x0 : Int64) (h0 : Heap) (n0 : Nat) (hn0 : n0 ≤ h0.size) (E_a : Exa Z h0 a "com/example/fusewire/fusewire/SeededRandom") (F_a_state : Fld Z h0 a "com/example/fusewire/fusewire/SeededRandom" "state" "J" (.long (0 : Int64))) (g_a : n0 ≤ a) : Meets l Z (⟨"com/example/fusewire/fusewire/SeededRandom", "<init>", "(J)V"⟩ : MethodName) prog_55_method_1_code 3 none ws ({ frames := 1, cells := 0, slots := 0, locals := 12 } : Room) #[(.ref a), (.long x0)] h0 (fun v h L => v = none ∧ Fr n0 L ∧ Keep h0 h [a] ∧ Exa Z h a "com/example/fusewire/fusewire/SeededRandom" ∧ Fld Z h a "com/example/fusewire/fusewire/SeededRandom" "state" "J" (.long x0)) := by
  refine meets_of (plainFor_of_name own_k7) ?_
  intro p e s m below meth c s₁ X0 hx hZ hby hml hret hlk hown hnm e0
  replace hml : c.maxLocals = 3 := hml
  replace hown : s.vm.findClass "com/example/fusewire/fusewire/SeededRandom" = some m.cls := hown
  refine Go.cast (own_k0 m a x0) ?_
  have N0 := Fr.nil n0
  have K0 : Keep h0 h0 [a] := Keep.refl h0 _
  refine Go.via (U' := s₁.setTop (mkF m 1 #[.val (.ref a), .val (.long x0), .second] [(.ref a)])) (fun tG kG => XS.aloadN X0.here hx rfl (hb hby own_k1) rfl rfl kG) ?_
  obtain ⟨T1, X1, e1, st1⟩ := initO X0 hx hZ hown (hw _ (List.mem_of_getElem? (i := 7) rfl)) (hw _ (List.mem_of_getElem? (i := 8) rfl)) (hw _ (List.mem_of_getElem? (i := 9) rfl)) e0 (g := (mkF m 1 #[.val (.ref a), .val (.long x0), .second] [(.ref a)])) rfl (by rw [hml]; rfl) rfl (hb hby own_k2) (by decide) (W := 0) (by show 2 * 0 + _ ≤ _; exact Nat.le_of_eq rfl) (by decide)
  refine Go.via (U' := T1.setTop (mkF m 4 #[.val (.ref a), .val (.long x0), .second] [])) (fun tG kG => st1 tG kG) ?_
  refine Go.via (U' := T1.setTop (mkF m 5 #[.val (.ref a), .val (.long x0), .second] [(.ref a)])) (fun tG kG => XS.aloadN X1.here hx rfl (hb hby own_k3) rfl rfl kG) ?_
  refine Go.via (U' := T1.setTop (mkF m 6 #[.val (.ref a), .val (.long x0), .second] [(.long x0), (.ref a)])) (fun tG kG => XS.lloadN X1.here hx rfl (hb hby own_k4) rfl kG) ?_
  obtain ⟨T2, h2, X2, e2, W2, st2⟩ := putF X1 hx hZ hown (host := "") (Or.inl (hw _ (List.mem_of_getElem? (i := 10) rfl))) Via.refl e1 F_a_state E_a (Or.inl (hw _ (List.mem_of_getElem? (i := 11) rfl))) (hw _ (List.mem_of_getElem? (i := 2) rfl)) (ty := .long) (by decide) rfl rfl (g := (mkF m 6 #[.val (.ref a), .val (.long x0), .second] [(.long x0), (.ref a)])) rfl rfl (hb hby own_k5)
  have f3 := E_a.wr W2
  have f4 := F_a_state.same W2
  have K2 := K0.wr W2 (Or.inl (List.mem_of_getElem? (i := 0) rfl))
  have N2 := Fr.snoc X2 N0 g_a
  have Z2 := Nat.le_trans hn0 (Keep.of_wr W2).1
  refine Go.via (U' := T2.setTop (mkF m 9 #[.val (.ref a), .val (.long x0), .second] [])) (fun tG kG => st2 tG kG) ?_
  exact go_retV X2 hx hlk hret (hb hby own_k6) e2 ⟨rfl, N2, K2, f3, f4⟩ (by decide) (by decide)
theorem own_k8 (m : MethodId) (a : Addr) : entryFrame m #[(.ref a)] 3 = mkF m 0 #[.val (.ref a), .unset, .unset] [] := by first | (simp [entryFrame, mkF, argsToLocals, Value.category]; done) | rfl
theorem own_k9 : decode prog_55_method_2_code 0 = .ok (.aload_n 0, 1) := by decide +kernel
theorem own_k10 : decode prog_55_method_2_code 1 = .ok (.dup, 1) := by decide +kernel
theorem own_k11 : decode prog_55_method_2_code 2 = .ok (.getfield 7, 3) := by decide +kernel
theorem own_k12 : decode prog_55_method_2_code 5 = .ok (.ldc2_w 13, 3) := by decide +kernel
theorem own_k13 : decode prog_55_method_2_code 8 = .ok (.ladd, 1) := by decide +kernel
theorem own_k14 : decode prog_55_method_2_code 9 = .ok (.putfield 7, 3) := by decide +kernel
theorem own_k15 : decode prog_55_method_2_code 12 = .ok (.aload_n 0, 1) := by decide +kernel
theorem own_k16 : decode prog_55_method_2_code 13 = .ok (.getfield 7, 3) := by decide +kernel
theorem own_k17 : decode prog_55_method_2_code 16 = .ok (.lstore_n 1, 1) := by decide +kernel
theorem own_k18 : decode prog_55_method_2_code 17 = .ok (.lload_n 1, 1) := by decide +kernel
theorem own_k19 : decode prog_55_method_2_code 18 = .ok (.lload_n 1, 1) := by decide +kernel
theorem own_k20 : decode prog_55_method_2_code 19 = .ok (.bipush 30, 2) := by decide +kernel
def own_w4_0 (u : Int64) : Int64 := (own_ushrL (u + (-7046029254386353131 : Int64)) (30 : Int32))
theorem own_k21 : decode prog_55_method_2_code 21 = .ok (.lushr, 1) := by decide +kernel
theorem own_k22 : decode prog_55_method_2_code 22 = .ok (.lxor, 1) := by decide +kernel
theorem own_k23 : decode prog_55_method_2_code 23 = .ok (.ldc2_w 15, 3) := by decide +kernel
def own_w4_1 (u : Int64) : Int64 := (((u + (-7046029254386353131 : Int64)) ^^^ (own_w4_0 u)) * (-4658895280553007687 : Int64))
theorem own_k24 : decode prog_55_method_2_code 26 = .ok (.lmul, 1) := by decide +kernel
theorem own_k25 : decode prog_55_method_2_code 27 = .ok (.lstore_n 1, 1) := by decide +kernel
theorem own_k26 : decode prog_55_method_2_code 28 = .ok (.lload_n 1, 1) := by decide +kernel
theorem own_k27 : decode prog_55_method_2_code 29 = .ok (.lload_n 1, 1) := by decide +kernel
theorem own_k28 : decode prog_55_method_2_code 30 = .ok (.bipush 27, 2) := by decide +kernel
theorem own_k29 : decode prog_55_method_2_code 32 = .ok (.lushr, 1) := by decide +kernel
theorem own_k30 : decode prog_55_method_2_code 33 = .ok (.lxor, 1) := by decide +kernel
theorem own_k31 : decode prog_55_method_2_code 34 = .ok (.ldc2_w 17, 3) := by decide +kernel
def own_w4_2 (u : Int64) : Int64 := (((own_w4_1 u) ^^^ (own_ushrL (own_w4_1 u) (27 : Int32))) * (-7723592293110705685 : Int64))
theorem own_k32 : decode prog_55_method_2_code 37 = .ok (.lmul, 1) := by decide +kernel
theorem own_k33 : decode prog_55_method_2_code 38 = .ok (.lstore_n 1, 1) := by decide +kernel
theorem own_k34 : decode prog_55_method_2_code 39 = .ok (.lload_n 1, 1) := by decide +kernel
theorem own_k35 : decode prog_55_method_2_code 40 = .ok (.lload_n 1, 1) := by decide +kernel
theorem own_k36 : decode prog_55_method_2_code 41 = .ok (.bipush 31, 2) := by decide +kernel
theorem own_k37 : decode prog_55_method_2_code 43 = .ok (.lushr, 1) := by decide +kernel
theorem own_k38 : decode prog_55_method_2_code 44 = .ok (.lxor, 1) := by decide +kernel
theorem own_k39 : decode prog_55_method_2_code 45 = .ok (.lreturn, 1) := by decide +kernel
def own_f4 (u : Int64) : Int64 := ((own_w4_2 u) ^^^ (own_ushrL (own_w4_2 u) (31 : Int32)))
set_option maxRecDepth 65536 in
set_option maxHeartbeats 40000000 in
theorem own_rm4 (l : Launch) (Z : State) (a0 : Array Value) (hw : ∀ d ∈ tables_1, d.before a0 Z = true) (ws : List Jvm.Cond) (a : Addr) (u : Int64) (h0 : Heap) (n0 : Nat) (hn0 : n0 ≤ h0.size) (E_a : Exa Z h0 a "com/example/fusewire/fusewire/SeededRandom") (F_a_state : Fld Z h0 a "com/example/fusewire/fusewire/SeededRandom" "state" "J" (.long u)) (g_a : n0 ≤ a) : Meets l Z (⟨"com/example/fusewire/fusewire/SeededRandom", "nextLong", "()J"⟩ : MethodName) prog_55_method_2_code 3 (some .long) ws ({ frames := 0, cells := 0, slots := 0, locals := 0 } : Room) #[(.ref a)] h0 (fun v h L => v = some (.long (own_f4 u)) ∧ Fr n0 L ∧ Keep h0 h [a] ∧ Exa Z h a "com/example/fusewire/fusewire/SeededRandom" ∧ Fld Z h a "com/example/fusewire/fusewire/SeededRandom" "state" "J" (.long (u + (-7046029254386353131 : Int64)))) := by
  refine meets_of (plainFor_of_name own_k7) ?_
  intro p e s m below meth c s₁ X0 hx hZ hby hml hret hlk hown hnm e0
  replace hml : c.maxLocals = 3 := hml
  replace hown : s.vm.findClass "com/example/fusewire/fusewire/SeededRandom" = some m.cls := hown
  refine Go.cast (own_k8 m a) ?_
  have N0 := Fr.nil n0
  have K0 : Keep h0 h0 [a] := Keep.refl h0 _
  refine Go.via (U' := s₁.setTop (mkF m 1 #[.val (.ref a), .unset, .unset] [(.ref a)])) (fun tG kG => XS.aloadN X0.here hx rfl (hb hby own_k9) rfl rfl kG) ?_
  refine Go.via (U' := s₁.setTop (mkF m 2 #[.val (.ref a), .unset, .unset] [(.ref a), (.ref a)])) (fun tG kG => XS.dup X0.here hx rfl (hb hby own_k10) rfl rfl kG) ?_
  obtain ⟨T1, X1, e1, st1⟩ := getF X0 hx hZ hown (host := "") (Or.inl (hw _ (List.mem_of_getElem? (i := 10) rfl))) Via.refl e0 F_a_state (g := (mkF m 2 #[.val (.ref a), .unset, .unset] [(.ref a), (.ref a)])) rfl rfl (hb hby own_k11)
  refine Go.via (U' := T1.setTop (mkF m 5 #[.val (.ref a), .unset, .unset] [(.long u), (.ref a)])) (fun tG kG => st1 tG kG) ?_
  refine Go.via (U' := T1.setTop (mkF m 8 #[.val (.ref a), .unset, .unset] [(.long (-7046029254386353131 : Int64)), (.long u), (.ref a)])) (fun tG kG => X1.ldc2Long hx hown (mvT hZ (hw _ (List.mem_of_getElem? (i := 23) rfl))) (g := (mkF m 5 #[.val (.ref a), .unset, .unset] [(.long u), (.ref a)])) rfl (hb hby own_k12) tG kG) ?_
  refine Go.via (U' := T1.setTop (mkF m 9 #[.val (.ref a), .unset, .unset] [(.long (u + (-7046029254386353131 : Int64))), (.ref a)])) (fun tG kG => XS.ladd X1.here hx rfl (hb hby own_k13) rfl kG) ?_
  obtain ⟨T2, h2, X2, e2, W2, st2⟩ := putF X1 hx hZ hown (host := "") (Or.inl (hw _ (List.mem_of_getElem? (i := 10) rfl))) Via.refl e1 F_a_state E_a (Or.inl (hw _ (List.mem_of_getElem? (i := 11) rfl))) (hw _ (List.mem_of_getElem? (i := 2) rfl)) (ty := .long) (by decide) rfl rfl (g := (mkF m 9 #[.val (.ref a), .unset, .unset] [(.long (u + (-7046029254386353131 : Int64))), (.ref a)])) rfl rfl (hb hby own_k14)
  have f3 := E_a.wr W2
  have f4 := F_a_state.same W2
  have K2 := K0.wr W2 (Or.inl (List.mem_of_getElem? (i := 0) rfl))
  have N2 := Fr.snoc X2 N0 g_a
  have Z2 := Nat.le_trans hn0 (Keep.of_wr W2).1
  refine Go.via (U' := T2.setTop (mkF m 12 #[.val (.ref a), .unset, .unset] [])) (fun tG kG => st2 tG kG) ?_
  refine Go.via (U' := T2.setTop (mkF m 13 #[.val (.ref a), .unset, .unset] [(.ref a)])) (fun tG kG => XS.aloadN X2.here hx rfl (hb hby own_k15) rfl rfl kG) ?_
  obtain ⟨T5, X5, e5, st5⟩ := getF X2 hx hZ hown (host := "") (Or.inl (hw _ (List.mem_of_getElem? (i := 10) rfl))) Via.refl e2 f4 (g := (mkF m 13 #[.val (.ref a), .unset, .unset] [(.ref a)])) rfl rfl (hb hby own_k16)
  refine Go.via (U' := T5.setTop (mkF m 16 #[.val (.ref a), .unset, .unset] [(.long (u + (-7046029254386353131 : Int64)))])) (fun tG kG => st5 tG kG) ?_
  refine Go.via (U' := T5.setTop (mkF m 17 #[.val (.ref a), .val (.long (u + (-7046029254386353131 : Int64))), .second] [])) (fun tG kG => XS.lstoreN X5.here hx rfl (hb hby own_k17) rfl (l' := #[.val (.ref a), .val (.long (u + (-7046029254386353131 : Int64))), .second]) rfl kG) ?_
  refine Go.via (U' := T5.setTop (mkF m 18 #[.val (.ref a), .val (.long (u + (-7046029254386353131 : Int64))), .second] [(.long (u + (-7046029254386353131 : Int64)))])) (fun tG kG => XS.lloadN X5.here hx rfl (hb hby own_k18) rfl kG) ?_
  refine Go.via (U' := T5.setTop (mkF m 19 #[.val (.ref a), .val (.long (u + (-7046029254386353131 : Int64))), .second] [(.long (u + (-7046029254386353131 : Int64))), (.long (u + (-7046029254386353131 : Int64)))])) (fun tG kG => XS.lloadN X5.here hx rfl (hb hby own_k19) rfl kG) ?_
  refine Go.via (U' := T5.setTop (mkF m 21 #[.val (.ref a), .val (.long (u + (-7046029254386353131 : Int64))), .second] [(.int (30 : Int32)), (.long (u + (-7046029254386353131 : Int64))), (.long (u + (-7046029254386353131 : Int64)))])) (fun tG kG => XS.bipush X5.here hx rfl (hb hby own_k20) kG) ?_
  refine Go.via (U' := T5.setTop (mkF m 22 #[.val (.ref a), .val (.long (u + (-7046029254386353131 : Int64))), .second] [(.long (own_w4_0 u)), (.long (u + (-7046029254386353131 : Int64)))])) (fun tG kG => XS.lushr X5.here hx rfl (hb hby own_k21) rfl kG) ?_
  refine Go.via (U' := T5.setTop (mkF m 23 #[.val (.ref a), .val (.long (u + (-7046029254386353131 : Int64))), .second] [(.long ((u + (-7046029254386353131 : Int64)) ^^^ (own_w4_0 u)))])) (fun tG kG => XS.lxor X5.here hx rfl (hb hby own_k22) rfl kG) ?_
  refine Go.via (U' := T5.setTop (mkF m 26 #[.val (.ref a), .val (.long (u + (-7046029254386353131 : Int64))), .second] [(.long (-4658895280553007687 : Int64)), (.long ((u + (-7046029254386353131 : Int64)) ^^^ (own_w4_0 u)))])) (fun tG kG => X5.ldc2Long hx hown (mvT hZ (hw _ (List.mem_of_getElem? (i := 24) rfl))) (g := (mkF m 23 #[.val (.ref a), .val (.long (u + (-7046029254386353131 : Int64))), .second] [(.long ((u + (-7046029254386353131 : Int64)) ^^^ (own_w4_0 u)))])) rfl (hb hby own_k23) tG kG) ?_
  refine Go.via (U' := T5.setTop (mkF m 27 #[.val (.ref a), .val (.long (u + (-7046029254386353131 : Int64))), .second] [(.long (own_w4_1 u))])) (fun tG kG => XS.lmul X5.here hx rfl (hb hby own_k24) rfl kG) ?_
  refine Go.via (U' := T5.setTop (mkF m 28 #[.val (.ref a), .val (.long (own_w4_1 u)), .second] [])) (fun tG kG => XS.lstoreN X5.here hx rfl (hb hby own_k25) rfl (l' := #[.val (.ref a), .val (.long (own_w4_1 u)), .second]) rfl kG) ?_
  refine Go.via (U' := T5.setTop (mkF m 29 #[.val (.ref a), .val (.long (own_w4_1 u)), .second] [(.long (own_w4_1 u))])) (fun tG kG => XS.lloadN X5.here hx rfl (hb hby own_k26) rfl kG) ?_
  refine Go.via (U' := T5.setTop (mkF m 30 #[.val (.ref a), .val (.long (own_w4_1 u)), .second] [(.long (own_w4_1 u)), (.long (own_w4_1 u))])) (fun tG kG => XS.lloadN X5.here hx rfl (hb hby own_k27) rfl kG) ?_
  refine Go.via (U' := T5.setTop (mkF m 32 #[.val (.ref a), .val (.long (own_w4_1 u)), .second] [(.int (27 : Int32)), (.long (own_w4_1 u)), (.long (own_w4_1 u))])) (fun tG kG => XS.bipush X5.here hx rfl (hb hby own_k28) kG) ?_
  refine Go.via (U' := T5.setTop (mkF m 33 #[.val (.ref a), .val (.long (own_w4_1 u)), .second] [(.long (own_ushrL (own_w4_1 u) (27 : Int32))), (.long (own_w4_1 u))])) (fun tG kG => XS.lushr X5.here hx rfl (hb hby own_k29) rfl kG) ?_
  refine Go.via (U' := T5.setTop (mkF m 34 #[.val (.ref a), .val (.long (own_w4_1 u)), .second] [(.long ((own_w4_1 u) ^^^ (own_ushrL (own_w4_1 u) (27 : Int32))))])) (fun tG kG => XS.lxor X5.here hx rfl (hb hby own_k30) rfl kG) ?_
  refine Go.via (U' := T5.setTop (mkF m 37 #[.val (.ref a), .val (.long (own_w4_1 u)), .second] [(.long (-7723592293110705685 : Int64)), (.long ((own_w4_1 u) ^^^ (own_ushrL (own_w4_1 u) (27 : Int32))))])) (fun tG kG => X5.ldc2Long hx hown (mvT hZ (hw _ (List.mem_of_getElem? (i := 25) rfl))) (g := (mkF m 34 #[.val (.ref a), .val (.long (own_w4_1 u)), .second] [(.long ((own_w4_1 u) ^^^ (own_ushrL (own_w4_1 u) (27 : Int32))))])) rfl (hb hby own_k31) tG kG) ?_
  refine Go.via (U' := T5.setTop (mkF m 38 #[.val (.ref a), .val (.long (own_w4_1 u)), .second] [(.long (own_w4_2 u))])) (fun tG kG => XS.lmul X5.here hx rfl (hb hby own_k32) rfl kG) ?_
  refine Go.via (U' := T5.setTop (mkF m 39 #[.val (.ref a), .val (.long (own_w4_2 u)), .second] [])) (fun tG kG => XS.lstoreN X5.here hx rfl (hb hby own_k33) rfl (l' := #[.val (.ref a), .val (.long (own_w4_2 u)), .second]) rfl kG) ?_
  refine Go.via (U' := T5.setTop (mkF m 40 #[.val (.ref a), .val (.long (own_w4_2 u)), .second] [(.long (own_w4_2 u))])) (fun tG kG => XS.lloadN X5.here hx rfl (hb hby own_k34) rfl kG) ?_
  refine Go.via (U' := T5.setTop (mkF m 41 #[.val (.ref a), .val (.long (own_w4_2 u)), .second] [(.long (own_w4_2 u)), (.long (own_w4_2 u))])) (fun tG kG => XS.lloadN X5.here hx rfl (hb hby own_k35) rfl kG) ?_
  refine Go.via (U' := T5.setTop (mkF m 43 #[.val (.ref a), .val (.long (own_w4_2 u)), .second] [(.int (31 : Int32)), (.long (own_w4_2 u)), (.long (own_w4_2 u))])) (fun tG kG => XS.bipush X5.here hx rfl (hb hby own_k36) kG) ?_
  refine Go.via (U' := T5.setTop (mkF m 44 #[.val (.ref a), .val (.long (own_w4_2 u)), .second] [(.long (own_ushrL (own_w4_2 u) (31 : Int32))), (.long (own_w4_2 u))])) (fun tG kG => XS.lushr X5.here hx rfl (hb hby own_k37) rfl kG) ?_
  refine Go.via (U' := T5.setTop (mkF m 45 #[.val (.ref a), .val (.long (own_w4_2 u)), .second] [(.long ((own_w4_2 u) ^^^ (own_ushrL (own_w4_2 u) (31 : Int32))))])) (fun tG kG => XS.lxor X5.here hx rfl (hb hby own_k38) rfl kG) ?_
  exact go_retJ X5 hx hlk hret (hb hby own_k39) e5 ⟨(congrArg (fun z => some (Value.long z)) (show ((own_w4_2 u) ^^^ (own_ushrL (own_w4_2 u) (31 : Int32))) = (own_f4 u) from by rfl)), N2, K2, f3, f4⟩ (by decide) (by decide)
theorem own_k40 (m : MethodId) (x0 : Int64) (x1 : Int64) : entryFrame m #[(.long x0), (.long x1)] 4 = mkF m 0 #[.val (.long x0), .second, .val (.long x1), .second] [] := by first | (simp [entryFrame, mkF, argsToLocals, Value.category]; done) | rfl
theorem own_k41 : decode method_2_code 0 = .ok (.lload_n 0, 1) := by decide +kernel
theorem own_k42 : decode method_2_code 1 = .ok (.lload_n 2, 1) := by decide +kernel
theorem own_k43 : decode method_2_code 2 = .ok (.ldiv, 1) := by decide +kernel
theorem own_k44 : decode method_2_code 3 = .ok (.lconst 1, 1) := by decide +kernel
theorem own_k45 : decode method_2_code 4 = .ok (.ladd, 1) := by decide +kernel
theorem own_k46 : decode method_2_code 5 = .ok (.lload_n 2, 1) := by decide +kernel
theorem own_k47 : decode method_2_code 6 = .ok (.lmul, 1) := by decide +kernel
theorem own_k48 : decode method_2_code 7 = .ok (.ldc2_w 7, 3) := by decide +kernel
theorem own_k49 : decode method_2_code 10 = .ok (.lcmp, 1) := by decide +kernel
theorem own_k50 : decode method_2_code 11 = .ok (.ifCond .gt 7, 3) := by decide +kernel
theorem own_k51 : decode method_2_code 18 = .ok (.iconst 0, 1) := by decide +kernel
theorem own_k52 : decode method_2_code 19 = .ok (.ireturn, 1) := by decide +kernel
theorem own_k53 : decode method_2_code 14 = .ok (.iconst 1, 1) := by decide +kernel
theorem own_k54 : decode method_2_code 15 = .ok (.goto 4, 3) := by decide +kernel
theorem own_k55 : plainName "com/example/fusewire/fusewire/SeededRandomNextIntPinLaw" = true := by first | (simp [plainName, overriddenIn]; done) | decide +kernel
def own_f5 (x0 : Int64) (x1 : Int64) : Int32 := (if (0 : Int32) < (lcmpW (((x0 / x1) + (1 : Int64)) * x1) (4294967296 : Int64)) then (0 : Int32) else (1 : Int32))
set_option maxRecDepth 65536 in
set_option maxHeartbeats 40000000 in
theorem own_rm5 (l : Launch) (Z : State) (a0 : Array Value) (hw : ∀ d ∈ tables_1, d.before a0 Z = true) (ws : List Jvm.Cond) (x0 : Int64) (x1 : Int64) (h0 : Heap) (hnz : x1 ≠ 0) : Meets l Z (⟨"com/example/fusewire/fusewire/SeededRandomNextIntPinLaw", "fits", "(JJ)Z"⟩ : MethodName) method_2_code 4 (some .boolean) ws ({ frames := 0, cells := 0, slots := 0, locals := 0 } : Room) #[(.long x0), (.long x1)] h0 (PureR (some (.int (own_f5 x0 x1))) h0) := by
  refine meets_of (plainFor_of_name own_k55) ?_
  intro p e s m below meth c s₁ X0 hx hZ hby hml hret hlk hown hnm e0
  replace hml : c.maxLocals = 4 := hml
  replace hown : s.vm.findClass "com/example/fusewire/fusewire/SeededRandomNextIntPinLaw" = some m.cls := hown
  refine Go.cast (own_k40 m x0 x1) ?_
  refine Go.via (U' := s₁.setTop (mkF m 1 #[.val (.long x0), .second, .val (.long x1), .second] [(.long x0)])) (fun tG kG => XS.lloadN X0.here hx rfl (hb hby own_k41) rfl kG) ?_
  refine Go.via (U' := s₁.setTop (mkF m 2 #[.val (.long x0), .second, .val (.long x1), .second] [(.long x1), (.long x0)])) (fun tG kG => XS.lloadN X0.here hx rfl (hb hby own_k42) rfl kG) ?_
  refine Go.via (U' := s₁.setTop (mkF m 3 #[.val (.long x0), .second, .val (.long x1), .second] [(.long (x0 / x1))])) (fun tG kG => XS.ldiv X0.here hx rfl (hb hby own_k43) rfl hnz kG) ?_
  refine Go.via (U' := s₁.setTop (mkF m 4 #[.val (.long x0), .second, .val (.long x1), .second] [(.long (1 : Int64)), (.long (x0 / x1))])) (fun tG kG => XS.lconst X0.here hx rfl (hb hby own_k44) kG) ?_
  refine Go.via (U' := s₁.setTop (mkF m 5 #[.val (.long x0), .second, .val (.long x1), .second] [(.long ((x0 / x1) + (1 : Int64)))])) (fun tG kG => XS.ladd X0.here hx rfl (hb hby own_k45) rfl kG) ?_
  refine Go.via (U' := s₁.setTop (mkF m 6 #[.val (.long x0), .second, .val (.long x1), .second] [(.long x1), (.long ((x0 / x1) + (1 : Int64)))])) (fun tG kG => XS.lloadN X0.here hx rfl (hb hby own_k46) rfl kG) ?_
  refine Go.via (U' := s₁.setTop (mkF m 7 #[.val (.long x0), .second, .val (.long x1), .second] [(.long (((x0 / x1) + (1 : Int64)) * x1))])) (fun tG kG => XS.lmul X0.here hx rfl (hb hby own_k47) rfl kG) ?_
  refine Go.via (U' := s₁.setTop (mkF m 10 #[.val (.long x0), .second, .val (.long x1), .second] [(.long (4294967296 : Int64)), (.long (((x0 / x1) + (1 : Int64)) * x1))])) (fun tG kG => X0.ldc2Long hx hown (mvT hZ (hw _ (List.mem_of_getElem? (i := 31) rfl))) (g := (mkF m 7 #[.val (.long x0), .second, .val (.long x1), .second] [(.long (((x0 / x1) + (1 : Int64)) * x1))])) rfl (hb hby own_k48) tG kG) ?_
  refine Go.via (U' := s₁.setTop (mkF m 11 #[.val (.long x0), .second, .val (.long x1), .second] [(.int (lcmpW (((x0 / x1) + (1 : Int64)) * x1) (4294967296 : Int64)))])) (fun tG kG => XS.lcmp X0.here hx rfl (hb hby own_k49) rfl kG) ?_
  by_cases hc11 : (0 : Int32) < (lcmpW (((x0 / x1) + (1 : Int64)) * x1) (4294967296 : Int64))
  · refine Go.via (U' := s₁.setTop (mkF m 18 #[.val (.long x0), .second, .val (.long x1), .second] [])) (fun tG kG => XS.ifYes X0.here hx rfl (pc0 := 11) (pc' := 18) rfl (hb hby own_k50) rfl ((if0 _ _).trans (tlt hc11).2.2.1) (by decide) (by decide) kG) ?_
    refine Go.via (U' := s₁.setTop (mkF m 19 #[.val (.long x0), .second, .val (.long x1), .second] [(.int (0 : Int32))])) (fun tG kG => XS.iconst X0.here hx rfl (hb hby own_k51) kG) ?_
    exact go_retN X0 hx hlk (t := .boolean) hret (by simp) (hb hby own_k52) e0 ⟨(congrArg (fun z => some (Value.int z)) (show nar .boolean (0 : Int32) = (own_f5 x0 x1) from by unfold own_f5; simp only [if_pos hc11] <;> rfl)), rfl, rfl⟩ (by decide) (by decide)
  · refine Go.via (U' := s₁.setTop (mkF m 14 #[.val (.long x0), .second, .val (.long x1), .second] [])) (fun tG kG => XS.ifNo X0.here hx rfl (hb hby own_k50) rfl ((if0 _ _).trans (flt hc11).2.2.1) kG) ?_
    refine Go.via (U' := s₁.setTop (mkF m 15 #[.val (.long x0), .second, .val (.long x1), .second] [(.int (1 : Int32))])) (fun tG kG => XS.iconst X0.here hx rfl (hb hby own_k53) kG) ?_
    refine Go.via (U' := s₁.setTop (mkF m 19 #[.val (.long x0), .second, .val (.long x1), .second] [(.int (1 : Int32))])) (fun tG kG => XS.goto X0.here hx rfl (pc0 := 15) (pc' := 19) rfl (hb hby own_k54) (by decide) (by decide) kG) ?_
    exact go_retN X0 hx hlk (t := .boolean) hret (by simp) (hb hby own_k52) e0 ⟨(congrArg (fun z => some (Value.int z)) (show nar .boolean (1 : Int32) = (own_f5 x0 x1) from by unfold own_f5; simp only [if_neg hc11] <;> rfl)), rfl, rfl⟩ (by decide) (by decide)
def own_st (u : Int64) : Nat → Int64
  | 0 => u
  | t + 1 => own_st u t + (-7046029254386353131 : Int64)
def own_bits (u : Int64) (t : Nat) : Int64 := own_ushrL (own_f4 (own_st u t)) (32 : Int32)
def own_lim (x0 : Int32) : Int64 := ((4294967296 : Int64) - ((4294967296 : Int64) - ((4294967296 : Int64) / (x0.toInt64)) * (x0.toInt64)))
def own_acc (u : Int64) (x0 : Int32) (t : Nat) : Prop := lcmpW (own_bits u t) (own_lim x0) < (0 : Int32)
def own_res (u : Int64) (x0 : Int32) (t : Nat) : Int32 := ((own_bits u t) - ((own_bits u t) / (x0.toInt64)) * (x0.toInt64)).toInt32
theorem own_k56 (m : MethodId) (a : Addr) (x0 : Int32) : entryFrame m #[(.ref a), (.int x0)] 8 = mkF m 0 #[.val (.ref a), .val (.int x0), .unset, .unset, .unset, .unset, .unset, .unset] [] := by first | (simp [entryFrame, mkF, argsToLocals, Value.category]; done) | rfl
theorem own_k57 : decode prog_55_method_3_code 0 = .ok (.iload_n 1, 1) := by decide +kernel
theorem own_k58 : decode prog_55_method_3_code 1 = .ok (.ifCond .gt 17, 3) := by decide +kernel
theorem own_k59 : decode prog_55_method_3_code 18 = .ok (.ldc2_w 28, 3) := by decide +kernel
theorem own_k60 : decode prog_55_method_3_code 21 = .ok (.lstore_n 2, 1) := by decide +kernel
theorem own_k61 : decode prog_55_method_3_code 22 = .ok (.lload_n 2, 1) := by decide +kernel
theorem own_k62 : decode prog_55_method_3_code 23 = .ok (.lload_n 2, 1) := by decide +kernel
theorem own_k63 : decode prog_55_method_3_code 24 = .ok (.iload_n 1, 1) := by decide +kernel
theorem own_k64 : decode prog_55_method_3_code 25 = .ok (.i2l, 1) := by decide +kernel
theorem own_k65 : decode prog_55_method_3_code 26 = .ok (.lrem, 1) := by decide +kernel
theorem own_k66 : decode prog_55_method_3_code 27 = .ok (.lsub, 1) := by decide +kernel
theorem own_k67 : decode prog_55_method_3_code 28 = .ok (.lstore 4, 2) := by decide +kernel
theorem own_k68 : decode prog_55_method_3_code 30 = .ok (.aload_n 0, 1) := by decide +kernel
theorem own_k69 : parseMethodDescriptor "()J" = some ⟨[], some .long⟩ := by decide +kernel
theorem own_k70 : decode prog_55_method_3_code 31 = .ok (.invokevirtual 30, 3) := by decide +kernel
theorem own_k71 : decode prog_55_method_3_code 34 = .ok (.bipush 32, 2) := by decide +kernel
theorem own_k72 : decode prog_55_method_3_code 36 = .ok (.lushr, 1) := by decide +kernel
theorem own_k73 : decode prog_55_method_3_code 37 = .ok (.lstore 6, 2) := by decide +kernel
theorem own_k74 : decode prog_55_method_3_code 39 = .ok (.lload 6, 2) := by decide +kernel
theorem own_k75 : decode prog_55_method_3_code 41 = .ok (.lload 4, 2) := by decide +kernel
theorem own_k76 : decode prog_55_method_3_code 43 = .ok (.lcmp, 1) := by decide +kernel
theorem own_k77 : decode prog_55_method_3_code 44 = .ok (.ifCond .ge (-14), 3) := by decide +kernel
theorem own_k78 : decode prog_55_method_3_code 47 = .ok (.lload 6, 2) := by decide +kernel
theorem own_k79 : decode prog_55_method_3_code 49 = .ok (.iload_n 1, 1) := by decide +kernel
theorem own_k80 : decode prog_55_method_3_code 50 = .ok (.i2l, 1) := by decide +kernel
theorem own_k81 : decode prog_55_method_3_code 51 = .ok (.lrem, 1) := by decide +kernel
theorem own_k82 : decode prog_55_method_3_code 52 = .ok (.l2i, 1) := by decide +kernel
theorem own_k83 : decode prog_55_method_3_code 53 = .ok (.ireturn, 1) := by decide +kernel
set_option maxRecDepth 65536 in
set_option maxHeartbeats 40000000 in
theorem own_rm3 (l : Launch) (Z : State) (a0 : Array Value) (hw : ∀ d ∈ tables_1, d.before a0 Z = true) (ws : List Jvm.Cond) (a : Addr) (x0 : Int32) (u : Int64) (N : Nat) (h0 : Heap) (n0 : Nat) (hn0 : n0 ≤ h0.size) (E_a : Exa Z h0 a "com/example/fusewire/fusewire/SeededRandom") (F_a_state : Fld Z h0 a "com/example/fusewire/fusewire/SeededRandom" "state" "J" (.long u)) (g_a : n0 ≤ a) (hp : (0 : Int32) < x0) (hnz : x0.toInt64 ≠ 0) (hN : own_acc u x0 N) (hlt : ∀ t, t < N → ¬ own_acc u x0 t) : Meets l Z (⟨"com/example/fusewire/fusewire/SeededRandom", "nextInt", "(I)I"⟩ : MethodName) prog_55_method_3_code 8 (some .int) ws ({ frames := 1, cells := 0, slots := 0, locals := 14 } : Room) #[(.ref a), (.int x0)] h0 (fun v h L => v = some (.int (own_res u x0 N)) ∧ Fr n0 L ∧ Keep h0 h [a] ∧ Exa Z h a "com/example/fusewire/fusewire/SeededRandom" ∧ Fld Z h a "com/example/fusewire/fusewire/SeededRandom" "state" "J" (.long (own_st u (N + 1)))) := by
  refine meets_of (plainFor_of_name own_k7) ?_
  intro p e s m below meth c s₁ X0 hx hZ hby hml hret hlk hown hnm e0
  replace hml : c.maxLocals = 8 := hml
  replace hown : s.vm.findClass "com/example/fusewire/fusewire/SeededRandom" = some m.cls := hown
  refine Go.cast (own_k56 m a x0) ?_
  have N0 := Fr.nil n0
  have K0 : Keep h0 h0 [a] := Keep.refl h0 _
  refine Go.via (U' := s₁.setTop (mkF m 1 #[.val (.ref a), .val (.int x0), .unset, .unset, .unset, .unset, .unset, .unset] [(.int x0)])) (fun tG kG => XS.iloadN X0.here hx rfl (hb hby own_k57) rfl kG) ?_
  have hc1 : (0 : Int32) < x0 := hp
  refine Go.via (U' := s₁.setTop (mkF m 18 #[.val (.ref a), .val (.int x0), .unset, .unset, .unset, .unset, .unset, .unset] [])) (fun tG kG => XS.ifYes X0.here hx rfl (pc0 := 1) (pc' := 18) rfl (hb hby own_k58) rfl ((if0 _ _).trans (tlt hc1).2.2.1) (by decide) (by decide) kG) ?_
  refine Go.via (U' := s₁.setTop (mkF m 21 #[.val (.ref a), .val (.int x0), .unset, .unset, .unset, .unset, .unset, .unset] [(.long (4294967296 : Int64))])) (fun tG kG => X0.ldc2Long hx hown (mvT hZ (hw _ (List.mem_of_getElem? (i := 17) rfl))) (g := (mkF m 18 #[.val (.ref a), .val (.int x0), .unset, .unset, .unset, .unset, .unset, .unset] [])) rfl (hb hby own_k59) tG kG) ?_
  refine Go.via (U' := s₁.setTop (mkF m 22 #[.val (.ref a), .val (.int x0), .val (.long (4294967296 : Int64)), .second, .unset, .unset, .unset, .unset] [])) (fun tG kG => XS.lstoreN X0.here hx rfl (hb hby own_k60) rfl (l' := #[.val (.ref a), .val (.int x0), .val (.long (4294967296 : Int64)), .second, .unset, .unset, .unset, .unset]) rfl kG) ?_
  refine Go.via (U' := s₁.setTop (mkF m 23 #[.val (.ref a), .val (.int x0), .val (.long (4294967296 : Int64)), .second, .unset, .unset, .unset, .unset] [(.long (4294967296 : Int64))])) (fun tG kG => XS.lloadN X0.here hx rfl (hb hby own_k61) rfl kG) ?_
  refine Go.via (U' := s₁.setTop (mkF m 24 #[.val (.ref a), .val (.int x0), .val (.long (4294967296 : Int64)), .second, .unset, .unset, .unset, .unset] [(.long (4294967296 : Int64)), (.long (4294967296 : Int64))])) (fun tG kG => XS.lloadN X0.here hx rfl (hb hby own_k62) rfl kG) ?_
  refine Go.via (U' := s₁.setTop (mkF m 25 #[.val (.ref a), .val (.int x0), .val (.long (4294967296 : Int64)), .second, .unset, .unset, .unset, .unset] [(.int x0), (.long (4294967296 : Int64)), (.long (4294967296 : Int64))])) (fun tG kG => XS.iloadN X0.here hx rfl (hb hby own_k63) rfl kG) ?_
  refine Go.via (U' := s₁.setTop (mkF m 26 #[.val (.ref a), .val (.int x0), .val (.long (4294967296 : Int64)), .second, .unset, .unset, .unset, .unset] [(.long (x0.toInt64)), (.long (4294967296 : Int64)), (.long (4294967296 : Int64))])) (fun tG kG => XS.i2l X0.here hx rfl (hb hby own_k64) rfl kG) ?_
  refine Go.via (U' := s₁.setTop (mkF m 27 #[.val (.ref a), .val (.int x0), .val (.long (4294967296 : Int64)), .second, .unset, .unset, .unset, .unset] [(.long ((4294967296 : Int64) - ((4294967296 : Int64) / (x0.toInt64)) * (x0.toInt64))), (.long (4294967296 : Int64))])) (fun tG kG => XS.lrem X0.here hx rfl (hb hby own_k65) rfl hnz kG) ?_
  refine Go.via (U' := s₁.setTop (mkF m 28 #[.val (.ref a), .val (.int x0), .val (.long (4294967296 : Int64)), .second, .unset, .unset, .unset, .unset] [(.long ((4294967296 : Int64) - ((4294967296 : Int64) - ((4294967296 : Int64) / (x0.toInt64)) * (x0.toInt64))))])) (fun tG kG => XS.lsub X0.here hx rfl (hb hby own_k66) rfl kG) ?_
  refine Go.via (U' := s₁.setTop (mkF m 30 #[.val (.ref a), .val (.int x0), .val (.long (4294967296 : Int64)), .second, .val (.long ((4294967296 : Int64) - ((4294967296 : Int64) - ((4294967296 : Int64) / (x0.toInt64)) * (x0.toInt64)))), .second, .unset, .unset] [])) (fun tG kG => XS.lstore X0.here hx rfl (hb hby own_k67) rfl (l' := #[.val (.ref a), .val (.int x0), .val (.long (4294967296 : Int64)), .second, .val (.long ((4294967296 : Int64) - ((4294967296 : Int64) - ((4294967296 : Int64) / (x0.toInt64)) * (x0.toInt64)))), .second, .unset, .unset]) rfl kG) ?_
  refine Go.via (U' := s₁.setTop (mkF m 31 #[.val (.ref a), .val (.int x0), .val (.long (4294967296 : Int64)), .second, .val (.long ((4294967296 : Int64) - ((4294967296 : Int64) - ((4294967296 : Int64) / (x0.toInt64)) * (x0.toInt64)))), .second, .unset, .unset] [(.ref a)])) (fun tG kG => XS.aloadN X0.here hx rfl (hb hby own_k68) rfl rfl kG) ?_
  obtain ⟨_, T1, L1, X1, ⟨rfl, N1q, K1q, f2, f3⟩, st1⟩ := callVQ X0 hx hZ hown (hw _ (List.mem_of_getElem? (i := 18) rfl)) (hw _ (List.mem_of_getElem? (i := 19) rfl)) (hw _ (List.mem_of_getElem? (i := 21) rfl)) (hw _ (List.mem_of_getElem? (i := 20) rfl)) (hw _ (List.mem_of_getElem? (i := 3) rfl)) (hw _ (List.mem_of_getElem? (i := 22) rfl)) (by decide) (b := a) (av := []) E_a (own_rm4 l Z a0 hw [] a u h0 n0 hn0 E_a F_a_state g_a) e0 (pc := 31) (Ls := #[.val (.ref a), .val (.int x0), .val (.long (4294967296 : Int64)), .second, .val (.long ((4294967296 : Int64) - ((4294967296 : Int64) - ((4294967296 : Int64) / (x0.toInt64)) * (x0.toInt64)))), .second, .unset, .unset]) (rest := []) (by rw [hml]; rfl) own_k69 rfl 0 (Nat.le_of_eq rfl) (by decide) (by decide) (by decide) (by decide) (hb hby own_k70)
  have f4 := E_a.keep K1q
  have N1 := Fr.app N0 N1q
  have Z1 := Nat.le_trans hn0 K1q.1
  have K1 := K0.trans K1q (allS (Or.inl (List.mem_of_getElem? (i := 0) rfl)) all0)
  refine Go.via (U' := T1.setTop (mkF m 34 #[.val (.ref a), .val (.int x0), .val (.long (4294967296 : Int64)), .second, .val (.long ((4294967296 : Int64) - ((4294967296 : Int64) - ((4294967296 : Int64) / (x0.toInt64)) * (x0.toInt64)))), .second, .unset, .unset] [(.long (own_f4 u))])) (fun tG kG => st1 tG kG) ?_
  refine Go.via (U' := T1.setTop (mkF m 36 #[.val (.ref a), .val (.int x0), .val (.long (4294967296 : Int64)), .second, .val (.long ((4294967296 : Int64) - ((4294967296 : Int64) - ((4294967296 : Int64) / (x0.toInt64)) * (x0.toInt64)))), .second, .unset, .unset] [(.int (32 : Int32)), (.long (own_f4 u))])) (fun tG kG => XS.bipush X1.here hx rfl (hb hby own_k71) kG) ?_
  refine Go.via (U' := T1.setTop (mkF m 37 #[.val (.ref a), .val (.int x0), .val (.long (4294967296 : Int64)), .second, .val (.long ((4294967296 : Int64) - ((4294967296 : Int64) - ((4294967296 : Int64) / (x0.toInt64)) * (x0.toInt64)))), .second, .unset, .unset] [(.long (own_ushrL (own_f4 u) (32 : Int32)))])) (fun tG kG => XS.lushr X1.here hx rfl (hb hby own_k72) rfl kG) ?_
  refine Go.via (U' := T1.setTop (mkF m 39 #[.val (.ref a), .val (.int x0), .val (.long (4294967296 : Int64)), .second, .val (.long ((4294967296 : Int64) - ((4294967296 : Int64) - ((4294967296 : Int64) / (x0.toInt64)) * (x0.toInt64)))), .second, .val (.long (own_ushrL (own_f4 u) (32 : Int32))), .second] [])) (fun tG kG => XS.lstore X1.here hx rfl (hb hby own_k73) rfl (l' := #[.val (.ref a), .val (.int x0), .val (.long (4294967296 : Int64)), .second, .val (.long ((4294967296 : Int64) - ((4294967296 : Int64) - ((4294967296 : Int64) / (x0.toInt64)) * (x0.toInt64)))), .second, .val (.long (own_ushrL (own_f4 u) (32 : Int32))), .second]) rfl kG) ?_
  have loop5 : ∀ (d18 : Nat) (t : Nat) T' h' L', t + d18 = N → Stand p l e ({ frames := 1, cells := 0, slots := 0, locals := 14 } : Room) s m #[(.ref a), (.int x0)] below meth c T' L' 0 0 → T'.heap = h' → Fr n0 L' → n0 ≤ h'.size → Keep h0 h' [a] → Exa Z h' a "com/example/fusewire/fusewire/SeededRandom" → Fld Z h' a "com/example/fusewire/fusewire/SeededRandom" "state" "J" (.long (own_st u (t + 1))) → Go p e below s ({ frames := 1, cells := 0, slots := 0, locals := 14 } : Room).cells ({ frames := 1, cells := 0, slots := 0, locals := 14 } : Room).slots (fun v h L => v = some (.int (own_res u x0 N)) ∧ Fr n0 L ∧ Keep h0 h [a] ∧ Exa Z h a "com/example/fusewire/fusewire/SeededRandom" ∧ Fld Z h a "com/example/fusewire/fusewire/SeededRandom" "state" "J" (.long (own_st u (N + 1)))) (T'.setTop (mkF m 39 #[.val (.ref a), .val (.int x0), .val (.long (4294967296 : Int64)), .second, .val (.long (own_lim x0)), .second, .val (.long (own_bits u t)), .second] [])) := by
    intro d18
    induction d18 using Nat.strongRecOn with
    | ind d18 ih17 =>
      intro t T6 h7 L8 hd16 X9 e10 N11 Z12 K13 f14 f15
      refine Go.via (U' := T6.setTop (mkF m 41 #[.val (.ref a), .val (.int x0), .val (.long (4294967296 : Int64)), .second, .val (.long (own_lim x0)), .second, .val (.long (own_bits u t)), .second] [(.long (own_bits u t))])) (fun tG kG => XS.lload X9.here hx rfl (hb hby own_k74) rfl kG) ?_
      refine Go.via (U' := T6.setTop (mkF m 43 #[.val (.ref a), .val (.int x0), .val (.long (4294967296 : Int64)), .second, .val (.long (own_lim x0)), .second, .val (.long (own_bits u t)), .second] [(.long (own_lim x0)), (.long (own_bits u t))])) (fun tG kG => XS.lload X9.here hx rfl (hb hby own_k75) rfl kG) ?_
      refine Go.via (U' := T6.setTop (mkF m 44 #[.val (.ref a), .val (.int x0), .val (.long (4294967296 : Int64)), .second, .val (.long (own_lim x0)), .second, .val (.long (own_bits u t)), .second] [(.int (lcmpW (own_bits u t) (own_lim x0)))])) (fun tG kG => XS.lcmp X9.here hx rfl (hb hby own_k76) rfl kG) ?_
      by_cases hc44 : (lcmpW (own_bits u t) (own_lim x0)) < (0 : Int32)
      · refine Go.via (U' := T6.setTop (mkF m 47 #[.val (.ref a), .val (.int x0), .val (.long (4294967296 : Int64)), .second, .val (.long (own_lim x0)), .second, .val (.long (own_bits u t)), .second] [])) (fun tG kG => XS.ifNo X9.here hx rfl (hb hby own_k77) rfl ((if0 _ _).trans (tlt hc44).2.1) kG) ?_
        refine Go.via (U' := T6.setTop (mkF m 49 #[.val (.ref a), .val (.int x0), .val (.long (4294967296 : Int64)), .second, .val (.long (own_lim x0)), .second, .val (.long (own_bits u t)), .second] [(.long (own_bits u t))])) (fun tG kG => XS.lload X9.here hx rfl (hb hby own_k78) rfl kG) ?_
        refine Go.via (U' := T6.setTop (mkF m 50 #[.val (.ref a), .val (.int x0), .val (.long (4294967296 : Int64)), .second, .val (.long (own_lim x0)), .second, .val (.long (own_bits u t)), .second] [(.int x0), (.long (own_bits u t))])) (fun tG kG => XS.iloadN X9.here hx rfl (hb hby own_k79) rfl kG) ?_
        refine Go.via (U' := T6.setTop (mkF m 51 #[.val (.ref a), .val (.int x0), .val (.long (4294967296 : Int64)), .second, .val (.long (own_lim x0)), .second, .val (.long (own_bits u t)), .second] [(.long (x0.toInt64)), (.long (own_bits u t))])) (fun tG kG => XS.i2l X9.here hx rfl (hb hby own_k80) rfl kG) ?_
        refine Go.via (U' := T6.setTop (mkF m 52 #[.val (.ref a), .val (.int x0), .val (.long (4294967296 : Int64)), .second, .val (.long (own_lim x0)), .second, .val (.long (own_bits u t)), .second] [(.long ((own_bits u t) - ((own_bits u t) / (x0.toInt64)) * (x0.toInt64)))])) (fun tG kG => XS.lrem X9.here hx rfl (hb hby own_k81) rfl hnz kG) ?_
        refine Go.via (U' := T6.setTop (mkF m 53 #[.val (.ref a), .val (.int x0), .val (.long (4294967296 : Int64)), .second, .val (.long (own_lim x0)), .second, .val (.long (own_bits u t)), .second] [(.int (((own_bits u t) - ((own_bits u t) / (x0.toInt64)) * (x0.toInt64)).toInt32))])) (fun tG kG => XS.l2i X9.here hx rfl (hb hby own_k82) rfl kG) ?_
        exact go_retI X9 hx hlk hret (hb hby own_k83) e10 ⟨(congrArg (fun z => some (Value.int z)) (show (((own_bits u t) - ((own_bits u t) / (x0.toInt64)) * (x0.toInt64)).toInt32) = (own_res u x0 N) from by have q : ¬ t < N := fun e => hlt t e hc44; rw [show N = t from by omega]; rfl)), N11, K13, f14, (by have q : ¬ t < N := fun e => hlt t e hc44; rw [show N = t from by omega]; exact f15)⟩ (by decide) (by decide)
      · refine Go.via (U' := T6.setTop (mkF m 30 #[.val (.ref a), .val (.int x0), .val (.long (4294967296 : Int64)), .second, .val (.long (own_lim x0)), .second, .val (.long (own_bits u t)), .second] [])) (fun tG kG => XS.ifYes X9.here hx rfl (pc0 := 44) (pc' := 30) rfl (hb hby own_k77) rfl ((if0 _ _).trans (flt hc44).2.1) (by decide) (by decide) kG) ?_
        refine Go.via (U' := T6.setTop (mkF m 31 #[.val (.ref a), .val (.int x0), .val (.long (4294967296 : Int64)), .second, .val (.long (own_lim x0)), .second, .val (.long (own_bits u t)), .second] [(.ref a)])) (fun tG kG => XS.aloadN X9.here hx rfl (hb hby own_k68) rfl rfl kG) ?_
        obtain ⟨_, T19, L19, X19, ⟨rfl, N19q, K19q, f20, f21⟩, st19⟩ := callVQ X9 hx hZ hown (hw _ (List.mem_of_getElem? (i := 18) rfl)) (hw _ (List.mem_of_getElem? (i := 19) rfl)) (hw _ (List.mem_of_getElem? (i := 21) rfl)) (hw _ (List.mem_of_getElem? (i := 20) rfl)) (hw _ (List.mem_of_getElem? (i := 3) rfl)) (hw _ (List.mem_of_getElem? (i := 22) rfl)) (by decide) (b := a) (av := []) f14 (own_rm4 l Z a0 hw [] a (own_st u (t + 1)) h7 n0 Z12 f14 f15 g_a) e10 (pc := 31) (Ls := #[.val (.ref a), .val (.int x0), .val (.long (4294967296 : Int64)), .second, .val (.long (own_lim x0)), .second, .val (.long (own_bits u t)), .second]) (rest := []) (by rw [hml]; rfl) own_k69 rfl 0 (Nat.le_of_eq rfl) (by decide) (by decide) (by decide) (by decide) (hb hby own_k70)
        have f22 := f14.keep K19q
        have N19 := Fr.app N11 N19q
        have Z19 := Nat.le_trans Z12 K19q.1
        have K19 := K13.trans K19q (allS (Or.inl (List.mem_of_getElem? (i := 0) rfl)) all0)
        refine Go.via (U' := T19.setTop (mkF m 34 #[.val (.ref a), .val (.int x0), .val (.long (4294967296 : Int64)), .second, .val (.long (own_lim x0)), .second, .val (.long (own_bits u t)), .second] [(.long (own_f4 (own_st u (t + 1))))])) (fun tG kG => st19 tG kG) ?_
        refine Go.via (U' := T19.setTop (mkF m 36 #[.val (.ref a), .val (.int x0), .val (.long (4294967296 : Int64)), .second, .val (.long (own_lim x0)), .second, .val (.long (own_bits u t)), .second] [(.int (32 : Int32)), (.long (own_f4 (own_st u (t + 1))))])) (fun tG kG => XS.bipush X19.here hx rfl (hb hby own_k71) kG) ?_
        refine Go.via (U' := T19.setTop (mkF m 37 #[.val (.ref a), .val (.int x0), .val (.long (4294967296 : Int64)), .second, .val (.long (own_lim x0)), .second, .val (.long (own_bits u t)), .second] [(.long (own_ushrL (own_f4 (own_st u (t + 1))) (32 : Int32)))])) (fun tG kG => XS.lushr X19.here hx rfl (hb hby own_k72) rfl kG) ?_
        refine Go.via (U' := T19.setTop (mkF m 39 #[.val (.ref a), .val (.int x0), .val (.long (4294967296 : Int64)), .second, .val (.long (own_lim x0)), .second, .val (.long (own_ushrL (own_f4 (own_st u (t + 1))) (32 : Int32))), .second] [])) (fun tG kG => XS.lstore X19.here hx rfl (hb hby own_k73) rfl (l' := #[.val (.ref a), .val (.int x0), .val (.long (4294967296 : Int64)), .second, .val (.long (own_lim x0)), .second, .val (.long (own_ushrL (own_f4 (own_st u (t + 1))) (32 : Int32))), .second]) rfl kG) ?_
        refine Go.cast (g' := (mkF m 39 #[.val (.ref a), .val (.int x0), .val (.long (4294967296 : Int64)), .second, .val (.long (own_lim x0)), .second, .val (.long (own_bits u (t + 1))), .second] [])) (by rfl) (ih17 (d18 - 1) (by have q : t ≠ N := fun e => hc44 (e ▸ hN); omega) ((t + 1)) T19 _ _ (by have q : t ≠ N := fun e => hc44 (e ▸ hN); omega) X19 rfl N19 Z19 K19 f20 f21)
  refine Go.cast (g' := (mkF m 39 #[.val (.ref a), .val (.int x0), .val (.long (4294967296 : Int64)), .second, .val (.long (own_lim x0)), .second, .val (.long (own_bits u 0)), .second] [])) (by rfl) (loop5 (N) (0) T1 _ _ (Nat.zero_add _) X1 rfl N1 Z1 K1 f2 f3)
def own_bd (x1 : Int32) : Int32 := (if (x1 &&& (2147483647 : Int32)) = (0 : Int32) then (1 : Int32) else (x1 &&& (2147483647 : Int32)))
theorem own_bdr (x : Int32) : 1 ≤ (own_bd x).toInt := by
  have m := c_mask x 2147483647 31 (by decide) (by decide)
  unfold own_bd
  by_cases a : x &&& (2147483647 : Int32) = 0
  · rw [if_pos a]; decide
  · rw [if_neg a]
    have : ¬ (x &&& (2147483647 : Int32)).toInt = 0 := fun h => a (Int32.toInt_inj.mp h)
    omega
theorem own_pos (x : Int32) : (0 : Int32) < own_bd x := by
  have := own_bdr x
  rw [Int32.lt_iff_toInt_lt, show (0 : Int32).toInt = 0 from rfl]
  omega
theorem own_nz (x : Int32) : (own_bd x).toInt64 ≠ 0 := by
  intro h
  have h' := Int64.toInt_inj.mpr h
  rw [c_i2l, show (0 : Int64).toInt = 0 from rfl] at h'
  have := own_bdr x
  omega
theorem own_k84 (m : MethodId) (x0 : Int64) (x1 : Int32) : entryFrame m #[(.long x0), (.int x1)] maxLocals = mkF m 0 #[.val (.long x0), .second, .val (.int x1), .unset, .unset, .unset, .unset, .unset, .unset, .unset, .unset, .unset, .unset, .unset, .unset] [] := by first | (simp [entryFrame, mkF, argsToLocals, Value.category, maxLocals]; done) | rfl
def own_j0_6_l3 (x1 : Int32) : Int32 := (if (x1 &&& (2147483647 : Int32)) = (0 : Int32) then (1 : Int32) else (x1 &&& (2147483647 : Int32)))
theorem own_k85 : parseMethodDescriptor "(J)V" = some ⟨[.long], none⟩ := by decide +kernel
theorem own_k86 : parseMethodDescriptor "(I)I" = some ⟨[.int], some .int⟩ := by decide +kernel
theorem own_k87 : parseMethodDescriptor "(JJ)Z" = some ⟨[.long, .long], some .boolean⟩ := by decide +kernel
def own_w0_4 (x0 : Int64) (x1 : Int32) : Int64 := ((own_ushrL (own_f4 ((x0 + (-7046029254386353131 : Int64)) + (-7046029254386353131 : Int64))) (32 : Int32)) - ((own_ushrL (own_f4 ((x0 + (-7046029254386353131 : Int64)) + (-7046029254386353131 : Int64))) (32 : Int32)) / ((own_j0_6_l3 x1).toInt64)) * ((own_j0_6_l3 x1).toInt64))
def own_w0_5 (x0 : Int64) (x1 : Int32) : Int64 := ((own_ushrL (own_f4 (x0 + (-7046029254386353131 : Int64))) (32 : Int32)) - ((own_ushrL (own_f4 (x0 + (-7046029254386353131 : Int64))) (32 : Int32)) / ((own_j0_6_l3 x1).toInt64)) * ((own_j0_6_l3 x1).toInt64))
def own_f0 (x0 : Int64) (x1 : Int32) (N : Nat) : Int32 := (if (own_res x0 (own_j0_6_l3 x1) N) < (0 : Int32) then (0 : Int32) else (if (own_res x0 (own_j0_6_l3 x1) N) < (own_j0_6_l3 x1) then (if (own_f5 (own_ushrL (own_f4 x0) (32 : Int32)) ((own_j0_6_l3 x1).toInt64)) = (0 : Int32) then (if (own_f5 (own_ushrL (own_f4 (x0 + (-7046029254386353131 : Int64))) (32 : Int32)) ((own_j0_6_l3 x1).toInt64)) = (0 : Int32) then (if (own_f5 (own_ushrL (own_f4 ((x0 + (-7046029254386353131 : Int64)) + (-7046029254386353131 : Int64))) (32 : Int32)) ((own_j0_6_l3 x1).toInt64)) = (0 : Int32) then (1 : Int32) else (if (own_res x0 (own_j0_6_l3 x1) N) = ((own_w0_4 x0 x1).toInt32) then (if (lcmpW (own_f4 (own_st x0 (N + 1))) (own_f4 (((x0 + (-7046029254386353131 : Int64)) + (-7046029254386353131 : Int64)) + (-7046029254386353131 : Int64)))) = (0 : Int32) then (1 : Int32) else (0 : Int32)) else (0 : Int32))) else (if (own_res x0 (own_j0_6_l3 x1) N) = ((own_w0_5 x0 x1).toInt32) then (if (lcmpW (own_f4 (own_st x0 (N + 1))) (own_f4 ((x0 + (-7046029254386353131 : Int64)) + (-7046029254386353131 : Int64)))) = (0 : Int32) then (1 : Int32) else (0 : Int32)) else (0 : Int32))) else (if (own_res x0 (own_j0_6_l3 x1) N) = (((own_ushrL (own_f4 x0) (32 : Int32)) - ((own_ushrL (own_f4 x0) (32 : Int32)) / ((own_j0_6_l3 x1).toInt64)) * ((own_j0_6_l3 x1).toInt64)).toInt32) then (if (lcmpW (own_f4 (own_st x0 (N + 1))) (own_f4 (x0 + (-7046029254386353131 : Int64)))) = (0 : Int32) then (1 : Int32) else (0 : Int32)) else (0 : Int32))) else (0 : Int32)))
set_option maxRecDepth 65536 in
set_option maxHeartbeats 40000000 in
theorem own_rm0 (l : Launch) (Z : State) (a0 : Array Value) (hw : ∀ d ∈ tables_1, d.before a0 Z = true) (ws : List Jvm.Cond) (x0 : Int64) (x1 : Int32) (N : Nat) (h0 : Heap) (n0 : Nat) (hn0 : n0 ≤ h0.size) (hN : own_acc x0 (own_bd x1) N) (hlt : ∀ t, t < N → ¬ own_acc x0 (own_bd x1) t) : Meets l Z x code maxLocals ret ws room_1 #[(.long x0), (.int x1)] h0 (fun v h L => v = some (.int (own_f0 x0 x1 N)) ∧ Fr n0 L ∧ Keep h0 h []) := by
  refine meets_of (plainFor_of_name own_k55) ?_
  intro p e s m below meth c s₁ X0 hx hZ hby hml hret hlk hown hnm e0
  replace hml : c.maxLocals = 15 := hml
  replace hown : s.vm.findClass "com/example/fusewire/fusewire/SeededRandomNextIntPinLaw" = some m.cls := hown
  refine Go.cast (own_k84 m x0 x1) ?_
  have N0 := Fr.nil n0
  have K0 : Keep h0 h0 [] := Keep.refl h0 _
  refine Go.via (U' := s₁.setTop (mkF m 1 #[.val (.long x0), .second, .val (.int x1), .unset, .unset, .unset, .unset, .unset, .unset, .unset, .unset, .unset, .unset, .unset, .unset] [(.int x1)])) (fun tG kG => XS.iloadN X0.here hx rfl (hb hby at_0) rfl kG) ?_
  refine Go.via (U' := s₁.setTop (mkF m 3 #[.val (.long x0), .second, .val (.int x1), .unset, .unset, .unset, .unset, .unset, .unset, .unset, .unset, .unset, .unset, .unset, .unset] [(.int (2147483647 : Int32)), (.int x1)])) (fun tG kG => X0.ldcInt hx hown (mvT hZ (hw _ (List.mem_of_getElem? (i := 0) rfl))) (g := (mkF m 1 #[.val (.long x0), .second, .val (.int x1), .unset, .unset, .unset, .unset, .unset, .unset, .unset, .unset, .unset, .unset, .unset, .unset] [(.int x1)])) rfl (hb hby at_1) tG kG) ?_
  refine Go.via (U' := s₁.setTop (mkF m 4 #[.val (.long x0), .second, .val (.int x1), .unset, .unset, .unset, .unset, .unset, .unset, .unset, .unset, .unset, .unset, .unset, .unset] [(.int (x1 &&& (2147483647 : Int32)))])) (fun tG kG => XS.iand X0.here hx rfl (hb hby at_3) rfl kG) ?_
  refine Go.via (U' := s₁.setTop (mkF m 5 #[.val (.long x0), .second, .val (.int x1), .val (.int (x1 &&& (2147483647 : Int32))), .unset, .unset, .unset, .unset, .unset, .unset, .unset, .unset, .unset, .unset, .unset] [])) (fun tG kG => XS.istoreN X0.here hx rfl (hb hby at_4) rfl (l' := #[.val (.long x0), .second, .val (.int x1), .val (.int (x1 &&& (2147483647 : Int32))), .unset, .unset, .unset, .unset, .unset, .unset, .unset, .unset, .unset, .unset, .unset]) rfl kG) ?_
  refine Go.via (U' := s₁.setTop (mkF m 6 #[.val (.long x0), .second, .val (.int x1), .val (.int (x1 &&& (2147483647 : Int32))), .unset, .unset, .unset, .unset, .unset, .unset, .unset, .unset, .unset, .unset, .unset] [(.int (x1 &&& (2147483647 : Int32)))])) (fun tG kG => XS.iloadN X0.here hx rfl (hb hby at_5) rfl kG) ?_
  have J1 : ∀ T' L', Stand p l e room_1 s m #[(.long x0), (.int x1)] below meth c T' L' 0 0 → T'.heap = h0 → Fr n0 L' → Go p e below s room_1.cells room_1.slots (fun v h L => v = some (.int (own_f0 x0 x1 N)) ∧ Fr n0 L ∧ Keep h0 h []) (T'.setTop (mkF m 11 #[.val (.long x0), .second, .val (.int x1), .val (.int (own_j0_6_l3 x1)), .unset, .unset, .unset, .unset, .unset, .unset, .unset, .unset, .unset, .unset, .unset] [])) := by
    intro T2 L5 X3 e4 N6
    obtain ⟨T7, h7, X7, e7, E7, A7, D7, -, st7⟩ := newO X3 hx hZ hown (hw _ (List.mem_of_getElem? (i := 1) rfl)) (hw _ (List.mem_of_getElem? (i := 2) rfl)) (hw _ (List.mem_of_getElem? (i := 3) rfl)) e4 (g := (mkF m 11 #[.val (.long x0), .second, .val (.int x1), .val (.int (own_j0_6_l3 x1)), .unset, .unset, .unset, .unset, .unset, .unset, .unset, .unset, .unset, .unset, .unset] [])) rfl (hb hby at_11) (by decide) (by decide)
    obtain ⟨b7, g7⟩ : ∃ z, z = h0.size := ⟨_, rfl⟩
    rw [← g7] at A7 D7 st7
    have g_b7 : n0 ≤ b7 := Nat.le_trans hn0 (Nat.le_of_eq g7.symm)
    have sz_b7 : h0.size ≤ b7 := Nat.le_trans K0.1 (Nat.le_of_eq g7.symm)
    have K7 := K0.ext E7
    have Z7 := Nat.le_trans hn0 E7.1
    have f8 : Fld Z h7 b7 "com/example/fusewire/fusewire/SeededRandom" "state" "J" (.long (0 : Int64)) := D7 (Or.inl (hw _ (List.mem_of_getElem? (i := 11) rfl))) (ty := .long) (by decide)
    refine Go.via (U' := T7.setTop (mkF m 14 #[.val (.long x0), .second, .val (.int x1), .val (.int (own_j0_6_l3 x1)), .unset, .unset, .unset, .unset, .unset, .unset, .unset, .unset, .unset, .unset, .unset] [(.ref b7)])) (fun tG kG => st7 tG kG) ?_
    refine Go.via (U' := T7.setTop (mkF m 15 #[.val (.long x0), .second, .val (.int x1), .val (.int (own_j0_6_l3 x1)), .unset, .unset, .unset, .unset, .unset, .unset, .unset, .unset, .unset, .unset, .unset] [(.ref b7), (.ref b7)])) (fun tG kG => XS.dup X7.here hx rfl (hb hby at_14) rfl rfl kG) ?_
    refine Go.via (U' := T7.setTop (mkF m 16 #[.val (.long x0), .second, .val (.int x1), .val (.int (own_j0_6_l3 x1)), .unset, .unset, .unset, .unset, .unset, .unset, .unset, .unset, .unset, .unset, .unset] [(.long x0), (.ref b7), (.ref b7)])) (fun tG kG => XS.lloadN X7.here hx rfl (hb hby at_15) rfl kG) ?_
    obtain ⟨_, T9, L9, X9, ⟨rfl, N9q, K9q, f10, f11⟩, st9⟩ := callIQ X7 hx hZ rfl hown (hw _ (List.mem_of_getElem? (i := 4) rfl)) (hw _ (List.mem_of_getElem? (i := 5) rfl)) (hw _ (List.mem_of_getElem? (i := 3) rfl)) (hw _ (List.mem_of_getElem? (i := 6) rfl)) (by decide) (b := b7) (av := [(.long x0)]) (own_rm1 l Z a0 hw [] b7 x0  h7 n0 Z7 A7 f8 g_b7) e7 (pc := 16) (Ls := #[.val (.long x0), .second, .val (.int x1), .val (.int (own_j0_6_l3 x1)), .unset, .unset, .unset, .unset, .unset, .unset, .unset, .unset, .unset, .unset, .unset]) (rest := [(.ref b7)]) (by rw [hml]; rfl) own_k85 rfl 1 (Nat.le_of_eq rfl) (by decide) (by decide) (by decide) (by decide) (hb hby at_16)
    have f12 := A7.keep K9q
    have N9 := Fr.app N6 N9q
    have Z9 := Nat.le_trans Z7 K9q.1
    have K9 := K7.trans K9q (allS (Or.inr sz_b7) all0)
    refine Go.via (U' := T9.setTop (mkF m 19 #[.val (.long x0), .second, .val (.int x1), .val (.int (own_j0_6_l3 x1)), .unset, .unset, .unset, .unset, .unset, .unset, .unset, .unset, .unset, .unset, .unset] [(.ref b7)])) (fun tG kG => st9 tG kG) ?_
    refine Go.via (U' := T9.setTop (mkF m 21 #[.val (.long x0), .second, .val (.int x1), .val (.int (own_j0_6_l3 x1)), .val (.ref b7), .unset, .unset, .unset, .unset, .unset, .unset, .unset, .unset, .unset, .unset] [])) (fun tG kG => XS.astore X9.here hx rfl (hb hby at_19) rfl rfl (l' := #[.val (.long x0), .second, .val (.int x1), .val (.int (own_j0_6_l3 x1)), .val (.ref b7), .unset, .unset, .unset, .unset, .unset, .unset, .unset, .unset, .unset, .unset]) rfl kG) ?_
    obtain ⟨T13, h13, X13, e13, E13, A13, D13, -, st13⟩ := newO X9 hx hZ hown (hw _ (List.mem_of_getElem? (i := 1) rfl)) (hw _ (List.mem_of_getElem? (i := 2) rfl)) (hw _ (List.mem_of_getElem? (i := 3) rfl)) rfl (g := (mkF m 21 #[.val (.long x0), .second, .val (.int x1), .val (.int (own_j0_6_l3 x1)), .val (.ref b7), .unset, .unset, .unset, .unset, .unset, .unset, .unset, .unset, .unset, .unset] [])) rfl (hb hby at_21) (by decide) (by decide)
    obtain ⟨b13, g13⟩ : ∃ z, z = T9.heap.size := ⟨_, rfl⟩
    rw [← g13] at A13 D13 st13
    have g_b13 : n0 ≤ b13 := Nat.le_trans Z9 (Nat.le_of_eq g13.symm)
    have sz_b13 : h0.size ≤ b13 := Nat.le_trans K9.1 (Nat.le_of_eq g13.symm)
    have ne_b7_b13 : b7 ≠ b13 := Nat.ne_of_lt (Nat.lt_of_lt_of_le f10.lt (Nat.le_of_eq g13.symm))
    have f14 := f10.ext E13
    have f15 := f11.ext E13
    have K13 := K9.ext E13
    have Z13 := Nat.le_trans Z9 E13.1
    have f16 : Fld Z h13 b13 "com/example/fusewire/fusewire/SeededRandom" "state" "J" (.long (0 : Int64)) := D13 (Or.inl (hw _ (List.mem_of_getElem? (i := 11) rfl))) (ty := .long) (by decide)
    refine Go.via (U' := T13.setTop (mkF m 24 #[.val (.long x0), .second, .val (.int x1), .val (.int (own_j0_6_l3 x1)), .val (.ref b7), .unset, .unset, .unset, .unset, .unset, .unset, .unset, .unset, .unset, .unset] [(.ref b13)])) (fun tG kG => st13 tG kG) ?_
    refine Go.via (U' := T13.setTop (mkF m 25 #[.val (.long x0), .second, .val (.int x1), .val (.int (own_j0_6_l3 x1)), .val (.ref b7), .unset, .unset, .unset, .unset, .unset, .unset, .unset, .unset, .unset, .unset] [(.ref b13), (.ref b13)])) (fun tG kG => XS.dup X13.here hx rfl (hb hby at_24) rfl rfl kG) ?_
    refine Go.via (U' := T13.setTop (mkF m 26 #[.val (.long x0), .second, .val (.int x1), .val (.int (own_j0_6_l3 x1)), .val (.ref b7), .unset, .unset, .unset, .unset, .unset, .unset, .unset, .unset, .unset, .unset] [(.long x0), (.ref b13), (.ref b13)])) (fun tG kG => XS.lloadN X13.here hx rfl (hb hby at_25) rfl kG) ?_
    obtain ⟨_, T17, L17, X17, ⟨rfl, N17q, K17q, f18, f19⟩, st17⟩ := callIQ X13 hx hZ rfl hown (hw _ (List.mem_of_getElem? (i := 4) rfl)) (hw _ (List.mem_of_getElem? (i := 5) rfl)) (hw _ (List.mem_of_getElem? (i := 3) rfl)) (hw _ (List.mem_of_getElem? (i := 6) rfl)) (by decide) (b := b13) (av := [(.long x0)]) (own_rm1 l Z a0 hw [] b13 x0  h13 n0 Z13 A13 f16 g_b13) e13 (pc := 26) (Ls := #[.val (.long x0), .second, .val (.int x1), .val (.int (own_j0_6_l3 x1)), .val (.ref b7), .unset, .unset, .unset, .unset, .unset, .unset, .unset, .unset, .unset, .unset]) (rest := [(.ref b13)]) (by rw [hml]; rfl) own_k85 rfl 1 (Nat.le_of_eq rfl) (by decide) (by decide) (by decide) (by decide) (hb hby at_26)
    have f20 := f14.keep K17q
    have f21 := f15.keep K17q (ninS ne_b7_b13 nin0)
    have f22 := A13.keep K17q
    have N17 := Fr.app N9 N17q
    have Z17 := Nat.le_trans Z13 K17q.1
    have K17 := K13.trans K17q (allS (Or.inr sz_b13) all0)
    refine Go.via (U' := T17.setTop (mkF m 29 #[.val (.long x0), .second, .val (.int x1), .val (.int (own_j0_6_l3 x1)), .val (.ref b7), .unset, .unset, .unset, .unset, .unset, .unset, .unset, .unset, .unset, .unset] [(.ref b13)])) (fun tG kG => st17 tG kG) ?_
    refine Go.via (U' := T17.setTop (mkF m 31 #[.val (.long x0), .second, .val (.int x1), .val (.int (own_j0_6_l3 x1)), .val (.ref b7), .val (.ref b13), .unset, .unset, .unset, .unset, .unset, .unset, .unset, .unset, .unset] [])) (fun tG kG => XS.astore X17.here hx rfl (hb hby at_29) rfl rfl (l' := #[.val (.long x0), .second, .val (.int x1), .val (.int (own_j0_6_l3 x1)), .val (.ref b7), .val (.ref b13), .unset, .unset, .unset, .unset, .unset, .unset, .unset, .unset, .unset]) rfl kG) ?_
    refine Go.via (U' := T17.setTop (mkF m 33 #[.val (.long x0), .second, .val (.int x1), .val (.int (own_j0_6_l3 x1)), .val (.ref b7), .val (.ref b13), .unset, .unset, .unset, .unset, .unset, .unset, .unset, .unset, .unset] [(.ref b7)])) (fun tG kG => XS.aload X17.here hx rfl (hb hby at_31) rfl rfl kG) ?_
    refine Go.via (U' := T17.setTop (mkF m 34 #[.val (.long x0), .second, .val (.int x1), .val (.int (own_j0_6_l3 x1)), .val (.ref b7), .val (.ref b13), .unset, .unset, .unset, .unset, .unset, .unset, .unset, .unset, .unset] [(.int (own_j0_6_l3 x1)), (.ref b7)])) (fun tG kG => XS.iloadN X17.here hx rfl (hb hby at_33) rfl kG) ?_
    obtain ⟨_, T23, L23, X23, ⟨rfl, N23q, K23q, f24, f25⟩, st23⟩ := callVQ X17 hx hZ hown (hw _ (List.mem_of_getElem? (i := 12) rfl)) (hw _ (List.mem_of_getElem? (i := 13) rfl)) (hw _ (List.mem_of_getElem? (i := 15) rfl)) (hw _ (List.mem_of_getElem? (i := 14) rfl)) (hw _ (List.mem_of_getElem? (i := 3) rfl)) (hw _ (List.mem_of_getElem? (i := 16) rfl)) (by decide) (b := b7) (av := [(.int (own_j0_6_l3 x1))]) f20 (own_rm3 l Z a0 hw [] b7 (own_j0_6_l3 x1) x0 N T17.heap n0 Z17 f20 f21 g_b7 (own_pos _) (own_nz _) hN hlt) rfl (pc := 34) (Ls := #[.val (.long x0), .second, .val (.int x1), .val (.int (own_j0_6_l3 x1)), .val (.ref b7), .val (.ref b13), .unset, .unset, .unset, .unset, .unset, .unset, .unset, .unset, .unset]) (rest := []) (by rw [hml]; rfl) own_k86 rfl 0 (Nat.le_of_eq rfl) (by decide) (by decide) (by decide) (by decide) (hb hby at_34)
    have f26 := f20.keep K23q
    have f27 := f18.keep K23q
    have f28 := f19.keep K23q (ninS (Ne.symm ne_b7_b13) nin0)
    have N23 := Fr.app N17 N23q
    have Z23 := Nat.le_trans Z17 K23q.1
    have K23 := K17.trans K23q (allS (Or.inr sz_b7) all0)
    refine Go.via (U' := T23.setTop (mkF m 37 #[.val (.long x0), .second, .val (.int x1), .val (.int (own_j0_6_l3 x1)), .val (.ref b7), .val (.ref b13), .unset, .unset, .unset, .unset, .unset, .unset, .unset, .unset, .unset] [(.int (own_res x0 (own_j0_6_l3 x1) N))])) (fun tG kG => st23 tG kG) ?_
    refine Go.via (U' := T23.setTop (mkF m 39 #[.val (.long x0), .second, .val (.int x1), .val (.int (own_j0_6_l3 x1)), .val (.ref b7), .val (.ref b13), .val (.int (own_res x0 (own_j0_6_l3 x1) N)), .unset, .unset, .unset, .unset, .unset, .unset, .unset, .unset] [])) (fun tG kG => XS.istore X23.here hx rfl (hb hby at_37) rfl (l' := #[.val (.long x0), .second, .val (.int x1), .val (.int (own_j0_6_l3 x1)), .val (.ref b7), .val (.ref b13), .val (.int (own_res x0 (own_j0_6_l3 x1) N)), .unset, .unset, .unset, .unset, .unset, .unset, .unset, .unset]) rfl kG) ?_
    refine Go.via (U' := T23.setTop (mkF m 41 #[.val (.long x0), .second, .val (.int x1), .val (.int (own_j0_6_l3 x1)), .val (.ref b7), .val (.ref b13), .val (.int (own_res x0 (own_j0_6_l3 x1) N)), .unset, .unset, .unset, .unset, .unset, .unset, .unset, .unset] [(.int (own_res x0 (own_j0_6_l3 x1) N))])) (fun tG kG => XS.iload X23.here hx rfl (hb hby at_39) rfl kG) ?_
    by_cases hc41 : (own_res x0 (own_j0_6_l3 x1) N) < (0 : Int32)
    · refine Go.via (U' := T23.setTop (mkF m 50 #[.val (.long x0), .second, .val (.int x1), .val (.int (own_j0_6_l3 x1)), .val (.ref b7), .val (.ref b13), .val (.int (own_res x0 (own_j0_6_l3 x1) N)), .unset, .unset, .unset, .unset, .unset, .unset, .unset, .unset] [])) (fun tG kG => XS.ifYes X23.here hx rfl (pc0 := 41) (pc' := 50) rfl (hb hby at_41) rfl ((if0 _ _).trans (tlt hc41).1) (by decide) (by decide) kG) ?_
      refine Go.via (U' := T23.setTop (mkF m 51 #[.val (.long x0), .second, .val (.int x1), .val (.int (own_j0_6_l3 x1)), .val (.ref b7), .val (.ref b13), .val (.int (own_res x0 (own_j0_6_l3 x1) N)), .unset, .unset, .unset, .unset, .unset, .unset, .unset, .unset] [(.int (0 : Int32))])) (fun tG kG => XS.iconst X23.here hx rfl (hb hby at_50) kG) ?_
      exact go_retN X23 hx hlk (t := .boolean) hret (by simp) (hb hby at_51) rfl ⟨(congrArg (fun z => some (Value.int z)) (show nar .boolean (0 : Int32) = (own_f0 x0 x1 N) from by unfold own_f0; simp only [if_pos hc41] <;> rfl)), N23, K23⟩ (by decide) (by decide)
    · refine Go.via (U' := T23.setTop (mkF m 44 #[.val (.long x0), .second, .val (.int x1), .val (.int (own_j0_6_l3 x1)), .val (.ref b7), .val (.ref b13), .val (.int (own_res x0 (own_j0_6_l3 x1) N)), .unset, .unset, .unset, .unset, .unset, .unset, .unset, .unset] [])) (fun tG kG => XS.ifNo X23.here hx rfl (hb hby at_41) rfl ((if0 _ _).trans (flt hc41).1) kG) ?_
      refine Go.via (U' := T23.setTop (mkF m 46 #[.val (.long x0), .second, .val (.int x1), .val (.int (own_j0_6_l3 x1)), .val (.ref b7), .val (.ref b13), .val (.int (own_res x0 (own_j0_6_l3 x1) N)), .unset, .unset, .unset, .unset, .unset, .unset, .unset, .unset] [(.int (own_res x0 (own_j0_6_l3 x1) N))])) (fun tG kG => XS.iload X23.here hx rfl (hb hby at_44) rfl kG) ?_
      refine Go.via (U' := T23.setTop (mkF m 47 #[.val (.long x0), .second, .val (.int x1), .val (.int (own_j0_6_l3 x1)), .val (.ref b7), .val (.ref b13), .val (.int (own_res x0 (own_j0_6_l3 x1) N)), .unset, .unset, .unset, .unset, .unset, .unset, .unset, .unset] [(.int (own_j0_6_l3 x1)), (.int (own_res x0 (own_j0_6_l3 x1) N))])) (fun tG kG => XS.iloadN X23.here hx rfl (hb hby at_46) rfl kG) ?_
      by_cases hc47 : (own_res x0 (own_j0_6_l3 x1) N) < (own_j0_6_l3 x1)
      · refine Go.via (U' := T23.setTop (mkF m 52 #[.val (.long x0), .second, .val (.int x1), .val (.int (own_j0_6_l3 x1)), .val (.ref b7), .val (.ref b13), .val (.int (own_res x0 (own_j0_6_l3 x1) N)), .unset, .unset, .unset, .unset, .unset, .unset, .unset, .unset] [])) (fun tG kG => XS.icmpYes X23.here hx rfl (pc0 := 47) (pc' := 52) rfl (hb hby at_47) rfl (tlt hc47).1 (by decide) (by decide) kG) ?_
        refine Go.via (U' := T23.setTop (mkF m 53 #[.val (.long x0), .second, .val (.int x1), .val (.int (own_j0_6_l3 x1)), .val (.ref b7), .val (.ref b13), .val (.int (own_res x0 (own_j0_6_l3 x1) N)), .unset, .unset, .unset, .unset, .unset, .unset, .unset, .unset] [(.int (own_j0_6_l3 x1))])) (fun tG kG => XS.iloadN X23.here hx rfl (hb hby at_52) rfl kG) ?_
        refine Go.via (U' := T23.setTop (mkF m 54 #[.val (.long x0), .second, .val (.int x1), .val (.int (own_j0_6_l3 x1)), .val (.ref b7), .val (.ref b13), .val (.int (own_res x0 (own_j0_6_l3 x1) N)), .unset, .unset, .unset, .unset, .unset, .unset, .unset, .unset] [(.long ((own_j0_6_l3 x1).toInt64))])) (fun tG kG => XS.i2l X23.here hx rfl (hb hby at_53) rfl kG) ?_
        refine Go.via (U' := T23.setTop (mkF m 56 #[.val (.long x0), .second, .val (.int x1), .val (.int (own_j0_6_l3 x1)), .val (.ref b7), .val (.ref b13), .val (.int (own_res x0 (own_j0_6_l3 x1) N)), .val (.long ((own_j0_6_l3 x1).toInt64)), .second, .unset, .unset, .unset, .unset, .unset, .unset] [])) (fun tG kG => XS.lstore X23.here hx rfl (hb hby at_54) rfl (l' := #[.val (.long x0), .second, .val (.int x1), .val (.int (own_j0_6_l3 x1)), .val (.ref b7), .val (.ref b13), .val (.int (own_res x0 (own_j0_6_l3 x1) N)), .val (.long ((own_j0_6_l3 x1).toInt64)), .second, .unset, .unset, .unset, .unset, .unset, .unset]) rfl kG) ?_
        refine Go.via (U' := T23.setTop (mkF m 58 #[.val (.long x0), .second, .val (.int x1), .val (.int (own_j0_6_l3 x1)), .val (.ref b7), .val (.ref b13), .val (.int (own_res x0 (own_j0_6_l3 x1) N)), .val (.long ((own_j0_6_l3 x1).toInt64)), .second, .unset, .unset, .unset, .unset, .unset, .unset] [(.ref b13)])) (fun tG kG => XS.aload X23.here hx rfl (hb hby at_56) rfl rfl kG) ?_
        obtain ⟨_, T29, L29, X29, ⟨rfl, N29q, K29q, f30, f31⟩, st29⟩ := callVQ X23 hx hZ hown (hw _ (List.mem_of_getElem? (i := 26) rfl)) (hw _ (List.mem_of_getElem? (i := 19) rfl)) (hw _ (List.mem_of_getElem? (i := 21) rfl)) (hw _ (List.mem_of_getElem? (i := 20) rfl)) (hw _ (List.mem_of_getElem? (i := 3) rfl)) (hw _ (List.mem_of_getElem? (i := 22) rfl)) (by decide) (b := b13) (av := []) f27 (own_rm4 l Z a0 hw [] b13 x0 T23.heap n0 Z23 f27 f28 g_b13) rfl (pc := 58) (Ls := #[.val (.long x0), .second, .val (.int x1), .val (.int (own_j0_6_l3 x1)), .val (.ref b7), .val (.ref b13), .val (.int (own_res x0 (own_j0_6_l3 x1) N)), .val (.long ((own_j0_6_l3 x1).toInt64)), .second, .unset, .unset, .unset, .unset, .unset, .unset]) (rest := []) (by rw [hml]; rfl) own_k69 rfl 0 (Nat.le_of_eq rfl) (by decide) (by decide) (by decide) (by decide) (hb hby at_58)
        have f32 := f24.keep K29q
        have f33 := f27.keep K29q
        have f34 := f25.keep K29q (ninS ne_b7_b13 nin0)
        have N29 := Fr.app N23 N29q
        have Z29 := Nat.le_trans Z23 K29q.1
        have K29 := K23.trans K29q (allS (Or.inr sz_b13) all0)
        refine Go.via (U' := T29.setTop (mkF m 61 #[.val (.long x0), .second, .val (.int x1), .val (.int (own_j0_6_l3 x1)), .val (.ref b7), .val (.ref b13), .val (.int (own_res x0 (own_j0_6_l3 x1) N)), .val (.long ((own_j0_6_l3 x1).toInt64)), .second, .unset, .unset, .unset, .unset, .unset, .unset] [(.long (own_f4 x0))])) (fun tG kG => st29 tG kG) ?_
        refine Go.via (U' := T29.setTop (mkF m 63 #[.val (.long x0), .second, .val (.int x1), .val (.int (own_j0_6_l3 x1)), .val (.ref b7), .val (.ref b13), .val (.int (own_res x0 (own_j0_6_l3 x1) N)), .val (.long ((own_j0_6_l3 x1).toInt64)), .second, .unset, .unset, .unset, .unset, .unset, .unset] [(.int (32 : Int32)), (.long (own_f4 x0))])) (fun tG kG => XS.bipush X29.here hx rfl (hb hby at_61) kG) ?_
        refine Go.via (U' := T29.setTop (mkF m 64 #[.val (.long x0), .second, .val (.int x1), .val (.int (own_j0_6_l3 x1)), .val (.ref b7), .val (.ref b13), .val (.int (own_res x0 (own_j0_6_l3 x1) N)), .val (.long ((own_j0_6_l3 x1).toInt64)), .second, .unset, .unset, .unset, .unset, .unset, .unset] [(.long (own_ushrL (own_f4 x0) (32 : Int32)))])) (fun tG kG => XS.lushr X29.here hx rfl (hb hby at_63) rfl kG) ?_
        refine Go.via (U' := T29.setTop (mkF m 66 #[.val (.long x0), .second, .val (.int x1), .val (.int (own_j0_6_l3 x1)), .val (.ref b7), .val (.ref b13), .val (.int (own_res x0 (own_j0_6_l3 x1) N)), .val (.long ((own_j0_6_l3 x1).toInt64)), .second, .val (.long (own_ushrL (own_f4 x0) (32 : Int32))), .second, .unset, .unset, .unset, .unset] [])) (fun tG kG => XS.lstore X29.here hx rfl (hb hby at_64) rfl (l' := #[.val (.long x0), .second, .val (.int x1), .val (.int (own_j0_6_l3 x1)), .val (.ref b7), .val (.ref b13), .val (.int (own_res x0 (own_j0_6_l3 x1) N)), .val (.long ((own_j0_6_l3 x1).toInt64)), .second, .val (.long (own_ushrL (own_f4 x0) (32 : Int32))), .second, .unset, .unset, .unset, .unset]) rfl kG) ?_
        refine Go.via (U' := T29.setTop (mkF m 68 #[.val (.long x0), .second, .val (.int x1), .val (.int (own_j0_6_l3 x1)), .val (.ref b7), .val (.ref b13), .val (.int (own_res x0 (own_j0_6_l3 x1) N)), .val (.long ((own_j0_6_l3 x1).toInt64)), .second, .val (.long (own_ushrL (own_f4 x0) (32 : Int32))), .second, .unset, .unset, .unset, .unset] [(.long (own_ushrL (own_f4 x0) (32 : Int32)))])) (fun tG kG => XS.lload X29.here hx rfl (hb hby at_66) rfl kG) ?_
        refine Go.via (U' := T29.setTop (mkF m 70 #[.val (.long x0), .second, .val (.int x1), .val (.int (own_j0_6_l3 x1)), .val (.ref b7), .val (.ref b13), .val (.int (own_res x0 (own_j0_6_l3 x1) N)), .val (.long ((own_j0_6_l3 x1).toInt64)), .second, .val (.long (own_ushrL (own_f4 x0) (32 : Int32))), .second, .unset, .unset, .unset, .unset] [(.long ((own_j0_6_l3 x1).toInt64)), (.long (own_ushrL (own_f4 x0) (32 : Int32)))])) (fun tG kG => XS.lload X29.here hx rfl (hb hby at_68) rfl kG) ?_
        obtain ⟨T35, X35, e35, st35⟩ := callS0 X29 hx hZ hown (hw _ (List.mem_of_getElem? (i := 27) rfl)) (hw _ (List.mem_of_getElem? (i := 28) rfl)) (hw _ (List.mem_of_getElem? (i := 29) rfl)) (hw _ (List.mem_of_getElem? (i := 30) rfl)) (by decide) (av := [(.long (own_ushrL (own_f4 x0) (32 : Int32))), (.long ((own_j0_6_l3 x1).toInt64))]) (own_rm5 l Z a0 hw [] (own_ushrL (own_f4 x0) (32 : Int32)) ((own_j0_6_l3 x1).toInt64)  T29.heap (own_nz _)) rfl (pc := 70) (Ls := #[.val (.long x0), .second, .val (.int x1), .val (.int (own_j0_6_l3 x1)), .val (.ref b7), .val (.ref b13), .val (.int (own_res x0 (own_j0_6_l3 x1) N)), .val (.long ((own_j0_6_l3 x1).toInt64)), .second, .val (.long (own_ushrL (own_f4 x0) (32 : Int32))), .second, .unset, .unset, .unset, .unset]) (rest := []) (by rw [hml]; rfl) own_k87 rfl 0 (Nat.le_of_eq rfl) (by decide) (by decide) (by decide) (by decide) (hb hby at_70)
        refine Go.via (U' := T35.setTop (mkF m 73 #[.val (.long x0), .second, .val (.int x1), .val (.int (own_j0_6_l3 x1)), .val (.ref b7), .val (.ref b13), .val (.int (own_res x0 (own_j0_6_l3 x1) N)), .val (.long ((own_j0_6_l3 x1).toInt64)), .second, .val (.long (own_ushrL (own_f4 x0) (32 : Int32))), .second, .unset, .unset, .unset, .unset] [(.int (own_f5 (own_ushrL (own_f4 x0) (32 : Int32)) ((own_j0_6_l3 x1).toInt64)))])) (fun tG kG => st35 tG kG) ?_
        by_cases hc73 : (own_f5 (own_ushrL (own_f4 x0) (32 : Int32)) ((own_j0_6_l3 x1).toInt64)) = (0 : Int32)
        · refine Go.via (U' := T35.setTop (mkF m 107 #[.val (.long x0), .second, .val (.int x1), .val (.int (own_j0_6_l3 x1)), .val (.ref b7), .val (.ref b13), .val (.int (own_res x0 (own_j0_6_l3 x1) N)), .val (.long ((own_j0_6_l3 x1).toInt64)), .second, .val (.long (own_ushrL (own_f4 x0) (32 : Int32))), .second, .unset, .unset, .unset, .unset] [])) (fun tG kG => XS.ifYes X35.here hx rfl (pc0 := 73) (pc' := 107) rfl (hb hby at_73) rfl ((if0 _ _).trans (teq hc73).1) (by decide) (by decide) kG) ?_
          refine Go.via (U' := T35.setTop (mkF m 109 #[.val (.long x0), .second, .val (.int x1), .val (.int (own_j0_6_l3 x1)), .val (.ref b7), .val (.ref b13), .val (.int (own_res x0 (own_j0_6_l3 x1) N)), .val (.long ((own_j0_6_l3 x1).toInt64)), .second, .val (.long (own_ushrL (own_f4 x0) (32 : Int32))), .second, .unset, .unset, .unset, .unset] [(.ref b13)])) (fun tG kG => XS.aload X35.here hx rfl (hb hby at_107) rfl rfl kG) ?_
          obtain ⟨_, T36, L36, X36, ⟨rfl, N36q, K36q, f37, f38⟩, st36⟩ := callVQ X35 hx hZ hown (hw _ (List.mem_of_getElem? (i := 26) rfl)) (hw _ (List.mem_of_getElem? (i := 19) rfl)) (hw _ (List.mem_of_getElem? (i := 21) rfl)) (hw _ (List.mem_of_getElem? (i := 20) rfl)) (hw _ (List.mem_of_getElem? (i := 3) rfl)) (hw _ (List.mem_of_getElem? (i := 22) rfl)) (by decide) (b := b13) (av := []) f30 (own_rm4 l Z a0 hw [] b13 (x0 + (-7046029254386353131 : Int64)) T29.heap n0 Z29 f30 f31 g_b13) e35 (pc := 109) (Ls := #[.val (.long x0), .second, .val (.int x1), .val (.int (own_j0_6_l3 x1)), .val (.ref b7), .val (.ref b13), .val (.int (own_res x0 (own_j0_6_l3 x1) N)), .val (.long ((own_j0_6_l3 x1).toInt64)), .second, .val (.long (own_ushrL (own_f4 x0) (32 : Int32))), .second, .unset, .unset, .unset, .unset]) (rest := []) (by rw [hml]; rfl) own_k69 rfl 0 (Nat.le_of_eq rfl) (by decide) (by decide) (by decide) (by decide) (hb hby at_109)
          have f39 := f32.keep K36q
          have f40 := f30.keep K36q
          have f41 := f34.keep K36q (ninS ne_b7_b13 nin0)
          have N36 := Fr.app N29 N36q
          have Z36 := Nat.le_trans Z29 K36q.1
          have K36 := K29.trans K36q (allS (Or.inr sz_b13) all0)
          refine Go.via (U' := T36.setTop (mkF m 112 #[.val (.long x0), .second, .val (.int x1), .val (.int (own_j0_6_l3 x1)), .val (.ref b7), .val (.ref b13), .val (.int (own_res x0 (own_j0_6_l3 x1) N)), .val (.long ((own_j0_6_l3 x1).toInt64)), .second, .val (.long (own_ushrL (own_f4 x0) (32 : Int32))), .second, .unset, .unset, .unset, .unset] [(.long (own_f4 (x0 + (-7046029254386353131 : Int64))))])) (fun tG kG => st36 tG kG) ?_
          refine Go.via (U' := T36.setTop (mkF m 114 #[.val (.long x0), .second, .val (.int x1), .val (.int (own_j0_6_l3 x1)), .val (.ref b7), .val (.ref b13), .val (.int (own_res x0 (own_j0_6_l3 x1) N)), .val (.long ((own_j0_6_l3 x1).toInt64)), .second, .val (.long (own_ushrL (own_f4 x0) (32 : Int32))), .second, .unset, .unset, .unset, .unset] [(.int (32 : Int32)), (.long (own_f4 (x0 + (-7046029254386353131 : Int64))))])) (fun tG kG => XS.bipush X36.here hx rfl (hb hby at_112) kG) ?_
          refine Go.via (U' := T36.setTop (mkF m 115 #[.val (.long x0), .second, .val (.int x1), .val (.int (own_j0_6_l3 x1)), .val (.ref b7), .val (.ref b13), .val (.int (own_res x0 (own_j0_6_l3 x1) N)), .val (.long ((own_j0_6_l3 x1).toInt64)), .second, .val (.long (own_ushrL (own_f4 x0) (32 : Int32))), .second, .unset, .unset, .unset, .unset] [(.long (own_ushrL (own_f4 (x0 + (-7046029254386353131 : Int64))) (32 : Int32)))])) (fun tG kG => XS.lushr X36.here hx rfl (hb hby at_114) rfl kG) ?_
          refine Go.via (U' := T36.setTop (mkF m 117 #[.val (.long x0), .second, .val (.int x1), .val (.int (own_j0_6_l3 x1)), .val (.ref b7), .val (.ref b13), .val (.int (own_res x0 (own_j0_6_l3 x1) N)), .val (.long ((own_j0_6_l3 x1).toInt64)), .second, .val (.long (own_ushrL (own_f4 x0) (32 : Int32))), .second, .val (.long (own_ushrL (own_f4 (x0 + (-7046029254386353131 : Int64))) (32 : Int32))), .second, .unset, .unset] [])) (fun tG kG => XS.lstore X36.here hx rfl (hb hby at_115) rfl (l' := #[.val (.long x0), .second, .val (.int x1), .val (.int (own_j0_6_l3 x1)), .val (.ref b7), .val (.ref b13), .val (.int (own_res x0 (own_j0_6_l3 x1) N)), .val (.long ((own_j0_6_l3 x1).toInt64)), .second, .val (.long (own_ushrL (own_f4 x0) (32 : Int32))), .second, .val (.long (own_ushrL (own_f4 (x0 + (-7046029254386353131 : Int64))) (32 : Int32))), .second, .unset, .unset]) rfl kG) ?_
          refine Go.via (U' := T36.setTop (mkF m 119 #[.val (.long x0), .second, .val (.int x1), .val (.int (own_j0_6_l3 x1)), .val (.ref b7), .val (.ref b13), .val (.int (own_res x0 (own_j0_6_l3 x1) N)), .val (.long ((own_j0_6_l3 x1).toInt64)), .second, .val (.long (own_ushrL (own_f4 x0) (32 : Int32))), .second, .val (.long (own_ushrL (own_f4 (x0 + (-7046029254386353131 : Int64))) (32 : Int32))), .second, .unset, .unset] [(.long (own_ushrL (own_f4 (x0 + (-7046029254386353131 : Int64))) (32 : Int32)))])) (fun tG kG => XS.lload X36.here hx rfl (hb hby at_117) rfl kG) ?_
          refine Go.via (U' := T36.setTop (mkF m 121 #[.val (.long x0), .second, .val (.int x1), .val (.int (own_j0_6_l3 x1)), .val (.ref b7), .val (.ref b13), .val (.int (own_res x0 (own_j0_6_l3 x1) N)), .val (.long ((own_j0_6_l3 x1).toInt64)), .second, .val (.long (own_ushrL (own_f4 x0) (32 : Int32))), .second, .val (.long (own_ushrL (own_f4 (x0 + (-7046029254386353131 : Int64))) (32 : Int32))), .second, .unset, .unset] [(.long ((own_j0_6_l3 x1).toInt64)), (.long (own_ushrL (own_f4 (x0 + (-7046029254386353131 : Int64))) (32 : Int32)))])) (fun tG kG => XS.lload X36.here hx rfl (hb hby at_119) rfl kG) ?_
          obtain ⟨T42, X42, e42, st42⟩ := callS0 X36 hx hZ hown (hw _ (List.mem_of_getElem? (i := 27) rfl)) (hw _ (List.mem_of_getElem? (i := 28) rfl)) (hw _ (List.mem_of_getElem? (i := 29) rfl)) (hw _ (List.mem_of_getElem? (i := 30) rfl)) (by decide) (av := [(.long (own_ushrL (own_f4 (x0 + (-7046029254386353131 : Int64))) (32 : Int32))), (.long ((own_j0_6_l3 x1).toInt64))]) (own_rm5 l Z a0 hw [] (own_ushrL (own_f4 (x0 + (-7046029254386353131 : Int64))) (32 : Int32)) ((own_j0_6_l3 x1).toInt64)  T36.heap (own_nz _)) rfl (pc := 121) (Ls := #[.val (.long x0), .second, .val (.int x1), .val (.int (own_j0_6_l3 x1)), .val (.ref b7), .val (.ref b13), .val (.int (own_res x0 (own_j0_6_l3 x1) N)), .val (.long ((own_j0_6_l3 x1).toInt64)), .second, .val (.long (own_ushrL (own_f4 x0) (32 : Int32))), .second, .val (.long (own_ushrL (own_f4 (x0 + (-7046029254386353131 : Int64))) (32 : Int32))), .second, .unset, .unset]) (rest := []) (by rw [hml]; rfl) own_k87 rfl 0 (Nat.le_of_eq rfl) (by decide) (by decide) (by decide) (by decide) (hb hby at_121)
          refine Go.via (U' := T42.setTop (mkF m 124 #[.val (.long x0), .second, .val (.int x1), .val (.int (own_j0_6_l3 x1)), .val (.ref b7), .val (.ref b13), .val (.int (own_res x0 (own_j0_6_l3 x1) N)), .val (.long ((own_j0_6_l3 x1).toInt64)), .second, .val (.long (own_ushrL (own_f4 x0) (32 : Int32))), .second, .val (.long (own_ushrL (own_f4 (x0 + (-7046029254386353131 : Int64))) (32 : Int32))), .second, .unset, .unset] [(.int (own_f5 (own_ushrL (own_f4 (x0 + (-7046029254386353131 : Int64))) (32 : Int32)) ((own_j0_6_l3 x1).toInt64)))])) (fun tG kG => st42 tG kG) ?_
          by_cases hc124 : (own_f5 (own_ushrL (own_f4 (x0 + (-7046029254386353131 : Int64))) (32 : Int32)) ((own_j0_6_l3 x1).toInt64)) = (0 : Int32)
          · refine Go.via (U' := T42.setTop (mkF m 158 #[.val (.long x0), .second, .val (.int x1), .val (.int (own_j0_6_l3 x1)), .val (.ref b7), .val (.ref b13), .val (.int (own_res x0 (own_j0_6_l3 x1) N)), .val (.long ((own_j0_6_l3 x1).toInt64)), .second, .val (.long (own_ushrL (own_f4 x0) (32 : Int32))), .second, .val (.long (own_ushrL (own_f4 (x0 + (-7046029254386353131 : Int64))) (32 : Int32))), .second, .unset, .unset] [])) (fun tG kG => XS.ifYes X42.here hx rfl (pc0 := 124) (pc' := 158) rfl (hb hby at_124) rfl ((if0 _ _).trans (teq hc124).1) (by decide) (by decide) kG) ?_
            refine Go.via (U' := T42.setTop (mkF m 160 #[.val (.long x0), .second, .val (.int x1), .val (.int (own_j0_6_l3 x1)), .val (.ref b7), .val (.ref b13), .val (.int (own_res x0 (own_j0_6_l3 x1) N)), .val (.long ((own_j0_6_l3 x1).toInt64)), .second, .val (.long (own_ushrL (own_f4 x0) (32 : Int32))), .second, .val (.long (own_ushrL (own_f4 (x0 + (-7046029254386353131 : Int64))) (32 : Int32))), .second, .unset, .unset] [(.ref b13)])) (fun tG kG => XS.aload X42.here hx rfl (hb hby at_158) rfl rfl kG) ?_
            obtain ⟨_, T43, L43, X43, ⟨rfl, N43q, K43q, f44, f45⟩, st43⟩ := callVQ X42 hx hZ hown (hw _ (List.mem_of_getElem? (i := 26) rfl)) (hw _ (List.mem_of_getElem? (i := 19) rfl)) (hw _ (List.mem_of_getElem? (i := 21) rfl)) (hw _ (List.mem_of_getElem? (i := 20) rfl)) (hw _ (List.mem_of_getElem? (i := 3) rfl)) (hw _ (List.mem_of_getElem? (i := 22) rfl)) (by decide) (b := b13) (av := []) f37 (own_rm4 l Z a0 hw [] b13 ((x0 + (-7046029254386353131 : Int64)) + (-7046029254386353131 : Int64)) T36.heap n0 Z36 f37 f38 g_b13) e42 (pc := 160) (Ls := #[.val (.long x0), .second, .val (.int x1), .val (.int (own_j0_6_l3 x1)), .val (.ref b7), .val (.ref b13), .val (.int (own_res x0 (own_j0_6_l3 x1) N)), .val (.long ((own_j0_6_l3 x1).toInt64)), .second, .val (.long (own_ushrL (own_f4 x0) (32 : Int32))), .second, .val (.long (own_ushrL (own_f4 (x0 + (-7046029254386353131 : Int64))) (32 : Int32))), .second, .unset, .unset]) (rest := []) (by rw [hml]; rfl) own_k69 rfl 0 (Nat.le_of_eq rfl) (by decide) (by decide) (by decide) (by decide) (hb hby at_160)
            have f46 := f39.keep K43q
            have f47 := f37.keep K43q
            have f48 := f41.keep K43q (ninS ne_b7_b13 nin0)
            have N43 := Fr.app N36 N43q
            have Z43 := Nat.le_trans Z36 K43q.1
            have K43 := K36.trans K43q (allS (Or.inr sz_b13) all0)
            refine Go.via (U' := T43.setTop (mkF m 163 #[.val (.long x0), .second, .val (.int x1), .val (.int (own_j0_6_l3 x1)), .val (.ref b7), .val (.ref b13), .val (.int (own_res x0 (own_j0_6_l3 x1) N)), .val (.long ((own_j0_6_l3 x1).toInt64)), .second, .val (.long (own_ushrL (own_f4 x0) (32 : Int32))), .second, .val (.long (own_ushrL (own_f4 (x0 + (-7046029254386353131 : Int64))) (32 : Int32))), .second, .unset, .unset] [(.long (own_f4 ((x0 + (-7046029254386353131 : Int64)) + (-7046029254386353131 : Int64))))])) (fun tG kG => st43 tG kG) ?_
            refine Go.via (U' := T43.setTop (mkF m 165 #[.val (.long x0), .second, .val (.int x1), .val (.int (own_j0_6_l3 x1)), .val (.ref b7), .val (.ref b13), .val (.int (own_res x0 (own_j0_6_l3 x1) N)), .val (.long ((own_j0_6_l3 x1).toInt64)), .second, .val (.long (own_ushrL (own_f4 x0) (32 : Int32))), .second, .val (.long (own_ushrL (own_f4 (x0 + (-7046029254386353131 : Int64))) (32 : Int32))), .second, .unset, .unset] [(.int (32 : Int32)), (.long (own_f4 ((x0 + (-7046029254386353131 : Int64)) + (-7046029254386353131 : Int64))))])) (fun tG kG => XS.bipush X43.here hx rfl (hb hby at_163) kG) ?_
            refine Go.via (U' := T43.setTop (mkF m 166 #[.val (.long x0), .second, .val (.int x1), .val (.int (own_j0_6_l3 x1)), .val (.ref b7), .val (.ref b13), .val (.int (own_res x0 (own_j0_6_l3 x1) N)), .val (.long ((own_j0_6_l3 x1).toInt64)), .second, .val (.long (own_ushrL (own_f4 x0) (32 : Int32))), .second, .val (.long (own_ushrL (own_f4 (x0 + (-7046029254386353131 : Int64))) (32 : Int32))), .second, .unset, .unset] [(.long (own_ushrL (own_f4 ((x0 + (-7046029254386353131 : Int64)) + (-7046029254386353131 : Int64))) (32 : Int32)))])) (fun tG kG => XS.lushr X43.here hx rfl (hb hby at_165) rfl kG) ?_
            refine Go.via (U' := T43.setTop (mkF m 168 #[.val (.long x0), .second, .val (.int x1), .val (.int (own_j0_6_l3 x1)), .val (.ref b7), .val (.ref b13), .val (.int (own_res x0 (own_j0_6_l3 x1) N)), .val (.long ((own_j0_6_l3 x1).toInt64)), .second, .val (.long (own_ushrL (own_f4 x0) (32 : Int32))), .second, .val (.long (own_ushrL (own_f4 (x0 + (-7046029254386353131 : Int64))) (32 : Int32))), .second, .val (.long (own_ushrL (own_f4 ((x0 + (-7046029254386353131 : Int64)) + (-7046029254386353131 : Int64))) (32 : Int32))), .second] [])) (fun tG kG => XS.lstore X43.here hx rfl (hb hby at_166) rfl (l' := #[.val (.long x0), .second, .val (.int x1), .val (.int (own_j0_6_l3 x1)), .val (.ref b7), .val (.ref b13), .val (.int (own_res x0 (own_j0_6_l3 x1) N)), .val (.long ((own_j0_6_l3 x1).toInt64)), .second, .val (.long (own_ushrL (own_f4 x0) (32 : Int32))), .second, .val (.long (own_ushrL (own_f4 (x0 + (-7046029254386353131 : Int64))) (32 : Int32))), .second, .val (.long (own_ushrL (own_f4 ((x0 + (-7046029254386353131 : Int64)) + (-7046029254386353131 : Int64))) (32 : Int32))), .second]) rfl kG) ?_
            refine Go.via (U' := T43.setTop (mkF m 170 #[.val (.long x0), .second, .val (.int x1), .val (.int (own_j0_6_l3 x1)), .val (.ref b7), .val (.ref b13), .val (.int (own_res x0 (own_j0_6_l3 x1) N)), .val (.long ((own_j0_6_l3 x1).toInt64)), .second, .val (.long (own_ushrL (own_f4 x0) (32 : Int32))), .second, .val (.long (own_ushrL (own_f4 (x0 + (-7046029254386353131 : Int64))) (32 : Int32))), .second, .val (.long (own_ushrL (own_f4 ((x0 + (-7046029254386353131 : Int64)) + (-7046029254386353131 : Int64))) (32 : Int32))), .second] [(.long (own_ushrL (own_f4 ((x0 + (-7046029254386353131 : Int64)) + (-7046029254386353131 : Int64))) (32 : Int32)))])) (fun tG kG => XS.lload X43.here hx rfl (hb hby at_168) rfl kG) ?_
            refine Go.via (U' := T43.setTop (mkF m 172 #[.val (.long x0), .second, .val (.int x1), .val (.int (own_j0_6_l3 x1)), .val (.ref b7), .val (.ref b13), .val (.int (own_res x0 (own_j0_6_l3 x1) N)), .val (.long ((own_j0_6_l3 x1).toInt64)), .second, .val (.long (own_ushrL (own_f4 x0) (32 : Int32))), .second, .val (.long (own_ushrL (own_f4 (x0 + (-7046029254386353131 : Int64))) (32 : Int32))), .second, .val (.long (own_ushrL (own_f4 ((x0 + (-7046029254386353131 : Int64)) + (-7046029254386353131 : Int64))) (32 : Int32))), .second] [(.long ((own_j0_6_l3 x1).toInt64)), (.long (own_ushrL (own_f4 ((x0 + (-7046029254386353131 : Int64)) + (-7046029254386353131 : Int64))) (32 : Int32)))])) (fun tG kG => XS.lload X43.here hx rfl (hb hby at_170) rfl kG) ?_
            obtain ⟨T49, X49, e49, st49⟩ := callS0 X43 hx hZ hown (hw _ (List.mem_of_getElem? (i := 27) rfl)) (hw _ (List.mem_of_getElem? (i := 28) rfl)) (hw _ (List.mem_of_getElem? (i := 29) rfl)) (hw _ (List.mem_of_getElem? (i := 30) rfl)) (by decide) (av := [(.long (own_ushrL (own_f4 ((x0 + (-7046029254386353131 : Int64)) + (-7046029254386353131 : Int64))) (32 : Int32))), (.long ((own_j0_6_l3 x1).toInt64))]) (own_rm5 l Z a0 hw [] (own_ushrL (own_f4 ((x0 + (-7046029254386353131 : Int64)) + (-7046029254386353131 : Int64))) (32 : Int32)) ((own_j0_6_l3 x1).toInt64)  T43.heap (own_nz _)) rfl (pc := 172) (Ls := #[.val (.long x0), .second, .val (.int x1), .val (.int (own_j0_6_l3 x1)), .val (.ref b7), .val (.ref b13), .val (.int (own_res x0 (own_j0_6_l3 x1) N)), .val (.long ((own_j0_6_l3 x1).toInt64)), .second, .val (.long (own_ushrL (own_f4 x0) (32 : Int32))), .second, .val (.long (own_ushrL (own_f4 (x0 + (-7046029254386353131 : Int64))) (32 : Int32))), .second, .val (.long (own_ushrL (own_f4 ((x0 + (-7046029254386353131 : Int64)) + (-7046029254386353131 : Int64))) (32 : Int32))), .second]) (rest := []) (by rw [hml]; rfl) own_k87 rfl 0 (Nat.le_of_eq rfl) (by decide) (by decide) (by decide) (by decide) (hb hby at_172)
            refine Go.via (U' := T49.setTop (mkF m 175 #[.val (.long x0), .second, .val (.int x1), .val (.int (own_j0_6_l3 x1)), .val (.ref b7), .val (.ref b13), .val (.int (own_res x0 (own_j0_6_l3 x1) N)), .val (.long ((own_j0_6_l3 x1).toInt64)), .second, .val (.long (own_ushrL (own_f4 x0) (32 : Int32))), .second, .val (.long (own_ushrL (own_f4 (x0 + (-7046029254386353131 : Int64))) (32 : Int32))), .second, .val (.long (own_ushrL (own_f4 ((x0 + (-7046029254386353131 : Int64)) + (-7046029254386353131 : Int64))) (32 : Int32))), .second] [(.int (own_f5 (own_ushrL (own_f4 ((x0 + (-7046029254386353131 : Int64)) + (-7046029254386353131 : Int64))) (32 : Int32)) ((own_j0_6_l3 x1).toInt64)))])) (fun tG kG => st49 tG kG) ?_
            by_cases hc175 : (own_f5 (own_ushrL (own_f4 ((x0 + (-7046029254386353131 : Int64)) + (-7046029254386353131 : Int64))) (32 : Int32)) ((own_j0_6_l3 x1).toInt64)) = (0 : Int32)
            · refine Go.via (U' := T49.setTop (mkF m 209 #[.val (.long x0), .second, .val (.int x1), .val (.int (own_j0_6_l3 x1)), .val (.ref b7), .val (.ref b13), .val (.int (own_res x0 (own_j0_6_l3 x1) N)), .val (.long ((own_j0_6_l3 x1).toInt64)), .second, .val (.long (own_ushrL (own_f4 x0) (32 : Int32))), .second, .val (.long (own_ushrL (own_f4 (x0 + (-7046029254386353131 : Int64))) (32 : Int32))), .second, .val (.long (own_ushrL (own_f4 ((x0 + (-7046029254386353131 : Int64)) + (-7046029254386353131 : Int64))) (32 : Int32))), .second] [])) (fun tG kG => XS.ifYes X49.here hx rfl (pc0 := 175) (pc' := 209) rfl (hb hby at_175) rfl ((if0 _ _).trans (teq hc175).1) (by decide) (by decide) kG) ?_
              refine Go.via (U' := T49.setTop (mkF m 210 #[.val (.long x0), .second, .val (.int x1), .val (.int (own_j0_6_l3 x1)), .val (.ref b7), .val (.ref b13), .val (.int (own_res x0 (own_j0_6_l3 x1) N)), .val (.long ((own_j0_6_l3 x1).toInt64)), .second, .val (.long (own_ushrL (own_f4 x0) (32 : Int32))), .second, .val (.long (own_ushrL (own_f4 (x0 + (-7046029254386353131 : Int64))) (32 : Int32))), .second, .val (.long (own_ushrL (own_f4 ((x0 + (-7046029254386353131 : Int64)) + (-7046029254386353131 : Int64))) (32 : Int32))), .second] [(.int (1 : Int32))])) (fun tG kG => XS.iconst X49.here hx rfl (hb hby at_209) kG) ?_
              exact go_retN X49 hx hlk (t := .boolean) hret (by simp) (hb hby at_210) e49 ⟨(congrArg (fun z => some (Value.int z)) (show nar .boolean (1 : Int32) = (own_f0 x0 x1 N) from by unfold own_f0; simp only [if_neg hc41, if_pos hc47, if_pos hc73, if_pos hc124, if_pos hc175] <;> rfl)), N43, K43⟩ (by decide) (by decide)
            · refine Go.via (U' := T49.setTop (mkF m 178 #[.val (.long x0), .second, .val (.int x1), .val (.int (own_j0_6_l3 x1)), .val (.ref b7), .val (.ref b13), .val (.int (own_res x0 (own_j0_6_l3 x1) N)), .val (.long ((own_j0_6_l3 x1).toInt64)), .second, .val (.long (own_ushrL (own_f4 x0) (32 : Int32))), .second, .val (.long (own_ushrL (own_f4 (x0 + (-7046029254386353131 : Int64))) (32 : Int32))), .second, .val (.long (own_ushrL (own_f4 ((x0 + (-7046029254386353131 : Int64)) + (-7046029254386353131 : Int64))) (32 : Int32))), .second] [])) (fun tG kG => XS.ifNo X49.here hx rfl (hb hby at_175) rfl ((if0 _ _).trans (feq hc175).1) kG) ?_
              refine Go.via (U' := T49.setTop (mkF m 180 #[.val (.long x0), .second, .val (.int x1), .val (.int (own_j0_6_l3 x1)), .val (.ref b7), .val (.ref b13), .val (.int (own_res x0 (own_j0_6_l3 x1) N)), .val (.long ((own_j0_6_l3 x1).toInt64)), .second, .val (.long (own_ushrL (own_f4 x0) (32 : Int32))), .second, .val (.long (own_ushrL (own_f4 (x0 + (-7046029254386353131 : Int64))) (32 : Int32))), .second, .val (.long (own_ushrL (own_f4 ((x0 + (-7046029254386353131 : Int64)) + (-7046029254386353131 : Int64))) (32 : Int32))), .second] [(.int (own_res x0 (own_j0_6_l3 x1) N))])) (fun tG kG => XS.iload X49.here hx rfl (hb hby at_178) rfl kG) ?_
              refine Go.via (U' := T49.setTop (mkF m 182 #[.val (.long x0), .second, .val (.int x1), .val (.int (own_j0_6_l3 x1)), .val (.ref b7), .val (.ref b13), .val (.int (own_res x0 (own_j0_6_l3 x1) N)), .val (.long ((own_j0_6_l3 x1).toInt64)), .second, .val (.long (own_ushrL (own_f4 x0) (32 : Int32))), .second, .val (.long (own_ushrL (own_f4 (x0 + (-7046029254386353131 : Int64))) (32 : Int32))), .second, .val (.long (own_ushrL (own_f4 ((x0 + (-7046029254386353131 : Int64)) + (-7046029254386353131 : Int64))) (32 : Int32))), .second] [(.long (own_ushrL (own_f4 ((x0 + (-7046029254386353131 : Int64)) + (-7046029254386353131 : Int64))) (32 : Int32))), (.int (own_res x0 (own_j0_6_l3 x1) N))])) (fun tG kG => XS.lload X49.here hx rfl (hb hby at_180) rfl kG) ?_
              refine Go.via (U' := T49.setTop (mkF m 184 #[.val (.long x0), .second, .val (.int x1), .val (.int (own_j0_6_l3 x1)), .val (.ref b7), .val (.ref b13), .val (.int (own_res x0 (own_j0_6_l3 x1) N)), .val (.long ((own_j0_6_l3 x1).toInt64)), .second, .val (.long (own_ushrL (own_f4 x0) (32 : Int32))), .second, .val (.long (own_ushrL (own_f4 (x0 + (-7046029254386353131 : Int64))) (32 : Int32))), .second, .val (.long (own_ushrL (own_f4 ((x0 + (-7046029254386353131 : Int64)) + (-7046029254386353131 : Int64))) (32 : Int32))), .second] [(.long ((own_j0_6_l3 x1).toInt64)), (.long (own_ushrL (own_f4 ((x0 + (-7046029254386353131 : Int64)) + (-7046029254386353131 : Int64))) (32 : Int32))), (.int (own_res x0 (own_j0_6_l3 x1) N))])) (fun tG kG => XS.lload X49.here hx rfl (hb hby at_182) rfl kG) ?_
              refine Go.via (U' := T49.setTop (mkF m 185 #[.val (.long x0), .second, .val (.int x1), .val (.int (own_j0_6_l3 x1)), .val (.ref b7), .val (.ref b13), .val (.int (own_res x0 (own_j0_6_l3 x1) N)), .val (.long ((own_j0_6_l3 x1).toInt64)), .second, .val (.long (own_ushrL (own_f4 x0) (32 : Int32))), .second, .val (.long (own_ushrL (own_f4 (x0 + (-7046029254386353131 : Int64))) (32 : Int32))), .second, .val (.long (own_ushrL (own_f4 ((x0 + (-7046029254386353131 : Int64)) + (-7046029254386353131 : Int64))) (32 : Int32))), .second] [(.long (own_w0_4 x0 x1)), (.int (own_res x0 (own_j0_6_l3 x1) N))])) (fun tG kG => XS.lrem X49.here hx rfl (hb hby at_184) rfl (own_nz _) kG) ?_
              refine Go.via (U' := T49.setTop (mkF m 186 #[.val (.long x0), .second, .val (.int x1), .val (.int (own_j0_6_l3 x1)), .val (.ref b7), .val (.ref b13), .val (.int (own_res x0 (own_j0_6_l3 x1) N)), .val (.long ((own_j0_6_l3 x1).toInt64)), .second, .val (.long (own_ushrL (own_f4 x0) (32 : Int32))), .second, .val (.long (own_ushrL (own_f4 (x0 + (-7046029254386353131 : Int64))) (32 : Int32))), .second, .val (.long (own_ushrL (own_f4 ((x0 + (-7046029254386353131 : Int64)) + (-7046029254386353131 : Int64))) (32 : Int32))), .second] [(.int ((own_w0_4 x0 x1).toInt32)), (.int (own_res x0 (own_j0_6_l3 x1) N))])) (fun tG kG => XS.l2i X49.here hx rfl (hb hby at_185) rfl kG) ?_
              by_cases hc186 : (own_res x0 (own_j0_6_l3 x1) N) = ((own_w0_4 x0 x1).toInt32)
              · refine Go.via (U' := T49.setTop (mkF m 189 #[.val (.long x0), .second, .val (.int x1), .val (.int (own_j0_6_l3 x1)), .val (.ref b7), .val (.ref b13), .val (.int (own_res x0 (own_j0_6_l3 x1) N)), .val (.long ((own_j0_6_l3 x1).toInt64)), .second, .val (.long (own_ushrL (own_f4 x0) (32 : Int32))), .second, .val (.long (own_ushrL (own_f4 (x0 + (-7046029254386353131 : Int64))) (32 : Int32))), .second, .val (.long (own_ushrL (own_f4 ((x0 + (-7046029254386353131 : Int64)) + (-7046029254386353131 : Int64))) (32 : Int32))), .second] [])) (fun tG kG => XS.icmpNo X49.here hx rfl (hb hby at_186) rfl (teq hc186).2 kG) ?_
                refine Go.via (U' := T49.setTop (mkF m 191 #[.val (.long x0), .second, .val (.int x1), .val (.int (own_j0_6_l3 x1)), .val (.ref b7), .val (.ref b13), .val (.int (own_res x0 (own_j0_6_l3 x1) N)), .val (.long ((own_j0_6_l3 x1).toInt64)), .second, .val (.long (own_ushrL (own_f4 x0) (32 : Int32))), .second, .val (.long (own_ushrL (own_f4 (x0 + (-7046029254386353131 : Int64))) (32 : Int32))), .second, .val (.long (own_ushrL (own_f4 ((x0 + (-7046029254386353131 : Int64)) + (-7046029254386353131 : Int64))) (32 : Int32))), .second] [(.ref b7)])) (fun tG kG => XS.aload X49.here hx rfl (hb hby at_189) rfl rfl kG) ?_
                obtain ⟨_, T50, L50, X50, ⟨rfl, N50q, K50q, f51, f52⟩, st50⟩ := callVQ X49 hx hZ hown (hw _ (List.mem_of_getElem? (i := 26) rfl)) (hw _ (List.mem_of_getElem? (i := 19) rfl)) (hw _ (List.mem_of_getElem? (i := 21) rfl)) (hw _ (List.mem_of_getElem? (i := 20) rfl)) (hw _ (List.mem_of_getElem? (i := 3) rfl)) (hw _ (List.mem_of_getElem? (i := 22) rfl)) (by decide) (b := b7) (av := []) f46 (own_rm4 l Z a0 hw [] b7 (own_st x0 (N + 1)) T43.heap n0 Z43 f46 f48 g_b7) e49 (pc := 191) (Ls := #[.val (.long x0), .second, .val (.int x1), .val (.int (own_j0_6_l3 x1)), .val (.ref b7), .val (.ref b13), .val (.int (own_res x0 (own_j0_6_l3 x1) N)), .val (.long ((own_j0_6_l3 x1).toInt64)), .second, .val (.long (own_ushrL (own_f4 x0) (32 : Int32))), .second, .val (.long (own_ushrL (own_f4 (x0 + (-7046029254386353131 : Int64))) (32 : Int32))), .second, .val (.long (own_ushrL (own_f4 ((x0 + (-7046029254386353131 : Int64)) + (-7046029254386353131 : Int64))) (32 : Int32))), .second]) (rest := []) (by rw [hml]; rfl) own_k69 rfl 0 (Nat.le_of_eq rfl) (by decide) (by decide) (by decide) (by decide) (hb hby at_191)
                have f53 := f46.keep K50q
                have f54 := f44.keep K50q
                have f55 := f45.keep K50q (ninS (Ne.symm ne_b7_b13) nin0)
                have N50 := Fr.app N43 N50q
                have Z50 := Nat.le_trans Z43 K50q.1
                have K50 := K43.trans K50q (allS (Or.inr sz_b7) all0)
                refine Go.via (U' := T50.setTop (mkF m 194 #[.val (.long x0), .second, .val (.int x1), .val (.int (own_j0_6_l3 x1)), .val (.ref b7), .val (.ref b13), .val (.int (own_res x0 (own_j0_6_l3 x1) N)), .val (.long ((own_j0_6_l3 x1).toInt64)), .second, .val (.long (own_ushrL (own_f4 x0) (32 : Int32))), .second, .val (.long (own_ushrL (own_f4 (x0 + (-7046029254386353131 : Int64))) (32 : Int32))), .second, .val (.long (own_ushrL (own_f4 ((x0 + (-7046029254386353131 : Int64)) + (-7046029254386353131 : Int64))) (32 : Int32))), .second] [(.long (own_f4 (own_st x0 (N + 1))))])) (fun tG kG => st50 tG kG) ?_
                refine Go.via (U' := T50.setTop (mkF m 196 #[.val (.long x0), .second, .val (.int x1), .val (.int (own_j0_6_l3 x1)), .val (.ref b7), .val (.ref b13), .val (.int (own_res x0 (own_j0_6_l3 x1) N)), .val (.long ((own_j0_6_l3 x1).toInt64)), .second, .val (.long (own_ushrL (own_f4 x0) (32 : Int32))), .second, .val (.long (own_ushrL (own_f4 (x0 + (-7046029254386353131 : Int64))) (32 : Int32))), .second, .val (.long (own_ushrL (own_f4 ((x0 + (-7046029254386353131 : Int64)) + (-7046029254386353131 : Int64))) (32 : Int32))), .second] [(.ref b13), (.long (own_f4 (own_st x0 (N + 1))))])) (fun tG kG => XS.aload X50.here hx rfl (hb hby at_194) rfl rfl kG) ?_
                obtain ⟨_, T56, L56, X56, ⟨rfl, N56q, K56q, f57, f58⟩, st56⟩ := callVQ X50 hx hZ hown (hw _ (List.mem_of_getElem? (i := 26) rfl)) (hw _ (List.mem_of_getElem? (i := 19) rfl)) (hw _ (List.mem_of_getElem? (i := 21) rfl)) (hw _ (List.mem_of_getElem? (i := 20) rfl)) (hw _ (List.mem_of_getElem? (i := 3) rfl)) (hw _ (List.mem_of_getElem? (i := 22) rfl)) (by decide) (b := b13) (av := []) f54 (own_rm4 l Z a0 hw [] b13 (((x0 + (-7046029254386353131 : Int64)) + (-7046029254386353131 : Int64)) + (-7046029254386353131 : Int64)) T50.heap n0 Z50 f54 f55 g_b13) rfl (pc := 196) (Ls := #[.val (.long x0), .second, .val (.int x1), .val (.int (own_j0_6_l3 x1)), .val (.ref b7), .val (.ref b13), .val (.int (own_res x0 (own_j0_6_l3 x1) N)), .val (.long ((own_j0_6_l3 x1).toInt64)), .second, .val (.long (own_ushrL (own_f4 x0) (32 : Int32))), .second, .val (.long (own_ushrL (own_f4 (x0 + (-7046029254386353131 : Int64))) (32 : Int32))), .second, .val (.long (own_ushrL (own_f4 ((x0 + (-7046029254386353131 : Int64)) + (-7046029254386353131 : Int64))) (32 : Int32))), .second]) (rest := [(.long (own_f4 (own_st x0 (N + 1))))]) (by rw [hml]; rfl) own_k69 rfl 2 (Nat.le_of_eq rfl) (by decide) (by decide) (by decide) (by decide) (hb hby at_196)
                have f59 := f51.keep K56q
                have f60 := f54.keep K56q
                have f61 := f52.keep K56q (ninS ne_b7_b13 nin0)
                have N56 := Fr.app N50 N56q
                have Z56 := Nat.le_trans Z50 K56q.1
                have K56 := K50.trans K56q (allS (Or.inr sz_b13) all0)
                refine Go.via (U' := T56.setTop (mkF m 199 #[.val (.long x0), .second, .val (.int x1), .val (.int (own_j0_6_l3 x1)), .val (.ref b7), .val (.ref b13), .val (.int (own_res x0 (own_j0_6_l3 x1) N)), .val (.long ((own_j0_6_l3 x1).toInt64)), .second, .val (.long (own_ushrL (own_f4 x0) (32 : Int32))), .second, .val (.long (own_ushrL (own_f4 (x0 + (-7046029254386353131 : Int64))) (32 : Int32))), .second, .val (.long (own_ushrL (own_f4 ((x0 + (-7046029254386353131 : Int64)) + (-7046029254386353131 : Int64))) (32 : Int32))), .second] [(.long (own_f4 (((x0 + (-7046029254386353131 : Int64)) + (-7046029254386353131 : Int64)) + (-7046029254386353131 : Int64)))), (.long (own_f4 (own_st x0 (N + 1))))])) (fun tG kG => st56 tG kG) ?_
                refine Go.via (U' := T56.setTop (mkF m 200 #[.val (.long x0), .second, .val (.int x1), .val (.int (own_j0_6_l3 x1)), .val (.ref b7), .val (.ref b13), .val (.int (own_res x0 (own_j0_6_l3 x1) N)), .val (.long ((own_j0_6_l3 x1).toInt64)), .second, .val (.long (own_ushrL (own_f4 x0) (32 : Int32))), .second, .val (.long (own_ushrL (own_f4 (x0 + (-7046029254386353131 : Int64))) (32 : Int32))), .second, .val (.long (own_ushrL (own_f4 ((x0 + (-7046029254386353131 : Int64)) + (-7046029254386353131 : Int64))) (32 : Int32))), .second] [(.int (lcmpW (own_f4 (own_st x0 (N + 1))) (own_f4 (((x0 + (-7046029254386353131 : Int64)) + (-7046029254386353131 : Int64)) + (-7046029254386353131 : Int64)))))])) (fun tG kG => XS.lcmp X56.here hx rfl (hb hby at_199) rfl kG) ?_
                by_cases hc200 : (lcmpW (own_f4 (own_st x0 (N + 1))) (own_f4 (((x0 + (-7046029254386353131 : Int64)) + (-7046029254386353131 : Int64)) + (-7046029254386353131 : Int64)))) = (0 : Int32)
                · refine Go.via (U' := T56.setTop (mkF m 203 #[.val (.long x0), .second, .val (.int x1), .val (.int (own_j0_6_l3 x1)), .val (.ref b7), .val (.ref b13), .val (.int (own_res x0 (own_j0_6_l3 x1) N)), .val (.long ((own_j0_6_l3 x1).toInt64)), .second, .val (.long (own_ushrL (own_f4 x0) (32 : Int32))), .second, .val (.long (own_ushrL (own_f4 (x0 + (-7046029254386353131 : Int64))) (32 : Int32))), .second, .val (.long (own_ushrL (own_f4 ((x0 + (-7046029254386353131 : Int64)) + (-7046029254386353131 : Int64))) (32 : Int32))), .second] [])) (fun tG kG => XS.ifNo X56.here hx rfl (hb hby at_200) rfl ((if0 _ _).trans (teq hc200).2) kG) ?_
                  refine Go.via (U' := T56.setTop (mkF m 204 #[.val (.long x0), .second, .val (.int x1), .val (.int (own_j0_6_l3 x1)), .val (.ref b7), .val (.ref b13), .val (.int (own_res x0 (own_j0_6_l3 x1) N)), .val (.long ((own_j0_6_l3 x1).toInt64)), .second, .val (.long (own_ushrL (own_f4 x0) (32 : Int32))), .second, .val (.long (own_ushrL (own_f4 (x0 + (-7046029254386353131 : Int64))) (32 : Int32))), .second, .val (.long (own_ushrL (own_f4 ((x0 + (-7046029254386353131 : Int64)) + (-7046029254386353131 : Int64))) (32 : Int32))), .second] [(.int (1 : Int32))])) (fun tG kG => XS.iconst X56.here hx rfl (hb hby at_203) kG) ?_
                  refine Go.via (U' := T56.setTop (mkF m 208 #[.val (.long x0), .second, .val (.int x1), .val (.int (own_j0_6_l3 x1)), .val (.ref b7), .val (.ref b13), .val (.int (own_res x0 (own_j0_6_l3 x1) N)), .val (.long ((own_j0_6_l3 x1).toInt64)), .second, .val (.long (own_ushrL (own_f4 x0) (32 : Int32))), .second, .val (.long (own_ushrL (own_f4 (x0 + (-7046029254386353131 : Int64))) (32 : Int32))), .second, .val (.long (own_ushrL (own_f4 ((x0 + (-7046029254386353131 : Int64)) + (-7046029254386353131 : Int64))) (32 : Int32))), .second] [(.int (1 : Int32))])) (fun tG kG => XS.goto X56.here hx rfl (pc0 := 204) (pc' := 208) rfl (hb hby at_204) (by decide) (by decide) kG) ?_
                  exact go_retN X56 hx hlk (t := .boolean) hret (by simp) (hb hby at_208) rfl ⟨(congrArg (fun z => some (Value.int z)) (show nar .boolean (1 : Int32) = (own_f0 x0 x1 N) from by unfold own_f0; simp only [if_neg hc41, if_pos hc47, if_pos hc73, if_pos hc124, if_neg hc175, if_pos hc186, if_pos hc200] <;> rfl)), N56, K56⟩ (by decide) (by decide)
                · refine Go.via (U' := T56.setTop (mkF m 207 #[.val (.long x0), .second, .val (.int x1), .val (.int (own_j0_6_l3 x1)), .val (.ref b7), .val (.ref b13), .val (.int (own_res x0 (own_j0_6_l3 x1) N)), .val (.long ((own_j0_6_l3 x1).toInt64)), .second, .val (.long (own_ushrL (own_f4 x0) (32 : Int32))), .second, .val (.long (own_ushrL (own_f4 (x0 + (-7046029254386353131 : Int64))) (32 : Int32))), .second, .val (.long (own_ushrL (own_f4 ((x0 + (-7046029254386353131 : Int64)) + (-7046029254386353131 : Int64))) (32 : Int32))), .second] [])) (fun tG kG => XS.ifYes X56.here hx rfl (pc0 := 200) (pc' := 207) rfl (hb hby at_200) rfl ((if0 _ _).trans (feq hc200).2) (by decide) (by decide) kG) ?_
                  refine Go.via (U' := T56.setTop (mkF m 208 #[.val (.long x0), .second, .val (.int x1), .val (.int (own_j0_6_l3 x1)), .val (.ref b7), .val (.ref b13), .val (.int (own_res x0 (own_j0_6_l3 x1) N)), .val (.long ((own_j0_6_l3 x1).toInt64)), .second, .val (.long (own_ushrL (own_f4 x0) (32 : Int32))), .second, .val (.long (own_ushrL (own_f4 (x0 + (-7046029254386353131 : Int64))) (32 : Int32))), .second, .val (.long (own_ushrL (own_f4 ((x0 + (-7046029254386353131 : Int64)) + (-7046029254386353131 : Int64))) (32 : Int32))), .second] [(.int (0 : Int32))])) (fun tG kG => XS.iconst X56.here hx rfl (hb hby at_207) kG) ?_
                  exact go_retN X56 hx hlk (t := .boolean) hret (by simp) (hb hby at_208) rfl ⟨(congrArg (fun z => some (Value.int z)) (show nar .boolean (0 : Int32) = (own_f0 x0 x1 N) from by unfold own_f0; simp only [if_neg hc41, if_pos hc47, if_pos hc73, if_pos hc124, if_neg hc175, if_pos hc186, if_neg hc200] <;> rfl)), N56, K56⟩ (by decide) (by decide)
              · refine Go.via (U' := T49.setTop (mkF m 207 #[.val (.long x0), .second, .val (.int x1), .val (.int (own_j0_6_l3 x1)), .val (.ref b7), .val (.ref b13), .val (.int (own_res x0 (own_j0_6_l3 x1) N)), .val (.long ((own_j0_6_l3 x1).toInt64)), .second, .val (.long (own_ushrL (own_f4 x0) (32 : Int32))), .second, .val (.long (own_ushrL (own_f4 (x0 + (-7046029254386353131 : Int64))) (32 : Int32))), .second, .val (.long (own_ushrL (own_f4 ((x0 + (-7046029254386353131 : Int64)) + (-7046029254386353131 : Int64))) (32 : Int32))), .second] [])) (fun tG kG => XS.icmpYes X49.here hx rfl (pc0 := 186) (pc' := 207) rfl (hb hby at_186) rfl (feq hc186).2 (by decide) (by decide) kG) ?_
                refine Go.via (U' := T49.setTop (mkF m 208 #[.val (.long x0), .second, .val (.int x1), .val (.int (own_j0_6_l3 x1)), .val (.ref b7), .val (.ref b13), .val (.int (own_res x0 (own_j0_6_l3 x1) N)), .val (.long ((own_j0_6_l3 x1).toInt64)), .second, .val (.long (own_ushrL (own_f4 x0) (32 : Int32))), .second, .val (.long (own_ushrL (own_f4 (x0 + (-7046029254386353131 : Int64))) (32 : Int32))), .second, .val (.long (own_ushrL (own_f4 ((x0 + (-7046029254386353131 : Int64)) + (-7046029254386353131 : Int64))) (32 : Int32))), .second] [(.int (0 : Int32))])) (fun tG kG => XS.iconst X49.here hx rfl (hb hby at_207) kG) ?_
                exact go_retN X49 hx hlk (t := .boolean) hret (by simp) (hb hby at_208) e49 ⟨(congrArg (fun z => some (Value.int z)) (show nar .boolean (0 : Int32) = (own_f0 x0 x1 N) from by unfold own_f0; simp only [if_neg hc41, if_pos hc47, if_pos hc73, if_pos hc124, if_neg hc175, if_neg hc186] <;> rfl)), N43, K43⟩ (by decide) (by decide)
          · refine Go.via (U' := T42.setTop (mkF m 127 #[.val (.long x0), .second, .val (.int x1), .val (.int (own_j0_6_l3 x1)), .val (.ref b7), .val (.ref b13), .val (.int (own_res x0 (own_j0_6_l3 x1) N)), .val (.long ((own_j0_6_l3 x1).toInt64)), .second, .val (.long (own_ushrL (own_f4 x0) (32 : Int32))), .second, .val (.long (own_ushrL (own_f4 (x0 + (-7046029254386353131 : Int64))) (32 : Int32))), .second, .unset, .unset] [])) (fun tG kG => XS.ifNo X42.here hx rfl (hb hby at_124) rfl ((if0 _ _).trans (feq hc124).1) kG) ?_
            refine Go.via (U' := T42.setTop (mkF m 129 #[.val (.long x0), .second, .val (.int x1), .val (.int (own_j0_6_l3 x1)), .val (.ref b7), .val (.ref b13), .val (.int (own_res x0 (own_j0_6_l3 x1) N)), .val (.long ((own_j0_6_l3 x1).toInt64)), .second, .val (.long (own_ushrL (own_f4 x0) (32 : Int32))), .second, .val (.long (own_ushrL (own_f4 (x0 + (-7046029254386353131 : Int64))) (32 : Int32))), .second, .unset, .unset] [(.int (own_res x0 (own_j0_6_l3 x1) N))])) (fun tG kG => XS.iload X42.here hx rfl (hb hby at_127) rfl kG) ?_
            refine Go.via (U' := T42.setTop (mkF m 131 #[.val (.long x0), .second, .val (.int x1), .val (.int (own_j0_6_l3 x1)), .val (.ref b7), .val (.ref b13), .val (.int (own_res x0 (own_j0_6_l3 x1) N)), .val (.long ((own_j0_6_l3 x1).toInt64)), .second, .val (.long (own_ushrL (own_f4 x0) (32 : Int32))), .second, .val (.long (own_ushrL (own_f4 (x0 + (-7046029254386353131 : Int64))) (32 : Int32))), .second, .unset, .unset] [(.long (own_ushrL (own_f4 (x0 + (-7046029254386353131 : Int64))) (32 : Int32))), (.int (own_res x0 (own_j0_6_l3 x1) N))])) (fun tG kG => XS.lload X42.here hx rfl (hb hby at_129) rfl kG) ?_
            refine Go.via (U' := T42.setTop (mkF m 133 #[.val (.long x0), .second, .val (.int x1), .val (.int (own_j0_6_l3 x1)), .val (.ref b7), .val (.ref b13), .val (.int (own_res x0 (own_j0_6_l3 x1) N)), .val (.long ((own_j0_6_l3 x1).toInt64)), .second, .val (.long (own_ushrL (own_f4 x0) (32 : Int32))), .second, .val (.long (own_ushrL (own_f4 (x0 + (-7046029254386353131 : Int64))) (32 : Int32))), .second, .unset, .unset] [(.long ((own_j0_6_l3 x1).toInt64)), (.long (own_ushrL (own_f4 (x0 + (-7046029254386353131 : Int64))) (32 : Int32))), (.int (own_res x0 (own_j0_6_l3 x1) N))])) (fun tG kG => XS.lload X42.here hx rfl (hb hby at_131) rfl kG) ?_
            refine Go.via (U' := T42.setTop (mkF m 134 #[.val (.long x0), .second, .val (.int x1), .val (.int (own_j0_6_l3 x1)), .val (.ref b7), .val (.ref b13), .val (.int (own_res x0 (own_j0_6_l3 x1) N)), .val (.long ((own_j0_6_l3 x1).toInt64)), .second, .val (.long (own_ushrL (own_f4 x0) (32 : Int32))), .second, .val (.long (own_ushrL (own_f4 (x0 + (-7046029254386353131 : Int64))) (32 : Int32))), .second, .unset, .unset] [(.long (own_w0_5 x0 x1)), (.int (own_res x0 (own_j0_6_l3 x1) N))])) (fun tG kG => XS.lrem X42.here hx rfl (hb hby at_133) rfl (own_nz _) kG) ?_
            refine Go.via (U' := T42.setTop (mkF m 135 #[.val (.long x0), .second, .val (.int x1), .val (.int (own_j0_6_l3 x1)), .val (.ref b7), .val (.ref b13), .val (.int (own_res x0 (own_j0_6_l3 x1) N)), .val (.long ((own_j0_6_l3 x1).toInt64)), .second, .val (.long (own_ushrL (own_f4 x0) (32 : Int32))), .second, .val (.long (own_ushrL (own_f4 (x0 + (-7046029254386353131 : Int64))) (32 : Int32))), .second, .unset, .unset] [(.int ((own_w0_5 x0 x1).toInt32)), (.int (own_res x0 (own_j0_6_l3 x1) N))])) (fun tG kG => XS.l2i X42.here hx rfl (hb hby at_134) rfl kG) ?_
            by_cases hc135 : (own_res x0 (own_j0_6_l3 x1) N) = ((own_w0_5 x0 x1).toInt32)
            · refine Go.via (U' := T42.setTop (mkF m 138 #[.val (.long x0), .second, .val (.int x1), .val (.int (own_j0_6_l3 x1)), .val (.ref b7), .val (.ref b13), .val (.int (own_res x0 (own_j0_6_l3 x1) N)), .val (.long ((own_j0_6_l3 x1).toInt64)), .second, .val (.long (own_ushrL (own_f4 x0) (32 : Int32))), .second, .val (.long (own_ushrL (own_f4 (x0 + (-7046029254386353131 : Int64))) (32 : Int32))), .second, .unset, .unset] [])) (fun tG kG => XS.icmpNo X42.here hx rfl (hb hby at_135) rfl (teq hc135).2 kG) ?_
              refine Go.via (U' := T42.setTop (mkF m 140 #[.val (.long x0), .second, .val (.int x1), .val (.int (own_j0_6_l3 x1)), .val (.ref b7), .val (.ref b13), .val (.int (own_res x0 (own_j0_6_l3 x1) N)), .val (.long ((own_j0_6_l3 x1).toInt64)), .second, .val (.long (own_ushrL (own_f4 x0) (32 : Int32))), .second, .val (.long (own_ushrL (own_f4 (x0 + (-7046029254386353131 : Int64))) (32 : Int32))), .second, .unset, .unset] [(.ref b7)])) (fun tG kG => XS.aload X42.here hx rfl (hb hby at_138) rfl rfl kG) ?_
              obtain ⟨_, T62, L62, X62, ⟨rfl, N62q, K62q, f63, f64⟩, st62⟩ := callVQ X42 hx hZ hown (hw _ (List.mem_of_getElem? (i := 26) rfl)) (hw _ (List.mem_of_getElem? (i := 19) rfl)) (hw _ (List.mem_of_getElem? (i := 21) rfl)) (hw _ (List.mem_of_getElem? (i := 20) rfl)) (hw _ (List.mem_of_getElem? (i := 3) rfl)) (hw _ (List.mem_of_getElem? (i := 22) rfl)) (by decide) (b := b7) (av := []) f39 (own_rm4 l Z a0 hw [] b7 (own_st x0 (N + 1)) T36.heap n0 Z36 f39 f41 g_b7) e42 (pc := 140) (Ls := #[.val (.long x0), .second, .val (.int x1), .val (.int (own_j0_6_l3 x1)), .val (.ref b7), .val (.ref b13), .val (.int (own_res x0 (own_j0_6_l3 x1) N)), .val (.long ((own_j0_6_l3 x1).toInt64)), .second, .val (.long (own_ushrL (own_f4 x0) (32 : Int32))), .second, .val (.long (own_ushrL (own_f4 (x0 + (-7046029254386353131 : Int64))) (32 : Int32))), .second, .unset, .unset]) (rest := []) (by rw [hml]; rfl) own_k69 rfl 0 (Nat.le_of_eq rfl) (by decide) (by decide) (by decide) (by decide) (hb hby at_140)
              have f65 := f39.keep K62q
              have f66 := f37.keep K62q
              have f67 := f38.keep K62q (ninS (Ne.symm ne_b7_b13) nin0)
              have N62 := Fr.app N36 N62q
              have Z62 := Nat.le_trans Z36 K62q.1
              have K62 := K36.trans K62q (allS (Or.inr sz_b7) all0)
              refine Go.via (U' := T62.setTop (mkF m 143 #[.val (.long x0), .second, .val (.int x1), .val (.int (own_j0_6_l3 x1)), .val (.ref b7), .val (.ref b13), .val (.int (own_res x0 (own_j0_6_l3 x1) N)), .val (.long ((own_j0_6_l3 x1).toInt64)), .second, .val (.long (own_ushrL (own_f4 x0) (32 : Int32))), .second, .val (.long (own_ushrL (own_f4 (x0 + (-7046029254386353131 : Int64))) (32 : Int32))), .second, .unset, .unset] [(.long (own_f4 (own_st x0 (N + 1))))])) (fun tG kG => st62 tG kG) ?_
              refine Go.via (U' := T62.setTop (mkF m 145 #[.val (.long x0), .second, .val (.int x1), .val (.int (own_j0_6_l3 x1)), .val (.ref b7), .val (.ref b13), .val (.int (own_res x0 (own_j0_6_l3 x1) N)), .val (.long ((own_j0_6_l3 x1).toInt64)), .second, .val (.long (own_ushrL (own_f4 x0) (32 : Int32))), .second, .val (.long (own_ushrL (own_f4 (x0 + (-7046029254386353131 : Int64))) (32 : Int32))), .second, .unset, .unset] [(.ref b13), (.long (own_f4 (own_st x0 (N + 1))))])) (fun tG kG => XS.aload X62.here hx rfl (hb hby at_143) rfl rfl kG) ?_
              obtain ⟨_, T68, L68, X68, ⟨rfl, N68q, K68q, f69, f70⟩, st68⟩ := callVQ X62 hx hZ hown (hw _ (List.mem_of_getElem? (i := 26) rfl)) (hw _ (List.mem_of_getElem? (i := 19) rfl)) (hw _ (List.mem_of_getElem? (i := 21) rfl)) (hw _ (List.mem_of_getElem? (i := 20) rfl)) (hw _ (List.mem_of_getElem? (i := 3) rfl)) (hw _ (List.mem_of_getElem? (i := 22) rfl)) (by decide) (b := b13) (av := []) f66 (own_rm4 l Z a0 hw [] b13 ((x0 + (-7046029254386353131 : Int64)) + (-7046029254386353131 : Int64)) T62.heap n0 Z62 f66 f67 g_b13) rfl (pc := 145) (Ls := #[.val (.long x0), .second, .val (.int x1), .val (.int (own_j0_6_l3 x1)), .val (.ref b7), .val (.ref b13), .val (.int (own_res x0 (own_j0_6_l3 x1) N)), .val (.long ((own_j0_6_l3 x1).toInt64)), .second, .val (.long (own_ushrL (own_f4 x0) (32 : Int32))), .second, .val (.long (own_ushrL (own_f4 (x0 + (-7046029254386353131 : Int64))) (32 : Int32))), .second, .unset, .unset]) (rest := [(.long (own_f4 (own_st x0 (N + 1))))]) (by rw [hml]; rfl) own_k69 rfl 2 (Nat.le_of_eq rfl) (by decide) (by decide) (by decide) (by decide) (hb hby at_145)
              have f71 := f63.keep K68q
              have f72 := f66.keep K68q
              have f73 := f64.keep K68q (ninS ne_b7_b13 nin0)
              have N68 := Fr.app N62 N68q
              have Z68 := Nat.le_trans Z62 K68q.1
              have K68 := K62.trans K68q (allS (Or.inr sz_b13) all0)
              refine Go.via (U' := T68.setTop (mkF m 148 #[.val (.long x0), .second, .val (.int x1), .val (.int (own_j0_6_l3 x1)), .val (.ref b7), .val (.ref b13), .val (.int (own_res x0 (own_j0_6_l3 x1) N)), .val (.long ((own_j0_6_l3 x1).toInt64)), .second, .val (.long (own_ushrL (own_f4 x0) (32 : Int32))), .second, .val (.long (own_ushrL (own_f4 (x0 + (-7046029254386353131 : Int64))) (32 : Int32))), .second, .unset, .unset] [(.long (own_f4 ((x0 + (-7046029254386353131 : Int64)) + (-7046029254386353131 : Int64)))), (.long (own_f4 (own_st x0 (N + 1))))])) (fun tG kG => st68 tG kG) ?_
              refine Go.via (U' := T68.setTop (mkF m 149 #[.val (.long x0), .second, .val (.int x1), .val (.int (own_j0_6_l3 x1)), .val (.ref b7), .val (.ref b13), .val (.int (own_res x0 (own_j0_6_l3 x1) N)), .val (.long ((own_j0_6_l3 x1).toInt64)), .second, .val (.long (own_ushrL (own_f4 x0) (32 : Int32))), .second, .val (.long (own_ushrL (own_f4 (x0 + (-7046029254386353131 : Int64))) (32 : Int32))), .second, .unset, .unset] [(.int (lcmpW (own_f4 (own_st x0 (N + 1))) (own_f4 ((x0 + (-7046029254386353131 : Int64)) + (-7046029254386353131 : Int64)))))])) (fun tG kG => XS.lcmp X68.here hx rfl (hb hby at_148) rfl kG) ?_
              by_cases hc149 : (lcmpW (own_f4 (own_st x0 (N + 1))) (own_f4 ((x0 + (-7046029254386353131 : Int64)) + (-7046029254386353131 : Int64)))) = (0 : Int32)
              · refine Go.via (U' := T68.setTop (mkF m 152 #[.val (.long x0), .second, .val (.int x1), .val (.int (own_j0_6_l3 x1)), .val (.ref b7), .val (.ref b13), .val (.int (own_res x0 (own_j0_6_l3 x1) N)), .val (.long ((own_j0_6_l3 x1).toInt64)), .second, .val (.long (own_ushrL (own_f4 x0) (32 : Int32))), .second, .val (.long (own_ushrL (own_f4 (x0 + (-7046029254386353131 : Int64))) (32 : Int32))), .second, .unset, .unset] [])) (fun tG kG => XS.ifNo X68.here hx rfl (hb hby at_149) rfl ((if0 _ _).trans (teq hc149).2) kG) ?_
                refine Go.via (U' := T68.setTop (mkF m 153 #[.val (.long x0), .second, .val (.int x1), .val (.int (own_j0_6_l3 x1)), .val (.ref b7), .val (.ref b13), .val (.int (own_res x0 (own_j0_6_l3 x1) N)), .val (.long ((own_j0_6_l3 x1).toInt64)), .second, .val (.long (own_ushrL (own_f4 x0) (32 : Int32))), .second, .val (.long (own_ushrL (own_f4 (x0 + (-7046029254386353131 : Int64))) (32 : Int32))), .second, .unset, .unset] [(.int (1 : Int32))])) (fun tG kG => XS.iconst X68.here hx rfl (hb hby at_152) kG) ?_
                refine Go.via (U' := T68.setTop (mkF m 157 #[.val (.long x0), .second, .val (.int x1), .val (.int (own_j0_6_l3 x1)), .val (.ref b7), .val (.ref b13), .val (.int (own_res x0 (own_j0_6_l3 x1) N)), .val (.long ((own_j0_6_l3 x1).toInt64)), .second, .val (.long (own_ushrL (own_f4 x0) (32 : Int32))), .second, .val (.long (own_ushrL (own_f4 (x0 + (-7046029254386353131 : Int64))) (32 : Int32))), .second, .unset, .unset] [(.int (1 : Int32))])) (fun tG kG => XS.goto X68.here hx rfl (pc0 := 153) (pc' := 157) rfl (hb hby at_153) (by decide) (by decide) kG) ?_
                exact go_retN X68 hx hlk (t := .boolean) hret (by simp) (hb hby at_157) rfl ⟨(congrArg (fun z => some (Value.int z)) (show nar .boolean (1 : Int32) = (own_f0 x0 x1 N) from by unfold own_f0; simp only [if_neg hc41, if_pos hc47, if_pos hc73, if_neg hc124, if_pos hc135, if_pos hc149] <;> rfl)), N68, K68⟩ (by decide) (by decide)
              · refine Go.via (U' := T68.setTop (mkF m 156 #[.val (.long x0), .second, .val (.int x1), .val (.int (own_j0_6_l3 x1)), .val (.ref b7), .val (.ref b13), .val (.int (own_res x0 (own_j0_6_l3 x1) N)), .val (.long ((own_j0_6_l3 x1).toInt64)), .second, .val (.long (own_ushrL (own_f4 x0) (32 : Int32))), .second, .val (.long (own_ushrL (own_f4 (x0 + (-7046029254386353131 : Int64))) (32 : Int32))), .second, .unset, .unset] [])) (fun tG kG => XS.ifYes X68.here hx rfl (pc0 := 149) (pc' := 156) rfl (hb hby at_149) rfl ((if0 _ _).trans (feq hc149).2) (by decide) (by decide) kG) ?_
                refine Go.via (U' := T68.setTop (mkF m 157 #[.val (.long x0), .second, .val (.int x1), .val (.int (own_j0_6_l3 x1)), .val (.ref b7), .val (.ref b13), .val (.int (own_res x0 (own_j0_6_l3 x1) N)), .val (.long ((own_j0_6_l3 x1).toInt64)), .second, .val (.long (own_ushrL (own_f4 x0) (32 : Int32))), .second, .val (.long (own_ushrL (own_f4 (x0 + (-7046029254386353131 : Int64))) (32 : Int32))), .second, .unset, .unset] [(.int (0 : Int32))])) (fun tG kG => XS.iconst X68.here hx rfl (hb hby at_156) kG) ?_
                exact go_retN X68 hx hlk (t := .boolean) hret (by simp) (hb hby at_157) rfl ⟨(congrArg (fun z => some (Value.int z)) (show nar .boolean (0 : Int32) = (own_f0 x0 x1 N) from by unfold own_f0; simp only [if_neg hc41, if_pos hc47, if_pos hc73, if_neg hc124, if_pos hc135, if_neg hc149] <;> rfl)), N68, K68⟩ (by decide) (by decide)
            · refine Go.via (U' := T42.setTop (mkF m 156 #[.val (.long x0), .second, .val (.int x1), .val (.int (own_j0_6_l3 x1)), .val (.ref b7), .val (.ref b13), .val (.int (own_res x0 (own_j0_6_l3 x1) N)), .val (.long ((own_j0_6_l3 x1).toInt64)), .second, .val (.long (own_ushrL (own_f4 x0) (32 : Int32))), .second, .val (.long (own_ushrL (own_f4 (x0 + (-7046029254386353131 : Int64))) (32 : Int32))), .second, .unset, .unset] [])) (fun tG kG => XS.icmpYes X42.here hx rfl (pc0 := 135) (pc' := 156) rfl (hb hby at_135) rfl (feq hc135).2 (by decide) (by decide) kG) ?_
              refine Go.via (U' := T42.setTop (mkF m 157 #[.val (.long x0), .second, .val (.int x1), .val (.int (own_j0_6_l3 x1)), .val (.ref b7), .val (.ref b13), .val (.int (own_res x0 (own_j0_6_l3 x1) N)), .val (.long ((own_j0_6_l3 x1).toInt64)), .second, .val (.long (own_ushrL (own_f4 x0) (32 : Int32))), .second, .val (.long (own_ushrL (own_f4 (x0 + (-7046029254386353131 : Int64))) (32 : Int32))), .second, .unset, .unset] [(.int (0 : Int32))])) (fun tG kG => XS.iconst X42.here hx rfl (hb hby at_156) kG) ?_
              exact go_retN X42 hx hlk (t := .boolean) hret (by simp) (hb hby at_157) e42 ⟨(congrArg (fun z => some (Value.int z)) (show nar .boolean (0 : Int32) = (own_f0 x0 x1 N) from by unfold own_f0; simp only [if_neg hc41, if_pos hc47, if_pos hc73, if_neg hc124, if_neg hc135] <;> rfl)), N36, K36⟩ (by decide) (by decide)
        · refine Go.via (U' := T35.setTop (mkF m 76 #[.val (.long x0), .second, .val (.int x1), .val (.int (own_j0_6_l3 x1)), .val (.ref b7), .val (.ref b13), .val (.int (own_res x0 (own_j0_6_l3 x1) N)), .val (.long ((own_j0_6_l3 x1).toInt64)), .second, .val (.long (own_ushrL (own_f4 x0) (32 : Int32))), .second, .unset, .unset, .unset, .unset] [])) (fun tG kG => XS.ifNo X35.here hx rfl (hb hby at_73) rfl ((if0 _ _).trans (feq hc73).1) kG) ?_
          refine Go.via (U' := T35.setTop (mkF m 78 #[.val (.long x0), .second, .val (.int x1), .val (.int (own_j0_6_l3 x1)), .val (.ref b7), .val (.ref b13), .val (.int (own_res x0 (own_j0_6_l3 x1) N)), .val (.long ((own_j0_6_l3 x1).toInt64)), .second, .val (.long (own_ushrL (own_f4 x0) (32 : Int32))), .second, .unset, .unset, .unset, .unset] [(.int (own_res x0 (own_j0_6_l3 x1) N))])) (fun tG kG => XS.iload X35.here hx rfl (hb hby at_76) rfl kG) ?_
          refine Go.via (U' := T35.setTop (mkF m 80 #[.val (.long x0), .second, .val (.int x1), .val (.int (own_j0_6_l3 x1)), .val (.ref b7), .val (.ref b13), .val (.int (own_res x0 (own_j0_6_l3 x1) N)), .val (.long ((own_j0_6_l3 x1).toInt64)), .second, .val (.long (own_ushrL (own_f4 x0) (32 : Int32))), .second, .unset, .unset, .unset, .unset] [(.long (own_ushrL (own_f4 x0) (32 : Int32))), (.int (own_res x0 (own_j0_6_l3 x1) N))])) (fun tG kG => XS.lload X35.here hx rfl (hb hby at_78) rfl kG) ?_
          refine Go.via (U' := T35.setTop (mkF m 82 #[.val (.long x0), .second, .val (.int x1), .val (.int (own_j0_6_l3 x1)), .val (.ref b7), .val (.ref b13), .val (.int (own_res x0 (own_j0_6_l3 x1) N)), .val (.long ((own_j0_6_l3 x1).toInt64)), .second, .val (.long (own_ushrL (own_f4 x0) (32 : Int32))), .second, .unset, .unset, .unset, .unset] [(.long ((own_j0_6_l3 x1).toInt64)), (.long (own_ushrL (own_f4 x0) (32 : Int32))), (.int (own_res x0 (own_j0_6_l3 x1) N))])) (fun tG kG => XS.lload X35.here hx rfl (hb hby at_80) rfl kG) ?_
          refine Go.via (U' := T35.setTop (mkF m 83 #[.val (.long x0), .second, .val (.int x1), .val (.int (own_j0_6_l3 x1)), .val (.ref b7), .val (.ref b13), .val (.int (own_res x0 (own_j0_6_l3 x1) N)), .val (.long ((own_j0_6_l3 x1).toInt64)), .second, .val (.long (own_ushrL (own_f4 x0) (32 : Int32))), .second, .unset, .unset, .unset, .unset] [(.long ((own_ushrL (own_f4 x0) (32 : Int32)) - ((own_ushrL (own_f4 x0) (32 : Int32)) / ((own_j0_6_l3 x1).toInt64)) * ((own_j0_6_l3 x1).toInt64))), (.int (own_res x0 (own_j0_6_l3 x1) N))])) (fun tG kG => XS.lrem X35.here hx rfl (hb hby at_82) rfl (own_nz _) kG) ?_
          refine Go.via (U' := T35.setTop (mkF m 84 #[.val (.long x0), .second, .val (.int x1), .val (.int (own_j0_6_l3 x1)), .val (.ref b7), .val (.ref b13), .val (.int (own_res x0 (own_j0_6_l3 x1) N)), .val (.long ((own_j0_6_l3 x1).toInt64)), .second, .val (.long (own_ushrL (own_f4 x0) (32 : Int32))), .second, .unset, .unset, .unset, .unset] [(.int (((own_ushrL (own_f4 x0) (32 : Int32)) - ((own_ushrL (own_f4 x0) (32 : Int32)) / ((own_j0_6_l3 x1).toInt64)) * ((own_j0_6_l3 x1).toInt64)).toInt32)), (.int (own_res x0 (own_j0_6_l3 x1) N))])) (fun tG kG => XS.l2i X35.here hx rfl (hb hby at_83) rfl kG) ?_
          by_cases hc84 : (own_res x0 (own_j0_6_l3 x1) N) = (((own_ushrL (own_f4 x0) (32 : Int32)) - ((own_ushrL (own_f4 x0) (32 : Int32)) / ((own_j0_6_l3 x1).toInt64)) * ((own_j0_6_l3 x1).toInt64)).toInt32)
          · refine Go.via (U' := T35.setTop (mkF m 87 #[.val (.long x0), .second, .val (.int x1), .val (.int (own_j0_6_l3 x1)), .val (.ref b7), .val (.ref b13), .val (.int (own_res x0 (own_j0_6_l3 x1) N)), .val (.long ((own_j0_6_l3 x1).toInt64)), .second, .val (.long (own_ushrL (own_f4 x0) (32 : Int32))), .second, .unset, .unset, .unset, .unset] [])) (fun tG kG => XS.icmpNo X35.here hx rfl (hb hby at_84) rfl (teq hc84).2 kG) ?_
            refine Go.via (U' := T35.setTop (mkF m 89 #[.val (.long x0), .second, .val (.int x1), .val (.int (own_j0_6_l3 x1)), .val (.ref b7), .val (.ref b13), .val (.int (own_res x0 (own_j0_6_l3 x1) N)), .val (.long ((own_j0_6_l3 x1).toInt64)), .second, .val (.long (own_ushrL (own_f4 x0) (32 : Int32))), .second, .unset, .unset, .unset, .unset] [(.ref b7)])) (fun tG kG => XS.aload X35.here hx rfl (hb hby at_87) rfl rfl kG) ?_
            obtain ⟨_, T74, L74, X74, ⟨rfl, N74q, K74q, f75, f76⟩, st74⟩ := callVQ X35 hx hZ hown (hw _ (List.mem_of_getElem? (i := 26) rfl)) (hw _ (List.mem_of_getElem? (i := 19) rfl)) (hw _ (List.mem_of_getElem? (i := 21) rfl)) (hw _ (List.mem_of_getElem? (i := 20) rfl)) (hw _ (List.mem_of_getElem? (i := 3) rfl)) (hw _ (List.mem_of_getElem? (i := 22) rfl)) (by decide) (b := b7) (av := []) f32 (own_rm4 l Z a0 hw [] b7 (own_st x0 (N + 1)) T29.heap n0 Z29 f32 f34 g_b7) e35 (pc := 89) (Ls := #[.val (.long x0), .second, .val (.int x1), .val (.int (own_j0_6_l3 x1)), .val (.ref b7), .val (.ref b13), .val (.int (own_res x0 (own_j0_6_l3 x1) N)), .val (.long ((own_j0_6_l3 x1).toInt64)), .second, .val (.long (own_ushrL (own_f4 x0) (32 : Int32))), .second, .unset, .unset, .unset, .unset]) (rest := []) (by rw [hml]; rfl) own_k69 rfl 0 (Nat.le_of_eq rfl) (by decide) (by decide) (by decide) (by decide) (hb hby at_89)
            have f77 := f32.keep K74q
            have f78 := f30.keep K74q
            have f79 := f31.keep K74q (ninS (Ne.symm ne_b7_b13) nin0)
            have N74 := Fr.app N29 N74q
            have Z74 := Nat.le_trans Z29 K74q.1
            have K74 := K29.trans K74q (allS (Or.inr sz_b7) all0)
            refine Go.via (U' := T74.setTop (mkF m 92 #[.val (.long x0), .second, .val (.int x1), .val (.int (own_j0_6_l3 x1)), .val (.ref b7), .val (.ref b13), .val (.int (own_res x0 (own_j0_6_l3 x1) N)), .val (.long ((own_j0_6_l3 x1).toInt64)), .second, .val (.long (own_ushrL (own_f4 x0) (32 : Int32))), .second, .unset, .unset, .unset, .unset] [(.long (own_f4 (own_st x0 (N + 1))))])) (fun tG kG => st74 tG kG) ?_
            refine Go.via (U' := T74.setTop (mkF m 94 #[.val (.long x0), .second, .val (.int x1), .val (.int (own_j0_6_l3 x1)), .val (.ref b7), .val (.ref b13), .val (.int (own_res x0 (own_j0_6_l3 x1) N)), .val (.long ((own_j0_6_l3 x1).toInt64)), .second, .val (.long (own_ushrL (own_f4 x0) (32 : Int32))), .second, .unset, .unset, .unset, .unset] [(.ref b13), (.long (own_f4 (own_st x0 (N + 1))))])) (fun tG kG => XS.aload X74.here hx rfl (hb hby at_92) rfl rfl kG) ?_
            obtain ⟨_, T80, L80, X80, ⟨rfl, N80q, K80q, f81, f82⟩, st80⟩ := callVQ X74 hx hZ hown (hw _ (List.mem_of_getElem? (i := 26) rfl)) (hw _ (List.mem_of_getElem? (i := 19) rfl)) (hw _ (List.mem_of_getElem? (i := 21) rfl)) (hw _ (List.mem_of_getElem? (i := 20) rfl)) (hw _ (List.mem_of_getElem? (i := 3) rfl)) (hw _ (List.mem_of_getElem? (i := 22) rfl)) (by decide) (b := b13) (av := []) f78 (own_rm4 l Z a0 hw [] b13 (x0 + (-7046029254386353131 : Int64)) T74.heap n0 Z74 f78 f79 g_b13) rfl (pc := 94) (Ls := #[.val (.long x0), .second, .val (.int x1), .val (.int (own_j0_6_l3 x1)), .val (.ref b7), .val (.ref b13), .val (.int (own_res x0 (own_j0_6_l3 x1) N)), .val (.long ((own_j0_6_l3 x1).toInt64)), .second, .val (.long (own_ushrL (own_f4 x0) (32 : Int32))), .second, .unset, .unset, .unset, .unset]) (rest := [(.long (own_f4 (own_st x0 (N + 1))))]) (by rw [hml]; rfl) own_k69 rfl 2 (Nat.le_of_eq rfl) (by decide) (by decide) (by decide) (by decide) (hb hby at_94)
            have f83 := f75.keep K80q
            have f84 := f78.keep K80q
            have f85 := f76.keep K80q (ninS ne_b7_b13 nin0)
            have N80 := Fr.app N74 N80q
            have Z80 := Nat.le_trans Z74 K80q.1
            have K80 := K74.trans K80q (allS (Or.inr sz_b13) all0)
            refine Go.via (U' := T80.setTop (mkF m 97 #[.val (.long x0), .second, .val (.int x1), .val (.int (own_j0_6_l3 x1)), .val (.ref b7), .val (.ref b13), .val (.int (own_res x0 (own_j0_6_l3 x1) N)), .val (.long ((own_j0_6_l3 x1).toInt64)), .second, .val (.long (own_ushrL (own_f4 x0) (32 : Int32))), .second, .unset, .unset, .unset, .unset] [(.long (own_f4 (x0 + (-7046029254386353131 : Int64)))), (.long (own_f4 (own_st x0 (N + 1))))])) (fun tG kG => st80 tG kG) ?_
            refine Go.via (U' := T80.setTop (mkF m 98 #[.val (.long x0), .second, .val (.int x1), .val (.int (own_j0_6_l3 x1)), .val (.ref b7), .val (.ref b13), .val (.int (own_res x0 (own_j0_6_l3 x1) N)), .val (.long ((own_j0_6_l3 x1).toInt64)), .second, .val (.long (own_ushrL (own_f4 x0) (32 : Int32))), .second, .unset, .unset, .unset, .unset] [(.int (lcmpW (own_f4 (own_st x0 (N + 1))) (own_f4 (x0 + (-7046029254386353131 : Int64)))))])) (fun tG kG => XS.lcmp X80.here hx rfl (hb hby at_97) rfl kG) ?_
            by_cases hc98 : (lcmpW (own_f4 (own_st x0 (N + 1))) (own_f4 (x0 + (-7046029254386353131 : Int64)))) = (0 : Int32)
            · refine Go.via (U' := T80.setTop (mkF m 101 #[.val (.long x0), .second, .val (.int x1), .val (.int (own_j0_6_l3 x1)), .val (.ref b7), .val (.ref b13), .val (.int (own_res x0 (own_j0_6_l3 x1) N)), .val (.long ((own_j0_6_l3 x1).toInt64)), .second, .val (.long (own_ushrL (own_f4 x0) (32 : Int32))), .second, .unset, .unset, .unset, .unset] [])) (fun tG kG => XS.ifNo X80.here hx rfl (hb hby at_98) rfl ((if0 _ _).trans (teq hc98).2) kG) ?_
              refine Go.via (U' := T80.setTop (mkF m 102 #[.val (.long x0), .second, .val (.int x1), .val (.int (own_j0_6_l3 x1)), .val (.ref b7), .val (.ref b13), .val (.int (own_res x0 (own_j0_6_l3 x1) N)), .val (.long ((own_j0_6_l3 x1).toInt64)), .second, .val (.long (own_ushrL (own_f4 x0) (32 : Int32))), .second, .unset, .unset, .unset, .unset] [(.int (1 : Int32))])) (fun tG kG => XS.iconst X80.here hx rfl (hb hby at_101) kG) ?_
              refine Go.via (U' := T80.setTop (mkF m 106 #[.val (.long x0), .second, .val (.int x1), .val (.int (own_j0_6_l3 x1)), .val (.ref b7), .val (.ref b13), .val (.int (own_res x0 (own_j0_6_l3 x1) N)), .val (.long ((own_j0_6_l3 x1).toInt64)), .second, .val (.long (own_ushrL (own_f4 x0) (32 : Int32))), .second, .unset, .unset, .unset, .unset] [(.int (1 : Int32))])) (fun tG kG => XS.goto X80.here hx rfl (pc0 := 102) (pc' := 106) rfl (hb hby at_102) (by decide) (by decide) kG) ?_
              exact go_retN X80 hx hlk (t := .boolean) hret (by simp) (hb hby at_106) rfl ⟨(congrArg (fun z => some (Value.int z)) (show nar .boolean (1 : Int32) = (own_f0 x0 x1 N) from by unfold own_f0; simp only [if_neg hc41, if_pos hc47, if_neg hc73, if_pos hc84, if_pos hc98] <;> rfl)), N80, K80⟩ (by decide) (by decide)
            · refine Go.via (U' := T80.setTop (mkF m 105 #[.val (.long x0), .second, .val (.int x1), .val (.int (own_j0_6_l3 x1)), .val (.ref b7), .val (.ref b13), .val (.int (own_res x0 (own_j0_6_l3 x1) N)), .val (.long ((own_j0_6_l3 x1).toInt64)), .second, .val (.long (own_ushrL (own_f4 x0) (32 : Int32))), .second, .unset, .unset, .unset, .unset] [])) (fun tG kG => XS.ifYes X80.here hx rfl (pc0 := 98) (pc' := 105) rfl (hb hby at_98) rfl ((if0 _ _).trans (feq hc98).2) (by decide) (by decide) kG) ?_
              refine Go.via (U' := T80.setTop (mkF m 106 #[.val (.long x0), .second, .val (.int x1), .val (.int (own_j0_6_l3 x1)), .val (.ref b7), .val (.ref b13), .val (.int (own_res x0 (own_j0_6_l3 x1) N)), .val (.long ((own_j0_6_l3 x1).toInt64)), .second, .val (.long (own_ushrL (own_f4 x0) (32 : Int32))), .second, .unset, .unset, .unset, .unset] [(.int (0 : Int32))])) (fun tG kG => XS.iconst X80.here hx rfl (hb hby at_105) kG) ?_
              exact go_retN X80 hx hlk (t := .boolean) hret (by simp) (hb hby at_106) rfl ⟨(congrArg (fun z => some (Value.int z)) (show nar .boolean (0 : Int32) = (own_f0 x0 x1 N) from by unfold own_f0; simp only [if_neg hc41, if_pos hc47, if_neg hc73, if_pos hc84, if_neg hc98] <;> rfl)), N80, K80⟩ (by decide) (by decide)
          · refine Go.via (U' := T35.setTop (mkF m 105 #[.val (.long x0), .second, .val (.int x1), .val (.int (own_j0_6_l3 x1)), .val (.ref b7), .val (.ref b13), .val (.int (own_res x0 (own_j0_6_l3 x1) N)), .val (.long ((own_j0_6_l3 x1).toInt64)), .second, .val (.long (own_ushrL (own_f4 x0) (32 : Int32))), .second, .unset, .unset, .unset, .unset] [])) (fun tG kG => XS.icmpYes X35.here hx rfl (pc0 := 84) (pc' := 105) rfl (hb hby at_84) rfl (feq hc84).2 (by decide) (by decide) kG) ?_
            refine Go.via (U' := T35.setTop (mkF m 106 #[.val (.long x0), .second, .val (.int x1), .val (.int (own_j0_6_l3 x1)), .val (.ref b7), .val (.ref b13), .val (.int (own_res x0 (own_j0_6_l3 x1) N)), .val (.long ((own_j0_6_l3 x1).toInt64)), .second, .val (.long (own_ushrL (own_f4 x0) (32 : Int32))), .second, .unset, .unset, .unset, .unset] [(.int (0 : Int32))])) (fun tG kG => XS.iconst X35.here hx rfl (hb hby at_105) kG) ?_
            exact go_retN X35 hx hlk (t := .boolean) hret (by simp) (hb hby at_106) e35 ⟨(congrArg (fun z => some (Value.int z)) (show nar .boolean (0 : Int32) = (own_f0 x0 x1 N) from by unfold own_f0; simp only [if_neg hc41, if_pos hc47, if_neg hc73, if_neg hc84] <;> rfl)), N29, K29⟩ (by decide) (by decide)
      · refine Go.via (U' := T23.setTop (mkF m 50 #[.val (.long x0), .second, .val (.int x1), .val (.int (own_j0_6_l3 x1)), .val (.ref b7), .val (.ref b13), .val (.int (own_res x0 (own_j0_6_l3 x1) N)), .unset, .unset, .unset, .unset, .unset, .unset, .unset, .unset] [])) (fun tG kG => XS.icmpNo X23.here hx rfl (hb hby at_47) rfl (flt hc47).1 kG) ?_
        refine Go.via (U' := T23.setTop (mkF m 51 #[.val (.long x0), .second, .val (.int x1), .val (.int (own_j0_6_l3 x1)), .val (.ref b7), .val (.ref b13), .val (.int (own_res x0 (own_j0_6_l3 x1) N)), .unset, .unset, .unset, .unset, .unset, .unset, .unset, .unset] [(.int (0 : Int32))])) (fun tG kG => XS.iconst X23.here hx rfl (hb hby at_50) kG) ?_
        exact go_retN X23 hx hlk (t := .boolean) hret (by simp) (hb hby at_51) rfl ⟨(congrArg (fun z => some (Value.int z)) (show nar .boolean (0 : Int32) = (own_f0 x0 x1 N) from by unfold own_f0; simp only [if_neg hc41, if_neg hc47] <;> rfl)), N23, K23⟩ (by decide) (by decide)
  by_cases hc6 : (x1 &&& (2147483647 : Int32)) = (0 : Int32)
  · refine Go.via (U' := s₁.setTop (mkF m 9 #[.val (.long x0), .second, .val (.int x1), .val (.int (x1 &&& (2147483647 : Int32))), .unset, .unset, .unset, .unset, .unset, .unset, .unset, .unset, .unset, .unset, .unset] [])) (fun tG kG => XS.ifNo X0.here hx rfl (hb hby at_6) rfl ((if0 _ _).trans (teq hc6).2) kG) ?_
    refine Go.via (U' := s₁.setTop (mkF m 10 #[.val (.long x0), .second, .val (.int x1), .val (.int (x1 &&& (2147483647 : Int32))), .unset, .unset, .unset, .unset, .unset, .unset, .unset, .unset, .unset, .unset, .unset] [(.int (1 : Int32))])) (fun tG kG => XS.iconst X0.here hx rfl (hb hby at_9) kG) ?_
    refine Go.via (U' := s₁.setTop (mkF m 11 #[.val (.long x0), .second, .val (.int x1), .val (.int (1 : Int32)), .unset, .unset, .unset, .unset, .unset, .unset, .unset, .unset, .unset, .unset, .unset] [])) (fun tG kG => XS.istoreN X0.here hx rfl (hb hby at_10) rfl (l' := #[.val (.long x0), .second, .val (.int x1), .val (.int (1 : Int32)), .unset, .unset, .unset, .unset, .unset, .unset, .unset, .unset, .unset, .unset, .unset]) rfl kG) ?_
    have q_own_j0_6_l3 : (own_j0_6_l3 x1) = (1 : Int32) := by unfold own_j0_6_l3; simp only [if_pos hc6]
    have q_J := J1 s₁ _ X0 e0 N0
    rw [q_own_j0_6_l3] at q_J
    exact q_J
  · refine Go.via (U' := s₁.setTop (mkF m 11 #[.val (.long x0), .second, .val (.int x1), .val (.int (x1 &&& (2147483647 : Int32))), .unset, .unset, .unset, .unset, .unset, .unset, .unset, .unset, .unset, .unset, .unset] [])) (fun tG kG => XS.ifYes X0.here hx rfl (pc0 := 6) (pc' := 11) rfl (hb hby at_6) rfl ((if0 _ _).trans (feq hc6).2) (by decide) (by decide) kG) ?_
    have q_own_j0_6_l3 : (own_j0_6_l3 x1) = (x1 &&& (2147483647 : Int32)) := by unfold own_j0_6_l3; simp only [if_neg hc6]
    have q_J := J1 s₁ _ X0 e0 N0
    rw [q_own_j0_6_l3] at q_J
    exact q_J
theorem own_cmp0 (x y : Int64) : lcmpW x y = 0 ↔ x = y := by
  show (if x > y then (1 : Int32) else if x = y then 0 else -1) = 0 ↔ x = y
  by_cases a : y < x
  · rw [if_pos a]
    exact ⟨fun q => absurd q (by decide), fun q => absurd (q ▸ a) (Int64.lt_irrefl)⟩
  · rw [if_neg a]
    by_cases b : x = y
    · rw [if_pos b]; exact ⟨fun _ => b, fun _ => rfl⟩
    · rw [if_neg b]; exact ⟨fun q => absurd q (by decide), fun q => absurd q b⟩
theorem own_unx (w : BitVec 64) (k : Nat) (hk : 64 ≤ 3 * k) : ((w ^^^ (w >>> k)) ^^^ ((w ^^^ (w >>> k)) >>> k)) ^^^ ((w ^^^ (w >>> k)) >>> (2 * k)) = w := by
  have z : w >>> (k + 2 * k) = 0#64 := BitVec.ushiftRight_eq_zero (by omega)
  rw [BitVec.ushiftRight_xor_distrib, BitVec.ushiftRight_xor_distrib, ← BitVec.shiftRight_add, ← BitVec.shiftRight_add, z, show k + k = 2 * k from by omega]
  generalize w >>> k = a
  generalize w >>> (2 * k) = b
  rw [BitVec.xor_zero, BitVec.xor_assoc (w ^^^ a), BitVec.xor_assoc a b b, BitVec.xor_self, BitVec.xor_zero, BitVec.xor_assoc w, BitVec.xor_self, BitVec.xor_zero]
theorem own_u31 (x : Int64) : ((x ^^^ (own_ushrL x (31 : Int32))) ^^^ (own_ushrL (x ^^^ (own_ushrL x (31 : Int32))) (31 : Int32))) ^^^ (own_ushrL (x ^^^ (own_ushrL x (31 : Int32))) (62 : Int32)) = x :=
  Int64.toBitVec_inj.mp (own_unx x.toBitVec 31 (by decide))
theorem own_u27 (x : Int64) : ((x ^^^ (own_ushrL x (27 : Int32))) ^^^ (own_ushrL (x ^^^ (own_ushrL x (27 : Int32))) (27 : Int32))) ^^^ (own_ushrL (x ^^^ (own_ushrL x (27 : Int32))) (54 : Int32)) = x :=
  Int64.toBitVec_inj.mp (own_unx x.toBitVec 27 (by decide))
theorem own_u30 (x : Int64) : ((x ^^^ (own_ushrL x (30 : Int32))) ^^^ (own_ushrL (x ^^^ (own_ushrL x (30 : Int32))) (30 : Int32))) ^^^ (own_ushrL (x ^^^ (own_ushrL x (30 : Int32))) (60 : Int32)) = x :=
  Int64.toBitVec_inj.mp (own_unx x.toBitVec 30 (by decide))
def own_xa (x : Int64) : Int64 := (x ^^^ (own_ushrL x (30 : Int32))) * (-4658895280553007687 : Int64)
def own_xb (x : Int64) : Int64 := (own_xa x ^^^ (own_ushrL (own_xa x) (27 : Int32))) * (-7723592293110705685 : Int64)
def own_mix (x : Int64) : Int64 := own_xb x ^^^ (own_ushrL (own_xb x) (31 : Int32))
def own_xc (z : Int64) : Int64 := (z ^^^ (own_ushrL z (31 : Int32))) ^^^ (own_ushrL z (62 : Int32))
def own_xd (i2 z : Int64) : Int64 := own_xc z * i2
def own_xe (i2 z : Int64) : Int64 := (own_xd i2 z ^^^ (own_ushrL (own_xd i2 z) (27 : Int32))) ^^^ (own_ushrL (own_xd i2 z) (54 : Int32))
def own_xg (i1 i2 z : Int64) : Int64 := own_xe i2 z * i1
def own_unm (i1 i2 z : Int64) : Int64 := (own_xg i1 i2 z ^^^ (own_ushrL (own_xg i1 i2 z) (30 : Int32))) ^^^ (own_ushrL (own_xg i1 i2 z) (60 : Int32))
theorem own_unm_mix (x i1 i2 : Int64) (h1 : (-4658895280553007687 : Int64) * i1 = 1) (h2 : (-7723592293110705685 : Int64) * i2 = 1) : own_unm i1 i2 (own_mix x) = x := by
  have e1 : own_xc (own_mix x) = own_xb x := own_u31 _
  have e2 : own_xd i2 (own_mix x) = own_xa x ^^^ (own_ushrL (own_xa x) (27 : Int32)) := by
    unfold own_xd
    rw [e1]
    unfold own_xb
    rw [Int64.mul_assoc, h2, Int64.mul_one]
  have e3 : own_xe i2 (own_mix x) = own_xa x := by
    unfold own_xe
    rw [e2]
    exact own_u27 _
  have e4 : own_xg i1 i2 (own_mix x) = x ^^^ (own_ushrL x (30 : Int32)) := by
    unfold own_xg
    rw [e3]
    unfold own_xa
    rw [Int64.mul_assoc, h1, Int64.mul_one]
  unfold own_unm
  rw [e4]
  exact own_u30 x
theorem own_keyI (W a b : Int) (hb : 1 ≤ b) : (W < (a / b + 1) * b) ↔ ¬ a < W - W % b := by
  have wd : W / b * b + W % b = W := by
    have := Int.mul_ediv_add_emod W b
    rw [Int.mul_comm] at this
    exact this
  have m1 : W % b < b := Int.emod_lt_of_pos _ (by omega)
  have ex : (a / b + 1) * b = a / b * b + b := by rw [Int.add_mul, Int.one_mul]
  constructor
  · intro h k
    have c1 : a < W / b * b := by omega
    have c2 : a / b < W / b := Int.ediv_lt_of_lt_mul (by omega) c1
    have c3 : (a / b + 1) * b ≤ W / b * b := Int.mul_le_mul_of_nonneg_right (by omega) (by omega)
    have m0 : 0 ≤ W % b := Int.emod_nonneg _ (by omega)
    omega
  · intro k
    have c1 : W / b * b ≤ a := by omega
    have c2 : W / b ≤ a / b := Int.le_ediv_of_mul_le (by omega) c1
    have c3 : W / b * b ≤ a / b * b := Int.mul_le_mul_of_nonneg_right c2 (by omega)
    omega
theorem own_bits_rng (u : Int64) (t : Nat) : 0 ≤ (own_bits u t).toInt ∧ (own_bits u t).toInt < 4294967296 := by
  have h : (own_bits u t).toInt = ((own_f4 (own_st u t)).toInt % 18446744073709551616) / (2 ^ 32 : Nat) := c_lushr _ 32 32 rfl (by decide)
  omega
theorem own_fit (bits : Int64) (b : Int32) (h0 : 0 ≤ bits.toInt) (h1 : bits.toInt < 4294967296) (hb : 1 ≤ b.toInt) : own_f5 bits b.toInt64 = 0 ↔ ¬ lcmpW bits (own_lim b) < 0 := by
  have rb := rng32 b
  have eB := c_i2l b
  have eW : (4294967296 : Int64).toInt = 4294967296 := rfl
  have e1 : (1 : Int64).toInt = 1 := rfl
  have bne : b.toInt64 ≠ -1 := fun h => by
    have := Int64.toInt_inj.mpr h
    have e : (-1 : Int64).toInt = -1 := rfl
    omega
  have dq := (c_ldiv bits b.toInt64 b.toInt eB bne).1 h0
  have wr := (c_lrem 4294967296 b.toInt64 b.toInt eB).1 (by rw [eW]; decide)
  rw [eW] at wr
  have ls := c_lsub 4294967296 ((4294967296 : Int64) - (4294967296 / b.toInt64) * b.toInt64)
  have rl := rng64 (own_lim b)
  have m0 : 0 ≤ (4294967296 : Int) % b.toInt := Int.emod_nonneg _ (by omega)
  have m1 : (4294967296 : Int) % b.toInt < b.toInt := Int.emod_lt_of_pos _ (by omega)
  have hl : (own_lim b).toInt = 4294967296 - 4294967296 % b.toInt := by
    have el : own_lim b = (4294967296 : Int64) - ((4294967296 : Int64) - (4294967296 / b.toInt64) * b.toInt64) := rfl
    rw [el] at rl ⊢
    generalize ((4294967296 : Int64) - (4294967296 / b.toInt64) * b.toInt64) = r at *
    generalize (4294967296 : Int64) - r = w at *
    omega
  have q0 : 0 ≤ bits.toInt / b.toInt := Int.ediv_nonneg h0 (by omega)
  have q1 : bits.toInt / b.toInt * b.toInt ≤ bits.toInt := Int.ediv_mul_le _ (by omega)
  have q2 : bits.toInt / b.toInt ≤ bits.toInt := Int.ediv_le_self _ h0
  have q3 : 0 ≤ bits.toInt / b.toInt * b.toInt := Int.mul_nonneg q0 (by omega)
  have la := c_ladd (bits / b.toInt64) 1
  have ra := rng64 (bits / b.toInt64 + 1)
  have ha : (bits / b.toInt64 + 1).toInt = bits.toInt / b.toInt + 1 := by omega
  have lm := c_lmul (bits / b.toInt64 + 1) b.toInt64
  have rm := rng64 ((bits / b.toInt64 + 1) * b.toInt64)
  rw [ha, eB] at lm
  have ex : (bits.toInt / b.toInt + 1) * b.toInt = bits.toInt / b.toInt * b.toInt + b.toInt := by rw [Int.add_mul, Int.one_mul]
  have hm : ((bits / b.toInt64 + 1) * b.toInt64).toInt = (bits.toInt / b.toInt + 1) * b.toInt := by omega
  have key := own_keyI 4294967296 bits.toInt b.toInt hb
  rw [lw_lt, Int64.lt_iff_toInt_lt, hl]
  refine Iff.trans ?_ key
  rw [← hm]
  unfold own_f5
  by_cases c : (4294967296 : Int64) < (bits / b.toInt64 + 1) * b.toInt64
  · rw [if_pos ((lw_gt _ _).mpr c)]
    have := Int64.lt_iff_toInt_lt.mp c
    rw [eW] at this
    exact ⟨fun _ => this, fun _ => rfl⟩
  · rw [if_neg (fun h => c ((lw_gt _ _).mp h))]
    have c' : ¬ (4294967296 : Int) < ((bits / b.toInt64 + 1) * b.toInt64).toInt := fun h => c (Int64.lt_iff_toInt_lt.mpr (by rw [eW]; exact h))
    exact ⟨fun h => absurd h (by decide), fun h => absurd h c'⟩
theorem own_res_rng (u : Int64) (b : Int32) (t : Nat) (hb : 1 ≤ b.toInt) : ¬ own_res u b t < 0 ∧ own_res u b t < b := by
  have r := own_bits_rng u t
  have eB := c_i2l b
  have rb := rng32 b
  have lr := (c_lrem (own_bits u t) b.toInt64 b.toInt eB).1 r.1
  have m0 : 0 ≤ (own_bits u t).toInt % b.toInt := Int.emod_nonneg _ (by omega)
  have m1 : (own_bits u t).toInt % b.toInt < b.toInt := Int.emod_lt_of_pos _ (by omega)
  have li := c_l2i ((own_bits u t) - ((own_bits u t) / b.toInt64) * b.toInt64)
  have ri := rng32 (own_res u b t)
  have e : (own_res u b t).toInt = (own_bits u t).toInt % b.toInt := by
    unfold own_res at *
    omega
  rw [Int32.lt_iff_toInt_lt, Int32.lt_iff_toInt_lt, show (0 : Int32).toInt = 0 from rfl]
  omega
theorem own_first {P : Nat → Prop} : ∀ n, P n → ∃ N, P N ∧ ∀ t, t < N → ¬ P t := by
  intro n
  induction n using Nat.strongRecOn with
  | ind n ih =>
    intro h
    by_cases q : ∃ t, t < n ∧ P t
    · obtain ⟨t, h1, h2⟩ := q
      exact ih t h1 h2
    · exact ⟨n, h, fun t h1 h2 => q ⟨t, h1, h2⟩⟩
theorem own_st_eq (u : Int64) (t : Nat) : own_st u t = u + Int64.ofNat t * (-7046029254386353131 : Int64) := by
  induction t with
  | zero =>
    show u = u + (0 : Int64) * _
    rw [Int64.zero_mul, Int64.add_zero]
  | succ t ih =>
    show own_st u t + _ = _
    rw [ih, show Int64.ofNat (t + 1) = Int64.ofNat t + 1 from Int64.ofNat_add t 1, Int64.add_mul, Int64.one_mul, Int64.add_assoc]
theorem own_find (x : Int64) (b : Int32) : ∃ N, own_acc x (own_bd b) N ∧ ∀ t, t < N → ¬ own_acc x (own_bd b) t := by
  have g : (-1018231460777725123 : Int64) * (-7046029254386353131 : Int64) = 1 := by decide
  have key : own_st x ((-x - (-7046029254386353131 : Int64)) * (-1018231460777725123 : Int64)).toUInt64.toNat + (-7046029254386353131 : Int64) = 0 := by
    rw [own_st_eq]
    have e : Int64.ofNat ((-x - (-7046029254386353131 : Int64)) * (-1018231460777725123 : Int64)).toUInt64.toNat = (-x - (-7046029254386353131 : Int64)) * (-1018231460777725123 : Int64) := by
      generalize (-x - (-7046029254386353131 : Int64)) * (-1018231460777725123 : Int64) = y
      apply Int64.toBitVec_inj.mp
      simp
    rw [e, Int64.mul_assoc, g, Int64.mul_one, Int64.sub_eq_add_neg, ← Int64.add_assoc x, Int64.add_right_neg, Int64.zero_add]
    decide
  refine own_first _ (?_ : own_acc x (own_bd b) ((-x - (-7046029254386353131 : Int64)) * (-1018231460777725123 : Int64)).toUInt64.toNat)
  have hz : own_bits x ((-x - (-7046029254386353131 : Int64)) * (-1018231460777725123 : Int64)).toUInt64.toNat = 0 := by
    show own_ushrL (own_mix (own_st x _ + (-7046029254386353131 : Int64))) 32 = 0
    rw [key]
    decide
  have f := own_fit 0 (own_bd b) (by decide) (by decide) (own_bdr b)
  unfold own_acc
  rw [hz]
  by_cases c : lcmpW 0 (own_lim (own_bd b)) < 0
  · exact c
  · exfalso
    have q := f.mpr c
    have w : (0 : Int64) / (own_bd b).toInt64 = 0 := Int64.zero_div
    unfold own_f5 at q
    rw [w, Int64.zero_add, Int64.one_mul] at q
    have r := rng32 (own_bd b)
    have nl : ¬ (4294967296 : Int64) < (own_bd b).toInt64 := by
      rw [Int64.lt_iff_toInt_lt, c_i2l, show (4294967296 : Int64).toInt = 4294967296 from rfl]
      omega
    rw [if_neg (fun h => nl ((lw_gt _ _).mp h))] at q
    exact absurd q (by decide)
theorem own_plain (x0 : Int64) (x1 : Int32) (N : Nat) (hN : own_acc x0 (own_bd x1) N) (hlt : ∀ t, t < N → ¬ own_acc x0 (own_bd x1) t) : own_f0 x0 x1 N = 1 := by
  have hb := own_bdr x1
  have rr := own_res_rng x0 (own_bd x1) N hb
  have F := fun t => own_fit (own_bits x0 t) (own_bd x1) (own_bits_rng x0 t).1 (own_bits_rng x0 t).2 hb
  have e0 : own_ushrL (own_f4 x0) (32 : Int32) = own_bits x0 0 := rfl
  have e1 : own_ushrL (own_f4 (x0 + (-7046029254386353131 : Int64))) (32 : Int32) = own_bits x0 1 := rfl
  have e2 : own_ushrL (own_f4 ((x0 + (-7046029254386353131 : Int64)) + (-7046029254386353131 : Int64))) (32 : Int32) = own_bits x0 2 := rfl
  have eb : own_j0_6_l3 x1 = own_bd x1 := rfl
  unfold own_f0
  rw [eb, if_neg rr.1, if_pos rr.2, e0, e1, e2]
  by_cases c0 : own_f5 (own_bits x0 0) (own_bd x1).toInt64 = 0
  · have n0 : N ≠ 0 := fun h => (F 0).mp c0 (h ▸ hN)
    rw [if_pos c0]
    by_cases c1 : own_f5 (own_bits x0 1) (own_bd x1).toInt64 = 0
    · have n1 : N ≠ 1 := fun h => (F 1).mp c1 (h ▸ hN)
      rw [if_pos c1]
      by_cases c2 : own_f5 (own_bits x0 2) (own_bd x1).toInt64 = 0
      · rw [if_pos c2]
      · rw [if_neg c2]
        have a2 : own_acc x0 (own_bd x1) 2 := Classical.byContradiction fun h => c2 ((F 2).mpr h)
        have h2 : N = 2 := by
          have : ¬ 2 < N := fun h => hlt 2 h a2
          omega
        subst h2
        rw [if_pos (show own_res x0 (own_bd x1) 2 = (own_w0_4 x0 x1).toInt32 from rfl)]
        exact if_pos ((lw_eq _ _).mpr rfl)
    · rw [if_neg c1]
      have a1 : own_acc x0 (own_bd x1) 1 := Classical.byContradiction fun h => c1 ((F 1).mpr h)
      have h1 : N = 1 := by
        have : ¬ 1 < N := fun h => hlt 1 h a1
        omega
      subst h1
      rw [if_pos (show own_res x0 (own_bd x1) 1 = (own_w0_5 x0 x1).toInt32 from rfl)]
      exact if_pos ((lw_eq _ _).mpr rfl)
  · rw [if_neg c0]
    have a0 : own_acc x0 (own_bd x1) 0 := Classical.byContradiction fun h => c0 ((F 0).mpr h)
    have h0 : N = 0 := by
      have : ¬ 0 < N := fun h => hlt 0 h a0
      omega
    subst h0
    rw [if_pos (show own_res x0 (own_bd x1) 0 = (own_bits x0 0 - own_bits x0 0 / (own_bd x1).toInt64 * (own_bd x1).toInt64).toInt32 from rfl)]
    exact if_pos ((lw_eq _ _).mpr rfl)
set_option maxRecDepth 65536 in
set_option maxHeartbeats 40000000 in
theorem own_comes {Post : Tables → Env → Array Value → State → Outcome → State → Prop} (hpost : ∀ tb e args s v u, (limb_1_1.after args s (.returned v) u = true ∧ limb_1_2.after args s (.returned v) u = true) → FrameEnd s (.returned v) u (Jvm.fieldLocs frame_1_writes args s ++ Jvm.arrayLocs frame_1_arrays args s ++ Jvm.staticLocs frame_1_statics s) 16 128 → Post tb e args s (.returned v) u) :
    ArmFor flags0 classFile x code maxLocals ret World_1 tables_1 room_1 Calls_1 rest_1 Pre_1 Post := by
  intro l hfl _ _ p e ha hc hk s m args below hf hA hF happ hP
  obtain ⟨hcalls, hrest, hpre⟩ := hP
  obtain ⟨-, -, -, hnamed, -, -, -, hat⟩ := (Spec.applies_iff hf).mp happ
  obtain ⟨hg, hn⟩ := and_e (Cond.before_iff.mp (show (Jvm.Cond.and given_1 narrow_1).before args s = true from hpre))
  obtain ⟨hcnt, hg⟩ := and_e hg
  obtain ⟨w0, w1, rfl⟩ : ∃ w0 w1 : Value, args = #[w0, w1] := by
    have hs : args.size = 2 := by simpa [Cond.value, given_1] using hcnt
    obtain ⟨L⟩ := args
    match L, hs with
    | [w0, w1], _ => exact ⟨w0, w1, rfl⟩
  have hw := fun d (hd : d ∈ tables_1) => atoms_spec (ws := Jvm.Cond.code x code maxLocals ret :: tables_1) hat d (List.mem_cons_of_mem _ hd)
  have hfit : Fit s := fun {y c} hc i hi => by
    obtain ⟨ha, rfl⟩ := Array.getElem?_eq_some_iff.mp hc
    have q := List.all_eq_true.mp ((Array.all_eq_true_iff_forall_mem.mp hF) _ (Array.getElem_mem ha)) i (List.mem_range.mpr hi)
    simpa [Array.getElem?_eq_getElem hi] using q
  obtain ⟨hg0, hg⟩ := and_e hg
  obtain ⟨i0, ei0⟩ := isL_v hg0
  obtain rfl : w0 = (.long i0) := Option.some.inj ei0
  obtain ⟨i1, ei1⟩ := is_v hg
  obtain rfl : w1 = (.int i1) := Option.some.inj ei1
  obtain ⟨N', hN, hlt⟩ := own_find i0 i1
  obtain ⟨n, o, h1, h2, h3, _, L, rfl, ⟨rfl, N, -⟩, hq⟩ := own_rm0 l s _ hw tables_1 i0 i1 N' s.heap s.heap.size (Nat.le_refl _) hN hlt p e ha hc hk s m _ below hf ((Spec.applies_iff_loose hf).mp happ).1 ⟨rfl, State.Warmed39.refl s, rfl⟩ trivial
  refine ⟨n, _, h1, h2, h3, hpost _ _ _ _ _ _ ⟨Cond.after_iff.mpr rfl, Cond.after_iff.mpr (eq_i res_at (Term.int_eval (1)) (congrArg Value.int (own_plain i0 i1 N' hN hlt)))⟩ ⟨hq.1, hq.2.1, (hq.2.2.sift fun y hy => Or.inr (N y hy)).mono (by decide) (by decide)⟩⟩
theorem main_1_1 : Claimed_1_1 := own_comes fun _ _ _ _ _ _ h hF => ⟨h.1, hF⟩
theorem main_1_2 : Claimed_1_2 := own_comes fun _ _ _ _ _ _ h hF => ⟨h.2, hF⟩
end Jvm.Pilot.@@N@@
namespace Jvm.Pilot.@@N@@
open Jvm Jvm.ClassFile Sem Op Lib Jvm.Free Jvm.Stand Jvm.Pilot.@@N@@.Jvm.D
/-! MADE BY PROGRAM (witnessworld.py) out of the Statement's table words and the real class files: 9 classes; the members and pool entries that the words name. The judged class is class 1, her method 2. -/
namespace start1
open Jvm.ClassFile
def u (s : String) : CpInfo := .utf8 (stringToUtf16 s)
/-- a pool by its gaps: so many unusable entries, then the entry; so many at the end -/
def gap : Nat → List CpInfo → List CpInfo
  | 0, r => r
  | n + 1, r => .unusable :: gap n r
def poolList (es : List (Nat × CpInfo)) (last : Nat) : List CpInfo := es.foldr (fun e r => gap e.1 (e.2 :: r)) (gap last [])
def pool (es : List (Nat × CpInfo)) (last : Nat) : Array CpInfo := ⟨poolList es last⟩
def fileOf (pool : Array CpInfo) (this : Nat) (attrs : Array Attribute := #[]) (ms : Array MethodInfo := #[]) (fl : Nat := 33) (sup : Nat := 0) (ifs : Array Nat := #[]) (fds : Array FieldInfo := #[]) : ClassFile where
  minorVersion := 0
  majorVersion := 65
  constantPool := pool
  accessFlags := fl
  thisClass := this
  superClass := sup
  interfaces := ifs
  fields := fds
  methods := ms
  attributes := attrs
def plain (name : String) (sup : Option ClassId) : Class where
  name := name
  kind := .ordinary
  loader := none
  accessFlags := 33
  super := sup
  interfaces := #[]
  cf := none
  fields := #[]
  methods := #[]
  instanceTypes := #[]
  staticTypes := #[]
  resolved := #[]
  callSites := []
  init := .initialized
  statics := none
  mirror := none

def pool0 : Array CpInfo := pool [(5, u "<init>"), (0, u "()V"), (1, .class_ 10), (1, u "java/lang/Object")] 113

def k0c0 : Code := { maxStack := 0, maxLocals := 1, code := object_method_1_code, exceptionTable := #[], attributes := #[] }
def k0m0 : Method := { name := "<init>", desc := "()V", sig := { parameters := [], returnType := none }, accessFlags := 1, code := some k0c0 }
/-- java/lang/Object -/
def k0 : Class := { plain "java/lang/Object" none with
  accessFlags := 33
  interfaces := #[]
  cf := some (fileOf pool0 8 #[] #[{ accessFlags := 1, nameIndex := 5, descriptorIndex := 6, attributes := #[] }] 33 0 #[] #[])
  fields := #[]
  methods := #[k0m0]
  instanceTypes := #[]
  staticTypes := #[]
  resolved := Array.replicate 124 none
  statics := none }

def pool1 : Array CpInfo := pool [(2, .class_ 4), (1, u "java/lang/Object"), (0, u "<init>"), (0, u "()V"), (0, .long 4294967296), (1, .integer 2147483647), (0, .class_ 11), (0, u "com/example/fusewire/fusewire/SeededRandom"), (0, .methodref 10 13), (0, .nameAndType 5 14), (0, u "(J)V"), (0, .methodref 10 16), (0, .nameAndType 17 18), (0, u "nextInt"), (0, u "(I)I"), (0, .methodref 10 20), (0, .nameAndType 21 22), (0, u "nextLong"), (0, u "()J"), (0, .methodref 24 25), (0, .class_ 26), (0, .nameAndType 27 28), (0, u "com/example/fusewire/fusewire/SeededRandomNextIntPinLaw"), (0, u "fits"), (0, u "(JJ)Z"), (3, u "law"), (0, u "(JI)Z")] 2

def k1m0 : Method := { name := "<init>", desc := "()V", sig := { parameters := [], returnType := none }, accessFlags := 2, code := none }
def k1c1 : Code := { maxStack := 4, maxLocals := 4, code := method_2_code, exceptionTable := #[], attributes := #[] }
def k1m1 : Method := { name := "fits", desc := "(JJ)Z", sig := { parameters := [.long, .long], returnType := some .boolean }, accessFlags := 10, code := some k1c1 }
def k1c2 : Code := { maxStack := 5, maxLocals := 15, code := code, exceptionTable := #[], attributes := #[] }
def k1m2 : Method := { name := "law", desc := "(JI)Z", sig := { parameters := [.long, .int], returnType := some .boolean }, accessFlags := 9, code := some k1c2 }
/-- com/example/fusewire/fusewire/SeededRandomNextIntPinLaw -/
def k1 : Class := { plain "com/example/fusewire/fusewire/SeededRandomNextIntPinLaw" (some 0) with
  accessFlags := 49
  interfaces := #[]
  cf := some (fileOf pool1 24 #[] #[{ accessFlags := 2, nameIndex := 5, descriptorIndex := 6, attributes := #[] }, { accessFlags := 10, nameIndex := 27, descriptorIndex := 28, attributes := #[] }, { accessFlags := 9, nameIndex := 32, descriptorIndex := 33, attributes := #[] }] 49 2 #[] #[])
  fields := #[]
  methods := #[k1m0, k1m1, k1m2]
  instanceTypes := #[]
  staticTypes := #[]
  resolved := Array.replicate 36 none
  statics := none }

def pool2 : Array CpInfo := pool [(1, .methodref 2 3), (0, .class_ 4), (0, .nameAndType 5 6), (0, u "java/lang/Object"), (0, u "<init>"), (0, u "()V"), (0, .fieldref 8 9), (0, .class_ 10), (0, .nameAndType 11 12), (0, u "com/example/fusewire/fusewire/SeededRandom"), (0, u "state"), (0, u "J"), (0, .long 11400714819323198485), (1, .long 13787848793156543929), (1, .long 10723151780598845931), (10, .long 4294967296), (1, .methodref 8 31), (0, .nameAndType 32 33), (0, u "nextLong"), (0, u "()J"), (8, u "nextInt"), (0, u "(I)I"), (6, u "GAMMA"), (1, u "(J)V")] 24

def k2c0 : Code := { maxStack := 3, maxLocals := 3, code := prog_55_method_1_code, exceptionTable := #[], attributes := #[] }
def k2m0 : Method := { name := "<init>", desc := "(J)V", sig := { parameters := [.long], returnType := none }, accessFlags := 0, code := some k2c0 }
def k2c1 : Code := { maxStack := 5, maxLocals := 3, code := prog_55_method_2_code, exceptionTable := #[], attributes := #[] }
def k2m1 : Method := { name := "nextLong", desc := "()J", sig := { parameters := [], returnType := some .long }, accessFlags := 0, code := some k2c1 }
def k2c2 : Code := { maxStack := 6, maxLocals := 8, code := prog_55_method_3_code, exceptionTable := #[], attributes := #[] }
def k2m2 : Method := { name := "nextInt", desc := "(I)I", sig := { parameters := [.int], returnType := some .int }, accessFlags := 0, code := some k2c2 }
/-- com/example/fusewire/fusewire/SeededRandom -/
def k2 : Class := { plain "com/example/fusewire/fusewire/SeededRandom" (some 0) with
  accessFlags := 48
  interfaces := #[]
  cf := some (fileOf pool2 8 #[] #[{ accessFlags := 0, nameIndex := 5, descriptorIndex := 52, attributes := #[] }, { accessFlags := 0, nameIndex := 32, descriptorIndex := 33, attributes := #[] }, { accessFlags := 0, nameIndex := 42, descriptorIndex := 43, attributes := #[] }] 48 2 #[] #[{ accessFlags := 26, nameIndex := 50, descriptorIndex := 12, attributes := #[] }, { accessFlags := 2, nameIndex := 11, descriptorIndex := 12, attributes := #[] }])
  fields := #[{ name := "GAMMA", type := .long, accessFlags := 26, slot := 0, constantValue := 0 }, { name := "state", type := .long, accessFlags := 2, slot := 0, constantValue := 0 }]
  methods := #[k2m0, k2m1, k2m2]
  instanceTypes := #[.long]
  staticTypes := #[.long]
  resolved := Array.replicate 77 none
  statics := none }

def pool3 : Array CpInfo := pool [(1, u "java/lang/Cloneable"), (0, .class_ 1), (0, u "java/lang/Object"), (0, .class_ 3)] 3

/-- java/lang/Cloneable -/
def k3 : Class := { plain "java/lang/Cloneable" (some 0) with
  accessFlags := 1537
  interfaces := #[]
  cf := some (fileOf pool3 2 #[] #[] 1537 4 #[] #[])
  fields := #[]
  methods := #[]
  instanceTypes := #[]
  staticTypes := #[]
  resolved := Array.replicate 8 none
  statics := none }

def pool4 : Array CpInfo := pool [(1, u "java/io/Serializable"), (0, .class_ 1), (0, u "java/lang/Object"), (0, .class_ 3)] 3

/-- java/io/Serializable -/
def k4 : Class := { plain "java/io/Serializable" (some 0) with
  accessFlags := 1537
  interfaces := #[]
  cf := some (fileOf pool4 2 #[] #[] 1537 4 #[] #[])
  fields := #[]
  methods := #[]
  instanceTypes := #[]
  staticTypes := #[]
  resolved := Array.replicate 8 none
  statics := none }

/-- the primitive byte -/
def k5 : Class := { plain "byte" none with kind := .primitive 'B', accessFlags := 0x411 }
/-- [B -/
def k6 : Class := { plain "[B" (some 0) with kind := .array 5 .byte, interfaces := #[3, 4], accessFlags := 1041 }

/-- the primitive int -/
def k7 : Class := { plain "int" none with kind := .primitive 'I', accessFlags := 0x411 }
/-- [I -/
def k8 : Class := { plain "[I" (some 0) with kind := .array 7 .int, interfaces := #[3, 4], accessFlags := 1041 }

def heap : Heap := #[]
def classes : Array Class := #[k0, k1, k2, k3, k4, k5, k6, k7, k8]
def interned : List (Array UInt16 × Addr) := []
def slotsUsed : Nat := 0
def theMethod : MethodId := ⟨1, 2⟩
def args0 : Array Value := #[.long 5, .int 3]
def aboutOver (below : List Frame) : State where
  vm := { classes := classes, interned := interned.toArray }
  heap := heap
  slotsUsed := slotsUsed
  threads := #[{ frames := .invoking theMethod args0 :: below }]
def below0 : List Frame := [.native { method := ⟨0, 0⟩, args := #[] }]
def about1 : State := aboutOver below0
def p0 : Program := .bare "" "" ""
def e0 : Env := launch0.env 0 0 0
theorem w_frames : about1.frames = Frame.invoking theMethod args0 :: below0 := rfl
set_option maxRecDepth 65536 in
theorem w_args : argsFit about1.vm theMethod args0 = true := by decide +kernel
set_option maxRecDepth 65536 in
theorem w_heap : heapFits about1 = true := by decide +kernel
set_option maxRecDepth 65536 in
theorem w_runnable : about1.curStatus? = some .runnable := by decide +kernel
set_option maxRecDepth 65536 in
theorem w_alone : about1.alone = true := by decide +kernel
set_option maxRecDepth 65536 in
theorem w_named : about1.methodNamed? x = some theMethod := by decide +kernel
set_option maxRecDepth 65536 in
theorem w_hears : about1.hears theMethod below0 = true := by decide +kernel
set_option maxRecDepth 65536 in
theorem w_ripe : about1.ripe theMethod args0 below0 = true := by decide +kernel
theorem w_running : about1.status = .running := rfl
set_option maxRecDepth 65536 in
theorem w_room : about1.hasRoom e0.platform room_1 = true :=
  launch0.hasRoom_least _ room_1 (by decide +kernel) (by decide +kernel) (by decide +kernel) (by decide +kernel) (by decide +kernel) (by decide +kernel)
theorem allAtoms_all (ts : List Jvm.Cond) (a : Array Jvm.Value) (st : Jvm.State) : (allAtoms ts).before a st = ts.all (fun c => c.before a st) := by
  induction ts with
  | nil => rfl
  | cons c t ih =>
    show (Jvm.Cond.and c (allAtoms t)).before a st = _
    rw [Jvm.Cond.before_and, ih, List.all_cons]
def words1 : List Jvm.Cond := Jvm.Cond.code x code maxLocals ret :: tables_1
/-- a 'code' word, met by the world's own term for the bytes: nothing is compared byte by byte -/
theorem code_word {y : MethodName} {bytes : ByteArray} {mx : Nat} {rt : Option FieldType} {a : Array Value} {s : State} {m : MethodId} {meth : Method} {c : Code} (h1 : s.methodNamed? y = some m) (h2 : s.vm.method? m = some meth) (h3 : meth.code = some c) (h4 : c.code = bytes)
    (h5 : (c.maxLocals == mx && c.exceptionTable.isEmpty && decide (c.maxStack ≤ mostOperands) && decide (meth.sig.returnType = rt) && !meth.locks && decide (parseMethodDescriptor y.desc = some meth.sig)) = true) : (Jvm.Cond.code y bytes mx rt).before a s = true := by
  simp only [Bool.and_eq_true, beq_iff_eq, Bool.not_eq_true', decide_eq_true_eq] at h5
  obtain ⟨⟨⟨⟨⟨g1, g2⟩, g3⟩, g4⟩, g5⟩, g6⟩ := h5
  simp [Cond.before, Cond.holds, Cond.value, h1, h2, h3, h4, g1, g2, g3, g4, g5, g6]
def isCode : Jvm.Cond → Bool
  | .code _ _ _ _ => true
  | _ => false
theorem all_split {L : List Jvm.Cond} {P : Jvm.Cond → Bool} (h1 : L.all (fun c => isCode c || P c) = true) (h2 : ∀ c ∈ L.filter isCode, P c = true) : L.all P = true := by
  refine List.all_eq_true.mpr fun c hc => ?_
  have h := List.all_eq_true.mp h1 c hc
  rcases Bool.eq_false_or_eq_true (isCode c) with hi | hi
  · exact h2 c (List.mem_filter.mpr ⟨hc, hi⟩)
  · simpa [hi] using h
set_option maxRecDepth 65536 in
theorem w_c0 : (Jvm.Cond.code x code maxLocals ret).before args0 about1 = true := code_word (m := ⟨1, 2⟩) (meth := k1m2) (c := k1c2) (by decide +kernel) rfl rfl rfl (by decide +kernel)
set_option maxRecDepth 65536 in
theorem w_c1 : (Jvm.Cond.code ({ cls := "com/example/fusewire/fusewire/SeededRandom", name := "<init>", desc := "(J)V" } : Jvm.MethodName) prog_55_method_1_code (3 : Nat) (Option.none : Option Jvm.ClassFile.FieldType)).before args0 about1 = true := code_word (m := ⟨2, 0⟩) (meth := k2m0) (c := k2c0) (by decide +kernel) rfl rfl rfl (by decide +kernel)
set_option maxRecDepth 65536 in
theorem w_c2 : (Jvm.Cond.code ({ cls := "java/lang/Object", name := "<init>", desc := "()V" } : Jvm.MethodName) object_method_1_code (1 : Nat) (Option.none : Option Jvm.ClassFile.FieldType)).before args0 about1 = true := code_word (m := ⟨0, 0⟩) (meth := k0m0) (c := k0c0) (by decide +kernel) rfl rfl rfl (by decide +kernel)
set_option maxRecDepth 65536 in
theorem w_c3 : (Jvm.Cond.code ({ cls := "com/example/fusewire/fusewire/SeededRandom", name := "nextInt", desc := "(I)I" } : Jvm.MethodName) prog_55_method_3_code (8 : Nat) (Option.some Jvm.ClassFile.FieldType.int)).before args0 about1 = true := code_word (m := ⟨2, 2⟩) (meth := k2m2) (c := k2c2) (by decide +kernel) rfl rfl rfl (by decide +kernel)
set_option maxRecDepth 65536 in
theorem w_c4 : (Jvm.Cond.code ({ cls := "com/example/fusewire/fusewire/SeededRandom", name := "nextLong", desc := "()J" } : Jvm.MethodName) prog_55_method_2_code (3 : Nat) (Option.some Jvm.ClassFile.FieldType.long)).before args0 about1 = true := code_word (m := ⟨2, 1⟩) (meth := k2m1) (c := k2c1) (by decide +kernel) rfl rfl rfl (by decide +kernel)
set_option maxRecDepth 65536 in
theorem w_c5 : (Jvm.Cond.code ({ cls := "com/example/fusewire/fusewire/SeededRandomNextIntPinLaw", name := "fits", desc := "(JJ)Z" } : Jvm.MethodName) method_2_code (4 : Nat) (Option.some Jvm.ClassFile.FieldType.boolean)).before args0 about1 = true := code_word (m := ⟨1, 1⟩) (meth := k1m1) (c := k1c1) (by decide +kernel) rfl rfl rfl (by decide +kernel)
def codes1 : List Jvm.Cond := [Jvm.Cond.code x code maxLocals ret, Jvm.Cond.code ({ cls := "com/example/fusewire/fusewire/SeededRandom", name := "<init>", desc := "(J)V" } : Jvm.MethodName) prog_55_method_1_code (3 : Nat) (Option.none : Option Jvm.ClassFile.FieldType), Jvm.Cond.code ({ cls := "java/lang/Object", name := "<init>", desc := "()V" } : Jvm.MethodName) object_method_1_code (1 : Nat) (Option.none : Option Jvm.ClassFile.FieldType), Jvm.Cond.code ({ cls := "com/example/fusewire/fusewire/SeededRandom", name := "nextInt", desc := "(I)I" } : Jvm.MethodName) prog_55_method_3_code (8 : Nat) (Option.some Jvm.ClassFile.FieldType.int), Jvm.Cond.code ({ cls := "com/example/fusewire/fusewire/SeededRandom", name := "nextLong", desc := "()J" } : Jvm.MethodName) prog_55_method_2_code (3 : Nat) (Option.some Jvm.ClassFile.FieldType.long), Jvm.Cond.code ({ cls := "com/example/fusewire/fusewire/SeededRandomNextIntPinLaw", name := "fits", desc := "(JJ)Z" } : Jvm.MethodName) method_2_code (4 : Nat) (Option.some Jvm.ClassFile.FieldType.boolean)]
set_option maxRecDepth 65536 in
theorem codes_eq : words1.filter isCode = codes1 := rfl
theorem w_codes : ∀ c ∈ words1.filter isCode, c.before args0 about1 = true := by
  rw [codes_eq]
  intro c hc
  simp only [codes1, List.mem_cons, List.not_mem_nil, or_false] at hc
  rcases hc with rfl | rfl | rfl | rfl | rfl | rfl
  · exact w_c0
  · exact w_c1
  · exact w_c2
  · exact w_c3
  · exact w_c4
  · exact w_c5
set_option maxRecDepth 65536 in
theorem w_t1 : (words1.take 24).all (fun c => isCode c || c.before args0 about1) = true := by decide +kernel
set_option maxRecDepth 65536 in
theorem w_t2 : (words1.drop 24).all (fun c => isCode c || c.before args0 about1) = true := by decide +kernel
theorem w_tables : (allAtoms (Jvm.Cond.code x code maxLocals ret :: tables_1)).before args0 about1 = true := by
  rw [allAtoms_all]
  show words1.all (fun c => c.before args0 about1) = true
  refine all_split ?_ w_codes
  rw [← List.take_append_drop 24 words1, List.all_append, w_t1, w_t2]
  rfl
set_option maxRecDepth 65536 in
theorem w_case : (Jvm.Cond.and given_1 narrow_1).before args0 about1 = true := by decide +kernel
theorem w_applies : (headSpec (Jvm.Cond.code x code maxLocals ret :: tables_1) room_1).applies x e0.platform about1 = true :=
  (Spec.applies_iff w_frames).mpr ⟨w_running, w_runnable, w_alone, w_named, w_hears, w_ripe, w_room, w_tables⟩
theorem atStart : AtStart classFile x code maxLocals ret World_1 tables_1 room_1 Calls_1 rest_1 Pre_1 launch0 p0 e0 about1 theMethod args0 below0 :=
  ⟨lists_1, trivial, launch0.admits_env _ _ _, launch0.least_env, fairChoices_fair.cas, fairChoices_fair.clock, w_frames, w_args, w_heap, w_applies, trivial, trivial, w_case⟩
end start1
theorem witness_1 : WitnessClaimed_1 := ⟨start1.p0, start1.e0, start1.about1, start1.theMethod, start1.args0, start1.below0, start1.atStart⟩
end Jvm.Pilot.@@N@@

import JvmDerived
import JvmDerived.Pilot.@@N@@Statement
import JvmDerived.Pilot.@@N@@Code
set_option linter.unusedVariables false
set_option linter.unusedSimpArgs false
namespace Jvm.Pilot.@@N@@
open Jvm Jvm.ClassFile Sem Op Lib Jvm.Free Jvm.Stand Jvm.LawKit Jvm.RoadKit Bundle Jvm.Pilot.@@N@@.Jvm.D
def own_ushr (x y : Int32) : Int32 := (x.toUInt32 >>> (y &&& 31).toUInt32).toInt32
def own_ushrL (x : Int64) (y : Int32) : Int64 := (x.toUInt64 >>> (y &&& 0x3f).toInt64.toUInt64).toInt64
section OwnKit
variable {p : Program} {l : Launch} {e : Env} {R : Room} {s : State} {m : MethodId} {args : Array Value} {below : List Frame} {meth : Method} {c : Code} {T : State} {locs : List Loc} {cells slots : Nat} {Z : State} {h h0 : Heap} {ce sl : Nat} {Q : Option Value → Heap → List Loc → Prop} {U U' : State} {a0 : Array Value}
/-- from U the walk comes to its return, and what it leaves is Q -/
def Go (p : Program) (e : Env) (below : List Frame) (s : State) (ce sl : Nat) (Q : Option Value → Heap → List Loc → Prop) (U : State) : Prop :=
  ∃ s₂ o, Steps p.tables e below U s₂ ∧ s₂.status = .running ∧ Ended s₂ below o ∧ ∃ v L, o = .returned v ∧ Q v s₂.heap L ∧ FrameEnd s o s₂ L ce sl
theorem Go.via (h : ∀ t, Steps p.tables e below U' t → Steps p.tables e below U t) (g : Go p e below s ce sl Q U') : Go p e below s ce sl Q U := by
  obtain ⟨s₂, o, h1, h2⟩ := g
  exact ⟨s₂, o, h _ h1, h2⟩
theorem Go.cast {g g' : JFrame} (q : g = g') (k : Go p e below s ce sl Q (T.setTop g')) : Go p e below s ce sl Q (T.setTop g) := q ▸ k
/-- the contract of a body: called with as', over the heap h0, it returns and leaves Q -/
def Meets (l : Launch) (Z : State) (y : MethodName) (bytes : ByteArray) (maxL : Nat) (rt : Option FieldType) (ws : List Jvm.Cond) (rm : Room) (as' : Array Value) (h0 : Heap) (Q : Option Value → Heap → List Loc → Prop) : Prop :=
  MetFree l y (head1 (Jvm.Cond.code y bytes maxL rt :: ws) rm) (fun a U => a = as' ∧ Z.Warmed39 U.vm ∧ U.heap = h0) (fun _ _ _ _ _ => True) (fun _ U o U' => ∃ v L, o = .returned v ∧ Q v U'.heap L ∧ FrameEnd U o U' L rm.cells rm.slots)
theorem meets_of {y : MethodName} {bytes : ByteArray} {maxL : Nat} {rt : Option FieldType} {ws : List Jvm.Cond} {rm : Room} {as' : Array Value} (hpl : plainFor y = true)
    (body : ∀ p e s m below meth c s₁, Stand p l e rm s m as' below meth c s₁ [] 0 0 → p.tables.exec = Jvm.exec → Z.Warmed39 s.vm → c.code = bytes → c.maxLocals = maxL → meth.sig.returnType = rt → meth.locks = false → s.vm.findClass y.cls = some m.cls → meth.name = y.name → s₁.heap = h0 →
      Go p e below s rm.cells rm.slots Q (s₁.setTop (entryFrame m as' maxL))) : Meets l Z y bytes maxL rt ws rm as' h0 Q := by
  refine MetFree.of_bodySF hpl hisR ?_
  intro p e s m args below meth c s₁ Bd hml hP hK
  obtain ⟨rfl, hZ, hh⟩ := hP
  exact body p e s m below meth c s₁ (Stand.of_body Bd) Bd.exec hZ Bd.bytes hml Bd.returns Bd.notSynchronized (findClass_of_methodNamed Bd.named) (name_of_methodNamed Bd.named Bd.method).1 (by rw [← hh, Bd.state]; rfl)
theorem go_ret (X : Stand p l e R s m args below meth c T locs cells slots) (hlk : meth.locks = false) {v : Option Value} (hv : meth.sig.returnType = none → v = none) (eT : T.heap = h) (hQ : Q v h locs) (hc : cells ≤ ce) (hs : slots ≤ sl)
    (st : ∀ fs, (∀ (f : JFrame) (acts : List Action), f.method = m → f.locked = none → f.entered = [] → (doReturn e (T.setTop f) acts v).1 = T.setFrames fs) → Steps p.tables e below U (T.setFrames fs)) : Go p e below s ce sl Q U := by
  obtain ⟨fs, hr, hrun, hended, hW, hsame⟩ := X.leave hv hlk
  exact ⟨_, _, st fs hr, hrun, hended, v, locs, rfl, (by show Q v T.heap locs; rw [eT]; exact hQ), ⟨_, rfl⟩, hW, hsame.mono hc hs⟩
theorem go_retN (X : Stand p l e R s m args below meth c T locs cells slots) (hx : p.tables.exec = Jvm.exec) (hlk : meth.locks = false) {t : FieldType} (hret : meth.sig.returnType = some t) (ht : t = .boolean ∨ t = .byte ∨ t = .char ∨ t = .short) {pc : Nat} {Ls : Array Slot} {z : Int32} {rest : List Value}
    (hd : decode c.code pc = .ok (.ireturn, 1)) (eT : T.heap = h) (hQ : Q (some (.int (nar t z))) h locs) (hc : cells ≤ ce) (hs : slots ≤ sl) : Go p e below s ce sl Q (T.setTop (mkF m pc Ls (.int z :: rest))) :=
  go_ret X hlk (fun h => by rw [hret] at h; cases h) eT hQ hc hs (fun fs hr => retN X hx hret ht hd hr)
theorem go_retI (X : Stand p l e R s m args below meth c T locs cells slots) (hx : p.tables.exec = Jvm.exec) (hlk : meth.locks = false) (hret : meth.sig.returnType = some .int) {pc : Nat} {Ls : Array Slot} {z : Int32} {rest : List Value}
    (hd : decode c.code pc = .ok (.ireturn, 1)) (eT : T.heap = h) (hQ : Q (some (.int z)) h locs) (hc : cells ≤ ce) (hs : slots ≤ sl) : Go p e below s ce sl Q (T.setTop (mkF m pc Ls (.int z :: rest))) :=
  go_ret X hlk (fun h => by rw [hret] at h; cases h) eT hQ hc hs (fun fs hr => retOut X hx hret rfl (Or.inl ⟨rfl, Or.inl rfl, z, rfl⟩) hd hr)
theorem go_retJ (X : Stand p l e R s m args below meth c T locs cells slots) (hx : p.tables.exec = Jvm.exec) (hlk : meth.locks = false) (hret : meth.sig.returnType = some .long) {pc : Nat} {Ls : Array Slot} {z : Int64} {rest : List Value}
    (hd : decode c.code pc = .ok (.lreturn, 1)) (eT : T.heap = h) (hQ : Q (some (.long z)) h locs) (hc : cells ≤ ce) (hs : slots ≤ sl) : Go p e below s ce sl Q (T.setTop (mkF m pc Ls (.long z :: rest))) :=
  go_ret X hlk (fun h => by rw [hret] at h; cases h) eT hQ hc hs (fun fs hr => retOut X hx hret rfl (Or.inr (Or.inl ⟨rfl, rfl, z, rfl⟩)) hd hr)
theorem go_retA (X : Stand p l e R s m args below meth c T locs cells slots) (hx : p.tables.exec = Jvm.exec) (hlk : meth.locks = false) {t : FieldType} (hret : meth.sig.returnType = some t) (ht : t.isReference = true) {pc : Nat} {Ls : Array Slot} {w : Value} (hw : w.isRef = true) (hn : narrow t w = w) {rest : List Value}
    (hd : decode c.code pc = .ok (.areturn, 1)) (eT : T.heap = h) (hQ : Q (some w) h locs) (hc : cells ≤ ce) (hs : slots ≤ sl) : Go p e below s ce sl Q (T.setTop (mkF m pc Ls (w :: rest))) :=
  go_ret X hlk (fun h => by rw [hret] at h; cases h) eT hQ hc hs (fun fs hr => retOut X hx hret hn (Or.inr (Or.inr (Or.inr (Or.inr ⟨rfl, ht, hw⟩)))) hd hr)
theorem go_retV (X : Stand p l e R s m args below meth c T locs cells slots) (hx : p.tables.exec = Jvm.exec) (hlk : meth.locks = false) (hret : meth.sig.returnType = none) {pc : Nat} {Ls : Array Slot}
    (hd : decode c.code pc = .ok (.return_, 1)) (eT : T.heap = h) (hQ : Q none h locs) (hc : cells ≤ ce) (hs : slots ≤ sl) : Go p e below s ce sl Q (T.setTop (mkF m pc Ls [])) :=
  go_ret X hlk (fun _ => rfl) eT hQ hc hs (fun fs hr => X.returnOut hx hret hd hr)
/-- it returned v, wrote nothing and made nothing -/
def PureR (v : Option Value) (h0 : Heap) : Option Value → Heap → List Loc → Prop := fun v' h L => v' = v ∧ h = h0 ∧ L = []
/-- a static method by its contract -/
theorem callSQ (X : Stand p l e R s m args below meth c T locs cells slots) (hx : p.tables.exec = Jvm.exec) (hZ : Z.Warmed39 s.vm) {own : String} {index : Nat} {y : MethodName} {bytes : ByteArray} {maxL : Nat} {rt : Option FieldType} {rm : Room}
    (hown : s.vm.findClass own = some m.cls) (w1 : (Jvm.Cond.methodLink own index y).before a0 Z = true) (w2 : (Jvm.Cond.static y).before a0 Z = true) (w3 : (Jvm.Cond.initialized y.cls).before a0 Z = true) (w4 : (Jvm.Cond.code y bytes maxL rt).before a0 Z = true)
    (hy : y.cls ≠ "java/lang/invoke/MethodHandle" ∧ y.cls ≠ "java/lang/invoke/VarHandle") {av : List Value} (hM : Meets l Z y bytes maxL rt [] rm av.toArray h Q) (eT : T.heap = h)
    {pc : Nat} {Ls : Array Slot} {rest : List Value} {ps : List FieldType} {r : Option FieldType} (hsize : Ls.size = c.maxLocals) (hp : parseMethodDescriptor y.desc = some ⟨ps, r⟩) (hlen : av.length = ps.length)
    (W : Nat) (hW : (rest.map fun v => v.category).sum ≤ W) (hf : rm.frames + 1 ≤ R.frames) (hl : W + (maxL + 11) + rm.locals ≤ R.locals) (hc : cells + rm.cells ≤ R.cells) (hs : slots + rm.slots ≤ R.slots) (hd : decode c.code pc = .ok (.invokestatic index, 3)) :
    ∃ v T' L, Stand p l e R s m args below meth c T' (locs ++ L) (cells + rm.cells) (slots + rm.slots) ∧ Q v T'.heap L ∧
      ∀ t, Steps p.tables e below (T'.setTop (mkF m (pc + 3) Ls (v.toList ++ rest))) t → Steps p.tables e below (T.setTop (mkF m pc Ls (av.reverse ++ rest))) t := by
  obtain ⟨v, _, ⟨T2, L2, k2, n2⟩, -, X2, ⟨Lc2, hQ2, l2, y2, z2⟩, st2⟩ := Jvm.LawKit.callS X hx (y := y) hown (mvT hZ w1) (mvT hZ w2) (mvT hZ w3) (mvT hZ w4) hy (backOf (W := W) hM hZ w4 w3 hf hl) (g := mkF m pc Ls (av.reverse ++ rest)) rfl hsize (argsL := av) (rest := rest) (lenOf hp hlen) rfl (by show 2 * 0 + _ ≤ _; rw [Nat.mul_zero, Nat.zero_add]; exact hW) hd (fun _ _ => ⟨rfl, eT, hc, hs⟩)
  dsimp only [Pt.U, Pt.locs, Pt.cells, Pt.slots] at X2 l2 y2 z2 st2 hQ2
  subst l2 y2 z2
  exact ⟨v, T2, Lc2, X2, hQ2, st2⟩
/-- a static method that writes and makes nothing -/
theorem callS0 (X : Stand p l e R s m args below meth c T locs cells slots) (hx : p.tables.exec = Jvm.exec) (hZ : Z.Warmed39 s.vm) {own : String} {index : Nat} {y : MethodName} {bytes : ByteArray} {maxL : Nat} {rt : Option FieldType} {fr lo : Nat} {v : Option Value}
    (hown : s.vm.findClass own = some m.cls) (w1 : (Jvm.Cond.methodLink own index y).before a0 Z = true) (w2 : (Jvm.Cond.static y).before a0 Z = true) (w3 : (Jvm.Cond.initialized y.cls).before a0 Z = true) (w4 : (Jvm.Cond.code y bytes maxL rt).before a0 Z = true)
    (hy : y.cls ≠ "java/lang/invoke/MethodHandle" ∧ y.cls ≠ "java/lang/invoke/VarHandle") {av : List Value} (hM : Meets l Z y bytes maxL rt [] ({ frames := fr, cells := 0, slots := 0, locals := lo } : Room) av.toArray h (PureR v h)) (eT : T.heap = h)
    {pc : Nat} {Ls : Array Slot} {rest : List Value} {ps : List FieldType} {r : Option FieldType} (hsize : Ls.size = c.maxLocals) (hp : parseMethodDescriptor y.desc = some ⟨ps, r⟩) (hlen : av.length = ps.length)
    (W : Nat) (hW : (rest.map fun v => v.category).sum ≤ W) (hf : fr + 1 ≤ R.frames) (hl : W + (maxL + 11) + lo ≤ R.locals) (hc : cells ≤ R.cells) (hs : slots ≤ R.slots) (hd : decode c.code pc = .ok (.invokestatic index, 3)) :
    ∃ T', Stand p l e R s m args below meth c T' locs cells slots ∧ T'.heap = h ∧
      ∀ t, Steps p.tables e below (T'.setTop (mkF m (pc + 3) Ls (v.toList ++ rest))) t → Steps p.tables e below (T.setTop (mkF m pc Ls (av.reverse ++ rest))) t := by
  obtain ⟨_, T2, _, X2, ⟨rfl, h2, rfl⟩, st2⟩ := callSQ X hx hZ hown w1 w2 w3 w4 hy hM eT hsize hp hlen W hW hf hl hc hs hd
  rw [List.append_nil] at X2
  exact ⟨T2, X2, h2, st2⟩
end OwnKit
section OwnKit2
variable {p : Program} {l : Launch} {e : Env} {R : Room} {s : State} {m : MethodId} {args : Array Value} {below : List Frame} {meth : Method} {c : Code} {T : State} {locs : List Loc} {cells slots : Nat} {Z : State} {h h0 : Heap} {ce sl : Nat} {Q : Option Value → Heap → List Loc → Prop} {U U' : State} {a0 : Array Value}
/-- an instance method by its contract, the resolved one being the selected one -/
theorem callVQ (X : Stand p l e R s m args below meth c T locs cells slots) (hx : p.tables.exec = Jvm.exec) (hZ : Z.Warmed39 s.vm) {own C : String} {index : Nat} {y : MethodName} {bytes : ByteArray} {maxL : Nat} {rt : Option FieldType} {rm : Room}
    (hown : s.vm.findClass own = some m.cls) (w1 : (Jvm.Cond.methodLink own index y).before a0 Z = true) (w2 : (Jvm.Cond.declares y).before a0 Z = true) (w3 : (Jvm.Cond.selects C y y).before a0 Z = true) (w5 : (Jvm.Cond.instanceMethod y).before a0 Z = true) (w6 : (Jvm.Cond.initialized y.cls).before a0 Z = true) (w4 : (Jvm.Cond.code y bytes maxL rt).before a0 Z = true)
    (hy : y.cls ≠ "java/lang/invoke/MethodHandle" ∧ y.cls ≠ "java/lang/invoke/VarHandle") {b : Addr} {av : List Value} (hE : Exa Z h b C) (hM : Meets l Z y bytes maxL rt [] rm (.ref b :: av).toArray h Q) (eT : T.heap = h)
    {pc : Nat} {Ls : Array Slot} {rest : List Value} {ps : List FieldType} {r : Option FieldType} (hsize : Ls.size = c.maxLocals) (hp : parseMethodDescriptor y.desc = some ⟨ps, r⟩) (hlen : av.length = ps.length)
    (W : Nat) (hW : (rest.map fun v => v.category).sum ≤ W) (hf : rm.frames + 1 ≤ R.frames) (hl : W + (maxL + 11) + rm.locals ≤ R.locals) (hc : cells + rm.cells ≤ R.cells) (hs : slots + rm.slots ≤ R.slots) (hd : decode c.code pc = .ok (.invokevirtual index, 3)) :
    ∃ v T' L, Stand p l e R s m args below meth c T' (locs ++ L) (cells + rm.cells) (slots + rm.slots) ∧ Q v T'.heap L ∧
      ∀ t, Steps p.tables e below (T'.setTop (mkF m (pc + 3) Ls (v.toList ++ rest))) t → Steps p.tables e below (T.setTop (mkF m pc Ls (av.reverse ++ .ref b :: rest))) t := by
  obtain ⟨cq, kq, qa, qb, qc⟩ := isOf hZ eT hE
  obtain ⟨v, _, ⟨T2, L2, k2, n2⟩, -, X2, ⟨Lc2, hQ2, l2, y2, z2⟩, st2⟩ := X.virtualBack hx (y := y) (z := y) hown (mvT hZ w1) (mvT hZ w2) (notFace_of_selects (args := #[]) (mvT hZ w3)) (mvT hZ w3) (mvT hZ w5) hy (backOf (W := W) hM hZ w4 w6 hf hl) qa qc (g := mkF m pc Ls (av.reverse ++ .ref b :: rest)) rfl hsize (Steps.refl _) (argsL := av) (rest := rest) (lenOf hp hlen) rfl (by show 2 * 0 + _ ≤ _; rw [Nat.mul_zero, Nat.zero_add]; exact hW) hd (fun _ _ => ⟨rfl, eT, hc, hs⟩)
  dsimp only [Pt.U, Pt.locs, Pt.cells, Pt.slots] at X2 l2 y2 z2 st2 hQ2
  subst l2 y2 z2
  exact ⟨v, T2, Lc2, X2, hQ2, fun t k => st2.trans k⟩
theorem callV0 (X : Stand p l e R s m args below meth c T locs cells slots) (hx : p.tables.exec = Jvm.exec) (hZ : Z.Warmed39 s.vm) {own C : String} {index : Nat} {y : MethodName} {bytes : ByteArray} {maxL : Nat} {rt : Option FieldType} {fr lo : Nat} {v : Option Value}
    (hown : s.vm.findClass own = some m.cls) (w1 : (Jvm.Cond.methodLink own index y).before a0 Z = true) (w2 : (Jvm.Cond.declares y).before a0 Z = true) (w3 : (Jvm.Cond.selects C y y).before a0 Z = true) (w5 : (Jvm.Cond.instanceMethod y).before a0 Z = true) (w6 : (Jvm.Cond.initialized y.cls).before a0 Z = true) (w4 : (Jvm.Cond.code y bytes maxL rt).before a0 Z = true)
    (hy : y.cls ≠ "java/lang/invoke/MethodHandle" ∧ y.cls ≠ "java/lang/invoke/VarHandle") {b : Addr} {av : List Value} (hE : Exa Z h b C) (hM : Meets l Z y bytes maxL rt [] ({ frames := fr, cells := 0, slots := 0, locals := lo } : Room) (.ref b :: av).toArray h (PureR v h)) (eT : T.heap = h)
    {pc : Nat} {Ls : Array Slot} {rest : List Value} {ps : List FieldType} {r : Option FieldType} (hsize : Ls.size = c.maxLocals) (hp : parseMethodDescriptor y.desc = some ⟨ps, r⟩) (hlen : av.length = ps.length)
    (W : Nat) (hW : (rest.map fun v => v.category).sum ≤ W) (hf : fr + 1 ≤ R.frames) (hl : W + (maxL + 11) + lo ≤ R.locals) (hc : cells ≤ R.cells) (hs : slots ≤ R.slots) (hd : decode c.code pc = .ok (.invokevirtual index, 3)) :
    ∃ T', Stand p l e R s m args below meth c T' locs cells slots ∧ T'.heap = h ∧
      ∀ t, Steps p.tables e below (T'.setTop (mkF m (pc + 3) Ls (v.toList ++ rest))) t → Steps p.tables e below (T.setTop (mkF m pc Ls (av.reverse ++ .ref b :: rest))) t := by
  obtain ⟨_, T2, _, X2, ⟨rfl, h2, rfl⟩, st2⟩ := callVQ X hx hZ hown w1 w2 w3 w5 w6 w4 hy hE hM eT hsize hp hlen W hW hf hl hc hs hd
  rw [List.append_nil] at X2
  exact ⟨T2, X2, h2, st2⟩
/-- a constructor by its contract -/
theorem callIQ (X : Stand p l e R s m args below meth c T locs cells slots) (hx : p.tables.exec = Jvm.exec) (hZ : Z.Warmed39 s.vm) {own : String} {index : Nat} {y : MethodName} {bytes : ByteArray} {maxL : Nat} {rm : Room} (hy1 : y.name = "<init>")
    (hown : s.vm.findClass own = some m.cls) (w1 : (Jvm.Cond.methodLink own index y).before a0 Z = true) (w5 : (Jvm.Cond.instanceMethod y).before a0 Z = true) (w6 : (Jvm.Cond.initialized y.cls).before a0 Z = true) (w4 : (Jvm.Cond.code y bytes maxL none).before a0 Z = true)
    (hy : y.cls ≠ "java/lang/invoke/MethodHandle" ∧ y.cls ≠ "java/lang/invoke/VarHandle") {b : Addr} {av : List Value} (hM : Meets l Z y bytes maxL none [] rm (.ref b :: av).toArray h Q) (eT : T.heap = h)
    {pc : Nat} {Ls : Array Slot} {rest : List Value} {ps : List FieldType} {r : Option FieldType} (hsize : Ls.size = c.maxLocals) (hp : parseMethodDescriptor y.desc = some ⟨ps, r⟩) (hlen : av.length = ps.length)
    (W : Nat) (hW : (rest.map fun v => v.category).sum ≤ W) (hf : rm.frames + 1 ≤ R.frames) (hl : W + (maxL + 11) + rm.locals ≤ R.locals) (hc : cells + rm.cells ≤ R.cells) (hs : slots + rm.slots ≤ R.slots) (hd : decode c.code pc = .ok (.invokespecial index, 3)) :
    ∃ v T' L, Stand p l e R s m args below meth c T' (locs ++ L) (cells + rm.cells) (slots + rm.slots) ∧ Q v T'.heap L ∧
      ∀ t, Steps p.tables e below (T'.setTop (mkF m (pc + 3) Ls (v.toList ++ rest))) t → Steps p.tables e below (T.setTop (mkF m pc Ls (av.reverse ++ .ref b :: rest))) t := by
  obtain ⟨v, _, ⟨T2, L2, k2, n2⟩, -, X2, ⟨Lc2, hQ2, l2, y2, z2⟩, st2⟩ := X.specialBack hx (y := y) hy1 hown (mvT hZ w1) (mvT hZ w5) (mvT hZ w4) hy (backOf (W := W) hM hZ w4 w6 hf hl) (g := mkF m pc Ls (av.reverse ++ .ref b :: rest)) rfl hsize (Steps.refl _) (a := b) (argsL := av) (rest := rest) (lenOf hp hlen) rfl (by show 2 * 0 + _ ≤ _; rw [Nat.mul_zero, Nat.zero_add]; exact hW) hd (fun _ _ => ⟨rfl, eT, hc, hs⟩)
  dsimp only [Pt.U, Pt.locs, Pt.cells, Pt.slots] at X2 l2 y2 z2 st2 hQ2
  subst l2 y2 z2
  exact ⟨v, T2, Lc2, X2, hQ2, fun t k => st2.trans k⟩
end OwnKit2
theorem own_k0 (m : MethodId) (x0 : Int64) : entryFrame m #[(.long x0)] 4 = mkF m 0 #[.val (.long x0), .second, .unset, .unset] [] := by first | (simp [entryFrame, mkF, argsToLocals, Value.category]; done) | rfl
theorem own_k1 : decode prog_50_method_2_code 0 = .ok (.lload_n 0, 1) := by decide +kernel
theorem own_k2 : decode prog_50_method_2_code 1 = .ok (.lstore_n 2, 1) := by decide +kernel
theorem own_k3 : decode prog_50_method_2_code 2 = .ok (.lload_n 2, 1) := by decide +kernel
theorem own_k4 : decode prog_50_method_2_code 3 = .ok (.lload_n 2, 1) := by decide +kernel
theorem own_k5 : decode prog_50_method_2_code 4 = .ok (.bipush 30, 2) := by decide +kernel
theorem own_k6 : decode prog_50_method_2_code 6 = .ok (.lushr, 1) := by decide +kernel
theorem own_k7 : decode prog_50_method_2_code 7 = .ok (.lxor, 1) := by decide +kernel
theorem own_k8 : decode prog_50_method_2_code 8 = .ok (.ldc2_w 13, 3) := by decide +kernel
def own_w5_0 (x0 : Int64) : Int64 := ((x0 ^^^ (own_ushrL x0 (30 : Int32))) * (-4658895280553007687 : Int64))
theorem own_k9 : decode prog_50_method_2_code 11 = .ok (.lmul, 1) := by decide +kernel
theorem own_k10 : decode prog_50_method_2_code 12 = .ok (.lstore_n 2, 1) := by decide +kernel
theorem own_k11 : decode prog_50_method_2_code 13 = .ok (.lload_n 2, 1) := by decide +kernel
theorem own_k12 : decode prog_50_method_2_code 14 = .ok (.lload_n 2, 1) := by decide +kernel
theorem own_k13 : decode prog_50_method_2_code 15 = .ok (.bipush 27, 2) := by decide +kernel
theorem own_k14 : decode prog_50_method_2_code 17 = .ok (.lushr, 1) := by decide +kernel
theorem own_k15 : decode prog_50_method_2_code 18 = .ok (.lxor, 1) := by decide +kernel
theorem own_k16 : decode prog_50_method_2_code 19 = .ok (.ldc2_w 15, 3) := by decide +kernel
def own_w5_1 (x0 : Int64) : Int64 := (((own_w5_0 x0) ^^^ (own_ushrL (own_w5_0 x0) (27 : Int32))) * (-7723592293110705685 : Int64))
theorem own_k17 : decode prog_50_method_2_code 22 = .ok (.lmul, 1) := by decide +kernel
theorem own_k18 : decode prog_50_method_2_code 23 = .ok (.lstore_n 2, 1) := by decide +kernel
theorem own_k19 : decode prog_50_method_2_code 24 = .ok (.lload_n 2, 1) := by decide +kernel
theorem own_k20 : decode prog_50_method_2_code 25 = .ok (.lload_n 2, 1) := by decide +kernel
theorem own_k21 : decode prog_50_method_2_code 26 = .ok (.bipush 31, 2) := by decide +kernel
theorem own_k22 : decode prog_50_method_2_code 28 = .ok (.lushr, 1) := by decide +kernel
theorem own_k23 : decode prog_50_method_2_code 29 = .ok (.lxor, 1) := by decide +kernel
theorem own_k24 : decode prog_50_method_2_code 30 = .ok (.lreturn, 1) := by decide +kernel
theorem own_k25 : plainName "com/example/libhazy/libhazy/SplitMix64" = true := by first | (simp [plainName, overriddenIn]; done) | decide +kernel
def own_f5 (x0 : Int64) : Int64 := ((own_w5_1 x0) ^^^ (own_ushrL (own_w5_1 x0) (31 : Int32)))
set_option maxRecDepth 65536 in
set_option maxHeartbeats 40000000 in
theorem own_rm5 (l : Launch) (Z : State) (a0 : Array Value) (hw : ∀ d ∈ tables_1, d.before a0 Z = true) (ws : List Jvm.Cond) (x0 : Int64) (h0 : Heap) : Meets l Z (⟨"com/example/libhazy/libhazy/SplitMix64", "mix", "(J)J"⟩ : MethodName) prog_50_method_2_code 4 (some .long) ws ({ frames := 0, cells := 0, slots := 0, locals := 0 } : Room) #[(.long x0)] h0 (PureR (some (.long (own_f5 x0))) h0) := by
  refine meets_of (plainFor_of_name own_k25) ?_
  intro p e s m below meth c s₁ X0 hx hZ hby hml hret hlk hown hnm e0
  replace hml : c.maxLocals = 4 := hml
  replace hown : s.vm.findClass "com/example/libhazy/libhazy/SplitMix64" = some m.cls := hown
  refine Go.cast (own_k0 m x0) ?_
  refine Go.via (U' := s₁.setTop (mkF m 1 #[.val (.long x0), .second, .unset, .unset] [(.long x0)])) (fun t k => XS.lloadN X0.here hx rfl (hb hby own_k1) rfl k) ?_
  refine Go.via (U' := s₁.setTop (mkF m 2 #[.val (.long x0), .second, .val (.long x0), .second] [])) (fun t k => XS.lstoreN X0.here hx rfl (hb hby own_k2) rfl (l' := #[.val (.long x0), .second, .val (.long x0), .second]) rfl k) ?_
  refine Go.via (U' := s₁.setTop (mkF m 3 #[.val (.long x0), .second, .val (.long x0), .second] [(.long x0)])) (fun t k => XS.lloadN X0.here hx rfl (hb hby own_k3) rfl k) ?_
  refine Go.via (U' := s₁.setTop (mkF m 4 #[.val (.long x0), .second, .val (.long x0), .second] [(.long x0), (.long x0)])) (fun t k => XS.lloadN X0.here hx rfl (hb hby own_k4) rfl k) ?_
  refine Go.via (U' := s₁.setTop (mkF m 6 #[.val (.long x0), .second, .val (.long x0), .second] [(.int (30 : Int32)), (.long x0), (.long x0)])) (fun t k => XS.bipush X0.here hx rfl (hb hby own_k5) k) ?_
  refine Go.via (U' := s₁.setTop (mkF m 7 #[.val (.long x0), .second, .val (.long x0), .second] [(.long (own_ushrL x0 (30 : Int32))), (.long x0)])) (fun t k => XS.lushr X0.here hx rfl (hb hby own_k6) rfl k) ?_
  refine Go.via (U' := s₁.setTop (mkF m 8 #[.val (.long x0), .second, .val (.long x0), .second] [(.long (x0 ^^^ (own_ushrL x0 (30 : Int32))))])) (fun t k => XS.lxor X0.here hx rfl (hb hby own_k7) rfl k) ?_
  refine Go.via (U' := s₁.setTop (mkF m 11 #[.val (.long x0), .second, .val (.long x0), .second] [(.long (-4658895280553007687 : Int64)), (.long (x0 ^^^ (own_ushrL x0 (30 : Int32))))])) (fun t k => X0.ldc2Long hx hown (mvT hZ (hw _ (List.mem_of_getElem? (i := 26) rfl))) (g := (mkF m 8 #[.val (.long x0), .second, .val (.long x0), .second] [(.long (x0 ^^^ (own_ushrL x0 (30 : Int32))))])) rfl (hb hby own_k8) t k) ?_
  refine Go.via (U' := s₁.setTop (mkF m 12 #[.val (.long x0), .second, .val (.long x0), .second] [(.long (own_w5_0 x0))])) (fun t k => XS.lmul X0.here hx rfl (hb hby own_k9) rfl k) ?_
  refine Go.via (U' := s₁.setTop (mkF m 13 #[.val (.long x0), .second, .val (.long (own_w5_0 x0)), .second] [])) (fun t k => XS.lstoreN X0.here hx rfl (hb hby own_k10) rfl (l' := #[.val (.long x0), .second, .val (.long (own_w5_0 x0)), .second]) rfl k) ?_
  refine Go.via (U' := s₁.setTop (mkF m 14 #[.val (.long x0), .second, .val (.long (own_w5_0 x0)), .second] [(.long (own_w5_0 x0))])) (fun t k => XS.lloadN X0.here hx rfl (hb hby own_k11) rfl k) ?_
  refine Go.via (U' := s₁.setTop (mkF m 15 #[.val (.long x0), .second, .val (.long (own_w5_0 x0)), .second] [(.long (own_w5_0 x0)), (.long (own_w5_0 x0))])) (fun t k => XS.lloadN X0.here hx rfl (hb hby own_k12) rfl k) ?_
  refine Go.via (U' := s₁.setTop (mkF m 17 #[.val (.long x0), .second, .val (.long (own_w5_0 x0)), .second] [(.int (27 : Int32)), (.long (own_w5_0 x0)), (.long (own_w5_0 x0))])) (fun t k => XS.bipush X0.here hx rfl (hb hby own_k13) k) ?_
  refine Go.via (U' := s₁.setTop (mkF m 18 #[.val (.long x0), .second, .val (.long (own_w5_0 x0)), .second] [(.long (own_ushrL (own_w5_0 x0) (27 : Int32))), (.long (own_w5_0 x0))])) (fun t k => XS.lushr X0.here hx rfl (hb hby own_k14) rfl k) ?_
  refine Go.via (U' := s₁.setTop (mkF m 19 #[.val (.long x0), .second, .val (.long (own_w5_0 x0)), .second] [(.long ((own_w5_0 x0) ^^^ (own_ushrL (own_w5_0 x0) (27 : Int32))))])) (fun t k => XS.lxor X0.here hx rfl (hb hby own_k15) rfl k) ?_
  refine Go.via (U' := s₁.setTop (mkF m 22 #[.val (.long x0), .second, .val (.long (own_w5_0 x0)), .second] [(.long (-7723592293110705685 : Int64)), (.long ((own_w5_0 x0) ^^^ (own_ushrL (own_w5_0 x0) (27 : Int32))))])) (fun t k => X0.ldc2Long hx hown (mvT hZ (hw _ (List.mem_of_getElem? (i := 27) rfl))) (g := (mkF m 19 #[.val (.long x0), .second, .val (.long (own_w5_0 x0)), .second] [(.long ((own_w5_0 x0) ^^^ (own_ushrL (own_w5_0 x0) (27 : Int32))))])) rfl (hb hby own_k16) t k) ?_
  refine Go.via (U' := s₁.setTop (mkF m 23 #[.val (.long x0), .second, .val (.long (own_w5_0 x0)), .second] [(.long (own_w5_1 x0))])) (fun t k => XS.lmul X0.here hx rfl (hb hby own_k17) rfl k) ?_
  refine Go.via (U' := s₁.setTop (mkF m 24 #[.val (.long x0), .second, .val (.long (own_w5_1 x0)), .second] [])) (fun t k => XS.lstoreN X0.here hx rfl (hb hby own_k18) rfl (l' := #[.val (.long x0), .second, .val (.long (own_w5_1 x0)), .second]) rfl k) ?_
  refine Go.via (U' := s₁.setTop (mkF m 25 #[.val (.long x0), .second, .val (.long (own_w5_1 x0)), .second] [(.long (own_w5_1 x0))])) (fun t k => XS.lloadN X0.here hx rfl (hb hby own_k19) rfl k) ?_
  refine Go.via (U' := s₁.setTop (mkF m 26 #[.val (.long x0), .second, .val (.long (own_w5_1 x0)), .second] [(.long (own_w5_1 x0)), (.long (own_w5_1 x0))])) (fun t k => XS.lloadN X0.here hx rfl (hb hby own_k20) rfl k) ?_
  refine Go.via (U' := s₁.setTop (mkF m 28 #[.val (.long x0), .second, .val (.long (own_w5_1 x0)), .second] [(.int (31 : Int32)), (.long (own_w5_1 x0)), (.long (own_w5_1 x0))])) (fun t k => XS.bipush X0.here hx rfl (hb hby own_k21) k) ?_
  refine Go.via (U' := s₁.setTop (mkF m 29 #[.val (.long x0), .second, .val (.long (own_w5_1 x0)), .second] [(.long (own_ushrL (own_w5_1 x0) (31 : Int32))), (.long (own_w5_1 x0))])) (fun t k => XS.lushr X0.here hx rfl (hb hby own_k22) rfl k) ?_
  refine Go.via (U' := s₁.setTop (mkF m 30 #[.val (.long x0), .second, .val (.long (own_w5_1 x0)), .second] [(.long ((own_w5_1 x0) ^^^ (own_ushrL (own_w5_1 x0) (31 : Int32))))])) (fun t k => XS.lxor X0.here hx rfl (hb hby own_k23) rfl k) ?_
  exact go_retJ X0 hx hlk hret (hb hby own_k24) e0 ⟨(congrArg (fun z => some (Value.long z)) (show ((own_w5_1 x0) ^^^ (own_ushrL (own_w5_1 x0) (31 : Int32))) = (own_f5 x0) from by rfl)), rfl, rfl⟩ (by decide) (by decide)
theorem own_k26 (m : MethodId) (a : Addr) (x0 : Int64) : entryFrame m #[(.ref a), (.long x0)] 3 = mkF m 0 #[.val (.ref a), .val (.long x0), .second] [] := by first | (simp [entryFrame, mkF, argsToLocals, Value.category]; done) | rfl
theorem own_k27 : decode prog_50_method_1_code 0 = .ok (.aload_n 0, 1) := by decide +kernel
theorem own_k28 : decode prog_50_method_1_code 1 = .ok (.invokespecial 1, 3) := by decide +kernel
theorem own_k29 : decode prog_50_method_1_code 4 = .ok (.aload_n 0, 1) := by decide +kernel
theorem own_k30 : decode prog_50_method_1_code 5 = .ok (.lload_n 1, 1) := by decide +kernel
theorem own_k31 : decode prog_50_method_1_code 6 = .ok (.putfield 7, 3) := by decide +kernel
theorem own_k32 : decode prog_50_method_1_code 9 = .ok (.return_, 1) := by decide +kernel
set_option maxRecDepth 65536 in
set_option maxHeartbeats 40000000 in
theorem own_rm1 (l : Launch) (Z : State) (a0 : Array Value) (hw : ∀ d ∈ tables_1, d.before a0 Z = true) (ws : List Jvm.Cond) (a : Addr) (x0 : Int64) (h0 : Heap) (n0 : Nat) (hn0 : n0 ≤ h0.size) (E_a : Exa Z h0 a "com/example/libhazy/libhazy/SplitMix64") (F_a_state : Fld Z h0 a "com/example/libhazy/libhazy/SplitMix64" "state" "J" (.long (0 : Int64))) (g_a : n0 ≤ a) : Meets l Z (⟨"com/example/libhazy/libhazy/SplitMix64", "<init>", "(J)V"⟩ : MethodName) prog_50_method_1_code 3 none ws ({ frames := 1, cells := 0, slots := 0, locals := 12 } : Room) #[(.ref a), (.long x0)] h0 (fun v h L => v = none ∧ Fr n0 L ∧ Keep h0 h [a] ∧ Exa Z h a "com/example/libhazy/libhazy/SplitMix64" ∧ Fld Z h a "com/example/libhazy/libhazy/SplitMix64" "state" "J" (.long x0)) := by
  refine meets_of (plainFor_of_name own_k25) ?_
  intro p e s m below meth c s₁ X0 hx hZ hby hml hret hlk hown hnm e0
  replace hml : c.maxLocals = 3 := hml
  replace hown : s.vm.findClass "com/example/libhazy/libhazy/SplitMix64" = some m.cls := hown
  refine Go.cast (own_k26 m a x0) ?_
  have N0 := Fr.nil n0
  have K0 : Keep h0 h0 [a] := Keep.refl h0 _
  refine Go.via (U' := s₁.setTop (mkF m 1 #[.val (.ref a), .val (.long x0), .second] [(.ref a)])) (fun t k => XS.aloadN X0.here hx rfl (hb hby own_k27) rfl rfl k) ?_
  obtain ⟨T1, X1, e1, st1⟩ := initO X0 hx hZ hown (hw _ (List.mem_of_getElem? (i := 7) rfl)) (hw _ (List.mem_of_getElem? (i := 8) rfl)) (hw _ (List.mem_of_getElem? (i := 9) rfl)) e0 (g := (mkF m 1 #[.val (.ref a), .val (.long x0), .second] [(.ref a)])) rfl (by rw [hml]; rfl) rfl (hb hby own_k28) (by decide) (W := 0) (by show 2 * 0 + _ ≤ _; exact Nat.le_of_eq rfl) (by decide)
  refine Go.via (U' := T1.setTop (mkF m 4 #[.val (.ref a), .val (.long x0), .second] [])) (fun t k => st1 t k) ?_
  refine Go.via (U' := T1.setTop (mkF m 5 #[.val (.ref a), .val (.long x0), .second] [(.ref a)])) (fun t k => XS.aloadN X1.here hx rfl (hb hby own_k29) rfl rfl k) ?_
  refine Go.via (U' := T1.setTop (mkF m 6 #[.val (.ref a), .val (.long x0), .second] [(.long x0), (.ref a)])) (fun t k => XS.lloadN X1.here hx rfl (hb hby own_k30) rfl k) ?_
  obtain ⟨T2, h2, X2, e2, W2, st2⟩ := putF X1 hx hZ hown (host := "") (Or.inl (hw _ (List.mem_of_getElem? (i := 10) rfl))) Via.refl e1 F_a_state E_a (Or.inl (hw _ (List.mem_of_getElem? (i := 11) rfl))) (hw _ (List.mem_of_getElem? (i := 2) rfl)) (ty := .long) (by decide) rfl rfl (g := (mkF m 6 #[.val (.ref a), .val (.long x0), .second] [(.long x0), (.ref a)])) rfl rfl (hb hby own_k31)
  have f3 := E_a.wr W2
  have f4 := F_a_state.same W2
  have K2 := K0.wr W2 (Or.inl (List.mem_of_getElem? (i := 0) rfl))
  have N2 := Fr.snoc X2 N0 g_a
  have Z2 := Nat.le_trans hn0 (Keep.of_wr W2).1
  refine Go.via (U' := T2.setTop (mkF m 9 #[.val (.ref a), .val (.long x0), .second] [])) (fun t k => st2 t k) ?_
  exact go_retV X2 hx hlk hret (hb hby own_k32) e2 ⟨rfl, N2, K2, f3, f4⟩ (by decide) (by decide)
theorem own_k33 (m : MethodId) (a : Addr) (x0 : Int64) : entryFrame m #[(.ref a), (.long x0)] 3 = mkF m 0 #[.val (.ref a), .val (.long x0), .second] [] := by first | (simp [entryFrame, mkF, argsToLocals, Value.category]; done) | rfl
theorem own_k34 : decode prog_50_method_5_code 0 = .ok (.aload_n 0, 1) := by decide +kernel
theorem own_k35 : decode prog_50_method_5_code 1 = .ok (.dup, 1) := by decide +kernel
theorem own_k36 : decode prog_50_method_5_code 2 = .ok (.getfield 7, 3) := by decide +kernel
theorem own_k37 : decode prog_50_method_5_code 5 = .ok (.lload_n 1, 1) := by decide +kernel
theorem own_k38 : decode prog_50_method_5_code 6 = .ok (.ldc2_w 17, 3) := by decide +kernel
theorem own_k39 : decode prog_50_method_5_code 9 = .ok (.lmul, 1) := by decide +kernel
theorem own_k40 : decode prog_50_method_5_code 10 = .ok (.ladd, 1) := by decide +kernel
theorem own_k41 : decode prog_50_method_5_code 11 = .ok (.putfield 7, 3) := by decide +kernel
theorem own_k42 : decode prog_50_method_5_code 14 = .ok (.return_, 1) := by decide +kernel
def own_q3_a_state (x0 : Int64) (u : Int64) : Int64 := (u + (x0 * (-7046029254386353131 : Int64)))
set_option maxRecDepth 65536 in
set_option maxHeartbeats 40000000 in
theorem own_rm3 (l : Launch) (Z : State) (a0 : Array Value) (hw : ∀ d ∈ tables_1, d.before a0 Z = true) (ws : List Jvm.Cond) (a : Addr) (x0 : Int64) (u : Int64) (h0 : Heap) (n0 : Nat) (hn0 : n0 ≤ h0.size) (E_a : Exa Z h0 a "com/example/libhazy/libhazy/SplitMix64") (F_a_state : Fld Z h0 a "com/example/libhazy/libhazy/SplitMix64" "state" "J" (.long u)) (g_a : n0 ≤ a) : Meets l Z (⟨"com/example/libhazy/libhazy/SplitMix64", "skip", "(J)V"⟩ : MethodName) prog_50_method_5_code 3 none ws ({ frames := 0, cells := 0, slots := 0, locals := 0 } : Room) #[(.ref a), (.long x0)] h0 (fun v h L => v = none ∧ Fr n0 L ∧ Keep h0 h [a] ∧ Exa Z h a "com/example/libhazy/libhazy/SplitMix64" ∧ Fld Z h a "com/example/libhazy/libhazy/SplitMix64" "state" "J" (.long (own_q3_a_state x0 u))) := by
  refine meets_of (plainFor_of_name own_k25) ?_
  intro p e s m below meth c s₁ X0 hx hZ hby hml hret hlk hown hnm e0
  replace hml : c.maxLocals = 3 := hml
  replace hown : s.vm.findClass "com/example/libhazy/libhazy/SplitMix64" = some m.cls := hown
  refine Go.cast (own_k33 m a x0) ?_
  have N0 := Fr.nil n0
  have K0 : Keep h0 h0 [a] := Keep.refl h0 _
  refine Go.via (U' := s₁.setTop (mkF m 1 #[.val (.ref a), .val (.long x0), .second] [(.ref a)])) (fun t k => XS.aloadN X0.here hx rfl (hb hby own_k34) rfl rfl k) ?_
  refine Go.via (U' := s₁.setTop (mkF m 2 #[.val (.ref a), .val (.long x0), .second] [(.ref a), (.ref a)])) (fun t k => XS.dup X0.here hx rfl (hb hby own_k35) rfl rfl k) ?_
  obtain ⟨T1, X1, e1, st1⟩ := getF X0 hx hZ hown (host := "") (Or.inl (hw _ (List.mem_of_getElem? (i := 10) rfl))) Via.refl e0 F_a_state (g := (mkF m 2 #[.val (.ref a), .val (.long x0), .second] [(.ref a), (.ref a)])) rfl rfl (hb hby own_k36)
  refine Go.via (U' := T1.setTop (mkF m 5 #[.val (.ref a), .val (.long x0), .second] [(.long u), (.ref a)])) (fun t k => st1 t k) ?_
  refine Go.via (U' := T1.setTop (mkF m 6 #[.val (.ref a), .val (.long x0), .second] [(.long x0), (.long u), (.ref a)])) (fun t k => XS.lloadN X1.here hx rfl (hb hby own_k37) rfl k) ?_
  refine Go.via (U' := T1.setTop (mkF m 9 #[.val (.ref a), .val (.long x0), .second] [(.long (-7046029254386353131 : Int64)), (.long x0), (.long u), (.ref a)])) (fun t k => X1.ldc2Long hx hown (mvT hZ (hw _ (List.mem_of_getElem? (i := 17) rfl))) (g := (mkF m 6 #[.val (.ref a), .val (.long x0), .second] [(.long x0), (.long u), (.ref a)])) rfl (hb hby own_k38) t k) ?_
  refine Go.via (U' := T1.setTop (mkF m 10 #[.val (.ref a), .val (.long x0), .second] [(.long (x0 * (-7046029254386353131 : Int64))), (.long u), (.ref a)])) (fun t k => XS.lmul X1.here hx rfl (hb hby own_k39) rfl k) ?_
  refine Go.via (U' := T1.setTop (mkF m 11 #[.val (.ref a), .val (.long x0), .second] [(.long (u + (x0 * (-7046029254386353131 : Int64)))), (.ref a)])) (fun t k => XS.ladd X1.here hx rfl (hb hby own_k40) rfl k) ?_
  obtain ⟨T2, h2, X2, e2, W2, st2⟩ := putF X1 hx hZ hown (host := "") (Or.inl (hw _ (List.mem_of_getElem? (i := 10) rfl))) Via.refl e1 F_a_state E_a (Or.inl (hw _ (List.mem_of_getElem? (i := 11) rfl))) (hw _ (List.mem_of_getElem? (i := 2) rfl)) (ty := .long) (by decide) rfl rfl (g := (mkF m 11 #[.val (.ref a), .val (.long x0), .second] [(.long (u + (x0 * (-7046029254386353131 : Int64)))), (.ref a)])) rfl rfl (hb hby own_k41)
  have f3 := E_a.wr W2
  have f4 := F_a_state.same W2
  have K2 := K0.wr W2 (Or.inl (List.mem_of_getElem? (i := 0) rfl))
  have N2 := Fr.snoc X2 N0 g_a
  have Z2 := Nat.le_trans hn0 (Keep.of_wr W2).1
  refine Go.via (U' := T2.setTop (mkF m 14 #[.val (.ref a), .val (.long x0), .second] [])) (fun t k => st2 t k) ?_
  exact go_retV X2 hx hlk hret (hb hby own_k42) e2 ⟨rfl, N2, K2, f3, (by rw [show (own_q3_a_state x0 u) = (u + (x0 * (-7046029254386353131 : Int64))) from by rfl]; exact f4)⟩ (by decide) (by decide)
theorem own_k43 (m : MethodId) (a : Addr) : entryFrame m #[(.ref a)] 1 = mkF m 0 #[.val (.ref a)] [] := by first | (simp [entryFrame, mkF, argsToLocals, Value.category]; done) | rfl
theorem own_k44 : decode prog_50_method_4_code 0 = .ok (.aload_n 0, 1) := by decide +kernel
theorem own_k45 : decode prog_50_method_4_code 1 = .ok (.dup, 1) := by decide +kernel
theorem own_k46 : decode prog_50_method_4_code 2 = .ok (.getfield 7, 3) := by decide +kernel
theorem own_k47 : decode prog_50_method_4_code 5 = .ok (.ldc2_w 17, 3) := by decide +kernel
theorem own_k48 : decode prog_50_method_4_code 8 = .ok (.ladd, 1) := by decide +kernel
theorem own_k49 : decode prog_50_method_4_code 9 = .ok (.putfield 7, 3) := by decide +kernel
theorem own_k50 : decode prog_50_method_4_code 12 = .ok (.aload_n 0, 1) := by decide +kernel
theorem own_k51 : decode prog_50_method_4_code 13 = .ok (.getfield 7, 3) := by decide +kernel
theorem own_k52 : parseMethodDescriptor "(J)J" = some ⟨[.long], some .long⟩ := by decide +kernel
theorem own_k53 : decode prog_50_method_4_code 16 = .ok (.invokestatic 19, 3) := by decide +kernel
theorem own_k54 : decode prog_50_method_4_code 19 = .ok (.lreturn, 1) := by decide +kernel
def own_f4 (u : Int64) : Int64 := (own_f5 (u + (-7046029254386353131 : Int64)))
set_option maxRecDepth 65536 in
set_option maxHeartbeats 40000000 in
theorem own_rm4 (l : Launch) (Z : State) (a0 : Array Value) (hw : ∀ d ∈ tables_1, d.before a0 Z = true) (ws : List Jvm.Cond) (a : Addr) (u : Int64) (h0 : Heap) (n0 : Nat) (hn0 : n0 ≤ h0.size) (E_a : Exa Z h0 a "com/example/libhazy/libhazy/SplitMix64") (F_a_state : Fld Z h0 a "com/example/libhazy/libhazy/SplitMix64" "state" "J" (.long u)) (g_a : n0 ≤ a) : Meets l Z (⟨"com/example/libhazy/libhazy/SplitMix64", "next", "()J"⟩ : MethodName) prog_50_method_4_code 1 (some .long) ws ({ frames := 1, cells := 0, slots := 0, locals := 15 } : Room) #[(.ref a)] h0 (fun v h L => v = some (.long (own_f4 u)) ∧ Fr n0 L ∧ Keep h0 h [a] ∧ Exa Z h a "com/example/libhazy/libhazy/SplitMix64" ∧ Fld Z h a "com/example/libhazy/libhazy/SplitMix64" "state" "J" (.long (u + (-7046029254386353131 : Int64)))) := by
  refine meets_of (plainFor_of_name own_k25) ?_
  intro p e s m below meth c s₁ X0 hx hZ hby hml hret hlk hown hnm e0
  replace hml : c.maxLocals = 1 := hml
  replace hown : s.vm.findClass "com/example/libhazy/libhazy/SplitMix64" = some m.cls := hown
  refine Go.cast (own_k43 m a) ?_
  have N0 := Fr.nil n0
  have K0 : Keep h0 h0 [a] := Keep.refl h0 _
  refine Go.via (U' := s₁.setTop (mkF m 1 #[.val (.ref a)] [(.ref a)])) (fun t k => XS.aloadN X0.here hx rfl (hb hby own_k44) rfl rfl k) ?_
  refine Go.via (U' := s₁.setTop (mkF m 2 #[.val (.ref a)] [(.ref a), (.ref a)])) (fun t k => XS.dup X0.here hx rfl (hb hby own_k45) rfl rfl k) ?_
  obtain ⟨T1, X1, e1, st1⟩ := getF X0 hx hZ hown (host := "") (Or.inl (hw _ (List.mem_of_getElem? (i := 10) rfl))) Via.refl e0 F_a_state (g := (mkF m 2 #[.val (.ref a)] [(.ref a), (.ref a)])) rfl rfl (hb hby own_k46)
  refine Go.via (U' := T1.setTop (mkF m 5 #[.val (.ref a)] [(.long u), (.ref a)])) (fun t k => st1 t k) ?_
  refine Go.via (U' := T1.setTop (mkF m 8 #[.val (.ref a)] [(.long (-7046029254386353131 : Int64)), (.long u), (.ref a)])) (fun t k => X1.ldc2Long hx hown (mvT hZ (hw _ (List.mem_of_getElem? (i := 17) rfl))) (g := (mkF m 5 #[.val (.ref a)] [(.long u), (.ref a)])) rfl (hb hby own_k47) t k) ?_
  refine Go.via (U' := T1.setTop (mkF m 9 #[.val (.ref a)] [(.long (u + (-7046029254386353131 : Int64))), (.ref a)])) (fun t k => XS.ladd X1.here hx rfl (hb hby own_k48) rfl k) ?_
  obtain ⟨T2, h2, X2, e2, W2, st2⟩ := putF X1 hx hZ hown (host := "") (Or.inl (hw _ (List.mem_of_getElem? (i := 10) rfl))) Via.refl e1 F_a_state E_a (Or.inl (hw _ (List.mem_of_getElem? (i := 11) rfl))) (hw _ (List.mem_of_getElem? (i := 2) rfl)) (ty := .long) (by decide) rfl rfl (g := (mkF m 9 #[.val (.ref a)] [(.long (u + (-7046029254386353131 : Int64))), (.ref a)])) rfl rfl (hb hby own_k49)
  have f3 := E_a.wr W2
  have f4 := F_a_state.same W2
  have K2 := K0.wr W2 (Or.inl (List.mem_of_getElem? (i := 0) rfl))
  have N2 := Fr.snoc X2 N0 g_a
  have Z2 := Nat.le_trans hn0 (Keep.of_wr W2).1
  refine Go.via (U' := T2.setTop (mkF m 12 #[.val (.ref a)] [])) (fun t k => st2 t k) ?_
  refine Go.via (U' := T2.setTop (mkF m 13 #[.val (.ref a)] [(.ref a)])) (fun t k => XS.aloadN X2.here hx rfl (hb hby own_k50) rfl rfl k) ?_
  obtain ⟨T5, X5, e5, st5⟩ := getF X2 hx hZ hown (host := "") (Or.inl (hw _ (List.mem_of_getElem? (i := 10) rfl))) Via.refl e2 f4 (g := (mkF m 13 #[.val (.ref a)] [(.ref a)])) rfl rfl (hb hby own_k51)
  refine Go.via (U' := T5.setTop (mkF m 16 #[.val (.ref a)] [(.long (u + (-7046029254386353131 : Int64)))])) (fun t k => st5 t k) ?_
  obtain ⟨T6, X6, e6, st6⟩ := callS0 X5 hx hZ hown (hw _ (List.mem_of_getElem? (i := 23) rfl)) (hw _ (List.mem_of_getElem? (i := 24) rfl)) (hw _ (List.mem_of_getElem? (i := 3) rfl)) (hw _ (List.mem_of_getElem? (i := 25) rfl)) (by decide) (av := [(.long (u + (-7046029254386353131 : Int64)))]) (own_rm5 l Z a0 hw [] (u + (-7046029254386353131 : Int64))  h2) e5 (pc := 16) (Ls := #[.val (.ref a)]) (rest := []) (by rw [hml]; rfl) own_k52 rfl 0 (Nat.le_of_eq rfl) (by decide) (by decide) (by decide) (by decide) (hb hby own_k53)
  refine Go.via (U' := T6.setTop (mkF m 19 #[.val (.ref a)] [(.long (own_f5 (u + (-7046029254386353131 : Int64))))])) (fun t k => st6 t k) ?_
  exact go_retJ X6 hx hlk hret (hb hby own_k54) e6 ⟨(congrArg (fun z => some (Value.long z)) (show (own_f5 (u + (-7046029254386353131 : Int64))) = (own_f4 u) from by rfl)), N2, K2, f3, f4⟩ (by decide) (by decide)
theorem own_k55 (m : MethodId) (x0 : Int64) (x1 : Int64) (x2 : Int64) : entryFrame m #[(.long x0), (.long x1), (.long x2)] maxLocals = mkF m 0 #[.val (.long x0), .second, .val (.long x1), .second, .val (.long x2), .second, .unset, .unset, .unset, .unset, .unset, .unset, .unset, .unset, .unset, .unset, .unset] [] := by first | (simp [entryFrame, mkF, argsToLocals, Value.category, maxLocals]; done) | rfl
theorem own_k56 : parseMethodDescriptor "(J)V" = some ⟨[.long], none⟩ := by decide +kernel
theorem own_k57 : parseMethodDescriptor "()J" = some ⟨[], some .long⟩ := by decide +kernel
theorem own_k58 : plainName "com/example/libhazy/libhazy/SplitMix64SkipPinLaw" = true := by first | (simp [plainName, overriddenIn]; done) | decide +kernel
def own_f0 (x0 : Int64) (x1 : Int64) (x2 : Int64) : Int32 := (if (lcmpW (own_f4 (own_q3_a_state x1 x0)) (own_f5 ((x0 + (x1 * (-7046029254386353131 : Int64))) + (-7046029254386353131 : Int64)))) = (0 : Int32) then (if (lcmpW (own_f4 (own_q3_a_state x2 ((own_q3_a_state x1 x0) + (-7046029254386353131 : Int64)))) (own_f5 ((((x0 + (x1 * (-7046029254386353131 : Int64))) + (-7046029254386353131 : Int64)) + (x2 * (-7046029254386353131 : Int64))) + (-7046029254386353131 : Int64)))) = (0 : Int32) then (1 : Int32) else (0 : Int32)) else (0 : Int32))
set_option maxRecDepth 65536 in
set_option maxHeartbeats 40000000 in
theorem own_rm0 (l : Launch) (Z : State) (a0 : Array Value) (hw : ∀ d ∈ tables_1, d.before a0 Z = true) (ws : List Jvm.Cond) (x0 : Int64) (x1 : Int64) (x2 : Int64) (h0 : Heap) (n0 : Nat) (hn0 : n0 ≤ h0.size) : Meets l Z x code maxLocals ret ws room_1 #[(.long x0), (.long x1), (.long x2)] h0 (fun v h L => v = some (.int (own_f0 x0 x1 x2)) ∧ Fr n0 L) := by
  refine meets_of (plainFor_of_name own_k58) ?_
  intro p e s m below meth c s₁ X0 hx hZ hby hml hret hlk hown hnm e0
  replace hml : c.maxLocals = 17 := hml
  replace hown : s.vm.findClass "com/example/libhazy/libhazy/SplitMix64SkipPinLaw" = some m.cls := hown
  refine Go.cast (own_k55 m x0 x1 x2) ?_
  have N0 := Fr.nil n0
  have K0 : Keep h0 h0 [] := Keep.refl h0 _
  refine Go.via (U' := s₁.setTop (mkF m 3 #[.val (.long x0), .second, .val (.long x1), .second, .val (.long x2), .second, .unset, .unset, .unset, .unset, .unset, .unset, .unset, .unset, .unset, .unset, .unset] [(.long (-7046029254386353131 : Int64))])) (fun t k => X0.ldc2Long hx hown (mvT hZ (hw _ (List.mem_of_getElem? (i := 0) rfl))) (g := (mkF m 0 #[.val (.long x0), .second, .val (.long x1), .second, .val (.long x2), .second, .unset, .unset, .unset, .unset, .unset, .unset, .unset, .unset, .unset, .unset, .unset] [])) rfl (hb hby at_0) t k) ?_
  refine Go.via (U' := s₁.setTop (mkF m 5 #[.val (.long x0), .second, .val (.long x1), .second, .val (.long x2), .second, .val (.long (-7046029254386353131 : Int64)), .second, .unset, .unset, .unset, .unset, .unset, .unset, .unset, .unset, .unset] [])) (fun t k => XS.lstore X0.here hx rfl (hb hby at_3) rfl (l' := #[.val (.long x0), .second, .val (.long x1), .second, .val (.long x2), .second, .val (.long (-7046029254386353131 : Int64)), .second, .unset, .unset, .unset, .unset, .unset, .unset, .unset, .unset, .unset]) rfl k) ?_
  obtain ⟨T1, h1, X1, e1, E1, A1, D1, -, st1⟩ := newO X0 hx hZ hown (hw _ (List.mem_of_getElem? (i := 1) rfl)) (hw _ (List.mem_of_getElem? (i := 2) rfl)) (hw _ (List.mem_of_getElem? (i := 3) rfl)) e0 (g := (mkF m 5 #[.val (.long x0), .second, .val (.long x1), .second, .val (.long x2), .second, .val (.long (-7046029254386353131 : Int64)), .second, .unset, .unset, .unset, .unset, .unset, .unset, .unset, .unset, .unset] [])) rfl (hb hby at_5) (by decide) (by decide)
  obtain ⟨b1, g1⟩ : ∃ z, z = h0.size := ⟨_, rfl⟩
  rw [← g1] at A1 D1 st1
  have g_b1 : n0 ≤ b1 := Nat.le_trans hn0 (Nat.le_of_eq g1.symm)
  have sz_b1 : h0.size ≤ b1 := Nat.le_trans K0.1 (Nat.le_of_eq g1.symm)
  have K1 := K0.ext E1
  have Z1 := Nat.le_trans hn0 E1.1
  have f2 : Fld Z h1 b1 "com/example/libhazy/libhazy/SplitMix64" "state" "J" (.long (0 : Int64)) := D1 (Or.inl (hw _ (List.mem_of_getElem? (i := 11) rfl))) (ty := .long) (by decide)
  refine Go.via (U' := T1.setTop (mkF m 8 #[.val (.long x0), .second, .val (.long x1), .second, .val (.long x2), .second, .val (.long (-7046029254386353131 : Int64)), .second, .unset, .unset, .unset, .unset, .unset, .unset, .unset, .unset, .unset] [(.ref b1)])) (fun t k => st1 t k) ?_
  refine Go.via (U' := T1.setTop (mkF m 9 #[.val (.long x0), .second, .val (.long x1), .second, .val (.long x2), .second, .val (.long (-7046029254386353131 : Int64)), .second, .unset, .unset, .unset, .unset, .unset, .unset, .unset, .unset, .unset] [(.ref b1), (.ref b1)])) (fun t k => XS.dup X1.here hx rfl (hb hby at_8) rfl rfl k) ?_
  refine Go.via (U' := T1.setTop (mkF m 10 #[.val (.long x0), .second, .val (.long x1), .second, .val (.long x2), .second, .val (.long (-7046029254386353131 : Int64)), .second, .unset, .unset, .unset, .unset, .unset, .unset, .unset, .unset, .unset] [(.long x0), (.ref b1), (.ref b1)])) (fun t k => XS.lloadN X1.here hx rfl (hb hby at_9) rfl k) ?_
  obtain ⟨_, T3, L3, X3, ⟨rfl, N3q, K3q, f4, f5⟩, st3⟩ := callIQ X1 hx hZ rfl hown (hw _ (List.mem_of_getElem? (i := 4) rfl)) (hw _ (List.mem_of_getElem? (i := 5) rfl)) (hw _ (List.mem_of_getElem? (i := 3) rfl)) (hw _ (List.mem_of_getElem? (i := 6) rfl)) (by decide) (b := b1) (av := [(.long x0)]) (own_rm1 l Z a0 hw [] b1 x0  h1 n0 Z1 A1 f2 g_b1) e1 (pc := 10) (Ls := #[.val (.long x0), .second, .val (.long x1), .second, .val (.long x2), .second, .val (.long (-7046029254386353131 : Int64)), .second, .unset, .unset, .unset, .unset, .unset, .unset, .unset, .unset, .unset]) (rest := [(.ref b1)]) (by rw [hml]; rfl) own_k56 rfl 1 (Nat.le_of_eq rfl) (by decide) (by decide) (by decide) (by decide) (hb hby at_10)
  have f6 := A1.keep K3q
  have N3 := Fr.app N0 N3q
  have Z3 := Nat.le_trans Z1 K3q.1
  have K3 := K1.trans K3q (allS (Or.inr sz_b1) all0)
  refine Go.via (U' := T3.setTop (mkF m 13 #[.val (.long x0), .second, .val (.long x1), .second, .val (.long x2), .second, .val (.long (-7046029254386353131 : Int64)), .second, .unset, .unset, .unset, .unset, .unset, .unset, .unset, .unset, .unset] [(.ref b1)])) (fun t k => st3 t k) ?_
  refine Go.via (U' := T3.setTop (mkF m 15 #[.val (.long x0), .second, .val (.long x1), .second, .val (.long x2), .second, .val (.long (-7046029254386353131 : Int64)), .second, .val (.ref b1), .unset, .unset, .unset, .unset, .unset, .unset, .unset, .unset] [])) (fun t k => XS.astore X3.here hx rfl (hb hby at_13) rfl rfl (l' := #[.val (.long x0), .second, .val (.long x1), .second, .val (.long x2), .second, .val (.long (-7046029254386353131 : Int64)), .second, .val (.ref b1), .unset, .unset, .unset, .unset, .unset, .unset, .unset, .unset]) rfl k) ?_
  refine Go.via (U' := T3.setTop (mkF m 17 #[.val (.long x0), .second, .val (.long x1), .second, .val (.long x2), .second, .val (.long (-7046029254386353131 : Int64)), .second, .val (.ref b1), .unset, .unset, .unset, .unset, .unset, .unset, .unset, .unset] [(.ref b1)])) (fun t k => XS.aload X3.here hx rfl (hb hby at_15) rfl rfl k) ?_
  refine Go.via (U' := T3.setTop (mkF m 18 #[.val (.long x0), .second, .val (.long x1), .second, .val (.long x2), .second, .val (.long (-7046029254386353131 : Int64)), .second, .val (.ref b1), .unset, .unset, .unset, .unset, .unset, .unset, .unset, .unset] [(.long x1), (.ref b1)])) (fun t k => XS.lloadN X3.here hx rfl (hb hby at_17) rfl k) ?_
  obtain ⟨_, T7, L7, X7, ⟨rfl, N7q, K7q, f8, f9⟩, st7⟩ := callVQ X3 hx hZ hown (hw _ (List.mem_of_getElem? (i := 12) rfl)) (hw _ (List.mem_of_getElem? (i := 13) rfl)) (hw _ (List.mem_of_getElem? (i := 15) rfl)) (hw _ (List.mem_of_getElem? (i := 14) rfl)) (hw _ (List.mem_of_getElem? (i := 3) rfl)) (hw _ (List.mem_of_getElem? (i := 16) rfl)) (by decide) (b := b1) (av := [(.long x1)]) f4 (own_rm3 l Z a0 hw [] b1 x1 x0 T3.heap n0 Z3 f4 f5 g_b1) rfl (pc := 18) (Ls := #[.val (.long x0), .second, .val (.long x1), .second, .val (.long x2), .second, .val (.long (-7046029254386353131 : Int64)), .second, .val (.ref b1), .unset, .unset, .unset, .unset, .unset, .unset, .unset, .unset]) (rest := []) (by rw [hml]; rfl) own_k56 rfl 0 (Nat.le_of_eq rfl) (by decide) (by decide) (by decide) (by decide) (hb hby at_18)
  have f10 := f4.keep K7q
  have N7 := Fr.app N3 N7q
  have Z7 := Nat.le_trans Z3 K7q.1
  have K7 := K3.trans K7q (allS (Or.inr sz_b1) all0)
  refine Go.via (U' := T7.setTop (mkF m 21 #[.val (.long x0), .second, .val (.long x1), .second, .val (.long x2), .second, .val (.long (-7046029254386353131 : Int64)), .second, .val (.ref b1), .unset, .unset, .unset, .unset, .unset, .unset, .unset, .unset] [])) (fun t k => st7 t k) ?_
  refine Go.via (U' := T7.setTop (mkF m 23 #[.val (.long x0), .second, .val (.long x1), .second, .val (.long x2), .second, .val (.long (-7046029254386353131 : Int64)), .second, .val (.ref b1), .unset, .unset, .unset, .unset, .unset, .unset, .unset, .unset] [(.ref b1)])) (fun t k => XS.aload X7.here hx rfl (hb hby at_21) rfl rfl k) ?_
  obtain ⟨_, T11, L11, X11, ⟨rfl, N11q, K11q, f12, f13⟩, st11⟩ := callVQ X7 hx hZ hown (hw _ (List.mem_of_getElem? (i := 18) rfl)) (hw _ (List.mem_of_getElem? (i := 19) rfl)) (hw _ (List.mem_of_getElem? (i := 21) rfl)) (hw _ (List.mem_of_getElem? (i := 20) rfl)) (hw _ (List.mem_of_getElem? (i := 3) rfl)) (hw _ (List.mem_of_getElem? (i := 22) rfl)) (by decide) (b := b1) (av := []) f8 (own_rm4 l Z a0 hw [] b1 (own_q3_a_state x1 x0) T7.heap n0 Z7 f8 f9 g_b1) rfl (pc := 23) (Ls := #[.val (.long x0), .second, .val (.long x1), .second, .val (.long x2), .second, .val (.long (-7046029254386353131 : Int64)), .second, .val (.ref b1), .unset, .unset, .unset, .unset, .unset, .unset, .unset, .unset]) (rest := []) (by rw [hml]; rfl) own_k57 rfl 0 (Nat.le_of_eq rfl) (by decide) (by decide) (by decide) (by decide) (hb hby at_23)
  have f14 := f8.keep K11q
  have N11 := Fr.app N7 N11q
  have Z11 := Nat.le_trans Z7 K11q.1
  have K11 := K7.trans K11q (allS (Or.inr sz_b1) all0)
  refine Go.via (U' := T11.setTop (mkF m 26 #[.val (.long x0), .second, .val (.long x1), .second, .val (.long x2), .second, .val (.long (-7046029254386353131 : Int64)), .second, .val (.ref b1), .unset, .unset, .unset, .unset, .unset, .unset, .unset, .unset] [(.long (own_f4 (own_q3_a_state x1 x0)))])) (fun t k => st11 t k) ?_
  refine Go.via (U' := T11.setTop (mkF m 28 #[.val (.long x0), .second, .val (.long x1), .second, .val (.long x2), .second, .val (.long (-7046029254386353131 : Int64)), .second, .val (.ref b1), .val (.long (own_f4 (own_q3_a_state x1 x0))), .second, .unset, .unset, .unset, .unset, .unset, .unset] [])) (fun t k => XS.lstore X11.here hx rfl (hb hby at_26) rfl (l' := #[.val (.long x0), .second, .val (.long x1), .second, .val (.long x2), .second, .val (.long (-7046029254386353131 : Int64)), .second, .val (.ref b1), .val (.long (own_f4 (own_q3_a_state x1 x0))), .second, .unset, .unset, .unset, .unset, .unset, .unset]) rfl k) ?_
  refine Go.via (U' := T11.setTop (mkF m 30 #[.val (.long x0), .second, .val (.long x1), .second, .val (.long x2), .second, .val (.long (-7046029254386353131 : Int64)), .second, .val (.ref b1), .val (.long (own_f4 (own_q3_a_state x1 x0))), .second, .unset, .unset, .unset, .unset, .unset, .unset] [(.ref b1)])) (fun t k => XS.aload X11.here hx rfl (hb hby at_28) rfl rfl k) ?_
  refine Go.via (U' := T11.setTop (mkF m 32 #[.val (.long x0), .second, .val (.long x1), .second, .val (.long x2), .second, .val (.long (-7046029254386353131 : Int64)), .second, .val (.ref b1), .val (.long (own_f4 (own_q3_a_state x1 x0))), .second, .unset, .unset, .unset, .unset, .unset, .unset] [(.long x2), (.ref b1)])) (fun t k => XS.lload X11.here hx rfl (hb hby at_30) rfl k) ?_
  obtain ⟨_, T15, L15, X15, ⟨rfl, N15q, K15q, f16, f17⟩, st15⟩ := callVQ X11 hx hZ hown (hw _ (List.mem_of_getElem? (i := 12) rfl)) (hw _ (List.mem_of_getElem? (i := 13) rfl)) (hw _ (List.mem_of_getElem? (i := 15) rfl)) (hw _ (List.mem_of_getElem? (i := 14) rfl)) (hw _ (List.mem_of_getElem? (i := 3) rfl)) (hw _ (List.mem_of_getElem? (i := 16) rfl)) (by decide) (b := b1) (av := [(.long x2)]) f12 (own_rm3 l Z a0 hw [] b1 x2 ((own_q3_a_state x1 x0) + (-7046029254386353131 : Int64)) T11.heap n0 Z11 f12 f13 g_b1) rfl (pc := 32) (Ls := #[.val (.long x0), .second, .val (.long x1), .second, .val (.long x2), .second, .val (.long (-7046029254386353131 : Int64)), .second, .val (.ref b1), .val (.long (own_f4 (own_q3_a_state x1 x0))), .second, .unset, .unset, .unset, .unset, .unset, .unset]) (rest := []) (by rw [hml]; rfl) own_k56 rfl 0 (Nat.le_of_eq rfl) (by decide) (by decide) (by decide) (by decide) (hb hby at_32)
  have f18 := f12.keep K15q
  have N15 := Fr.app N11 N15q
  have Z15 := Nat.le_trans Z11 K15q.1
  have K15 := K11.trans K15q (allS (Or.inr sz_b1) all0)
  refine Go.via (U' := T15.setTop (mkF m 35 #[.val (.long x0), .second, .val (.long x1), .second, .val (.long x2), .second, .val (.long (-7046029254386353131 : Int64)), .second, .val (.ref b1), .val (.long (own_f4 (own_q3_a_state x1 x0))), .second, .unset, .unset, .unset, .unset, .unset, .unset] [])) (fun t k => st15 t k) ?_
  refine Go.via (U' := T15.setTop (mkF m 37 #[.val (.long x0), .second, .val (.long x1), .second, .val (.long x2), .second, .val (.long (-7046029254386353131 : Int64)), .second, .val (.ref b1), .val (.long (own_f4 (own_q3_a_state x1 x0))), .second, .unset, .unset, .unset, .unset, .unset, .unset] [(.ref b1)])) (fun t k => XS.aload X15.here hx rfl (hb hby at_35) rfl rfl k) ?_
  obtain ⟨_, T19, L19, X19, ⟨rfl, N19q, K19q, f20, f21⟩, st19⟩ := callVQ X15 hx hZ hown (hw _ (List.mem_of_getElem? (i := 18) rfl)) (hw _ (List.mem_of_getElem? (i := 19) rfl)) (hw _ (List.mem_of_getElem? (i := 21) rfl)) (hw _ (List.mem_of_getElem? (i := 20) rfl)) (hw _ (List.mem_of_getElem? (i := 3) rfl)) (hw _ (List.mem_of_getElem? (i := 22) rfl)) (by decide) (b := b1) (av := []) f16 (own_rm4 l Z a0 hw [] b1 (own_q3_a_state x2 ((own_q3_a_state x1 x0) + (-7046029254386353131 : Int64))) T15.heap n0 Z15 f16 f17 g_b1) rfl (pc := 37) (Ls := #[.val (.long x0), .second, .val (.long x1), .second, .val (.long x2), .second, .val (.long (-7046029254386353131 : Int64)), .second, .val (.ref b1), .val (.long (own_f4 (own_q3_a_state x1 x0))), .second, .unset, .unset, .unset, .unset, .unset, .unset]) (rest := []) (by rw [hml]; rfl) own_k57 rfl 0 (Nat.le_of_eq rfl) (by decide) (by decide) (by decide) (by decide) (hb hby at_37)
  have f22 := f16.keep K19q
  have N19 := Fr.app N15 N19q
  have Z19 := Nat.le_trans Z15 K19q.1
  have K19 := K15.trans K19q (allS (Or.inr sz_b1) all0)
  refine Go.via (U' := T19.setTop (mkF m 40 #[.val (.long x0), .second, .val (.long x1), .second, .val (.long x2), .second, .val (.long (-7046029254386353131 : Int64)), .second, .val (.ref b1), .val (.long (own_f4 (own_q3_a_state x1 x0))), .second, .unset, .unset, .unset, .unset, .unset, .unset] [(.long (own_f4 (own_q3_a_state x2 ((own_q3_a_state x1 x0) + (-7046029254386353131 : Int64)))))])) (fun t k => st19 t k) ?_
  refine Go.via (U' := T19.setTop (mkF m 42 #[.val (.long x0), .second, .val (.long x1), .second, .val (.long x2), .second, .val (.long (-7046029254386353131 : Int64)), .second, .val (.ref b1), .val (.long (own_f4 (own_q3_a_state x1 x0))), .second, .val (.long (own_f4 (own_q3_a_state x2 ((own_q3_a_state x1 x0) + (-7046029254386353131 : Int64))))), .second, .unset, .unset, .unset, .unset] [])) (fun t k => XS.lstore X19.here hx rfl (hb hby at_40) rfl (l' := #[.val (.long x0), .second, .val (.long x1), .second, .val (.long x2), .second, .val (.long (-7046029254386353131 : Int64)), .second, .val (.ref b1), .val (.long (own_f4 (own_q3_a_state x1 x0))), .second, .val (.long (own_f4 (own_q3_a_state x2 ((own_q3_a_state x1 x0) + (-7046029254386353131 : Int64))))), .second, .unset, .unset, .unset, .unset]) rfl k) ?_
  refine Go.via (U' := T19.setTop (mkF m 43 #[.val (.long x0), .second, .val (.long x1), .second, .val (.long x2), .second, .val (.long (-7046029254386353131 : Int64)), .second, .val (.ref b1), .val (.long (own_f4 (own_q3_a_state x1 x0))), .second, .val (.long (own_f4 (own_q3_a_state x2 ((own_q3_a_state x1 x0) + (-7046029254386353131 : Int64))))), .second, .unset, .unset, .unset, .unset] [(.long x0)])) (fun t k => XS.lloadN X19.here hx rfl (hb hby at_42) rfl k) ?_
  refine Go.via (U' := T19.setTop (mkF m 44 #[.val (.long x0), .second, .val (.long x1), .second, .val (.long x2), .second, .val (.long (-7046029254386353131 : Int64)), .second, .val (.ref b1), .val (.long (own_f4 (own_q3_a_state x1 x0))), .second, .val (.long (own_f4 (own_q3_a_state x2 ((own_q3_a_state x1 x0) + (-7046029254386353131 : Int64))))), .second, .unset, .unset, .unset, .unset] [(.long x1), (.long x0)])) (fun t k => XS.lloadN X19.here hx rfl (hb hby at_43) rfl k) ?_
  refine Go.via (U' := T19.setTop (mkF m 46 #[.val (.long x0), .second, .val (.long x1), .second, .val (.long x2), .second, .val (.long (-7046029254386353131 : Int64)), .second, .val (.ref b1), .val (.long (own_f4 (own_q3_a_state x1 x0))), .second, .val (.long (own_f4 (own_q3_a_state x2 ((own_q3_a_state x1 x0) + (-7046029254386353131 : Int64))))), .second, .unset, .unset, .unset, .unset] [(.long (-7046029254386353131 : Int64)), (.long x1), (.long x0)])) (fun t k => XS.lload X19.here hx rfl (hb hby at_44) rfl k) ?_
  refine Go.via (U' := T19.setTop (mkF m 47 #[.val (.long x0), .second, .val (.long x1), .second, .val (.long x2), .second, .val (.long (-7046029254386353131 : Int64)), .second, .val (.ref b1), .val (.long (own_f4 (own_q3_a_state x1 x0))), .second, .val (.long (own_f4 (own_q3_a_state x2 ((own_q3_a_state x1 x0) + (-7046029254386353131 : Int64))))), .second, .unset, .unset, .unset, .unset] [(.long (x1 * (-7046029254386353131 : Int64))), (.long x0)])) (fun t k => XS.lmul X19.here hx rfl (hb hby at_46) rfl k) ?_
  refine Go.via (U' := T19.setTop (mkF m 48 #[.val (.long x0), .second, .val (.long x1), .second, .val (.long x2), .second, .val (.long (-7046029254386353131 : Int64)), .second, .val (.ref b1), .val (.long (own_f4 (own_q3_a_state x1 x0))), .second, .val (.long (own_f4 (own_q3_a_state x2 ((own_q3_a_state x1 x0) + (-7046029254386353131 : Int64))))), .second, .unset, .unset, .unset, .unset] [(.long (x0 + (x1 * (-7046029254386353131 : Int64))))])) (fun t k => XS.ladd X19.here hx rfl (hb hby at_47) rfl k) ?_
  refine Go.via (U' := T19.setTop (mkF m 50 #[.val (.long x0), .second, .val (.long x1), .second, .val (.long x2), .second, .val (.long (-7046029254386353131 : Int64)), .second, .val (.ref b1), .val (.long (own_f4 (own_q3_a_state x1 x0))), .second, .val (.long (own_f4 (own_q3_a_state x2 ((own_q3_a_state x1 x0) + (-7046029254386353131 : Int64))))), .second, .unset, .unset, .unset, .unset] [(.long (-7046029254386353131 : Int64)), (.long (x0 + (x1 * (-7046029254386353131 : Int64))))])) (fun t k => XS.lload X19.here hx rfl (hb hby at_48) rfl k) ?_
  refine Go.via (U' := T19.setTop (mkF m 51 #[.val (.long x0), .second, .val (.long x1), .second, .val (.long x2), .second, .val (.long (-7046029254386353131 : Int64)), .second, .val (.ref b1), .val (.long (own_f4 (own_q3_a_state x1 x0))), .second, .val (.long (own_f4 (own_q3_a_state x2 ((own_q3_a_state x1 x0) + (-7046029254386353131 : Int64))))), .second, .unset, .unset, .unset, .unset] [(.long ((x0 + (x1 * (-7046029254386353131 : Int64))) + (-7046029254386353131 : Int64)))])) (fun t k => XS.ladd X19.here hx rfl (hb hby at_50) rfl k) ?_
  refine Go.via (U' := T19.setTop (mkF m 53 #[.val (.long x0), .second, .val (.long x1), .second, .val (.long x2), .second, .val (.long (-7046029254386353131 : Int64)), .second, .val (.ref b1), .val (.long (own_f4 (own_q3_a_state x1 x0))), .second, .val (.long (own_f4 (own_q3_a_state x2 ((own_q3_a_state x1 x0) + (-7046029254386353131 : Int64))))), .second, .val (.long ((x0 + (x1 * (-7046029254386353131 : Int64))) + (-7046029254386353131 : Int64))), .second, .unset, .unset] [])) (fun t k => XS.lstore X19.here hx rfl (hb hby at_51) rfl (l' := #[.val (.long x0), .second, .val (.long x1), .second, .val (.long x2), .second, .val (.long (-7046029254386353131 : Int64)), .second, .val (.ref b1), .val (.long (own_f4 (own_q3_a_state x1 x0))), .second, .val (.long (own_f4 (own_q3_a_state x2 ((own_q3_a_state x1 x0) + (-7046029254386353131 : Int64))))), .second, .val (.long ((x0 + (x1 * (-7046029254386353131 : Int64))) + (-7046029254386353131 : Int64))), .second, .unset, .unset]) rfl k) ?_
  refine Go.via (U' := T19.setTop (mkF m 55 #[.val (.long x0), .second, .val (.long x1), .second, .val (.long x2), .second, .val (.long (-7046029254386353131 : Int64)), .second, .val (.ref b1), .val (.long (own_f4 (own_q3_a_state x1 x0))), .second, .val (.long (own_f4 (own_q3_a_state x2 ((own_q3_a_state x1 x0) + (-7046029254386353131 : Int64))))), .second, .val (.long ((x0 + (x1 * (-7046029254386353131 : Int64))) + (-7046029254386353131 : Int64))), .second, .unset, .unset] [(.long ((x0 + (x1 * (-7046029254386353131 : Int64))) + (-7046029254386353131 : Int64)))])) (fun t k => XS.lload X19.here hx rfl (hb hby at_53) rfl k) ?_
  refine Go.via (U' := T19.setTop (mkF m 57 #[.val (.long x0), .second, .val (.long x1), .second, .val (.long x2), .second, .val (.long (-7046029254386353131 : Int64)), .second, .val (.ref b1), .val (.long (own_f4 (own_q3_a_state x1 x0))), .second, .val (.long (own_f4 (own_q3_a_state x2 ((own_q3_a_state x1 x0) + (-7046029254386353131 : Int64))))), .second, .val (.long ((x0 + (x1 * (-7046029254386353131 : Int64))) + (-7046029254386353131 : Int64))), .second, .unset, .unset] [(.long x2), (.long ((x0 + (x1 * (-7046029254386353131 : Int64))) + (-7046029254386353131 : Int64)))])) (fun t k => XS.lload X19.here hx rfl (hb hby at_55) rfl k) ?_
  refine Go.via (U' := T19.setTop (mkF m 59 #[.val (.long x0), .second, .val (.long x1), .second, .val (.long x2), .second, .val (.long (-7046029254386353131 : Int64)), .second, .val (.ref b1), .val (.long (own_f4 (own_q3_a_state x1 x0))), .second, .val (.long (own_f4 (own_q3_a_state x2 ((own_q3_a_state x1 x0) + (-7046029254386353131 : Int64))))), .second, .val (.long ((x0 + (x1 * (-7046029254386353131 : Int64))) + (-7046029254386353131 : Int64))), .second, .unset, .unset] [(.long (-7046029254386353131 : Int64)), (.long x2), (.long ((x0 + (x1 * (-7046029254386353131 : Int64))) + (-7046029254386353131 : Int64)))])) (fun t k => XS.lload X19.here hx rfl (hb hby at_57) rfl k) ?_
  refine Go.via (U' := T19.setTop (mkF m 60 #[.val (.long x0), .second, .val (.long x1), .second, .val (.long x2), .second, .val (.long (-7046029254386353131 : Int64)), .second, .val (.ref b1), .val (.long (own_f4 (own_q3_a_state x1 x0))), .second, .val (.long (own_f4 (own_q3_a_state x2 ((own_q3_a_state x1 x0) + (-7046029254386353131 : Int64))))), .second, .val (.long ((x0 + (x1 * (-7046029254386353131 : Int64))) + (-7046029254386353131 : Int64))), .second, .unset, .unset] [(.long (x2 * (-7046029254386353131 : Int64))), (.long ((x0 + (x1 * (-7046029254386353131 : Int64))) + (-7046029254386353131 : Int64)))])) (fun t k => XS.lmul X19.here hx rfl (hb hby at_59) rfl k) ?_
  refine Go.via (U' := T19.setTop (mkF m 61 #[.val (.long x0), .second, .val (.long x1), .second, .val (.long x2), .second, .val (.long (-7046029254386353131 : Int64)), .second, .val (.ref b1), .val (.long (own_f4 (own_q3_a_state x1 x0))), .second, .val (.long (own_f4 (own_q3_a_state x2 ((own_q3_a_state x1 x0) + (-7046029254386353131 : Int64))))), .second, .val (.long ((x0 + (x1 * (-7046029254386353131 : Int64))) + (-7046029254386353131 : Int64))), .second, .unset, .unset] [(.long (((x0 + (x1 * (-7046029254386353131 : Int64))) + (-7046029254386353131 : Int64)) + (x2 * (-7046029254386353131 : Int64))))])) (fun t k => XS.ladd X19.here hx rfl (hb hby at_60) rfl k) ?_
  refine Go.via (U' := T19.setTop (mkF m 63 #[.val (.long x0), .second, .val (.long x1), .second, .val (.long x2), .second, .val (.long (-7046029254386353131 : Int64)), .second, .val (.ref b1), .val (.long (own_f4 (own_q3_a_state x1 x0))), .second, .val (.long (own_f4 (own_q3_a_state x2 ((own_q3_a_state x1 x0) + (-7046029254386353131 : Int64))))), .second, .val (.long ((x0 + (x1 * (-7046029254386353131 : Int64))) + (-7046029254386353131 : Int64))), .second, .unset, .unset] [(.long (-7046029254386353131 : Int64)), (.long (((x0 + (x1 * (-7046029254386353131 : Int64))) + (-7046029254386353131 : Int64)) + (x2 * (-7046029254386353131 : Int64))))])) (fun t k => XS.lload X19.here hx rfl (hb hby at_61) rfl k) ?_
  refine Go.via (U' := T19.setTop (mkF m 64 #[.val (.long x0), .second, .val (.long x1), .second, .val (.long x2), .second, .val (.long (-7046029254386353131 : Int64)), .second, .val (.ref b1), .val (.long (own_f4 (own_q3_a_state x1 x0))), .second, .val (.long (own_f4 (own_q3_a_state x2 ((own_q3_a_state x1 x0) + (-7046029254386353131 : Int64))))), .second, .val (.long ((x0 + (x1 * (-7046029254386353131 : Int64))) + (-7046029254386353131 : Int64))), .second, .unset, .unset] [(.long ((((x0 + (x1 * (-7046029254386353131 : Int64))) + (-7046029254386353131 : Int64)) + (x2 * (-7046029254386353131 : Int64))) + (-7046029254386353131 : Int64)))])) (fun t k => XS.ladd X19.here hx rfl (hb hby at_63) rfl k) ?_
  refine Go.via (U' := T19.setTop (mkF m 66 #[.val (.long x0), .second, .val (.long x1), .second, .val (.long x2), .second, .val (.long (-7046029254386353131 : Int64)), .second, .val (.ref b1), .val (.long (own_f4 (own_q3_a_state x1 x0))), .second, .val (.long (own_f4 (own_q3_a_state x2 ((own_q3_a_state x1 x0) + (-7046029254386353131 : Int64))))), .second, .val (.long ((x0 + (x1 * (-7046029254386353131 : Int64))) + (-7046029254386353131 : Int64))), .second, .val (.long ((((x0 + (x1 * (-7046029254386353131 : Int64))) + (-7046029254386353131 : Int64)) + (x2 * (-7046029254386353131 : Int64))) + (-7046029254386353131 : Int64))), .second] [])) (fun t k => XS.lstore X19.here hx rfl (hb hby at_64) rfl (l' := #[.val (.long x0), .second, .val (.long x1), .second, .val (.long x2), .second, .val (.long (-7046029254386353131 : Int64)), .second, .val (.ref b1), .val (.long (own_f4 (own_q3_a_state x1 x0))), .second, .val (.long (own_f4 (own_q3_a_state x2 ((own_q3_a_state x1 x0) + (-7046029254386353131 : Int64))))), .second, .val (.long ((x0 + (x1 * (-7046029254386353131 : Int64))) + (-7046029254386353131 : Int64))), .second, .val (.long ((((x0 + (x1 * (-7046029254386353131 : Int64))) + (-7046029254386353131 : Int64)) + (x2 * (-7046029254386353131 : Int64))) + (-7046029254386353131 : Int64))), .second]) rfl k) ?_
  refine Go.via (U' := T19.setTop (mkF m 68 #[.val (.long x0), .second, .val (.long x1), .second, .val (.long x2), .second, .val (.long (-7046029254386353131 : Int64)), .second, .val (.ref b1), .val (.long (own_f4 (own_q3_a_state x1 x0))), .second, .val (.long (own_f4 (own_q3_a_state x2 ((own_q3_a_state x1 x0) + (-7046029254386353131 : Int64))))), .second, .val (.long ((x0 + (x1 * (-7046029254386353131 : Int64))) + (-7046029254386353131 : Int64))), .second, .val (.long ((((x0 + (x1 * (-7046029254386353131 : Int64))) + (-7046029254386353131 : Int64)) + (x2 * (-7046029254386353131 : Int64))) + (-7046029254386353131 : Int64))), .second] [(.long (own_f4 (own_q3_a_state x1 x0)))])) (fun t k => XS.lload X19.here hx rfl (hb hby at_66) rfl k) ?_
  refine Go.via (U' := T19.setTop (mkF m 70 #[.val (.long x0), .second, .val (.long x1), .second, .val (.long x2), .second, .val (.long (-7046029254386353131 : Int64)), .second, .val (.ref b1), .val (.long (own_f4 (own_q3_a_state x1 x0))), .second, .val (.long (own_f4 (own_q3_a_state x2 ((own_q3_a_state x1 x0) + (-7046029254386353131 : Int64))))), .second, .val (.long ((x0 + (x1 * (-7046029254386353131 : Int64))) + (-7046029254386353131 : Int64))), .second, .val (.long ((((x0 + (x1 * (-7046029254386353131 : Int64))) + (-7046029254386353131 : Int64)) + (x2 * (-7046029254386353131 : Int64))) + (-7046029254386353131 : Int64))), .second] [(.long ((x0 + (x1 * (-7046029254386353131 : Int64))) + (-7046029254386353131 : Int64))), (.long (own_f4 (own_q3_a_state x1 x0)))])) (fun t k => XS.lload X19.here hx rfl (hb hby at_68) rfl k) ?_
  obtain ⟨T23, X23, e23, st23⟩ := callS0 X19 hx hZ hown (hw _ (List.mem_of_getElem? (i := 28) rfl)) (hw _ (List.mem_of_getElem? (i := 24) rfl)) (hw _ (List.mem_of_getElem? (i := 3) rfl)) (hw _ (List.mem_of_getElem? (i := 25) rfl)) (by decide) (av := [(.long ((x0 + (x1 * (-7046029254386353131 : Int64))) + (-7046029254386353131 : Int64)))]) (own_rm5 l Z a0 hw [] ((x0 + (x1 * (-7046029254386353131 : Int64))) + (-7046029254386353131 : Int64))  T19.heap) rfl (pc := 70) (Ls := #[.val (.long x0), .second, .val (.long x1), .second, .val (.long x2), .second, .val (.long (-7046029254386353131 : Int64)), .second, .val (.ref b1), .val (.long (own_f4 (own_q3_a_state x1 x0))), .second, .val (.long (own_f4 (own_q3_a_state x2 ((own_q3_a_state x1 x0) + (-7046029254386353131 : Int64))))), .second, .val (.long ((x0 + (x1 * (-7046029254386353131 : Int64))) + (-7046029254386353131 : Int64))), .second, .val (.long ((((x0 + (x1 * (-7046029254386353131 : Int64))) + (-7046029254386353131 : Int64)) + (x2 * (-7046029254386353131 : Int64))) + (-7046029254386353131 : Int64))), .second]) (rest := [(.long (own_f4 (own_q3_a_state x1 x0)))]) (by rw [hml]; rfl) own_k52 rfl 2 (Nat.le_of_eq rfl) (by decide) (by decide) (by decide) (by decide) (hb hby at_70)
  refine Go.via (U' := T23.setTop (mkF m 73 #[.val (.long x0), .second, .val (.long x1), .second, .val (.long x2), .second, .val (.long (-7046029254386353131 : Int64)), .second, .val (.ref b1), .val (.long (own_f4 (own_q3_a_state x1 x0))), .second, .val (.long (own_f4 (own_q3_a_state x2 ((own_q3_a_state x1 x0) + (-7046029254386353131 : Int64))))), .second, .val (.long ((x0 + (x1 * (-7046029254386353131 : Int64))) + (-7046029254386353131 : Int64))), .second, .val (.long ((((x0 + (x1 * (-7046029254386353131 : Int64))) + (-7046029254386353131 : Int64)) + (x2 * (-7046029254386353131 : Int64))) + (-7046029254386353131 : Int64))), .second] [(.long (own_f5 ((x0 + (x1 * (-7046029254386353131 : Int64))) + (-7046029254386353131 : Int64)))), (.long (own_f4 (own_q3_a_state x1 x0)))])) (fun t k => st23 t k) ?_
  refine Go.via (U' := T23.setTop (mkF m 74 #[.val (.long x0), .second, .val (.long x1), .second, .val (.long x2), .second, .val (.long (-7046029254386353131 : Int64)), .second, .val (.ref b1), .val (.long (own_f4 (own_q3_a_state x1 x0))), .second, .val (.long (own_f4 (own_q3_a_state x2 ((own_q3_a_state x1 x0) + (-7046029254386353131 : Int64))))), .second, .val (.long ((x0 + (x1 * (-7046029254386353131 : Int64))) + (-7046029254386353131 : Int64))), .second, .val (.long ((((x0 + (x1 * (-7046029254386353131 : Int64))) + (-7046029254386353131 : Int64)) + (x2 * (-7046029254386353131 : Int64))) + (-7046029254386353131 : Int64))), .second] [(.int (lcmpW (own_f4 (own_q3_a_state x1 x0)) (own_f5 ((x0 + (x1 * (-7046029254386353131 : Int64))) + (-7046029254386353131 : Int64)))))])) (fun t k => XS.lcmp X23.here hx rfl (hb hby at_73) rfl k) ?_
  by_cases hc74 : (lcmpW (own_f4 (own_q3_a_state x1 x0)) (own_f5 ((x0 + (x1 * (-7046029254386353131 : Int64))) + (-7046029254386353131 : Int64)))) = (0 : Int32)
  · refine Go.via (U' := T23.setTop (mkF m 77 #[.val (.long x0), .second, .val (.long x1), .second, .val (.long x2), .second, .val (.long (-7046029254386353131 : Int64)), .second, .val (.ref b1), .val (.long (own_f4 (own_q3_a_state x1 x0))), .second, .val (.long (own_f4 (own_q3_a_state x2 ((own_q3_a_state x1 x0) + (-7046029254386353131 : Int64))))), .second, .val (.long ((x0 + (x1 * (-7046029254386353131 : Int64))) + (-7046029254386353131 : Int64))), .second, .val (.long ((((x0 + (x1 * (-7046029254386353131 : Int64))) + (-7046029254386353131 : Int64)) + (x2 * (-7046029254386353131 : Int64))) + (-7046029254386353131 : Int64))), .second] [])) (fun t k => XS.ifNo X23.here hx rfl (hb hby at_74) rfl ((if0 _ _).trans (teq hc74).2) k) ?_
    refine Go.via (U' := T23.setTop (mkF m 79 #[.val (.long x0), .second, .val (.long x1), .second, .val (.long x2), .second, .val (.long (-7046029254386353131 : Int64)), .second, .val (.ref b1), .val (.long (own_f4 (own_q3_a_state x1 x0))), .second, .val (.long (own_f4 (own_q3_a_state x2 ((own_q3_a_state x1 x0) + (-7046029254386353131 : Int64))))), .second, .val (.long ((x0 + (x1 * (-7046029254386353131 : Int64))) + (-7046029254386353131 : Int64))), .second, .val (.long ((((x0 + (x1 * (-7046029254386353131 : Int64))) + (-7046029254386353131 : Int64)) + (x2 * (-7046029254386353131 : Int64))) + (-7046029254386353131 : Int64))), .second] [(.long (own_f4 (own_q3_a_state x2 ((own_q3_a_state x1 x0) + (-7046029254386353131 : Int64)))))])) (fun t k => XS.lload X23.here hx rfl (hb hby at_77) rfl k) ?_
    refine Go.via (U' := T23.setTop (mkF m 81 #[.val (.long x0), .second, .val (.long x1), .second, .val (.long x2), .second, .val (.long (-7046029254386353131 : Int64)), .second, .val (.ref b1), .val (.long (own_f4 (own_q3_a_state x1 x0))), .second, .val (.long (own_f4 (own_q3_a_state x2 ((own_q3_a_state x1 x0) + (-7046029254386353131 : Int64))))), .second, .val (.long ((x0 + (x1 * (-7046029254386353131 : Int64))) + (-7046029254386353131 : Int64))), .second, .val (.long ((((x0 + (x1 * (-7046029254386353131 : Int64))) + (-7046029254386353131 : Int64)) + (x2 * (-7046029254386353131 : Int64))) + (-7046029254386353131 : Int64))), .second] [(.long ((((x0 + (x1 * (-7046029254386353131 : Int64))) + (-7046029254386353131 : Int64)) + (x2 * (-7046029254386353131 : Int64))) + (-7046029254386353131 : Int64))), (.long (own_f4 (own_q3_a_state x2 ((own_q3_a_state x1 x0) + (-7046029254386353131 : Int64)))))])) (fun t k => XS.lload X23.here hx rfl (hb hby at_79) rfl k) ?_
    obtain ⟨T24, X24, e24, st24⟩ := callS0 X23 hx hZ hown (hw _ (List.mem_of_getElem? (i := 28) rfl)) (hw _ (List.mem_of_getElem? (i := 24) rfl)) (hw _ (List.mem_of_getElem? (i := 3) rfl)) (hw _ (List.mem_of_getElem? (i := 25) rfl)) (by decide) (av := [(.long ((((x0 + (x1 * (-7046029254386353131 : Int64))) + (-7046029254386353131 : Int64)) + (x2 * (-7046029254386353131 : Int64))) + (-7046029254386353131 : Int64)))]) (own_rm5 l Z a0 hw [] ((((x0 + (x1 * (-7046029254386353131 : Int64))) + (-7046029254386353131 : Int64)) + (x2 * (-7046029254386353131 : Int64))) + (-7046029254386353131 : Int64))  T19.heap) e23 (pc := 81) (Ls := #[.val (.long x0), .second, .val (.long x1), .second, .val (.long x2), .second, .val (.long (-7046029254386353131 : Int64)), .second, .val (.ref b1), .val (.long (own_f4 (own_q3_a_state x1 x0))), .second, .val (.long (own_f4 (own_q3_a_state x2 ((own_q3_a_state x1 x0) + (-7046029254386353131 : Int64))))), .second, .val (.long ((x0 + (x1 * (-7046029254386353131 : Int64))) + (-7046029254386353131 : Int64))), .second, .val (.long ((((x0 + (x1 * (-7046029254386353131 : Int64))) + (-7046029254386353131 : Int64)) + (x2 * (-7046029254386353131 : Int64))) + (-7046029254386353131 : Int64))), .second]) (rest := [(.long (own_f4 (own_q3_a_state x2 ((own_q3_a_state x1 x0) + (-7046029254386353131 : Int64)))))]) (by rw [hml]; rfl) own_k52 rfl 2 (Nat.le_of_eq rfl) (by decide) (by decide) (by decide) (by decide) (hb hby at_81)
    refine Go.via (U' := T24.setTop (mkF m 84 #[.val (.long x0), .second, .val (.long x1), .second, .val (.long x2), .second, .val (.long (-7046029254386353131 : Int64)), .second, .val (.ref b1), .val (.long (own_f4 (own_q3_a_state x1 x0))), .second, .val (.long (own_f4 (own_q3_a_state x2 ((own_q3_a_state x1 x0) + (-7046029254386353131 : Int64))))), .second, .val (.long ((x0 + (x1 * (-7046029254386353131 : Int64))) + (-7046029254386353131 : Int64))), .second, .val (.long ((((x0 + (x1 * (-7046029254386353131 : Int64))) + (-7046029254386353131 : Int64)) + (x2 * (-7046029254386353131 : Int64))) + (-7046029254386353131 : Int64))), .second] [(.long (own_f5 ((((x0 + (x1 * (-7046029254386353131 : Int64))) + (-7046029254386353131 : Int64)) + (x2 * (-7046029254386353131 : Int64))) + (-7046029254386353131 : Int64)))), (.long (own_f4 (own_q3_a_state x2 ((own_q3_a_state x1 x0) + (-7046029254386353131 : Int64)))))])) (fun t k => st24 t k) ?_
    refine Go.via (U' := T24.setTop (mkF m 85 #[.val (.long x0), .second, .val (.long x1), .second, .val (.long x2), .second, .val (.long (-7046029254386353131 : Int64)), .second, .val (.ref b1), .val (.long (own_f4 (own_q3_a_state x1 x0))), .second, .val (.long (own_f4 (own_q3_a_state x2 ((own_q3_a_state x1 x0) + (-7046029254386353131 : Int64))))), .second, .val (.long ((x0 + (x1 * (-7046029254386353131 : Int64))) + (-7046029254386353131 : Int64))), .second, .val (.long ((((x0 + (x1 * (-7046029254386353131 : Int64))) + (-7046029254386353131 : Int64)) + (x2 * (-7046029254386353131 : Int64))) + (-7046029254386353131 : Int64))), .second] [(.int (lcmpW (own_f4 (own_q3_a_state x2 ((own_q3_a_state x1 x0) + (-7046029254386353131 : Int64)))) (own_f5 ((((x0 + (x1 * (-7046029254386353131 : Int64))) + (-7046029254386353131 : Int64)) + (x2 * (-7046029254386353131 : Int64))) + (-7046029254386353131 : Int64)))))])) (fun t k => XS.lcmp X24.here hx rfl (hb hby at_84) rfl k) ?_
    by_cases hc85 : (lcmpW (own_f4 (own_q3_a_state x2 ((own_q3_a_state x1 x0) + (-7046029254386353131 : Int64)))) (own_f5 ((((x0 + (x1 * (-7046029254386353131 : Int64))) + (-7046029254386353131 : Int64)) + (x2 * (-7046029254386353131 : Int64))) + (-7046029254386353131 : Int64)))) = (0 : Int32)
    · refine Go.via (U' := T24.setTop (mkF m 88 #[.val (.long x0), .second, .val (.long x1), .second, .val (.long x2), .second, .val (.long (-7046029254386353131 : Int64)), .second, .val (.ref b1), .val (.long (own_f4 (own_q3_a_state x1 x0))), .second, .val (.long (own_f4 (own_q3_a_state x2 ((own_q3_a_state x1 x0) + (-7046029254386353131 : Int64))))), .second, .val (.long ((x0 + (x1 * (-7046029254386353131 : Int64))) + (-7046029254386353131 : Int64))), .second, .val (.long ((((x0 + (x1 * (-7046029254386353131 : Int64))) + (-7046029254386353131 : Int64)) + (x2 * (-7046029254386353131 : Int64))) + (-7046029254386353131 : Int64))), .second] [])) (fun t k => XS.ifNo X24.here hx rfl (hb hby at_85) rfl ((if0 _ _).trans (teq hc85).2) k) ?_
      refine Go.via (U' := T24.setTop (mkF m 89 #[.val (.long x0), .second, .val (.long x1), .second, .val (.long x2), .second, .val (.long (-7046029254386353131 : Int64)), .second, .val (.ref b1), .val (.long (own_f4 (own_q3_a_state x1 x0))), .second, .val (.long (own_f4 (own_q3_a_state x2 ((own_q3_a_state x1 x0) + (-7046029254386353131 : Int64))))), .second, .val (.long ((x0 + (x1 * (-7046029254386353131 : Int64))) + (-7046029254386353131 : Int64))), .second, .val (.long ((((x0 + (x1 * (-7046029254386353131 : Int64))) + (-7046029254386353131 : Int64)) + (x2 * (-7046029254386353131 : Int64))) + (-7046029254386353131 : Int64))), .second] [(.int (1 : Int32))])) (fun t k => XS.iconst X24.here hx rfl (hb hby at_88) k) ?_
      refine Go.via (U' := T24.setTop (mkF m 93 #[.val (.long x0), .second, .val (.long x1), .second, .val (.long x2), .second, .val (.long (-7046029254386353131 : Int64)), .second, .val (.ref b1), .val (.long (own_f4 (own_q3_a_state x1 x0))), .second, .val (.long (own_f4 (own_q3_a_state x2 ((own_q3_a_state x1 x0) + (-7046029254386353131 : Int64))))), .second, .val (.long ((x0 + (x1 * (-7046029254386353131 : Int64))) + (-7046029254386353131 : Int64))), .second, .val (.long ((((x0 + (x1 * (-7046029254386353131 : Int64))) + (-7046029254386353131 : Int64)) + (x2 * (-7046029254386353131 : Int64))) + (-7046029254386353131 : Int64))), .second] [(.int (1 : Int32))])) (fun t k => XS.goto X24.here hx rfl (pc0 := 89) (pc' := 93) rfl (hb hby at_89) (by decide) (by decide) k) ?_
      exact go_retN X24 hx hlk (t := .boolean) hret (by simp) (hb hby at_93) e24 ⟨(congrArg (fun z => some (Value.int z)) (show nar .boolean (1 : Int32) = (own_f0 x0 x1 x2) from by unfold own_f0; simp only [if_pos hc74, if_pos hc85] <;> rfl)), N19⟩ (by decide) (by decide)
    · refine Go.via (U' := T24.setTop (mkF m 92 #[.val (.long x0), .second, .val (.long x1), .second, .val (.long x2), .second, .val (.long (-7046029254386353131 : Int64)), .second, .val (.ref b1), .val (.long (own_f4 (own_q3_a_state x1 x0))), .second, .val (.long (own_f4 (own_q3_a_state x2 ((own_q3_a_state x1 x0) + (-7046029254386353131 : Int64))))), .second, .val (.long ((x0 + (x1 * (-7046029254386353131 : Int64))) + (-7046029254386353131 : Int64))), .second, .val (.long ((((x0 + (x1 * (-7046029254386353131 : Int64))) + (-7046029254386353131 : Int64)) + (x2 * (-7046029254386353131 : Int64))) + (-7046029254386353131 : Int64))), .second] [])) (fun t k => XS.ifYes X24.here hx rfl (pc0 := 85) (pc' := 92) rfl (hb hby at_85) rfl ((if0 _ _).trans (feq hc85).2) (by decide) (by decide) k) ?_
      refine Go.via (U' := T24.setTop (mkF m 93 #[.val (.long x0), .second, .val (.long x1), .second, .val (.long x2), .second, .val (.long (-7046029254386353131 : Int64)), .second, .val (.ref b1), .val (.long (own_f4 (own_q3_a_state x1 x0))), .second, .val (.long (own_f4 (own_q3_a_state x2 ((own_q3_a_state x1 x0) + (-7046029254386353131 : Int64))))), .second, .val (.long ((x0 + (x1 * (-7046029254386353131 : Int64))) + (-7046029254386353131 : Int64))), .second, .val (.long ((((x0 + (x1 * (-7046029254386353131 : Int64))) + (-7046029254386353131 : Int64)) + (x2 * (-7046029254386353131 : Int64))) + (-7046029254386353131 : Int64))), .second] [(.int (0 : Int32))])) (fun t k => XS.iconst X24.here hx rfl (hb hby at_92) k) ?_
      exact go_retN X24 hx hlk (t := .boolean) hret (by simp) (hb hby at_93) e24 ⟨(congrArg (fun z => some (Value.int z)) (show nar .boolean (0 : Int32) = (own_f0 x0 x1 x2) from by unfold own_f0; simp only [if_pos hc74, if_neg hc85] <;> rfl)), N19⟩ (by decide) (by decide)
  · refine Go.via (U' := T23.setTop (mkF m 92 #[.val (.long x0), .second, .val (.long x1), .second, .val (.long x2), .second, .val (.long (-7046029254386353131 : Int64)), .second, .val (.ref b1), .val (.long (own_f4 (own_q3_a_state x1 x0))), .second, .val (.long (own_f4 (own_q3_a_state x2 ((own_q3_a_state x1 x0) + (-7046029254386353131 : Int64))))), .second, .val (.long ((x0 + (x1 * (-7046029254386353131 : Int64))) + (-7046029254386353131 : Int64))), .second, .val (.long ((((x0 + (x1 * (-7046029254386353131 : Int64))) + (-7046029254386353131 : Int64)) + (x2 * (-7046029254386353131 : Int64))) + (-7046029254386353131 : Int64))), .second] [])) (fun t k => XS.ifYes X23.here hx rfl (pc0 := 74) (pc' := 92) rfl (hb hby at_74) rfl ((if0 _ _).trans (feq hc74).2) (by decide) (by decide) k) ?_
    refine Go.via (U' := T23.setTop (mkF m 93 #[.val (.long x0), .second, .val (.long x1), .second, .val (.long x2), .second, .val (.long (-7046029254386353131 : Int64)), .second, .val (.ref b1), .val (.long (own_f4 (own_q3_a_state x1 x0))), .second, .val (.long (own_f4 (own_q3_a_state x2 ((own_q3_a_state x1 x0) + (-7046029254386353131 : Int64))))), .second, .val (.long ((x0 + (x1 * (-7046029254386353131 : Int64))) + (-7046029254386353131 : Int64))), .second, .val (.long ((((x0 + (x1 * (-7046029254386353131 : Int64))) + (-7046029254386353131 : Int64)) + (x2 * (-7046029254386353131 : Int64))) + (-7046029254386353131 : Int64))), .second] [(.int (0 : Int32))])) (fun t k => XS.iconst X23.here hx rfl (hb hby at_92) k) ?_
    exact go_retN X23 hx hlk (t := .boolean) hret (by simp) (hb hby at_93) e23 ⟨(congrArg (fun z => some (Value.int z)) (show nar .boolean (0 : Int32) = (own_f0 x0 x1 x2) from by unfold own_f0; simp only [if_neg hc74] <;> rfl)), N19⟩ (by decide) (by decide)
theorem own_cmp0 (x y : Int64) : lcmpW x y = 0 ↔ x = y := by
  show (if x > y then (1 : Int32) else if x = y then 0 else -1) = 0 ↔ x = y
  by_cases a : y < x
  · rw [if_pos a]
    exact ⟨fun q => absurd q (by decide), fun q => absurd (q ▸ a) (Int64.lt_irrefl)⟩
  · rw [if_neg a]
    by_cases b : x = y
    · rw [if_pos b]; exact ⟨fun _ => b, fun _ => rfl⟩
    · rw [if_neg b]; exact ⟨fun q => absurd q (by decide), fun q => absurd q b⟩
theorem own_unx (w : BitVec 64) (k : Nat) (hk : 64 ≤ 3 * k) : ((w ^^^ (w >>> k)) ^^^ ((w ^^^ (w >>> k)) >>> k)) ^^^ ((w ^^^ (w >>> k)) >>> (2 * k)) = w := by
  have z : w >>> (k + 2 * k) = 0#64 := BitVec.ushiftRight_eq_zero (by omega)
  rw [BitVec.ushiftRight_xor_distrib, BitVec.ushiftRight_xor_distrib, ← BitVec.shiftRight_add, ← BitVec.shiftRight_add, z, show k + k = 2 * k from by omega]
  generalize w >>> k = a
  generalize w >>> (2 * k) = b
  rw [BitVec.xor_zero, BitVec.xor_assoc (w ^^^ a), BitVec.xor_assoc a b b, BitVec.xor_self, BitVec.xor_zero, BitVec.xor_assoc w, BitVec.xor_self, BitVec.xor_zero]
theorem own_u31 (x : Int64) : ((x ^^^ (own_ushrL x (31 : Int32))) ^^^ (own_ushrL (x ^^^ (own_ushrL x (31 : Int32))) (31 : Int32))) ^^^ (own_ushrL (x ^^^ (own_ushrL x (31 : Int32))) (62 : Int32)) = x :=
  Int64.toBitVec_inj.mp (own_unx x.toBitVec 31 (by decide))
theorem own_u27 (x : Int64) : ((x ^^^ (own_ushrL x (27 : Int32))) ^^^ (own_ushrL (x ^^^ (own_ushrL x (27 : Int32))) (27 : Int32))) ^^^ (own_ushrL (x ^^^ (own_ushrL x (27 : Int32))) (54 : Int32)) = x :=
  Int64.toBitVec_inj.mp (own_unx x.toBitVec 27 (by decide))
theorem own_u30 (x : Int64) : ((x ^^^ (own_ushrL x (30 : Int32))) ^^^ (own_ushrL (x ^^^ (own_ushrL x (30 : Int32))) (30 : Int32))) ^^^ (own_ushrL (x ^^^ (own_ushrL x (30 : Int32))) (60 : Int32)) = x :=
  Int64.toBitVec_inj.mp (own_unx x.toBitVec 30 (by decide))
def own_xa (x : Int64) : Int64 := (x ^^^ (own_ushrL x (30 : Int32))) * (-4658895280553007687 : Int64)
def own_xb (x : Int64) : Int64 := (own_xa x ^^^ (own_ushrL (own_xa x) (27 : Int32))) * (-7723592293110705685 : Int64)
def own_mix (x : Int64) : Int64 := own_xb x ^^^ (own_ushrL (own_xb x) (31 : Int32))
def own_xc (z : Int64) : Int64 := (z ^^^ (own_ushrL z (31 : Int32))) ^^^ (own_ushrL z (62 : Int32))
def own_xd (i2 z : Int64) : Int64 := own_xc z * i2
def own_xe (i2 z : Int64) : Int64 := (own_xd i2 z ^^^ (own_ushrL (own_xd i2 z) (27 : Int32))) ^^^ (own_ushrL (own_xd i2 z) (54 : Int32))
def own_xg (i1 i2 z : Int64) : Int64 := own_xe i2 z * i1
def own_unm (i1 i2 z : Int64) : Int64 := (own_xg i1 i2 z ^^^ (own_ushrL (own_xg i1 i2 z) (30 : Int32))) ^^^ (own_ushrL (own_xg i1 i2 z) (60 : Int32))
theorem own_unm_mix (x i1 i2 : Int64) (h1 : (-4658895280553007687 : Int64) * i1 = 1) (h2 : (-7723592293110705685 : Int64) * i2 = 1) : own_unm i1 i2 (own_mix x) = x := by
  have e1 : own_xc (own_mix x) = own_xb x := own_u31 _
  have e2 : own_xd i2 (own_mix x) = own_xa x ^^^ (own_ushrL (own_xa x) (27 : Int32)) := by
    unfold own_xd
    rw [e1]
    unfold own_xb
    rw [Int64.mul_assoc, h2, Int64.mul_one]
  have e3 : own_xe i2 (own_mix x) = own_xa x := by
    unfold own_xe
    rw [e2]
    exact own_u27 _
  have e4 : own_xg i1 i2 (own_mix x) = x ^^^ (own_ushrL x (30 : Int32)) := by
    unfold own_xg
    rw [e3]
    unfold own_xa
    rw [Int64.mul_assoc, h1, Int64.mul_one]
  unfold own_unm
  rw [e4]
  exact own_u30 x
theorem own_plain (x y z : Int64) : own_f0 x y z = 1 := by
  unfold own_f0
  exact (if_pos ((own_cmp0 _ _).mpr rfl)).trans (if_pos ((own_cmp0 _ _).mpr rfl))
set_option maxRecDepth 65536 in
set_option maxHeartbeats 40000000 in
theorem own_comes {Post : Tables → Env → Array Value → State → Outcome → State → Prop} (hpost : ∀ tb e args s v u, (limb_1_1.after args s (.returned v) u = true ∧ limb_1_2.after args s (.returned v) u = true) → FrameEnd s (.returned v) u (Jvm.fieldLocs frame_1_writes args s ++ Jvm.arrayLocs frame_1_arrays args s ++ Jvm.staticLocs frame_1_statics s) 16 128 → Post tb e args s (.returned v) u) :
    ArmFor flags0 classFile x code maxLocals ret World_1 tables_1 room_1 Calls_1 rest_1 Pre_1 Post := by
  intro l hfl _ _ p e ha hc hk s m args below hf hA hF happ hP
  obtain ⟨hcalls, hrest, hpre⟩ := hP
  obtain ⟨-, -, -, hnamed, -, -, -, hat⟩ := (Spec.applies_iff hf).mp happ
  obtain ⟨hg, hn⟩ := and_e (Cond.before_iff.mp (show (Jvm.Cond.and given_1 narrow_1).before args s = true from hpre))
  obtain ⟨hcnt, hg⟩ := and_e hg
  obtain ⟨w0, w1, w2, rfl⟩ : ∃ w0 w1 w2 : Value, args = #[w0, w1, w2] := by
    have hs : args.size = 3 := by simpa [Cond.value, given_1] using hcnt
    obtain ⟨L⟩ := args
    match L, hs with
    | [w0, w1, w2], _ => exact ⟨w0, w1, w2, rfl⟩
  have hw := fun d (hd : d ∈ tables_1) => atoms_spec (ws := Jvm.Cond.code x code maxLocals ret :: tables_1) hat d (List.mem_cons_of_mem _ hd)
  have hfit : Fit s := fun {y c} hc i hi => by
    obtain ⟨ha, rfl⟩ := Array.getElem?_eq_some_iff.mp hc
    have q := List.all_eq_true.mp ((Array.all_eq_true_iff_forall_mem.mp hF) _ (Array.getElem_mem ha)) i (List.mem_range.mpr hi)
    simpa [Array.getElem?_eq_getElem hi] using q
  obtain ⟨hg0, hg⟩ := and_e hg
  obtain ⟨i0, ei0⟩ := isL_v hg0
  obtain rfl : w0 = (.long i0) := Option.some.inj ei0
  obtain ⟨hg1, hg⟩ := and_e hg
  obtain ⟨i1, ei1⟩ := isL_v hg1
  obtain rfl : w1 = (.long i1) := Option.some.inj ei1
  obtain ⟨i2, ei2⟩ := isL_v hg
  obtain rfl : w2 = (.long i2) := Option.some.inj ei2
  obtain ⟨n, o, h1, h2, h3, _, L, rfl, ⟨rfl, N⟩, hq⟩ := own_rm0 l s _ hw tables_1 i0 i1 i2 s.heap s.heap.size (Nat.le_refl _) p e ha hc hk s m _ below hf ((Spec.applies_iff_loose hf).mp happ).1 ⟨rfl, State.Warmed39.refl s, rfl⟩ trivial
  refine ⟨n, _, h1, h2, h3, hpost _ _ _ _ _ _ ⟨Cond.after_iff.mpr rfl, Cond.after_iff.mpr (eq_i res_at (Term.int_eval (1)) (congrArg Value.int (own_plain i0 i1 i2)))⟩ ⟨hq.1, hq.2.1, (hq.2.2.sift fun y hy => Or.inr (N y hy)).mono (by decide) (by decide)⟩⟩
theorem main_1_1 : Claimed_1_1 := own_comes fun _ _ _ _ _ _ h hF => ⟨h.1, hF⟩
theorem main_1_2 : Claimed_1_2 := own_comes fun _ _ _ _ _ _ h hF => ⟨h.2, hF⟩
end Jvm.Pilot.@@N@@
namespace Jvm.Pilot.@@N@@
open Jvm Jvm.ClassFile Sem Op Lib Jvm.Free Jvm.Stand Jvm.Pilot.@@N@@.Jvm.D
/-! MADE BY PROGRAM (witnessworld.py) out of the Statement's table words and the real class files: 9 classes; the members and pool entries that the words name. The judged class is class 1, her method 1. -/
namespace start1
open Jvm.ClassFile
def u (s : String) : CpInfo := .utf8 (stringToUtf16 s)
/-- a pool by its gaps: so many unusable entries, then the entry; so many at the end -/
def gap : Nat → List CpInfo → List CpInfo
  | 0, r => r
  | n + 1, r => .unusable :: gap n r
def poolList (es : List (Nat × CpInfo)) (last : Nat) : List CpInfo := es.foldr (fun e r => gap e.1 (e.2 :: r)) (gap last [])
def pool (es : List (Nat × CpInfo)) (last : Nat) : Array CpInfo := ⟨poolList es last⟩
def fileOf (pool : Array CpInfo) (this : Nat) (attrs : Array Attribute := #[]) (ms : Array MethodInfo := #[]) (fl : Nat := 33) (sup : Nat := 0) (ifs : Array Nat := #[]) (fds : Array FieldInfo := #[]) : ClassFile where
  minorVersion := 0
  majorVersion := 65
  constantPool := pool
  accessFlags := fl
  thisClass := this
  superClass := sup
  interfaces := ifs
  fields := fds
  methods := ms
  attributes := attrs
def plain (name : String) (sup : Option ClassId) : Class where
  name := name
  kind := .ordinary
  loader := none
  accessFlags := 33
  super := sup
  interfaces := #[]
  cf := none
  fields := #[]
  methods := #[]
  instanceTypes := #[]
  staticTypes := #[]
  resolved := #[]
  callSites := []
  init := .initialized
  statics := none
  mirror := none

def pool0 : Array CpInfo := pool [(5, u "<init>"), (0, u "()V"), (1, .class_ 10), (1, u "java/lang/Object")] 113

def k0c0 : Code := { maxStack := 0, maxLocals := 1, code := object_method_1_code, exceptionTable := #[], attributes := #[] }
def k0m0 : Method := { name := "<init>", desc := "()V", sig := { parameters := [], returnType := none }, accessFlags := 1, code := some k0c0 }
/-- java/lang/Object -/
def k0 : Class := { plain "java/lang/Object" none with
  accessFlags := 33
  interfaces := #[]
  cf := some (fileOf pool0 8 #[] #[{ accessFlags := 1, nameIndex := 5, descriptorIndex := 6, attributes := #[] }] 33 0 #[] #[])
  fields := #[]
  methods := #[k0m0]
  instanceTypes := #[]
  staticTypes := #[]
  resolved := Array.replicate 124 none
  statics := none }

def pool1 : Array CpInfo := pool [(2, .class_ 4), (1, u "java/lang/Object"), (0, u "<init>"), (0, u "()V"), (0, .long 11400714819323198485), (1, .class_ 10), (0, u "com/example/libhazy/libhazy/SplitMix64"), (0, .methodref 9 12), (0, .nameAndType 5 13), (0, u "(J)V"), (0, .methodref 9 15), (0, .nameAndType 16 13), (0, u "skip"), (0, .methodref 9 18), (0, .nameAndType 19 20), (0, u "next"), (0, u "()J"), (0, .methodref 9 22), (0, .nameAndType 23 24), (0, u "mix"), (0, u "(J)J"), (0, .class_ 26), (0, u "com/example/libhazy/libhazy/SplitMix64SkipPinLaw"), (2, u "law"), (0, u "(JJJ)Z")] 3

def k1m0 : Method := { name := "<init>", desc := "()V", sig := { parameters := [], returnType := none }, accessFlags := 1, code := none }
def k1c1 : Code := { maxStack := 6, maxLocals := 17, code := code, exceptionTable := #[], attributes := #[] }
def k1m1 : Method := { name := "law", desc := "(JJJ)Z", sig := { parameters := [.long, .long, .long], returnType := some .boolean }, accessFlags := 9, code := some k1c1 }
/-- com/example/libhazy/libhazy/SplitMix64SkipPinLaw -/
def k1 : Class := { plain "com/example/libhazy/libhazy/SplitMix64SkipPinLaw" (some 0) with
  accessFlags := 49
  interfaces := #[]
  cf := some (fileOf pool1 25 #[] #[{ accessFlags := 1, nameIndex := 5, descriptorIndex := 6, attributes := #[] }, { accessFlags := 9, nameIndex := 29, descriptorIndex := 30, attributes := #[] }] 49 2 #[] #[])
  fields := #[]
  methods := #[k1m0, k1m1]
  instanceTypes := #[]
  staticTypes := #[]
  resolved := Array.replicate 34 none
  statics := none }

def pool2 : Array CpInfo := pool [(1, .methodref 2 3), (0, .class_ 4), (0, .nameAndType 5 6), (0, u "java/lang/Object"), (0, u "<init>"), (0, u "()V"), (0, .fieldref 8 9), (0, .class_ 10), (0, .nameAndType 11 12), (0, u "com/example/libhazy/libhazy/SplitMix64"), (0, u "state"), (0, u "J"), (0, .long 13787848793156543929), (1, .long 10723151780598845931), (1, .long 11400714819323198485), (1, .methodref 8 20), (0, .nameAndType 21 22), (0, u "mix"), (0, u "(J)J"), (0, u "GOLDEN_GAMMA"), (1, u "(J)V"), (4, u "next"), (0, u "()J"), (0, u "skip")] 2

def k2c0 : Code := { maxStack := 3, maxLocals := 3, code := prog_50_method_1_code, exceptionTable := #[], attributes := #[] }
def k2m0 : Method := { name := "<init>", desc := "(J)V", sig := { parameters := [.long], returnType := none }, accessFlags := 0, code := some k2c0 }
def k2c1 : Code := { maxStack := 5, maxLocals := 4, code := prog_50_method_2_code, exceptionTable := #[], attributes := #[] }
def k2m1 : Method := { name := "mix", desc := "(J)J", sig := { parameters := [.long], returnType := some .long }, accessFlags := 8, code := some k2c1 }
def k2c2 : Code := { maxStack := 5, maxLocals := 1, code := prog_50_method_4_code, exceptionTable := #[], attributes := #[] }
def k2m2 : Method := { name := "next", desc := "()J", sig := { parameters := [], returnType := some .long }, accessFlags := 0, code := some k2c2 }
def k2c3 : Code := { maxStack := 7, maxLocals := 3, code := prog_50_method_5_code, exceptionTable := #[], attributes := #[] }
def k2m3 : Method := { name := "skip", desc := "(J)V", sig := { parameters := [.long], returnType := none }, accessFlags := 0, code := some k2c3 }
/-- com/example/libhazy/libhazy/SplitMix64 -/
def k2 : Class := { plain "com/example/libhazy/libhazy/SplitMix64" (some 0) with
  accessFlags := 32
  interfaces := #[]
  cf := some (fileOf pool2 8 #[] #[{ accessFlags := 0, nameIndex := 5, descriptorIndex := 25, attributes := #[] }, { accessFlags := 8, nameIndex := 21, descriptorIndex := 22, attributes := #[] }, { accessFlags := 0, nameIndex := 30, descriptorIndex := 31, attributes := #[] }, { accessFlags := 0, nameIndex := 32, descriptorIndex := 25, attributes := #[] }] 32 2 #[] #[{ accessFlags := 26, nameIndex := 23, descriptorIndex := 12, attributes := #[] }, { accessFlags := 2, nameIndex := 11, descriptorIndex := 12, attributes := #[] }])
  fields := #[{ name := "GOLDEN_GAMMA", type := .long, accessFlags := 26, slot := 0, constantValue := 0 }, { name := "state", type := .long, accessFlags := 2, slot := 0, constantValue := 0 }]
  methods := #[k2m0, k2m1, k2m2, k2m3]
  instanceTypes := #[.long]
  staticTypes := #[.long]
  resolved := Array.replicate 35 none
  statics := none }

def pool3 : Array CpInfo := pool [(1, u "java/lang/Cloneable"), (0, .class_ 1), (0, u "java/lang/Object"), (0, .class_ 3)] 3

/-- java/lang/Cloneable -/
def k3 : Class := { plain "java/lang/Cloneable" (some 0) with
  accessFlags := 1537
  interfaces := #[]
  cf := some (fileOf pool3 2 #[] #[] 1537 4 #[] #[])
  fields := #[]
  methods := #[]
  instanceTypes := #[]
  staticTypes := #[]
  resolved := Array.replicate 8 none
  statics := none }

def pool4 : Array CpInfo := pool [(1, u "java/io/Serializable"), (0, .class_ 1), (0, u "java/lang/Object"), (0, .class_ 3)] 3

/-- java/io/Serializable -/
def k4 : Class := { plain "java/io/Serializable" (some 0) with
  accessFlags := 1537
  interfaces := #[]
  cf := some (fileOf pool4 2 #[] #[] 1537 4 #[] #[])
  fields := #[]
  methods := #[]
  instanceTypes := #[]
  staticTypes := #[]
  resolved := Array.replicate 8 none
  statics := none }

/-- the primitive byte -/
def k5 : Class := { plain "byte" none with kind := .primitive 'B', accessFlags := 0x411 }
/-- [B -/
def k6 : Class := { plain "[B" (some 0) with kind := .array 5 .byte, interfaces := #[3, 4], accessFlags := 1041 }

/-- the primitive int -/
def k7 : Class := { plain "int" none with kind := .primitive 'I', accessFlags := 0x411 }
/-- [I -/
def k8 : Class := { plain "[I" (some 0) with kind := .array 7 .int, interfaces := #[3, 4], accessFlags := 1041 }

def heap : Heap := #[]
def classes : Array Class := #[k0, k1, k2, k3, k4, k5, k6, k7, k8]
def interned : List (Array UInt16 × Addr) := []
def slotsUsed : Nat := 0
def theMethod : MethodId := ⟨1, 1⟩
def args0 : Array Value := #[.long 5, .long 6, .long 7]
def aboutOver (below : List Frame) : State where
  vm := { classes := classes, interned := interned.toArray }
  heap := heap
  slotsUsed := slotsUsed
  threads := #[{ frames := .invoking theMethod args0 :: below }]
def below0 : List Frame := [.native { method := ⟨0, 0⟩, args := #[] }]
def about1 : State := aboutOver below0
def p0 : Program := .bare "" "" ""
def e0 : Env := launch0.env 0 0 0
theorem w_frames : about1.frames = Frame.invoking theMethod args0 :: below0 := rfl
set_option maxRecDepth 65536 in
theorem w_args : argsFit about1.vm theMethod args0 = true := by decide +kernel
set_option maxRecDepth 65536 in
theorem w_heap : heapFits about1 = true := by decide +kernel
set_option maxRecDepth 65536 in
theorem w_runnable : about1.curStatus? = some .runnable := by decide +kernel
set_option maxRecDepth 65536 in
theorem w_alone : about1.alone = true := by decide +kernel
set_option maxRecDepth 65536 in
theorem w_named : about1.methodNamed? x = some theMethod := by decide +kernel
set_option maxRecDepth 65536 in
theorem w_hears : about1.hears theMethod below0 = true := by decide +kernel
set_option maxRecDepth 65536 in
theorem w_ripe : about1.ripe theMethod args0 below0 = true := by decide +kernel
theorem w_running : about1.status = .running := rfl
set_option maxRecDepth 65536 in
theorem w_room : about1.hasRoom e0.platform room_1 = true :=
  launch0.hasRoom_least _ room_1 (by decide +kernel) (by decide +kernel) (by decide +kernel) (by decide +kernel) (by decide +kernel) (by decide +kernel)
theorem allAtoms_all (ts : List Jvm.Cond) (a : Array Jvm.Value) (st : Jvm.State) : (allAtoms ts).before a st = ts.all (fun c => c.before a st) := by
  induction ts with
  | nil => rfl
  | cons c t ih =>
    show (Jvm.Cond.and c (allAtoms t)).before a st = _
    rw [Jvm.Cond.before_and, ih, List.all_cons]
def words1 : List Jvm.Cond := Jvm.Cond.code x code maxLocals ret :: tables_1
/-- a 'code' word, met by the world's own term for the bytes: nothing is compared byte by byte -/
theorem code_word {y : MethodName} {bytes : ByteArray} {mx : Nat} {rt : Option FieldType} {a : Array Value} {s : State} {m : MethodId} {meth : Method} {c : Code} (h1 : s.methodNamed? y = some m) (h2 : s.vm.method? m = some meth) (h3 : meth.code = some c) (h4 : c.code = bytes)
    (h5 : (c.maxLocals == mx && c.exceptionTable.isEmpty && decide (c.maxStack ≤ mostOperands) && decide (meth.sig.returnType = rt) && !meth.locks && decide (parseMethodDescriptor y.desc = some meth.sig)) = true) : (Jvm.Cond.code y bytes mx rt).before a s = true := by
  simp only [Bool.and_eq_true, beq_iff_eq, Bool.not_eq_true', decide_eq_true_eq] at h5
  obtain ⟨⟨⟨⟨⟨g1, g2⟩, g3⟩, g4⟩, g5⟩, g6⟩ := h5
  simp [Cond.before, Cond.holds, Cond.value, h1, h2, h3, h4, g1, g2, g3, g4, g5, g6]
def isCode : Jvm.Cond → Bool
  | .code _ _ _ _ => true
  | _ => false
theorem all_split {L : List Jvm.Cond} {P : Jvm.Cond → Bool} (h1 : L.all (fun c => isCode c || P c) = true) (h2 : ∀ c ∈ L.filter isCode, P c = true) : L.all P = true := by
  refine List.all_eq_true.mpr fun c hc => ?_
  have h := List.all_eq_true.mp h1 c hc
  rcases Bool.eq_false_or_eq_true (isCode c) with hi | hi
  · exact h2 c (List.mem_filter.mpr ⟨hc, hi⟩)
  · simpa [hi] using h
set_option maxRecDepth 65536 in
theorem w_c0 : (Jvm.Cond.code x code maxLocals ret).before args0 about1 = true := code_word (m := ⟨1, 1⟩) (meth := k1m1) (c := k1c1) (by decide +kernel) rfl rfl rfl (by decide +kernel)
set_option maxRecDepth 65536 in
theorem w_c1 : (Jvm.Cond.code ({ cls := "com/example/libhazy/libhazy/SplitMix64", name := "<init>", desc := "(J)V" } : Jvm.MethodName) prog_50_method_1_code (3 : Nat) (Option.none : Option Jvm.ClassFile.FieldType)).before args0 about1 = true := code_word (m := ⟨2, 0⟩) (meth := k2m0) (c := k2c0) (by decide +kernel) rfl rfl rfl (by decide +kernel)
set_option maxRecDepth 65536 in
theorem w_c2 : (Jvm.Cond.code ({ cls := "java/lang/Object", name := "<init>", desc := "()V" } : Jvm.MethodName) object_method_1_code (1 : Nat) (Option.none : Option Jvm.ClassFile.FieldType)).before args0 about1 = true := code_word (m := ⟨0, 0⟩) (meth := k0m0) (c := k0c0) (by decide +kernel) rfl rfl rfl (by decide +kernel)
set_option maxRecDepth 65536 in
theorem w_c3 : (Jvm.Cond.code ({ cls := "com/example/libhazy/libhazy/SplitMix64", name := "skip", desc := "(J)V" } : Jvm.MethodName) prog_50_method_5_code (3 : Nat) (Option.none : Option Jvm.ClassFile.FieldType)).before args0 about1 = true := code_word (m := ⟨2, 3⟩) (meth := k2m3) (c := k2c3) (by decide +kernel) rfl rfl rfl (by decide +kernel)
set_option maxRecDepth 65536 in
theorem w_c4 : (Jvm.Cond.code ({ cls := "com/example/libhazy/libhazy/SplitMix64", name := "next", desc := "()J" } : Jvm.MethodName) prog_50_method_4_code (1 : Nat) (Option.some Jvm.ClassFile.FieldType.long)).before args0 about1 = true := code_word (m := ⟨2, 2⟩) (meth := k2m2) (c := k2c2) (by decide +kernel) rfl rfl rfl (by decide +kernel)
set_option maxRecDepth 65536 in
theorem w_c5 : (Jvm.Cond.code ({ cls := "com/example/libhazy/libhazy/SplitMix64", name := "mix", desc := "(J)J" } : Jvm.MethodName) prog_50_method_2_code (4 : Nat) (Option.some Jvm.ClassFile.FieldType.long)).before args0 about1 = true := code_word (m := ⟨2, 1⟩) (meth := k2m1) (c := k2c1) (by decide +kernel) rfl rfl rfl (by decide +kernel)
def codes1 : List Jvm.Cond := [Jvm.Cond.code x code maxLocals ret, Jvm.Cond.code ({ cls := "com/example/libhazy/libhazy/SplitMix64", name := "<init>", desc := "(J)V" } : Jvm.MethodName) prog_50_method_1_code (3 : Nat) (Option.none : Option Jvm.ClassFile.FieldType), Jvm.Cond.code ({ cls := "java/lang/Object", name := "<init>", desc := "()V" } : Jvm.MethodName) object_method_1_code (1 : Nat) (Option.none : Option Jvm.ClassFile.FieldType), Jvm.Cond.code ({ cls := "com/example/libhazy/libhazy/SplitMix64", name := "skip", desc := "(J)V" } : Jvm.MethodName) prog_50_method_5_code (3 : Nat) (Option.none : Option Jvm.ClassFile.FieldType), Jvm.Cond.code ({ cls := "com/example/libhazy/libhazy/SplitMix64", name := "next", desc := "()J" } : Jvm.MethodName) prog_50_method_4_code (1 : Nat) (Option.some Jvm.ClassFile.FieldType.long), Jvm.Cond.code ({ cls := "com/example/libhazy/libhazy/SplitMix64", name := "mix", desc := "(J)J" } : Jvm.MethodName) prog_50_method_2_code (4 : Nat) (Option.some Jvm.ClassFile.FieldType.long)]
set_option maxRecDepth 65536 in
theorem codes_eq : words1.filter isCode = codes1 := rfl
theorem w_codes : ∀ c ∈ words1.filter isCode, c.before args0 about1 = true := by
  rw [codes_eq]
  intro c hc
  simp only [codes1, List.mem_cons, List.not_mem_nil, or_false] at hc
  rcases hc with rfl | rfl | rfl | rfl | rfl | rfl
  · exact w_c0
  · exact w_c1
  · exact w_c2
  · exact w_c3
  · exact w_c4
  · exact w_c5
set_option maxRecDepth 65536 in
theorem w_t1 : (words1.take 24).all (fun c => isCode c || c.before args0 about1) = true := by decide +kernel
set_option maxRecDepth 65536 in
theorem w_t2 : (words1.drop 24).all (fun c => isCode c || c.before args0 about1) = true := by decide +kernel
theorem w_tables : (allAtoms (Jvm.Cond.code x code maxLocals ret :: tables_1)).before args0 about1 = true := by
  rw [allAtoms_all]
  show words1.all (fun c => c.before args0 about1) = true
  refine all_split ?_ w_codes
  rw [← List.take_append_drop 24 words1, List.all_append, w_t1, w_t2]
  rfl
set_option maxRecDepth 65536 in
theorem w_case : (Jvm.Cond.and given_1 narrow_1).before args0 about1 = true := by decide +kernel
theorem w_applies : (headSpec (Jvm.Cond.code x code maxLocals ret :: tables_1) room_1).applies x e0.platform about1 = true :=
  (Spec.applies_iff w_frames).mpr ⟨w_running, w_runnable, w_alone, w_named, w_hears, w_ripe, w_room, w_tables⟩
theorem atStart : AtStart classFile x code maxLocals ret World_1 tables_1 room_1 Calls_1 rest_1 Pre_1 launch0 p0 e0 about1 theMethod args0 below0 :=
  ⟨lists_1, trivial, launch0.admits_env _ _ _, launch0.least_env, fairChoices_fair.cas, fairChoices_fair.clock, w_frames, w_args, w_heap, w_applies, trivial, trivial, w_case⟩
end start1
theorem witness_1 : WitnessClaimed_1 := ⟨start1.p0, start1.e0, start1.about1, start1.theMethod, start1.args0, start1.below0, start1.atStart⟩
end Jvm.Pilot.@@N@@

import JvmDerived
import JvmDerived.Pilot.@@N@@Statement
import JvmDerived.Pilot.@@N@@Code
set_option linter.unusedVariables false
set_option linter.unusedSimpArgs false
namespace Jvm.Pilot.@@N@@
open Jvm Jvm.ClassFile Sem Op Lib Jvm.Free Jvm.Stand Jvm.LawKit Jvm.RoadKit Bundle Jvm.Pilot.@@N@@.Jvm.D
def own_ushr (x y : Int32) : Int32 := (x.toUInt32 >>> (y &&& 31).toUInt32).toInt32
def own_ushrL (x : Int64) (y : Int32) : Int64 := (x.toUInt64 >>> (y &&& 0x3f).toInt64.toUInt64).toInt64
section OwnKit
variable {p : Program} {l : Launch} {e : Env} {R : Room} {s : State} {m : MethodId} {args : Array Value} {below : List Frame} {meth : Method} {c : Code} {T : State} {locs : List Loc} {cells slots : Nat} {Z : State} {h h0 : Heap} {ce sl : Nat} {Q : Option Value → Heap → List Loc → Prop} {U U' : State} {a0 : Array Value}
/-- from U the walk comes to its return, and what it leaves is Q -/
def Go (p : Program) (e : Env) (below : List Frame) (s : State) (ce sl : Nat) (Q : Option Value → Heap → List Loc → Prop) (U : State) : Prop :=
  ∃ s₂ o, Steps p.tables e below U s₂ ∧ s₂.status = .running ∧ Ended s₂ below o ∧ ∃ v L, o = .returned v ∧ Q v s₂.heap L ∧ FrameEnd s o s₂ L ce sl
theorem Go.via (h : ∀ t, Steps p.tables e below U' t → Steps p.tables e below U t) (g : Go p e below s ce sl Q U') : Go p e below s ce sl Q U := by
  obtain ⟨s₂, o, h1, h2⟩ := g
  exact ⟨s₂, o, h _ h1, h2⟩
theorem Go.cast {g g' : JFrame} (q : g = g') (k : Go p e below s ce sl Q (T.setTop g')) : Go p e below s ce sl Q (T.setTop g) := q ▸ k
/-- the contract of a body: called with as', over the heap h0, it returns and leaves Q -/
def Meets (l : Launch) (Z : State) (y : MethodName) (bytes : ByteArray) (maxL : Nat) (rt : Option FieldType) (ws : List Jvm.Cond) (rm : Room) (as' : Array Value) (h0 : Heap) (Q : Option Value → Heap → List Loc → Prop) : Prop :=
  MetFree l y (head1 (Jvm.Cond.code y bytes maxL rt :: ws) rm) (fun a U => a = as' ∧ Z.Warmed39 U.vm ∧ U.heap = h0) (fun _ _ _ _ _ => True) (fun _ U o U' => ∃ v L, o = .returned v ∧ Q v U'.heap L ∧ FrameEnd U o U' L rm.cells rm.slots)
theorem meets_of {y : MethodName} {bytes : ByteArray} {maxL : Nat} {rt : Option FieldType} {ws : List Jvm.Cond} {rm : Room} {as' : Array Value} (hpl : plainFor y = true)
    (body : ∀ p e s m below meth c s₁, Stand p l e rm s m as' below meth c s₁ [] 0 0 → p.tables.exec = Jvm.exec → Z.Warmed39 s.vm → c.code = bytes → c.maxLocals = maxL → meth.sig.returnType = rt → meth.locks = false → s.vm.findClass y.cls = some m.cls → meth.name = y.name → s₁.heap = h0 →
      Go p e below s rm.cells rm.slots Q (s₁.setTop (entryFrame m as' maxL))) : Meets l Z y bytes maxL rt ws rm as' h0 Q := by
  refine MetFree.of_bodySF hpl hisR ?_
  intro p e s m args below meth c s₁ Bd hml hP hK
  obtain ⟨rfl, hZ, hh⟩ := hP
  exact body p e s m below meth c s₁ (Stand.of_body Bd) Bd.exec hZ Bd.bytes hml Bd.returns Bd.notSynchronized (findClass_of_methodNamed Bd.named) (name_of_methodNamed Bd.named Bd.method).1 (by rw [← hh, Bd.state]; rfl)
theorem go_ret (X : Stand p l e R s m args below meth c T locs cells slots) (hlk : meth.locks = false) {v : Option Value} (hv : meth.sig.returnType = none → v = none) (eT : T.heap = h) (hQ : Q v h locs) (hc : cells ≤ ce) (hs : slots ≤ sl)
    (st : ∀ fs, (∀ (f : JFrame) (acts : List Action), f.method = m → f.locked = none → f.entered = [] → (doReturn e (T.setTop f) acts v).1 = T.setFrames fs) → Steps p.tables e below U (T.setFrames fs)) : Go p e below s ce sl Q U := by
  obtain ⟨fs, hr, hrun, hended, hW, hsame⟩ := X.leave hv hlk
  exact ⟨_, _, st fs hr, hrun, hended, v, locs, rfl, (by show Q v T.heap locs; rw [eT]; exact hQ), ⟨_, rfl⟩, hW, hsame.mono hc hs⟩
theorem go_retN (X : Stand p l e R s m args below meth c T locs cells slots) (hx : p.tables.exec = Jvm.exec) (hlk : meth.locks = false) {t : FieldType} (hret : meth.sig.returnType = some t) (ht : t = .boolean ∨ t = .byte ∨ t = .char ∨ t = .short) {pc : Nat} {Ls : Array Slot} {z : Int32} {rest : List Value}
    (hd : decode c.code pc = .ok (.ireturn, 1)) (eT : T.heap = h) (hQ : Q (some (.int (nar t z))) h locs) (hc : cells ≤ ce) (hs : slots ≤ sl) : Go p e below s ce sl Q (T.setTop (mkF m pc Ls (.int z :: rest))) :=
  go_ret X hlk (fun h => by rw [hret] at h; cases h) eT hQ hc hs (fun fs hr => retN X hx hret ht hd hr)
theorem go_retI (X : Stand p l e R s m args below meth c T locs cells slots) (hx : p.tables.exec = Jvm.exec) (hlk : meth.locks = false) (hret : meth.sig.returnType = some .int) {pc : Nat} {Ls : Array Slot} {z : Int32} {rest : List Value}
    (hd : decode c.code pc = .ok (.ireturn, 1)) (eT : T.heap = h) (hQ : Q (some (.int z)) h locs) (hc : cells ≤ ce) (hs : slots ≤ sl) : Go p e below s ce sl Q (T.setTop (mkF m pc Ls (.int z :: rest))) :=
  go_ret X hlk (fun h => by rw [hret] at h; cases h) eT hQ hc hs (fun fs hr => retOut X hx hret rfl (Or.inl ⟨rfl, Or.inl rfl, z, rfl⟩) hd hr)
theorem go_retJ (X : Stand p l e R s m args below meth c T locs cells slots) (hx : p.tables.exec = Jvm.exec) (hlk : meth.locks = false) (hret : meth.sig.returnType = some .long) {pc : Nat} {Ls : Array Slot} {z : Int64} {rest : List Value}
    (hd : decode c.code pc = .ok (.lreturn, 1)) (eT : T.heap = h) (hQ : Q (some (.long z)) h locs) (hc : cells ≤ ce) (hs : slots ≤ sl) : Go p e below s ce sl Q (T.setTop (mkF m pc Ls (.long z :: rest))) :=
  go_ret X hlk (fun h => by rw [hret] at h; cases h) eT hQ hc hs (fun fs hr => retOut X hx hret rfl (Or.inr (Or.inl ⟨rfl, rfl, z, rfl⟩)) hd hr)
theorem go_retA (X : Stand p l e R s m args below meth c T locs cells slots) (hx : p.tables.exec = Jvm.exec) (hlk : meth.locks = false) {t : FieldType} (hret : meth.sig.returnType = some t) (ht : t.isReference = true) {pc : Nat} {Ls : Array Slot} {w : Value} (hw : w.isRef = true) (hn : narrow t w = w) {rest : List Value}
    (hd : decode c.code pc = .ok (.areturn, 1)) (eT : T.heap = h) (hQ : Q (some w) h locs) (hc : cells ≤ ce) (hs : slots ≤ sl) : Go p e below s ce sl Q (T.setTop (mkF m pc Ls (w :: rest))) :=
  go_ret X hlk (fun h => by rw [hret] at h; cases h) eT hQ hc hs (fun fs hr => retOut X hx hret hn (Or.inr (Or.inr (Or.inr (Or.inr ⟨rfl, ht, hw⟩)))) hd hr)
theorem go_retV (X : Stand p l e R s m args below meth c T locs cells slots) (hx : p.tables.exec = Jvm.exec) (hlk : meth.locks = false) (hret : meth.sig.returnType = none) {pc : Nat} {Ls : Array Slot}
    (hd : decode c.code pc = .ok (.return_, 1)) (eT : T.heap = h) (hQ : Q none h locs) (hc : cells ≤ ce) (hs : slots ≤ sl) : Go p e below s ce sl Q (T.setTop (mkF m pc Ls [])) :=
  go_ret X hlk (fun _ => rfl) eT hQ hc hs (fun fs hr => X.returnOut hx hret hd hr)
/-- it returned v, wrote nothing and made nothing -/
def PureR (v : Option Value) (h0 : Heap) : Option Value → Heap → List Loc → Prop := fun v' h L => v' = v ∧ h = h0 ∧ L = []
/-- a static method by its contract -/
theorem callSQ (X : Stand p l e R s m args below meth c T locs cells slots) (hx : p.tables.exec = Jvm.exec) (hZ : Z.Warmed39 s.vm) {own : String} {index : Nat} {y : MethodName} {bytes : ByteArray} {maxL : Nat} {rt : Option FieldType} {rm : Room}
    (hown : s.vm.findClass own = some m.cls) (w1 : (Jvm.Cond.methodLink own index y).before a0 Z = true) (w2 : (Jvm.Cond.static y).before a0 Z = true) (w3 : (Jvm.Cond.initialized y.cls).before a0 Z = true) (w4 : (Jvm.Cond.code y bytes maxL rt).before a0 Z = true)
    (hy : y.cls ≠ "java/lang/invoke/MethodHandle" ∧ y.cls ≠ "java/lang/invoke/VarHandle") {av : List Value} (hM : Meets l Z y bytes maxL rt [] rm av.toArray h Q) (eT : T.heap = h)
    {pc : Nat} {Ls : Array Slot} {rest : List Value} {ps : List FieldType} {r : Option FieldType} (hsize : Ls.size = c.maxLocals) (hp : parseMethodDescriptor y.desc = some ⟨ps, r⟩) (hlen : av.length = ps.length)
    (W : Nat) (hW : (rest.map fun v => v.category).sum ≤ W) (hf : rm.frames + 1 ≤ R.frames) (hl : W + (maxL + 11) + rm.locals ≤ R.locals) (hc : cells + rm.cells ≤ R.cells) (hs : slots + rm.slots ≤ R.slots) (hd : decode c.code pc = .ok (.invokestatic index, 3)) :
    ∃ v T' L, Stand p l e R s m args below meth c T' (locs ++ L) (cells + rm.cells) (slots + rm.slots) ∧ Q v T'.heap L ∧
      ∀ t, Steps p.tables e below (T'.setTop (mkF m (pc + 3) Ls (v.toList ++ rest))) t → Steps p.tables e below (T.setTop (mkF m pc Ls (av.reverse ++ rest))) t := by
  obtain ⟨v, _, ⟨T2, L2, k2, n2⟩, -, X2, ⟨Lc2, hQ2, l2, y2, z2⟩, st2⟩ := Jvm.LawKit.callS X hx (y := y) hown (mvT hZ w1) (mvT hZ w2) (mvT hZ w3) (mvT hZ w4) hy (backOf (W := W) hM hZ w4 w3 hf hl) (g := mkF m pc Ls (av.reverse ++ rest)) rfl hsize (argsL := av) (rest := rest) (lenOf hp hlen) rfl (by show 2 * 0 + _ ≤ _; rw [Nat.mul_zero, Nat.zero_add]; exact hW) hd (fun _ _ => ⟨rfl, eT, hc, hs⟩)
  dsimp only [Pt.U, Pt.locs, Pt.cells, Pt.slots] at X2 l2 y2 z2 st2 hQ2
  subst l2 y2 z2
  exact ⟨v, T2, Lc2, X2, hQ2, st2⟩
/-- a static method that writes and makes nothing -/
theorem callS0 (X : Stand p l e R s m args below meth c T locs cells slots) (hx : p.tables.exec = Jvm.exec) (hZ : Z.Warmed39 s.vm) {own : String} {index : Nat} {y : MethodName} {bytes : ByteArray} {maxL : Nat} {rt : Option FieldType} {fr lo : Nat} {v : Option Value}
    (hown : s.vm.findClass own = some m.cls) (w1 : (Jvm.Cond.methodLink own index y).before a0 Z = true) (w2 : (Jvm.Cond.static y).before a0 Z = true) (w3 : (Jvm.Cond.initialized y.cls).before a0 Z = true) (w4 : (Jvm.Cond.code y bytes maxL rt).before a0 Z = true)
    (hy : y.cls ≠ "java/lang/invoke/MethodHandle" ∧ y.cls ≠ "java/lang/invoke/VarHandle") {av : List Value} (hM : Meets l Z y bytes maxL rt [] ({ frames := fr, cells := 0, slots := 0, locals := lo } : Room) av.toArray h (PureR v h)) (eT : T.heap = h)
    {pc : Nat} {Ls : Array Slot} {rest : List Value} {ps : List FieldType} {r : Option FieldType} (hsize : Ls.size = c.maxLocals) (hp : parseMethodDescriptor y.desc = some ⟨ps, r⟩) (hlen : av.length = ps.length)
    (W : Nat) (hW : (rest.map fun v => v.category).sum ≤ W) (hf : fr + 1 ≤ R.frames) (hl : W + (maxL + 11) + lo ≤ R.locals) (hc : cells ≤ R.cells) (hs : slots ≤ R.slots) (hd : decode c.code pc = .ok (.invokestatic index, 3)) :
    ∃ T', Stand p l e R s m args below meth c T' locs cells slots ∧ T'.heap = h ∧
      ∀ t, Steps p.tables e below (T'.setTop (mkF m (pc + 3) Ls (v.toList ++ rest))) t → Steps p.tables e below (T.setTop (mkF m pc Ls (av.reverse ++ rest))) t := by
  obtain ⟨_, T2, _, X2, ⟨rfl, h2, rfl⟩, st2⟩ := callSQ X hx hZ hown w1 w2 w3 w4 hy hM eT hsize hp hlen W hW hf hl hc hs hd
  rw [List.append_nil] at X2
  exact ⟨T2, X2, h2, st2⟩
end OwnKit
section OwnKit2
variable {p : Program} {l : Launch} {e : Env} {R : Room} {s : State} {m : MethodId} {args : Array Value} {below : List Frame} {meth : Method} {c : Code} {T : State} {locs : List Loc} {cells slots : Nat} {Z : State} {h h0 : Heap} {ce sl : Nat} {Q : Option Value → Heap → List Loc → Prop} {U U' : State} {a0 : Array Value}
/-- an instance method by its contract, the resolved one being the selected one -/
theorem callVQ (X : Stand p l e R s m args below meth c T locs cells slots) (hx : p.tables.exec = Jvm.exec) (hZ : Z.Warmed39 s.vm) {own C : String} {index : Nat} {y : MethodName} {bytes : ByteArray} {maxL : Nat} {rt : Option FieldType} {rm : Room}
    (hown : s.vm.findClass own = some m.cls) (w1 : (Jvm.Cond.methodLink own index y).before a0 Z = true) (w2 : (Jvm.Cond.declares y).before a0 Z = true) (w3 : (Jvm.Cond.selects C y y).before a0 Z = true) (w5 : (Jvm.Cond.instanceMethod y).before a0 Z = true) (w6 : (Jvm.Cond.initialized y.cls).before a0 Z = true) (w4 : (Jvm.Cond.code y bytes maxL rt).before a0 Z = true)
    (hy : y.cls ≠ "java/lang/invoke/MethodHandle" ∧ y.cls ≠ "java/lang/invoke/VarHandle") {b : Addr} {av : List Value} (hE : Exa Z h b C) (hM : Meets l Z y bytes maxL rt [] rm (.ref b :: av).toArray h Q) (eT : T.heap = h)
    {pc : Nat} {Ls : Array Slot} {rest : List Value} {ps : List FieldType} {r : Option FieldType} (hsize : Ls.size = c.maxLocals) (hp : parseMethodDescriptor y.desc = some ⟨ps, r⟩) (hlen : av.length = ps.length)
    (W : Nat) (hW : (rest.map fun v => v.category).sum ≤ W) (hf : rm.frames + 1 ≤ R.frames) (hl : W + (maxL + 11) + rm.locals ≤ R.locals) (hc : cells + rm.cells ≤ R.cells) (hs : slots + rm.slots ≤ R.slots) (hd : decode c.code pc = .ok (.invokevirtual index, 3)) :
    ∃ v T' L, Stand p l e R s m args below meth c T' (locs ++ L) (cells + rm.cells) (slots + rm.slots) ∧ Q v T'.heap L ∧
      ∀ t, Steps p.tables e below (T'.setTop (mkF m (pc + 3) Ls (v.toList ++ rest))) t → Steps p.tables e below (T.setTop (mkF m pc Ls (av.reverse ++ .ref b :: rest))) t := by
  obtain ⟨cq, kq, qa, qb, qc⟩ := isOf hZ eT hE
  obtain ⟨v, _, ⟨T2, L2, k2, n2⟩, -, X2, ⟨Lc2, hQ2, l2, y2, z2⟩, st2⟩ := X.virtualBack hx (y := y) (z := y) hown (mvT hZ w1) (mvT hZ w2) (notFace_of_selects (args := #[]) (mvT hZ w3)) (mvT hZ w3) (mvT hZ w5) hy (backOf (W := W) hM hZ w4 w6 hf hl) qa qc (g := mkF m pc Ls (av.reverse ++ .ref b :: rest)) rfl hsize (Steps.refl _) (argsL := av) (rest := rest) (lenOf hp hlen) rfl (by show 2 * 0 + _ ≤ _; rw [Nat.mul_zero, Nat.zero_add]; exact hW) hd (fun _ _ => ⟨rfl, eT, hc, hs⟩)
  dsimp only [Pt.U, Pt.locs, Pt.cells, Pt.slots] at X2 l2 y2 z2 st2 hQ2
  subst l2 y2 z2
  exact ⟨v, T2, Lc2, X2, hQ2, fun t k => st2.trans k⟩
theorem callV0 (X : Stand p l e R s m args below meth c T locs cells slots) (hx : p.tables.exec = Jvm.exec) (hZ : Z.Warmed39 s.vm) {own C : String} {index : Nat} {y : MethodName} {bytes : ByteArray} {maxL : Nat} {rt : Option FieldType} {fr lo : Nat} {v : Option Value}
    (hown : s.vm.findClass own = some m.cls) (w1 : (Jvm.Cond.methodLink own index y).before a0 Z = true) (w2 : (Jvm.Cond.declares y).before a0 Z = true) (w3 : (Jvm.Cond.selects C y y).before a0 Z = true) (w5 : (Jvm.Cond.instanceMethod y).before a0 Z = true) (w6 : (Jvm.Cond.initialized y.cls).before a0 Z = true) (w4 : (Jvm.Cond.code y bytes maxL rt).before a0 Z = true)
    (hy : y.cls ≠ "java/lang/invoke/MethodHandle" ∧ y.cls ≠ "java/lang/invoke/VarHandle") {b : Addr} {av : List Value} (hE : Exa Z h b C) (hM : Meets l Z y bytes maxL rt [] ({ frames := fr, cells := 0, slots := 0, locals := lo } : Room) (.ref b :: av).toArray h (PureR v h)) (eT : T.heap = h)
    {pc : Nat} {Ls : Array Slot} {rest : List Value} {ps : List FieldType} {r : Option FieldType} (hsize : Ls.size = c.maxLocals) (hp : parseMethodDescriptor y.desc = some ⟨ps, r⟩) (hlen : av.length = ps.length)
    (W : Nat) (hW : (rest.map fun v => v.category).sum ≤ W) (hf : fr + 1 ≤ R.frames) (hl : W + (maxL + 11) + lo ≤ R.locals) (hc : cells ≤ R.cells) (hs : slots ≤ R.slots) (hd : decode c.code pc = .ok (.invokevirtual index, 3)) :
    ∃ T', Stand p l e R s m args below meth c T' locs cells slots ∧ T'.heap = h ∧
      ∀ t, Steps p.tables e below (T'.setTop (mkF m (pc + 3) Ls (v.toList ++ rest))) t → Steps p.tables e below (T.setTop (mkF m pc Ls (av.reverse ++ .ref b :: rest))) t := by
  obtain ⟨_, T2, _, X2, ⟨rfl, h2, rfl⟩, st2⟩ := callVQ X hx hZ hown w1 w2 w3 w5 w6 w4 hy hE hM eT hsize hp hlen W hW hf hl hc hs hd
  rw [List.append_nil] at X2
  exact ⟨T2, X2, h2, st2⟩
/-- a constructor by its contract -/
theorem callIQ (X : Stand p l e R s m args below meth c T locs cells slots) (hx : p.tables.exec = Jvm.exec) (hZ : Z.Warmed39 s.vm) {own : String} {index : Nat} {y : MethodName} {bytes : ByteArray} {maxL : Nat} {rm : Room} (hy1 : y.name = "<init>")
    (hown : s.vm.findClass own = some m.cls) (w1 : (Jvm.Cond.methodLink own index y).before a0 Z = true) (w5 : (Jvm.Cond.instanceMethod y).before a0 Z = true) (w6 : (Jvm.Cond.initialized y.cls).before a0 Z = true) (w4 : (Jvm.Cond.code y bytes maxL none).before a0 Z = true)
    (hy : y.cls ≠ "java/lang/invoke/MethodHandle" ∧ y.cls ≠ "java/lang/invoke/VarHandle") {b : Addr} {av : List Value} (hM : Meets l Z y bytes maxL none [] rm (.ref b :: av).toArray h Q) (eT : T.heap = h)
    {pc : Nat} {Ls : Array Slot} {rest : List Value} {ps : List FieldType} {r : Option FieldType} (hsize : Ls.size = c.maxLocals) (hp : parseMethodDescriptor y.desc = some ⟨ps, r⟩) (hlen : av.length = ps.length)
    (W : Nat) (hW : (rest.map fun v => v.category).sum ≤ W) (hf : rm.frames + 1 ≤ R.frames) (hl : W + (maxL + 11) + rm.locals ≤ R.locals) (hc : cells + rm.cells ≤ R.cells) (hs : slots + rm.slots ≤ R.slots) (hd : decode c.code pc = .ok (.invokespecial index, 3)) :
    ∃ v T' L, Stand p l e R s m args below meth c T' (locs ++ L) (cells + rm.cells) (slots + rm.slots) ∧ Q v T'.heap L ∧
      ∀ t, Steps p.tables e below (T'.setTop (mkF m (pc + 3) Ls (v.toList ++ rest))) t → Steps p.tables e below (T.setTop (mkF m pc Ls (av.reverse ++ .ref b :: rest))) t := by
  obtain ⟨v, _, ⟨T2, L2, k2, n2⟩, -, X2, ⟨Lc2, hQ2, l2, y2, z2⟩, st2⟩ := X.specialBack hx (y := y) hy1 hown (mvT hZ w1) (mvT hZ w5) (mvT hZ w4) hy (backOf (W := W) hM hZ w4 w6 hf hl) (g := mkF m pc Ls (av.reverse ++ .ref b :: rest)) rfl hsize (Steps.refl _) (a := b) (argsL := av) (rest := rest) (lenOf hp hlen) rfl (by show 2 * 0 + _ ≤ _; rw [Nat.mul_zero, Nat.zero_add]; exact hW) hd (fun _ _ => ⟨rfl, eT, hc, hs⟩)
  dsimp only [Pt.U, Pt.locs, Pt.cells, Pt.slots] at X2 l2 y2 z2 st2 hQ2
  subst l2 y2 z2
  exact ⟨v, T2, Lc2, X2, hQ2, fun t k => st2.trans k⟩
/-- a private method by its contract; that its class is no interface is told by another word of it -/
theorem callPQ (X : Stand p l e R s m args below meth c T locs cells slots) (hx : p.tables.exec = Jvm.exec) (hZ : Z.Warmed39 s.vm) {own C : String} {index : Nat} {y y2 : MethodName} {bytes : ByteArray} {maxL : Nat} {rt : Option FieldType} {rm : Room}
    (hown : s.vm.findClass own = some m.cls) (w1 : (Jvm.Cond.methodLink own index y).before a0 Z = true) (w5 : (Jvm.Cond.instanceMethod y).before a0 Z = true) (wp : (Jvm.Cond.privateMethod y).before a0 Z = true) (w3 : (Jvm.Cond.selects y2.cls y2 y2).before a0 Z = true) (hc2 : y2.cls = y.cls) (w6 : (Jvm.Cond.initialized y.cls).before a0 Z = true) (w4 : (Jvm.Cond.code y bytes maxL rt).before a0 Z = true)
    (hy : y.cls ≠ "java/lang/invoke/MethodHandle" ∧ y.cls ≠ "java/lang/invoke/VarHandle") {b : Addr} {av : List Value} (hE : Exa Z h b C) (hM : Meets l Z y bytes maxL rt [] rm (.ref b :: av).toArray h Q) (eT : T.heap = h)
    {pc : Nat} {Ls : Array Slot} {rest : List Value} {ps : List FieldType} {r : Option FieldType} (hsize : Ls.size = c.maxLocals) (hp : parseMethodDescriptor y.desc = some ⟨ps, r⟩) (hlen : av.length = ps.length)
    (W : Nat) (hW : (rest.map fun v => v.category).sum ≤ W) (hf : rm.frames + 1 ≤ R.frames) (hl : W + (maxL + 11) + rm.locals ≤ R.locals) (hc : cells + rm.cells ≤ R.cells) (hs : slots + rm.slots ≤ R.slots) (hd : decode c.code pc = .ok (.invokevirtual index, 3)) :
    ∃ v T' L, Stand p l e R s m args below meth c T' (locs ++ L) (cells + rm.cells) (slots + rm.slots) ∧ Q v T'.heap L ∧
      ∀ t, Steps p.tables e below (T'.setTop (mkF m (pc + 3) Ls (v.toList ++ rest))) t → Steps p.tables e below (T.setTop (mkF m pc Ls (av.reverse ++ .ref b :: rest))) t := by
  obtain ⟨cell, q1, q2⟩ := hE.cell
  have hpriv := Cond.privateMethod_at (mvP hZ wp (args := args))
  have w3' : (Jvm.Cond.selects y2.cls y2 y2).before args s = true := mvT hZ w3
  obtain ⟨c2, r2, m2, -, -, q3, -, kP, hkP, hkPi⟩ := Cond.selects_spec w3'
  have hsel : (Jvm.Cond.selects y.cls y y).before args s = true := selects_self_of_private (hc2 ▸ findClass_of_methodNamed q3) hkP hkPi hpriv (mvT hZ w5) hy
  obtain ⟨v, _, ⟨T2, L2, k2, n2⟩, -, X2, ⟨Lc2, hQ2, l2, y2', z2⟩, st2⟩ := X.privateBack hx (y := y) hown (mvT hZ w1) (mvT hZ w5) hsel hpriv (mvT hZ w4) hy (backOf (W := W) hM hZ w4 w6 hf hl) (g := mkF m pc Ls (av.reverse ++ .ref b :: rest)) rfl hsize (Steps.refl _) (a := b) (by rw [eT]; exact q1) q2 (argsL := av) (rest := rest) (lenOf hp hlen) rfl (by show 2 * 0 + _ ≤ _; rw [Nat.mul_zero, Nat.zero_add]; exact hW) hd (fun _ _ => ⟨rfl, eT, hc, hs⟩)
  dsimp only [Pt.U, Pt.locs, Pt.cells, Pt.slots] at X2 l2 y2' z2 st2 hQ2
  subst l2 y2' z2
  exact ⟨v, T2, Lc2, X2, hQ2, fun t k => st2.trans k⟩
theorem callP0 (X : Stand p l e R s m args below meth c T locs cells slots) (hx : p.tables.exec = Jvm.exec) (hZ : Z.Warmed39 s.vm) {own C : String} {index : Nat} {y y2 : MethodName} {bytes : ByteArray} {maxL : Nat} {rt : Option FieldType} {fr lo : Nat} {v : Option Value}
    (hown : s.vm.findClass own = some m.cls) (w1 : (Jvm.Cond.methodLink own index y).before a0 Z = true) (w5 : (Jvm.Cond.instanceMethod y).before a0 Z = true) (wp : (Jvm.Cond.privateMethod y).before a0 Z = true) (w3 : (Jvm.Cond.selects y2.cls y2 y2).before a0 Z = true) (hc2 : y2.cls = y.cls) (w6 : (Jvm.Cond.initialized y.cls).before a0 Z = true) (w4 : (Jvm.Cond.code y bytes maxL rt).before a0 Z = true)
    (hy : y.cls ≠ "java/lang/invoke/MethodHandle" ∧ y.cls ≠ "java/lang/invoke/VarHandle") {b : Addr} {av : List Value} (hE : Exa Z h b C) (hM : Meets l Z y bytes maxL rt [] ({ frames := fr, cells := 0, slots := 0, locals := lo } : Room) (.ref b :: av).toArray h (PureR v h)) (eT : T.heap = h)
    {pc : Nat} {Ls : Array Slot} {rest : List Value} {ps : List FieldType} {r : Option FieldType} (hsize : Ls.size = c.maxLocals) (hp : parseMethodDescriptor y.desc = some ⟨ps, r⟩) (hlen : av.length = ps.length)
    (W : Nat) (hW : (rest.map fun v => v.category).sum ≤ W) (hf : fr + 1 ≤ R.frames) (hl : W + (maxL + 11) + lo ≤ R.locals) (hc : cells ≤ R.cells) (hs : slots ≤ R.slots) (hd : decode c.code pc = .ok (.invokevirtual index, 3)) :
    ∃ T', Stand p l e R s m args below meth c T' locs cells slots ∧ T'.heap = h ∧
      ∀ t, Steps p.tables e below (T'.setTop (mkF m (pc + 3) Ls (v.toList ++ rest))) t → Steps p.tables e below (T.setTop (mkF m pc Ls (av.reverse ++ .ref b :: rest))) t := by
  obtain ⟨_, T2, _, X2, ⟨rfl, h2, rfl⟩, st2⟩ := callPQ X hx hZ hown w1 w5 wp w3 hc2 w6 w4 hy hE hM eT hsize hp hlen W hW hf hl hc hs hd
  rw [List.append_nil] at X2
  exact ⟨T2, X2, h2, st2⟩
end OwnKit2
section OwnKit3
variable {args : Array Value} {first s : State} {o : Option Outcome} {idx : List Nat} {a b : Term}
theorem own_eqI {k : Int32} (h : (Jvm.Cond.eq a (.int k)).value args first o s idx = some true) : a.eval args first o idx s = some (.int k) := by
  obtain ⟨x, y, hx, hy, -, hk⟩ := cmp_v (Or.inl h)
  rw [Term.int_eval] at hy
  cases hy
  obtain ⟨z, rfl⟩ := hk
  have q := gotT (Cond.eq_ints hx (Term.int_eval k)) h
  rw [hx, q]
theorem own_eqR {b' : Addr} (h : (Jvm.Cond.eq a b).value args first o s idx = some true) (hb : b.eval args first o idx s = some (.ref b')) : a.eval args first o idx s = some (.ref b') := by
  obtain ⟨x, y, hx, hy, -, hk⟩ := cmp_v (Or.inl h)
  rw [hb] at hy
  cases hy
  have hk' : x.isRef = true := hk.2
  have q := gotT (eq_R hx hb hk' rfl) h
  rw [hx, q]
theorem own_lenEq {Z : State} {x : Addr} {cl : Cell} {ty : FieldType} {t : Term} {n : Int32} (ev : t.eval args Z none [] Z = some (.ref x)) (A : Arr Z Z.heap x cl ty) (h : (Jvm.Cond.eq (.length t) (.int n)).value args Z none Z [] = some true) : cl.slots.size = n.toNatClampNeg := by
  have q := own_eqI h
  have ha : Z.arrayAt? x = some cl := Arr.fin (Vm.Alike.refl _) A
  by_cases c : cl.slots.size < 2 ^ 31
  · rw [len_f ev ha c] at q
    have e : cl.slots.size.toInt32 = n := Value.int.inj (Option.some.inj q)
    rw [← e]
    have e2 : (cl.slots.size.toInt32).toInt = cl.slots.size := len_toInt c
    show cl.slots.size = (cl.slots.size.toInt32).toInt.toNat
    omega
  · exfalso
    have q2 : (Term.length t).eval args Z none [] Z = none := by simp [Term.eval, ev, ha, c]
    rw [q2] at q
    cases q
end OwnKit3
section OwnKit4
variable {p : Program} {l : Launch} {e : Env} {R : Room} {s : State} {m : MethodId} {args : Array Value} {below : List Frame} {meth : Method} {c : Code} {T : State} {locs : List Loc} {cells slots : Nat} {Z : State} {h h0 h' : Heap} {a b : Addr} {a0 : Array Value} {k : ClassId} {ty : FieldType} {z j x : Int32} {f : Nat → Int32} {ws : List Addr} {sl : Nat} {v : Value}
/-- an array of ints (or of a narrower kind), its length z, its elements by a function -/
def Arf (Z : State) (h : Heap) (a : Addr) (k : ClassId) (ty : FieldType) (z : Int32) (f : Nat → Int32) : Prop := ∃ c : Cell, Arr Z h a c ty ∧ c.cls = k ∧ c.slots.size = z.toNatClampNeg ∧ ¬ z < 0 ∧ (∀ i, i < c.slots.size → c.slots[i]? = some (.int (f i))) ∧ ∀ i, i < c.slots.size → fits ty (.int (f i)) = true
def own_upd (f : Nat → Int32) (j : Nat) (v : Int32) : Nat → Int32 := fun i => if i = j then v else f i
theorem Arf.lt (F : Arf Z h a k ty z f) : a < h.size := by obtain ⟨c, A, -⟩ := F; exact A.lt
theorem Arf.ext (F : Arf Z h a k ty z f) (E : Ext h h') : Arf Z h' a k ty z f := by obtain ⟨c, A, r⟩ := F; exact ⟨c, A.ext E, r⟩
theorem Arf.other (F : Arf Z h b k ty z f) (W : Wr h h' a sl v) (q : b ≠ a) : Arf Z h' b k ty z f := by obtain ⟨c, A, r⟩ := F; exact ⟨c, A.other W q, r⟩
theorem Arf.keep (F : Arf Z h a k ty z f) (K : Keep h h' ws) (q : a ∉ ws) : Arf Z h' a k ty z f := by obtain ⟨c, A, r⟩ := F; exact ⟨c, ⟨K.2.1 a c A.1 q, A.2⟩, r⟩
theorem Arf.congr {f' : Nat → Int32} (F : Arf Z h a k ty z f) (q : ∀ i, i < z.toNatClampNeg → f i = f' i) : Arf Z h a k ty z f' := by
  obtain ⟨c, A, q1, S, q3, H, G⟩ := F
  exact ⟨c, A, q1, S, q3, fun i hi => by rw [H i hi, q i (S ▸ hi)], fun i hi => by rw [← q i (S ▸ hi)]; exact G i hi⟩
theorem Arf.new (A : Arr Z h a (newA k ty z) ty) (q : ¬ z < 0) (hd : defaultValue ty = .int 0) (hf : fits ty (.int 0) = true) : Arf Z h a k ty z (fun _ => 0) :=
  ⟨_, A, rfl, sz_new _ _ _, q, fun i hi => by rw [sz_new] at hi; simp [newA, hd, hi], fun _ _ => hf⟩
theorem Arf.set {c : Cell} (A : Arr Z h a c ty) (q1 : c.cls = k) (S : c.slots.size = z.toNatClampNeg) (q3 : ¬ z < 0) (H : ∀ i, i < c.slots.size → c.slots[i]? = some (.int (f i))) (G : ∀ i, i < c.slots.size → fits ty (.int (f i)) = true) (hv : fits ty (.int x) = true) (W : Wr h h' a j.toNatClampNeg (.int x)) : Arf Z h' a k ty z (own_upd f j.toNatClampNeg x) := by
  refine ⟨c.setSlot j.toNatClampNeg (.int x), A.same W, q1, (sz_set _ _ _).trans S, q3, fun i hi => ?_, fun i hi => ?_⟩
  · rw [sz_set] at hi
    by_cases e : i = j.toNatClampNeg
    · subst e; simp [Cell.setSlot, own_upd, hi]
    · have e' : ¬ j.toNatClampNeg = i := fun q => e q.symm
      have := H i hi
      simp [Cell.setSlot, own_upd, e, e', this]
  · rw [sz_set] at hi
    by_cases e : i = j.toNatClampNeg
    · subst e; simp only [own_upd, if_pos rfl]; exact hv
    · simp only [own_upd, if_neg e]; exact G i hi
theorem Arf.arv (F : Arf Z h a k ty z f) : Arv Z h a k ty z ((List.range z.toNatClampNeg).map fun i => Value.int (f i)) (.int 0) := by
  obtain ⟨c, A, q1, S, q3, H, G⟩ := F
  have q : ∀ i, i < c.slots.size → ((List.range z.toNatClampNeg).map fun i => Value.int (f i)).getD i (.int 0) = .int (f i) := fun i hi => by rw [S] at hi; simp [List.getD, hi]
  exact ⟨c, A, q1, S, q3, fun i hi => by rw [q i hi]; exact H i hi, fun i hi => by rw [q i hi]; exact G i hi⟩
theorem Arf.of_arv {vs : List Value} {d : Value} (F : Arv Z h a k ty z vs d) (q : ∀ i, i < z.toNatClampNeg → vs.getD i d = .int (f i)) : Arf Z h a k ty z f := by
  obtain ⟨c, A, q1, S, q3, H, G⟩ := F
  exact ⟨c, A, q1, S, q3, fun i hi => by rw [H i hi, q i (S ▸ hi)], fun i hi => by rw [← q i (S ▸ hi)]; exact G i hi⟩
theorem own_inb (F : Arf Z h a k ty z f) (q : ¬ j < 0 ∧ j < z) : ∃ c : Cell, Arr Z h a c ty ∧ ¬ (j < 0 ∨ c.slots.size ≤ j.toNatClampNeg) ∧ c.slots[j.toNatClampNeg]? = some (.int (f j.toNatClampNeg)) ∧ fits ty (.int (f j.toNatClampNeg)) = true := by
  obtain ⟨c, A, q1, S, q3, H, G⟩ := F
  have hin := inb_of S q
  have hlt : j.toNatClampNeg < c.slots.size := Nat.lt_of_not_le fun y => hin (Or.inr y)
  exact ⟨c, A, hin, H _ hlt, G _ hlt⟩
theorem own_len (X : Stand p l e R s m args below meth c T locs cells slots) (hx : p.tables.exec = Jvm.exec) (hZ : Z.Warmed39 s.vm) (eT : T.heap = h) (F : Arf Z h a k ty z f) {pc : Nat} {Ls : Array Slot} {rest : List Value} (hd : decode c.code pc = .ok (.arraylength, 1)) :
    ∀ t, Steps p.tables e below (T.setTop (mkF m (pc + 1) Ls (.int z :: rest))) t → Steps p.tables e below (T.setTop (mkF m pc Ls (.ref a :: rest))) t := by
  obtain ⟨cl, A, q1, S, q3, H, G⟩ := F
  intro t k
  refine X.arraylength hx (by rw [eT]; exact A.1) (State.isArrayOf_alike hZ.alike A.2.1) (g := mkF m pc Ls (.ref a :: rest)) rfl rfl hd _ ?_
  rw [len_of S q3]
  exact k
theorem own_ldI (X : Stand p l e R s m args below meth c T locs cells slots) (hx : p.tables.exec = Jvm.exec) (hZ : Z.Warmed39 s.vm) (eT : T.heap = h) (F : Arf Z h a k .int z f) (q : ¬ j < 0 ∧ j < z) {pc : Nat} {Ls : Array Slot} {rest : List Value} (hd : decode c.code pc = .ok (.iaload, 1)) :
    ∀ t, Steps p.tables e below (T.setTop (mkF m (pc + 1) Ls (.int (f j.toNatClampNeg) :: rest))) t → Steps p.tables e below (T.setTop (mkF m pc Ls (.int j :: .ref a :: rest))) t := by
  obtain ⟨cl, A, hin, hat, -⟩ := own_inb F q
  exact fun t k => X.iaload hx (by rw [eT]; exact A.1) (State.isArrayOf_alike hZ.alike A.2.1) A.2.2 hin hat (g := mkF m pc Ls (.int j :: .ref a :: rest)) rfl rfl hd _ k
theorem own_ldB (X : Stand p l e R s m args below meth c T locs cells slots) (hx : p.tables.exec = Jvm.exec) (hZ : Z.Warmed39 s.vm) (eT : T.heap = h) (F : Arf Z h a k .byte z f) (q : ¬ j < 0 ∧ j < z) {pc : Nat} {Ls : Array Slot} {rest : List Value} (hd : decode c.code pc = .ok (.baload, 1)) :
    ∀ t, Steps p.tables e below (T.setTop (mkF m (pc + 1) Ls (.int (f j.toNatClampNeg) :: rest))) t → Steps p.tables e below (T.setTop (mkF m pc Ls (.int j :: .ref a :: rest))) t := by
  obtain ⟨cl, A, hin, hat, -⟩ := own_inb F q
  exact fun t k => X.baloadBytes hx (by rw [eT]; exact A.1) (State.isArrayOf_alike hZ.alike A.2.1) A.2.2 hin hat (g := mkF m pc Ls (.int j :: .ref a :: rest)) rfl rfl hd _ k
theorem own_ldZ (X : Stand p l e R s m args below meth c T locs cells slots) (hx : p.tables.exec = Jvm.exec) (hZ : Z.Warmed39 s.vm) (eT : T.heap = h) (F : Arf Z h a k .boolean z f) (q : ¬ j < 0 ∧ j < z) {pc : Nat} {Ls : Array Slot} {rest : List Value} (hd : decode c.code pc = .ok (.baload, 1)) :
    ∀ t, Steps p.tables e below (T.setTop (mkF m (pc + 1) Ls (.int (f j.toNatClampNeg) :: rest))) t → Steps p.tables e below (T.setTop (mkF m pc Ls (.int j :: .ref a :: rest))) t := by
  obtain ⟨cl, A, hin, hat, -⟩ := own_inb F q
  exact fun t k => X.baloadBooleans hx (by rw [eT]; exact A.1) (State.isArrayOf_alike hZ.alike A.2.1) A.2.2 hin hat (g := mkF m pc Ls (.int j :: .ref a :: rest)) rfl rfl hd _ k
theorem own_stI (X : Stand p l e R s m args below meth c T locs cells slots) (hx : p.tables.exec = Jvm.exec) (hZ : Z.Warmed39 s.vm) (eT : T.heap = h) (F : Arf Z h a k .int z f) (q : ¬ j < 0 ∧ j < z) {pc : Nat} {Ls : Array Slot} {rest : List Value} (hd : decode c.code pc = .ok (.iastore, 1)) :
    ∃ T' h', Stand p l e R s m args below meth c T' (locs ++ [⟨a, j.toNatClampNeg⟩]) cells slots ∧ T'.heap = h' ∧ Wr h h' a j.toNatClampNeg (.int x) ∧ Arf Z h' a k .int z (own_upd f j.toNatClampNeg x) ∧ ∀ t, Steps p.tables e below (T'.setTop (mkF m (pc + 1) Ls rest)) t → Steps p.tables e below (T.setTop (mkF m pc Ls (.int x :: .int j :: .ref a :: rest))) t := by
  obtain ⟨cl, A, q1, S, q3, H, G⟩ := F
  obtain ⟨T', h', X', e', W, st⟩ := stI X hx hZ eT A (j := j) (inb_of S q) (g := mkF m pc Ls (.int x :: .int j :: .ref a :: rest)) rfl rfl hd
  exact ⟨T', h', X', e', W, Arf.set A q1 S q3 H G rfl W, st⟩
theorem own_stB (X : Stand p l e R s m args below meth c T locs cells slots) (hx : p.tables.exec = Jvm.exec) (hZ : Z.Warmed39 s.vm) (eT : T.heap = h) (F : Arf Z h a k .byte z f) (q : ¬ j < 0 ∧ j < z) {pc : Nat} {Ls : Array Slot} {rest : List Value} (hd : decode c.code pc = .ok (.bastore, 1)) :
    ∃ T' h', Stand p l e R s m args below meth c T' (locs ++ [⟨a, j.toNatClampNeg⟩]) cells slots ∧ T'.heap = h' ∧ Wr h h' a j.toNatClampNeg (.int (nar .byte x)) ∧ Arf Z h' a k .byte z (own_upd f j.toNatClampNeg (nar .byte x)) ∧ ∀ t, Steps p.tables e below (T'.setTop (mkF m (pc + 1) Ls rest)) t → Steps p.tables e below (T.setTop (mkF m pc Ls (.int x :: .int j :: .ref a :: rest))) t := by
  obtain ⟨cl, A, q1, S, q3, H, G⟩ := F
  obtain ⟨T', h', X', e', W, st⟩ := stB X hx hZ eT A (j := j) (inb_of S q) (g := mkF m pc Ls (.int x :: .int j :: .ref a :: rest)) rfl rfl hd
  exact ⟨T', h', X', e', W, Arf.set A q1 S q3 H G (fits_nar_byte _) W, st⟩
theorem own_stZ (X : Stand p l e R s m args below meth c T locs cells slots) (hx : p.tables.exec = Jvm.exec) (hZ : Z.Warmed39 s.vm) (eT : T.heap = h) (F : Arf Z h a k .boolean z f) (q : ¬ j < 0 ∧ j < z) {pc : Nat} {Ls : Array Slot} {rest : List Value} (hd : decode c.code pc = .ok (.bastore, 1)) :
    ∃ T' h', Stand p l e R s m args below meth c T' (locs ++ [⟨a, j.toNatClampNeg⟩]) cells slots ∧ T'.heap = h' ∧ Wr h h' a j.toNatClampNeg (.int (nar .boolean x)) ∧ Arf Z h' a k .boolean z (own_upd f j.toNatClampNeg (nar .boolean x)) ∧ ∀ t, Steps p.tables e below (T'.setTop (mkF m (pc + 1) Ls rest)) t → Steps p.tables e below (T.setTop (mkF m pc Ls (.int x :: .int j :: .ref a :: rest))) t := by
  obtain ⟨cl, A, q1, S, q3, H, G⟩ := F
  obtain ⟨T', h', X', e', W, st⟩ := stZ X hx hZ eT A (j := j) (inb_of S q) (g := mkF m pc Ls (.int x :: .int j :: .ref a :: rest)) rfl rfl hd
  exact ⟨T', h', X', e', W, Arf.set A q1 S q3 H G (fits_nar_bool _) W, st⟩
end OwnKit4
section OwnKit5
variable {Z : State} {h : Heap} {a : Addr} {k : ClassId} {ty : FieldType} {z : Int32} {f : Nat → Int32}
theorem own_ofArh (F : Arh Z h a k ty z [] ((List.range z.toNatClampNeg).map fun i => Value.int (f i)) (.int 0)) : Arf Z h a k ty z f :=
  Arf.of_arv (vs := (List.range z.toNatClampNeg).map fun i => Value.int (f i)) (d := .int 0) F fun i hi => by simp [List.getD, hi]
end OwnKit5
section OwnKit6
variable {Z : State} {h h' : Heap} {a : Addr} {k : ClassId} {ty : FieldType} {z : Int32} {f : Nat → Int32} {ws : List Addr} {C n d : String} {w : Value}
theorem own_staKeep (F : Sta Z h C n d w) (K : Keep h h' ws) (q : ∀ x ∈ ws, ∀ c : Cell, h[x]? = some c → c.vm.isStatics = false) : Sta Z h' C n d w := by
  obtain ⟨cf, i, k, f, st, cell, h1, h2, h3, h4, h5, h6, h7⟩ := F
  exact ⟨cf, i, k, f, st, cell, h1, h2, h3, h4, K.2.1 st cell h5 (fun m => by have := q st m cell h5; rw [this] at h6; cases h6), h6, h7⟩
theorem own_plainA (F : Arf Z h a k ty z f) : ∀ c : Cell, h[a]? = some c → c.vm.isStatics = false := by
  obtain ⟨cl, A, -⟩ := F
  intro c hc
  rw [A.1] at hc
  cases hc
  exact A.plain
theorem own_plainE (F : Exa Z h a C) : ∀ c : Cell, h[a]? = some c → c.vm.isStatics = false := by
  obtain ⟨cl, k, h1, -, -, h4, -⟩ := F
  intro c hc
  rw [h1] at hc
  cases hc
  exact h4
theorem own_plainF (F : Fld Z h a C n d w) : ∀ c : Cell, h[a]? = some c → c.vm.isStatics = false := old_plain F
end OwnKit6
def own_In (x : Int32) : Prop := ¬ x < 0 ∧ x < (5 : Int32)
theorem own_Inn {x : Int32} (h : own_In x) : x.toNatClampNeg < 5 ∧ Int32.ofNat x.toNatClampNeg = x := by
  obtain ⟨h1, h2⟩ := h
  rw [Int32.lt_iff_toInt_lt, show (0 : Int32).toInt = 0 from rfl] at h1
  rw [Int32.lt_iff_toInt_lt, show (5 : Int32).toInt = 5 from rfl] at h2
  have hz : x.toNatClampNeg = x.toInt.toNat := rfl
  refine ⟨by omega, Int32.toInt_inj.mp ?_⟩
  rw [Int32.toInt_ofNat_of_lt (by omega)]
  omega
theorem own_nat {i : Nat} (h : i < 5) : (Int32.ofNat i).toNatClampNeg = i := by
  show (Int32.ofNat i).toInt.toNat = i
  rw [Int32.toInt_ofNat_of_lt (by omega)]
  omega
/-- a forest f on five places (rk falls towards the roots), l is the same along f, and tells the roots apart -/
def own_IK (rk : Nat → Nat) (f l : Nat → Int32) : Prop := (∀ i, i < 5 → own_In (f i)) ∧ (∀ i, i < 5 → f i ≠ Int32.ofNat i → rk (f i).toNatClampNeg < rk i) ∧ (∀ i, i < 5 → l (f i).toNatClampNeg = l i) ∧ (∀ i j, i < 5 → j < 5 → f i = Int32.ofNat i → f j = Int32.ofNat j → l i = l j → i = j)
def own_I (f l : Nat → Int32) : Prop := ∃ rk, own_IK rk f l
def own_R (l f : Nat → Int32) (x : Int32) (f' : Nat → Int32) (r : Int32) : Prop := own_I f' l ∧ (∀ i, i < 5 → (f' i = Int32.ofNat i ↔ f i = Int32.ofNat i)) ∧ own_In r ∧ f' r.toNatClampNeg = r ∧ l r.toNatClampNeg = l x.toNatClampNeg
def own_S (l : Nat → Int32) (rk : Nat → Nat) (f : Nat → Int32) (x : Int32) (fc : Nat → Int32) (t : Int32) : Prop := own_IK rk fc l ∧ (∀ i, i < 5 → (fc i = Int32.ofNat i ↔ f i = Int32.ofNat i)) ∧ own_In t ∧ l t.toNatClampNeg = l x.toNatClampNeg
theorem own_S0 {l f : Nat → Int32} {rk : Nat → Nat} {x : Int32} (h : own_IK rk f l) (hx : own_In x) : own_S l rk f x f x := ⟨h, fun _ _ => Iff.rfl, hx, rfl⟩
theorem own_Sin {l f fc : Nat → Int32} {rk : Nat → Nat} {x t : Int32} (h : own_S l rk f x fc t) : ¬ t < 0 ∧ t < (5 : Int32) := h.2.2.1
theorem own_Sin2 {l f fc : Nat → Int32} {rk : Nat → Nat} {x t : Int32} (h : own_S l rk f x fc t) : ¬ (fc t.toNatClampNeg) < 0 ∧ (fc t.toNatClampNeg) < (5 : Int32) := h.1.1 _ (own_Inn h.2.2.1).1
theorem own_updT (f : Nat → Int32) (j : Nat) (v : Int32) : own_upd f j v j = v := if_pos rfl
theorem own_updN (f : Nat → Int32) (j : Nat) (v : Int32) {i : Nat} (h : i ≠ j) : own_upd f j v i = f i := if_neg h
theorem own_rkle {rk : Nat → Nat} {f l : Nat → Int32} (h : own_IK rk f l) {i : Nat} (hi : i < 5) : rk (f i).toNatClampNeg ≤ rk i := by
  by_cases e : f i = Int32.ofNat i
  · rw [e, own_nat hi]; exact Nat.le_refl _
  · exact Nat.le_of_lt (h.2.1 i hi e)
theorem own_Slt {l f fc : Nat → Int32} {rk : Nat → Nat} {x t : Int32} (h : own_S l rk f x fc t) (hc : ¬ (fc t.toNatClampNeg) = t) : rk (own_upd fc t.toNatClampNeg (fc (fc t.toNatClampNeg).toNatClampNeg) t.toNatClampNeg).toNatClampNeg < rk t.toNatClampNeg := by
  rw [own_updT]
  have n := own_Inn h.2.2.1
  have n2 := own_Inn (own_Sin2 h)
  have a := h.1.2.1 _ n.1 (by rw [n.2]; exact hc)
  exact Nat.lt_of_le_of_lt (own_rkle h.1 n2.1) a
theorem own_Snext {l f fc : Nat → Int32} {rk : Nat → Nat} {x t : Int32} (h : own_S l rk f x fc t) (hc : ¬ (fc t.toNatClampNeg) = t) : own_S l rk f x (own_upd fc t.toNatClampNeg (fc (fc t.toNatClampNeg).toNatClampNeg)) (own_upd fc t.toNatClampNeg (fc (fc t.toNatClampNeg).toNatClampNeg) t.toNatClampNeg) := by
  have lt := own_Slt h hc
  rw [own_updT] at lt ⊢
  have n := own_Inn h.2.2.1
  have n2 := own_Inn (own_Sin2 h)
  have iv := h.1.1 _ n2.1
  have nv := own_Inn iv
  have lv : l (fc (fc t.toNatClampNeg).toNatClampNeg).toNatClampNeg = l t.toNatClampNeg := (h.1.2.2.1 _ n2.1).trans (h.1.2.2.1 _ n.1)
  generalize fc (fc t.toNatClampNeg).toNatClampNeg = v at *
  have rt : ∀ i, i < 5 → (own_upd fc t.toNatClampNeg v i = Int32.ofNat i ↔ fc i = Int32.ofNat i) := by
    intro i hi
    by_cases e : i = t.toNatClampNeg
    · subst e
      rw [own_updT]
      constructor
      · intro q
        rw [q, own_nat hi] at lt
        exact absurd lt (Nat.lt_irrefl _)
      · intro q
        exact absurd (q.trans n.2) hc
    · rw [own_updN _ _ _ e]
  refine ⟨⟨fun i hi => ?_, fun i hi ne => ?_, fun i hi => ?_, fun i j hi hj ei ej => h.1.2.2.2 i j hi hj ((rt i hi).mp ei) ((rt j hj).mp ej)⟩, fun i hi => (rt i hi).trans (h.2.1 i hi), iv, lv.trans h.2.2.2⟩
  · by_cases e : i = t.toNatClampNeg
    · subst e; rw [own_updT]; exact iv
    · rw [own_updN _ _ _ e]; exact h.1.1 i hi
  · by_cases e : i = t.toNatClampNeg
    · subst e; rw [own_updT]; exact lt
    · rw [own_updN _ _ _ e] at ne ⊢; exact h.1.2.1 i hi ne
  · by_cases e : i = t.toNatClampNeg
    · subst e; rw [own_updT]; exact lv
    · rw [own_updN _ _ _ e]; exact h.1.2.2.1 i hi
theorem own_SR {l f fc : Nat → Int32} {rk : Nat → Nat} {x t : Int32} (h : own_S l rk f x fc t) (hc : (fc t.toNatClampNeg) = t) : own_R l f x fc t := ⟨⟨rk, h.1⟩, h.2.1, h.2.2.1, hc, h.2.2.2⟩
def own_rl (l : Nat → Int32) (xb xa : Int32) (i : Nat) : Int32 := if l i = l xb.toNatClampNeg then l xa.toNatClampNeg else l i
theorem own_Icongr {f l l' : Nat → Int32} (h : own_I f l) (q : ∀ i, i < 5 → l' i = l i) : own_I f l' := by
  obtain ⟨rk, h1, h2, h3, h4⟩ := h
  refine ⟨rk, h1, h2, fun i hi => ?_, fun i j hi hj ei ej el => h4 i j hi hj ei ej ?_⟩
  · rw [q _ (own_Inn (h1 i hi)).1, q i hi]; exact h3 i hi
  · rw [← q i hi, ← q j hj]; exact el
theorem own_rlsame {l : Nat → Int32} {xb xa : Int32} (e : l xa.toNatClampNeg = l xb.toNatClampNeg) (i : Nat) : own_rl l xb xa i = l i := by
  unfold own_rl
  by_cases c : l i = l xb.toNatClampNeg
  · rw [if_pos c, e, c]
  · rw [if_neg c]
theorem own_Jeq {l f f1 f2 : Nat → Int32} {x0 x1 r1 r2 : Int32} (h1 : own_R l f x0 f1 r1) (h2 : own_R l f1 x1 f2 r2) (e : r1 = r2) : own_I f2 (own_rl l x1 x0) :=
  own_Icongr h2.1 fun i _ => own_rlsame (by rw [← h1.2.2.2.2, ← h2.2.2.2.2, e]) i
theorem own_two {l f f1 f2 : Nat → Int32} {x0 x1 r1 r2 : Int32} (h1 : own_R l f x0 f1 r1) (h2 : own_R l f1 x1 f2 r2) (ne : ¬ r1 = r2) : f2 r1.toNatClampNeg = Int32.ofNat r1.toNatClampNeg ∧ f2 r2.toNatClampNeg = Int32.ofNat r2.toNatClampNeg ∧ r1.toNatClampNeg ≠ r2.toNatClampNeg ∧ l r1.toNatClampNeg ≠ l r2.toNatClampNeg := by
  have n1 := own_Inn h1.2.2.1
  have n2 := own_Inn h2.2.2.1
  have a := (h2.2.1 _ n1.1).mpr (h1.2.2.2.1.trans n1.2.symm)
  have b := h2.2.2.2.1.trans n2.2.symm
  have c : r1.toNatClampNeg ≠ r2.toNatClampNeg := fun e => ne (by rw [← n1.2, ← n2.2, e])
  refine ⟨a, b, c, fun e => c ?_⟩
  obtain ⟨rk, h⟩ := h2.1
  exact h.2.2.2 _ _ n1.1 n2.1 a b e
theorem own_attach {f l : Nat → Int32} {A B : Nat} {v : Int32} (hA : A < 5) (hB : B < 5) (hv : v = Int32.ofNat B) (rA : f A = Int32.ofNat A) (rB : f B = Int32.ofNat B) (ne : A ≠ B) (nl : l A ≠ l B) (h : own_I f l) (l' : Nat → Int32)
    (q1 : ∀ i, i < 5 → l i = l A ∨ l i = l B → l' i = l' A) (q2 : ∀ i, i < 5 → l i ≠ l A → l i ≠ l B → l' i = l i) (q3 : l' A = l A ∨ l' A = l B) : own_I (own_upd f A v) l' := by
  obtain ⟨rk, h1, h2, h3, h4⟩ := h
  have iv : own_In v := by rw [hv, ← rB]; exact h1 B hB
  have nv : v.toNatClampNeg = B := by rw [hv]; exact own_nat hB
  have cong : ∀ i j, i < 5 → j < 5 → l i = l j → l' i = l' j := by
    intro i j hi hj e
    by_cases a : l i = l A
    · rw [q1 i hi (Or.inl a), q1 j hj (Or.inl (e ▸ a))]
    · by_cases b : l i = l B
      · rw [q1 i hi (Or.inr b), q1 j hj (Or.inr (e ▸ b))]
      · rw [q2 i hi a b, q2 j hj (e ▸ a) (e ▸ b), e]
  refine ⟨fun i => if l i = l A then rk i + (rk B + 1) else rk i, fun i hi => ?_, fun i hi nr => ?_, fun i hi => ?_, fun i j hi hj ei ej el => ?_⟩
  · by_cases e : i = A
    · subst e; rw [own_updT]; exact iv
    · rw [own_updN _ _ _ e]; exact h1 i hi
  · by_cases e : i = A
    · subst e
      rw [own_updT, nv]
      show (if l B = l i then rk B + (rk B + 1) else rk B) < (if l i = l i then rk i + (rk B + 1) else rk i)
      rw [if_neg (fun z => nl z.symm), if_pos rfl]
      omega
    · rw [own_updN _ _ _ e] at nr ⊢
      have c := h2 i hi nr
      have d := h3 i hi
      show (if l (f i).toNatClampNeg = l A then rk (f i).toNatClampNeg + (rk B + 1) else rk (f i).toNatClampNeg) < (if l i = l A then rk i + (rk B + 1) else rk i)
      rw [d]
      by_cases z : l i = l A
      · rw [if_pos z, if_pos z]; omega
      · rw [if_neg z, if_neg z]; exact c
  · by_cases e : i = A
    · subst e; rw [own_updT, nv]; exact q1 B hB (Or.inr rfl)
    · rw [own_updN _ _ _ e]; exact cong _ _ (own_Inn (h1 i hi)).1 hi (h3 i hi)
  · have ni : i ≠ A := fun e => by
      subst e
      rw [own_updT, hv] at ei
      have := congrArg Int32.toNatClampNeg ei
      rw [own_nat hB, own_nat hi] at this
      exact ne this.symm
    have nj : j ≠ A := fun e => by
      subst e
      rw [own_updT, hv] at ej
      have := congrArg Int32.toNatClampNeg ej
      rw [own_nat hB, own_nat hj] at this
      exact ne this.symm
    rw [own_updN _ _ _ ni] at ei
    rw [own_updN _ _ _ nj] at ej
    have ai : l i ≠ l A := fun e => ni (h4 i A hi hA ei rA e)
    have aj : l j ≠ l A := fun e => nj (h4 j A hj hA ej rA e)
    by_cases bi : l i = l B
    · have zi := h4 i B hi hB ei rB bi
      by_cases bj : l j = l B
      · rw [zi, h4 j B hj hB ej rB bj]
      · exfalso
        rw [q1 i hi (Or.inr bi), q2 j hj aj bj] at el
        rcases q3 with q | q
        · exact aj (el.symm.trans q)
        · exact bj (el.symm.trans q)
    · by_cases bj : l j = l B
      · exfalso
        rw [q1 j hj (Or.inr bj), q2 i hi ai bi] at el
        rcases q3 with q | q
        · exact ai (el.trans q)
        · exact bi (el.trans q)
      · rw [q2 i hi ai bi, q2 j hj aj bj] at el
        exact h4 i j hi hj ei ej el
theorem own_rlA {l : Nat → Int32} {x0 x1 : Int32} {i : Nat} (e : l i = l x0.toNatClampNeg ∨ l i = l x1.toNatClampNeg) : own_rl l x1 x0 i = l x0.toNatClampNeg := by
  unfold own_rl
  by_cases c : l i = l x1.toNatClampNeg
  · rw [if_pos c]
  · rw [if_neg c]; exact e.resolve_right c
theorem own_JA {l f f1 f2 : Nat → Int32} {x0 x1 r1 r2 : Int32} (h1 : own_R l f x0 f1 r1) (h2 : own_R l f1 x1 f2 r2) (ne : ¬ r1 = r2) : own_I (own_upd f2 r1.toNatClampNeg r2) (own_rl l x1 x0) := by
  obtain ⟨a, b, c, d⟩ := own_two h1 h2 ne
  have n1 := own_Inn h1.2.2.1
  have n2 := own_Inn h2.2.2.1
  have e1 := h1.2.2.2.2
  have e2 := h2.2.2.2.2
  refine own_attach n1.1 n2.1 n2.2.symm a b c d h2.1 _ (fun i hi q => ?_) (fun i hi qa qb => ?_) ?_
  · rw [own_rlA (i := i) (by rw [← e1, ← e2]; exact q), own_rlA (i := r1.toNatClampNeg) (Or.inl e1)]
  · unfold own_rl; rw [if_neg (by rw [← e2]; exact qb)]
  · rw [own_rlA (i := r1.toNatClampNeg) (Or.inl e1)]; exact Or.inl e1.symm
theorem own_JB {l f f1 f2 : Nat → Int32} {x0 x1 r1 r2 : Int32} (h1 : own_R l f x0 f1 r1) (h2 : own_R l f1 x1 f2 r2) (ne : ¬ r1 = r2) : own_I (own_upd f2 r2.toNatClampNeg r1) (own_rl l x1 x0) := by
  obtain ⟨a, b, c, d⟩ := own_two h1 h2 ne
  have n1 := own_Inn h1.2.2.1
  have n2 := own_Inn h2.2.2.1
  have e1 := h1.2.2.2.2
  have e2 := h2.2.2.2.2
  refine own_attach n2.1 n1.1 n1.2.symm b a c.symm d.symm h2.1 _ (fun i hi q => ?_) (fun i hi qa qb => ?_) ?_
  · rw [own_rlA (i := i) (by rw [← e1, ← e2]; exact q.symm), own_rlA (i := r2.toNatClampNeg) (Or.inr e2)]
  · unfold own_rl; rw [if_neg (by rw [← e2]; exact qa)]
  · rw [own_rlA (i := r2.toNatClampNeg) (Or.inr e2)]; exact Or.inr e1.symm
theorem own_iffj {l f f1 f2 : Nat → Int32} {x y rx ry : Int32} (h1 : own_R l f x f1 rx) (h2 : own_R l f1 y f2 ry) : (if rx = ry then (1 : Int32) else 0) = (if (l x.toNatClampNeg) = (l y.toNatClampNeg) then (1 : Int32) else 0) := by
  by_cases e : rx = ry
  · rw [if_pos e, if_pos (by rw [← h1.2.2.2.2, ← h2.2.2.2.2, e])]
  · rw [if_neg e, if_neg (by rw [← h1.2.2.2.2, ← h2.2.2.2.2]; exact (own_two h1 h2 e).2.2.2)]
theorem own_same {l fa fb : Nat → Int32} {x r s : Int32} (h : own_R l fa x fb r) (hs : own_In s) (root : fa s.toNatClampNeg = s) (e : l s.toNatClampNeg = l x.toNatClampNeg) : r = s := by
  have n1 := own_Inn h.2.2.1
  have n2 := own_Inn hs
  have a := (h.2.1 _ n2.1).mpr (root.trans n2.2.symm)
  have b := h.2.2.2.1.trans n1.2.symm
  obtain ⟨rk, k⟩ := h.1
  have q := k.2.2.2 _ _ n1.1 n2.1 b a (h.2.2.2.2.trans e.symm)
  rw [← n1.2, ← n2.2, q]
theorem own_keep {l fa fb : Nat → Int32} {x r s : Int32} (h : own_R l fa x fb r) (hs : own_In s) (root : fa s.toNatClampNeg = s) : fb s.toNatClampNeg = s := by
  have n2 := own_Inn hs
  exact ((h.2.1 _ n2.1).mpr (root.trans n2.2.symm)).trans n2.2
theorem own_k0 (m : MethodId) (a : Addr) (x0 : Int32) : entryFrame m #[(.ref a), (.int x0)] 3 = mkF m 0 #[.val (.ref a), .val (.int x0), .unset] [] := by first | (simp [entryFrame, mkF, argsToLocals, Value.category]; done) | rfl
theorem own_k1 : decode prog_4_method_2_code 0 = .ok (.iload_n 1, 1) := by decide +kernel
theorem own_k2 : decode prog_4_method_2_code 1 = .ok (.istore_n 2, 1) := by decide +kernel
theorem own_k3 : decode prog_4_method_2_code 2 = .ok (.aload_n 0, 1) := by decide +kernel
theorem own_k4 : decode prog_4_method_2_code 3 = .ok (.getfield 7, 3) := by decide +kernel
theorem own_k5 : decode prog_4_method_2_code 6 = .ok (.iload_n 2, 1) := by decide +kernel
theorem own_k6 : decode prog_4_method_2_code 7 = .ok (.iaload, 1) := by decide +kernel
theorem own_k7 : decode prog_4_method_2_code 8 = .ok (.iload_n 2, 1) := by decide +kernel
theorem own_k8 : decode prog_4_method_2_code 9 = .ok (.if_icmp .eq 30, 3) := by decide +kernel
theorem own_k9 : decode prog_4_method_2_code 39 = .ok (.iload_n 2, 1) := by decide +kernel
theorem own_k10 : decode prog_4_method_2_code 40 = .ok (.ireturn, 1) := by decide +kernel
theorem own_k11 : decode prog_4_method_2_code 12 = .ok (.aload_n 0, 1) := by decide +kernel
theorem own_k12 : decode prog_4_method_2_code 13 = .ok (.getfield 7, 3) := by decide +kernel
theorem own_k13 : decode prog_4_method_2_code 16 = .ok (.iload_n 2, 1) := by decide +kernel
theorem own_k14 : decode prog_4_method_2_code 17 = .ok (.aload_n 0, 1) := by decide +kernel
theorem own_k15 : decode prog_4_method_2_code 18 = .ok (.getfield 7, 3) := by decide +kernel
theorem own_k16 : decode prog_4_method_2_code 21 = .ok (.aload_n 0, 1) := by decide +kernel
theorem own_k17 : decode prog_4_method_2_code 22 = .ok (.getfield 7, 3) := by decide +kernel
theorem own_k18 : decode prog_4_method_2_code 25 = .ok (.iload_n 2, 1) := by decide +kernel
theorem own_k19 : decode prog_4_method_2_code 26 = .ok (.iaload, 1) := by decide +kernel
theorem own_k20 : decode prog_4_method_2_code 27 = .ok (.iaload, 1) := by decide +kernel
theorem own_k21 : decode prog_4_method_2_code 28 = .ok (.iastore, 1) := by decide +kernel
theorem own_k22 : decode prog_4_method_2_code 29 = .ok (.aload_n 0, 1) := by decide +kernel
theorem own_k23 : decode prog_4_method_2_code 30 = .ok (.getfield 7, 3) := by decide +kernel
theorem own_k24 : decode prog_4_method_2_code 33 = .ok (.iload_n 2, 1) := by decide +kernel
theorem own_k25 : decode prog_4_method_2_code 34 = .ok (.iaload, 1) := by decide +kernel
theorem own_k26 : decode prog_4_method_2_code 35 = .ok (.istore_n 2, 1) := by decide +kernel
theorem own_k27 : decode prog_4_method_2_code 36 = .ok (.goto (-34), 3) := by decide +kernel
theorem own_k28 : plainName "com/example/nearprint/nearprint/DisjointSets" = true := by first | (simp [plainName, overriddenIn]; done) | decide +kernel
set_option maxRecDepth 65536 in
set_option maxHeartbeats 40000000 in
theorem own_rm5 (l : Launch) (Z : State) (a0 : Array Value) (hw : ∀ d ∈ tables_1, d.before a0 Z = true) (ws : List Jvm.Cond) (a : Addr) (x0 : Int32) (b : Addr) (k_b : ClassId) (f : Nat → Int32) (lab : Nat → Int32) (h0 : Heap) (n0 : Nat) (hn0 : n0 ≤ h0.size) (F_a : Fld Z h0 a "com/example/nearprint/nearprint/DisjointSets" "parents" "[I" (.ref b)) (V_b : Arf Z h0 b k_b .int (5 : Int32) f) (g_b : n0 ≤ b) (ne_a_b : a ≠ b) (hI : own_I f lab) (hx0 : own_In x0) : Meets l Z (⟨"com/example/nearprint/nearprint/DisjointSets", "root", "(I)I"⟩ : MethodName) prog_4_method_2_code 3 (some .int) ws ({ frames := 0, cells := 0, slots := 0, locals := 0 } : Room) #[(.ref a), (.int x0)] h0 (fun v h L => ∃ (r : Int32) (f' : Nat → Int32), v = some (.int r) ∧ Fr n0 L ∧ Keep h0 h [b] ∧ Arf Z h b k_b .int (5 : Int32) f' ∧ own_R lab f x0 f' r) := by
  refine meets_of (plainFor_of_name own_k28) ?_
  intro p e s m below meth c s₁ X0 hx hZ hby hml hret hlk hown hnm e0
  replace hml : c.maxLocals = 3 := hml
  replace hown : s.vm.findClass "com/example/nearprint/nearprint/DisjointSets" = some m.cls := hown
  refine Go.cast (own_k0 m a x0) ?_
  have N0 := Fr.nil n0
  have K0 : Keep h0 h0 [b] := Keep.refl h0 _
  obtain ⟨rk, hIK⟩ := hI
  refine Go.via (U' := s₁.setTop (mkF m 1 #[.val (.ref a), .val (.int x0), .unset] [(.int x0)])) (fun tG kG => XS.iloadN X0.here hx rfl (hb hby own_k1) rfl kG) ?_
  refine Go.via (U' := s₁.setTop (mkF m 2 #[.val (.ref a), .val (.int x0), .val (.int x0)] [])) (fun tG kG => XS.istoreN X0.here hx rfl (hb hby own_k2) rfl (l' := #[.val (.ref a), .val (.int x0), .val (.int x0)]) rfl kG) ?_
  have loop1 : ∀ (d15 : Nat) (t : Int32) (fc : Nat → Int32) T' h' L', d15 = rk t.toNatClampNeg → own_S lab rk f x0 fc t → Stand p l e ({ frames := 0, cells := 0, slots := 0, locals := 0 } : Room) s m #[(.ref a), (.int x0)] below meth c T' L' 0 0 → T'.heap = h' → Fr n0 L' → n0 ≤ h'.size → Keep h0 h' [b] → Fld Z h' a "com/example/nearprint/nearprint/DisjointSets" "parents" "[I" (.ref b) → Arf Z h' b k_b .int (5 : Int32) fc → Go p e below s ({ frames := 0, cells := 0, slots := 0, locals := 0 } : Room).cells ({ frames := 0, cells := 0, slots := 0, locals := 0 } : Room).slots (fun v h L => ∃ (r : Int32) (f' : Nat → Int32), v = some (.int r) ∧ Fr n0 L ∧ Keep h0 h [b] ∧ Arf Z h b k_b .int (5 : Int32) f' ∧ own_R lab f x0 f' r) (T'.setTop (mkF m 2 #[.val (.ref a), .val (.int x0), .val (.int t)] [])) := by
    intro d15
    induction d15 using Nat.strongRecOn with
    | ind d15 ih14 =>
      intro t fc T2 h3 L4 hd13 hy12 X5 e6 N7 Z8 K9 f10 f11
      refine Go.via (U' := T2.setTop (mkF m 3 #[.val (.ref a), .val (.int x0), .val (.int t)] [(.ref a)])) (fun tG kG => XS.aloadN X5.here hx rfl (hb hby own_k3) rfl rfl kG) ?_
      obtain ⟨T16, X16, e16, st16⟩ := getF X5 hx hZ hown (host := "") (Or.inl (hw _ (List.mem_of_getElem? (i := 10) rfl))) Via.refl e6 f10 (g := (mkF m 3 #[.val (.ref a), .val (.int x0), .val (.int t)] [(.ref a)])) rfl rfl (hb hby own_k4)
      refine Go.via (U' := T16.setTop (mkF m 6 #[.val (.ref a), .val (.int x0), .val (.int t)] [(.ref b)])) (fun tG kG => st16 tG kG) ?_
      refine Go.via (U' := T16.setTop (mkF m 7 #[.val (.ref a), .val (.int x0), .val (.int t)] [(.int t), (.ref b)])) (fun tG kG => XS.iloadN X16.here hx rfl (hb hby own_k5) rfl kG) ?_
      refine Go.via (U' := T16.setTop (mkF m 8 #[.val (.ref a), .val (.int x0), .val (.int t)] [(.int (fc t.toNatClampNeg))])) (fun tG kG => own_ldI X16 hx hZ e16 f11 (j := t) (own_Sin hy12) (hb hby own_k6) tG kG) ?_
      refine Go.via (U' := T16.setTop (mkF m 9 #[.val (.ref a), .val (.int x0), .val (.int t)] [(.int t), (.int (fc t.toNatClampNeg))])) (fun tG kG => XS.iloadN X16.here hx rfl (hb hby own_k7) rfl kG) ?_
      by_cases hc9 : (fc t.toNatClampNeg) = t
      · refine Go.via (U' := T16.setTop (mkF m 39 #[.val (.ref a), .val (.int x0), .val (.int t)] [])) (fun tG kG => XS.icmpYes X16.here hx rfl (pc0 := 9) (pc' := 39) rfl (hb hby own_k8) rfl (teq hc9).1 (by decide) (by decide) kG) ?_
        refine Go.via (U' := T16.setTop (mkF m 40 #[.val (.ref a), .val (.int x0), .val (.int t)] [(.int t)])) (fun tG kG => XS.iloadN X16.here hx rfl (hb hby own_k9) rfl kG) ?_
        exact go_retI X16 hx hlk hret (hb hby own_k10) e16 ⟨t, fc, rfl, N7, K9, f11, own_SR hy12 hc9⟩ (by decide) (by decide)
      · refine Go.via (U' := T16.setTop (mkF m 12 #[.val (.ref a), .val (.int x0), .val (.int t)] [])) (fun tG kG => XS.icmpNo X16.here hx rfl (hb hby own_k8) rfl (feq hc9).1 kG) ?_
        refine Go.via (U' := T16.setTop (mkF m 13 #[.val (.ref a), .val (.int x0), .val (.int t)] [(.ref a)])) (fun tG kG => XS.aloadN X16.here hx rfl (hb hby own_k11) rfl rfl kG) ?_
        obtain ⟨T17, X17, e17, st17⟩ := getF X16 hx hZ hown (host := "") (Or.inl (hw _ (List.mem_of_getElem? (i := 10) rfl))) Via.refl e16 f10 (g := (mkF m 13 #[.val (.ref a), .val (.int x0), .val (.int t)] [(.ref a)])) rfl rfl (hb hby own_k12)
        refine Go.via (U' := T17.setTop (mkF m 16 #[.val (.ref a), .val (.int x0), .val (.int t)] [(.ref b)])) (fun tG kG => st17 tG kG) ?_
        refine Go.via (U' := T17.setTop (mkF m 17 #[.val (.ref a), .val (.int x0), .val (.int t)] [(.int t), (.ref b)])) (fun tG kG => XS.iloadN X17.here hx rfl (hb hby own_k13) rfl kG) ?_
        refine Go.via (U' := T17.setTop (mkF m 18 #[.val (.ref a), .val (.int x0), .val (.int t)] [(.ref a), (.int t), (.ref b)])) (fun tG kG => XS.aloadN X17.here hx rfl (hb hby own_k14) rfl rfl kG) ?_
        obtain ⟨T18, X18, e18, st18⟩ := getF X17 hx hZ hown (host := "") (Or.inl (hw _ (List.mem_of_getElem? (i := 10) rfl))) Via.refl e17 f10 (g := (mkF m 18 #[.val (.ref a), .val (.int x0), .val (.int t)] [(.ref a), (.int t), (.ref b)])) rfl rfl (hb hby own_k15)
        refine Go.via (U' := T18.setTop (mkF m 21 #[.val (.ref a), .val (.int x0), .val (.int t)] [(.ref b), (.int t), (.ref b)])) (fun tG kG => st18 tG kG) ?_
        refine Go.via (U' := T18.setTop (mkF m 22 #[.val (.ref a), .val (.int x0), .val (.int t)] [(.ref a), (.ref b), (.int t), (.ref b)])) (fun tG kG => XS.aloadN X18.here hx rfl (hb hby own_k16) rfl rfl kG) ?_
        obtain ⟨T19, X19, e19, st19⟩ := getF X18 hx hZ hown (host := "") (Or.inl (hw _ (List.mem_of_getElem? (i := 10) rfl))) Via.refl e18 f10 (g := (mkF m 22 #[.val (.ref a), .val (.int x0), .val (.int t)] [(.ref a), (.ref b), (.int t), (.ref b)])) rfl rfl (hb hby own_k17)
        refine Go.via (U' := T19.setTop (mkF m 25 #[.val (.ref a), .val (.int x0), .val (.int t)] [(.ref b), (.ref b), (.int t), (.ref b)])) (fun tG kG => st19 tG kG) ?_
        refine Go.via (U' := T19.setTop (mkF m 26 #[.val (.ref a), .val (.int x0), .val (.int t)] [(.int t), (.ref b), (.ref b), (.int t), (.ref b)])) (fun tG kG => XS.iloadN X19.here hx rfl (hb hby own_k18) rfl kG) ?_
        refine Go.via (U' := T19.setTop (mkF m 27 #[.val (.ref a), .val (.int x0), .val (.int t)] [(.int (fc t.toNatClampNeg)), (.ref b), (.int t), (.ref b)])) (fun tG kG => own_ldI X19 hx hZ e19 f11 (j := t) (own_Sin hy12) (hb hby own_k19) tG kG) ?_
        refine Go.via (U' := T19.setTop (mkF m 28 #[.val (.ref a), .val (.int x0), .val (.int t)] [(.int (fc (fc t.toNatClampNeg).toNatClampNeg)), (.int t), (.ref b)])) (fun tG kG => own_ldI X19 hx hZ e19 f11 (j := (fc t.toNatClampNeg)) (own_Sin2 hy12) (hb hby own_k20) tG kG) ?_
        obtain ⟨T20, h20, X20, e20, W20, A20, st20⟩ := own_stI X19 hx hZ e19 f11 (j := t) (x := (fc (fc t.toNatClampNeg).toNatClampNeg)) (own_Sin hy12) (pc := 28) (Ls := #[.val (.ref a), .val (.int x0), .val (.int t)]) (rest := []) (hb hby own_k21)
        have f21 := f10.other W20 (Or.inl ne_a_b)
        replace A20 : Arf Z h20 b k_b .int (5 : Int32) (own_upd fc t.toNatClampNeg (fc (fc t.toNatClampNeg).toNatClampNeg)) := A20
        have K20 := K9.wr W20 (Or.inl (List.mem_of_getElem? (i := 0) rfl))
        have N20 := Fr.snoc X20 N7 g_b
        have Z20 := Nat.le_trans Z8 (Keep.of_wr W20).1
        refine Go.via (U' := T20.setTop (mkF m 29 #[.val (.ref a), .val (.int x0), .val (.int t)] [])) (fun tG kG => st20 tG kG) ?_
        refine Go.via (U' := T20.setTop (mkF m 30 #[.val (.ref a), .val (.int x0), .val (.int t)] [(.ref a)])) (fun tG kG => XS.aloadN X20.here hx rfl (hb hby own_k22) rfl rfl kG) ?_
        obtain ⟨T22, X22, e22, st22⟩ := getF X20 hx hZ hown (host := "") (Or.inl (hw _ (List.mem_of_getElem? (i := 10) rfl))) Via.refl e20 f21 (g := (mkF m 30 #[.val (.ref a), .val (.int x0), .val (.int t)] [(.ref a)])) rfl rfl (hb hby own_k23)
        refine Go.via (U' := T22.setTop (mkF m 33 #[.val (.ref a), .val (.int x0), .val (.int t)] [(.ref b)])) (fun tG kG => st22 tG kG) ?_
        refine Go.via (U' := T22.setTop (mkF m 34 #[.val (.ref a), .val (.int x0), .val (.int t)] [(.int t), (.ref b)])) (fun tG kG => XS.iloadN X22.here hx rfl (hb hby own_k24) rfl kG) ?_
        refine Go.via (U' := T22.setTop (mkF m 35 #[.val (.ref a), .val (.int x0), .val (.int t)] [(.int ((own_upd fc t.toNatClampNeg (fc (fc t.toNatClampNeg).toNatClampNeg)) t.toNatClampNeg))])) (fun tG kG => own_ldI X22 hx hZ e22 A20 (j := t) (own_Sin hy12) (hb hby own_k25) tG kG) ?_
        refine Go.via (U' := T22.setTop (mkF m 36 #[.val (.ref a), .val (.int x0), .val (.int ((own_upd fc t.toNatClampNeg (fc (fc t.toNatClampNeg).toNatClampNeg)) t.toNatClampNeg))] [])) (fun tG kG => XS.istoreN X22.here hx rfl (hb hby own_k26) rfl (l' := #[.val (.ref a), .val (.int x0), .val (.int ((own_upd fc t.toNatClampNeg (fc (fc t.toNatClampNeg).toNatClampNeg)) t.toNatClampNeg))]) rfl kG) ?_
        refine Go.via (U' := T22.setTop (mkF m 2 #[.val (.ref a), .val (.int x0), .val (.int ((own_upd fc t.toNatClampNeg (fc (fc t.toNatClampNeg).toNatClampNeg)) t.toNatClampNeg))] [])) (fun tG kG => XS.goto X22.here hx rfl (pc0 := 36) (pc' := 2) rfl (hb hby own_k27) (by decide) (by decide) kG) ?_
        refine Go.cast (g' := (mkF m 2 #[.val (.ref a), .val (.int x0), .val (.int (((own_upd fc t.toNatClampNeg (fc (fc t.toNatClampNeg).toNatClampNeg)) t.toNatClampNeg)))] [])) (by rfl) (ih14 (rk (((own_upd fc t.toNatClampNeg (fc (fc t.toNatClampNeg).toNatClampNeg)) t.toNatClampNeg)).toNatClampNeg) (by rw [hd13]; exact own_Slt hy12 hc9) ((((own_upd fc t.toNatClampNeg (fc (fc t.toNatClampNeg).toNatClampNeg)) t.toNatClampNeg))) (((own_upd fc t.toNatClampNeg (fc (fc t.toNatClampNeg).toNatClampNeg)))) T22 _ _ rfl (own_Snext hy12 hc9) X22 e22 N20 Z20 K20 f21 A20)
  refine Go.cast (g' := (mkF m 2 #[.val (.ref a), .val (.int x0), .val (.int x0)] [])) (by rfl) (loop1 (rk x0.toNatClampNeg) (x0) (f) s₁ _ _ rfl (own_S0 hIK hx0) X0 e0 N0 hn0 K0 F_a V_b)
theorem own_k29 (m : MethodId) (a : Addr) (x0 : Int32) (x1 : Int32) : entryFrame m #[(.ref a), (.int x0), (.int x1)] 5 = mkF m 0 #[.val (.ref a), .val (.int x0), .val (.int x1), .unset, .unset] [] := by first | (simp [entryFrame, mkF, argsToLocals, Value.category]; done) | rfl
theorem own_k30 : decode prog_4_method_3_code 0 = .ok (.aload_n 0, 1) := by decide +kernel
theorem own_k31 : decode prog_4_method_3_code 1 = .ok (.iload_n 1, 1) := by decide +kernel
theorem own_k32 : parseMethodDescriptor "(I)I" = some ⟨[.int], some .int⟩ := by decide +kernel
theorem own_k33 : decode prog_4_method_3_code 2 = .ok (.invokevirtual 16, 3) := by decide +kernel
theorem own_k34 : decode prog_4_method_3_code 5 = .ok (.istore_n 3, 1) := by decide +kernel
theorem own_k35 : decode prog_4_method_3_code 6 = .ok (.aload_n 0, 1) := by decide +kernel
theorem own_k36 : decode prog_4_method_3_code 7 = .ok (.iload_n 2, 1) := by decide +kernel
theorem own_k37 : decode prog_4_method_3_code 8 = .ok (.invokevirtual 16, 3) := by decide +kernel
theorem own_k38 : decode prog_4_method_3_code 11 = .ok (.istore 4, 2) := by decide +kernel
theorem own_k39 : decode prog_4_method_3_code 13 = .ok (.iload_n 3, 1) := by decide +kernel
theorem own_k40 : decode prog_4_method_3_code 14 = .ok (.iload 4, 2) := by decide +kernel
theorem own_k41 : decode prog_4_method_3_code 16 = .ok (.if_icmp .ne 4, 3) := by decide +kernel
theorem own_k42 : decode prog_4_method_3_code 19 = .ok (.return_, 1) := by decide +kernel
theorem own_k43 : decode prog_4_method_3_code 20 = .ok (.aload_n 0, 1) := by decide +kernel
theorem own_k44 : decode prog_4_method_3_code 21 = .ok (.getfield 13, 3) := by decide +kernel
theorem own_k45 : decode prog_4_method_3_code 24 = .ok (.iload_n 3, 1) := by decide +kernel
theorem own_k46 : decode prog_4_method_3_code 25 = .ok (.iaload, 1) := by decide +kernel
theorem own_k47 : decode prog_4_method_3_code 26 = .ok (.aload_n 0, 1) := by decide +kernel
theorem own_k48 : decode prog_4_method_3_code 27 = .ok (.getfield 13, 3) := by decide +kernel
theorem own_k49 : decode prog_4_method_3_code 30 = .ok (.iload 4, 2) := by decide +kernel
theorem own_k50 : decode prog_4_method_3_code 32 = .ok (.iaload, 1) := by decide +kernel
theorem own_k51 : decode prog_4_method_3_code 33 = .ok (.if_icmp .ge 30, 3) := by decide +kernel
theorem own_k52 : decode prog_4_method_3_code 36 = .ok (.aload_n 0, 1) := by decide +kernel
theorem own_k53 : decode prog_4_method_3_code 37 = .ok (.getfield 7, 3) := by decide +kernel
theorem own_k54 : decode prog_4_method_3_code 40 = .ok (.iload_n 3, 1) := by decide +kernel
theorem own_k55 : decode prog_4_method_3_code 41 = .ok (.iload 4, 2) := by decide +kernel
theorem own_k56 : decode prog_4_method_3_code 43 = .ok (.iastore, 1) := by decide +kernel
theorem own_k57 : decode prog_4_method_3_code 44 = .ok (.aload_n 0, 1) := by decide +kernel
theorem own_k58 : decode prog_4_method_3_code 45 = .ok (.getfield 13, 3) := by decide +kernel
theorem own_k59 : decode prog_4_method_3_code 48 = .ok (.iload 4, 2) := by decide +kernel
theorem own_k60 : decode prog_4_method_3_code 50 = .ok (.dup2, 1) := by decide +kernel
theorem own_k61 : decode prog_4_method_3_code 51 = .ok (.iaload, 1) := by decide +kernel
theorem own_k62 : decode prog_4_method_3_code 52 = .ok (.aload_n 0, 1) := by decide +kernel
theorem own_k63 : decode prog_4_method_3_code 53 = .ok (.getfield 13, 3) := by decide +kernel
theorem own_k64 : decode prog_4_method_3_code 56 = .ok (.iload_n 3, 1) := by decide +kernel
theorem own_k65 : decode prog_4_method_3_code 57 = .ok (.iaload, 1) := by decide +kernel
theorem own_k66 : decode prog_4_method_3_code 58 = .ok (.iadd, 1) := by decide +kernel
theorem own_k67 : decode prog_4_method_3_code 59 = .ok (.iastore, 1) := by decide +kernel
theorem own_k68 : decode prog_4_method_3_code 60 = .ok (.goto 27, 3) := by decide +kernel
theorem own_k69 : decode prog_4_method_3_code 87 = .ok (.return_, 1) := by decide +kernel
theorem own_k70 : decode prog_4_method_3_code 63 = .ok (.aload_n 0, 1) := by decide +kernel
theorem own_k71 : decode prog_4_method_3_code 64 = .ok (.getfield 7, 3) := by decide +kernel
theorem own_k72 : decode prog_4_method_3_code 67 = .ok (.iload 4, 2) := by decide +kernel
theorem own_k73 : decode prog_4_method_3_code 69 = .ok (.iload_n 3, 1) := by decide +kernel
theorem own_k74 : decode prog_4_method_3_code 70 = .ok (.iastore, 1) := by decide +kernel
theorem own_k75 : decode prog_4_method_3_code 71 = .ok (.aload_n 0, 1) := by decide +kernel
theorem own_k76 : decode prog_4_method_3_code 72 = .ok (.getfield 13, 3) := by decide +kernel
theorem own_k77 : decode prog_4_method_3_code 75 = .ok (.iload_n 3, 1) := by decide +kernel
theorem own_k78 : decode prog_4_method_3_code 76 = .ok (.dup2, 1) := by decide +kernel
theorem own_k79 : decode prog_4_method_3_code 77 = .ok (.iaload, 1) := by decide +kernel
theorem own_k80 : decode prog_4_method_3_code 78 = .ok (.aload_n 0, 1) := by decide +kernel
theorem own_k81 : decode prog_4_method_3_code 79 = .ok (.getfield 13, 3) := by decide +kernel
theorem own_k82 : decode prog_4_method_3_code 82 = .ok (.iload 4, 2) := by decide +kernel
theorem own_k83 : decode prog_4_method_3_code 84 = .ok (.iaload, 1) := by decide +kernel
theorem own_k84 : decode prog_4_method_3_code 85 = .ok (.iadd, 1) := by decide +kernel
theorem own_k85 : decode prog_4_method_3_code 86 = .ok (.iastore, 1) := by decide +kernel
set_option maxRecDepth 65536 in
set_option maxHeartbeats 40000000 in
theorem own_rm4 (l : Launch) (Z : State) (a0 : Array Value) (hw : ∀ d ∈ tables_1, d.before a0 Z = true) (ws : List Jvm.Cond) (a : Addr) (x0 : Int32) (x1 : Int32) (b : Addr) (c_ : Addr) (k_b : ClassId) (k_c : ClassId) (f : Nat → Int32) (gg : Nat → Int32) (lab : Nat → Int32) (h0 : Heap) (n0 : Nat) (hn0 : n0 ≤ h0.size) (E_a : Exa Z h0 a "com/example/nearprint/nearprint/DisjointSets") (F_a : Fld Z h0 a "com/example/nearprint/nearprint/DisjointSets" "parents" "[I" (.ref b)) (F_s : Fld Z h0 a "com/example/nearprint/nearprint/DisjointSets" "sizes" "[I" (.ref c_)) (V_b : Arf Z h0 b k_b .int (5 : Int32) f) (V_c : Arf Z h0 c_ k_c .int (5 : Int32) gg) (g_b : n0 ≤ b) (g_c : n0 ≤ c_) (ne_a_b : a ≠ b) (ne_a_c : a ≠ c_) (ne_b_c : b ≠ c_) (hI : own_I f lab) (hx0 : own_In x0) (hx1 : own_In x1) : Meets l Z (⟨"com/example/nearprint/nearprint/DisjointSets", "join", "(II)V"⟩ : MethodName) prog_4_method_3_code 5 none ws ({ frames := 1, cells := 0, slots := 0, locals := 14 } : Room) #[(.ref a), (.int x0), (.int x1)] h0 (fun v h L => ∃ (f' g' : Nat → Int32), v = none ∧ Fr n0 L ∧ Keep h0 h [b, c_] ∧ Arf Z h b k_b .int (5 : Int32) f' ∧ Arf Z h c_ k_c .int (5 : Int32) g' ∧ own_I f' (own_rl lab x1 x0)) := by
  refine meets_of (plainFor_of_name own_k28) ?_
  intro p e s m below meth c s₁ X0 hx hZ hby hml hret hlk hown hnm e0
  replace hml : c.maxLocals = 5 := hml
  replace hown : s.vm.findClass "com/example/nearprint/nearprint/DisjointSets" = some m.cls := hown
  refine Go.cast (own_k29 m a x0 x1) ?_
  have N0 := Fr.nil n0
  have K0 : Keep h0 h0 [b, c_] := Keep.refl h0 _
  refine Go.via (U' := s₁.setTop (mkF m 1 #[.val (.ref a), .val (.int x0), .val (.int x1), .unset, .unset] [(.ref a)])) (fun tG kG => XS.aloadN X0.here hx rfl (hb hby own_k30) rfl rfl kG) ?_
  refine Go.via (U' := s₁.setTop (mkF m 2 #[.val (.ref a), .val (.int x0), .val (.int x1), .unset, .unset] [(.int x0), (.ref a)])) (fun tG kG => XS.iloadN X0.here hx rfl (hb hby own_k31) rfl kG) ?_
  obtain ⟨_, T1, L1, X1, ⟨r2, fr3, rfl, N1q, K1q, f5, hy4⟩, st1⟩ := callVQ X0 hx hZ hown (hw _ (List.mem_of_getElem? (i := 23) rfl)) (hw _ (List.mem_of_getElem? (i := 24) rfl)) (hw _ (List.mem_of_getElem? (i := 26) rfl)) (hw _ (List.mem_of_getElem? (i := 25) rfl)) (hw _ (List.mem_of_getElem? (i := 2) rfl)) (hw _ (List.mem_of_getElem? (i := 27) rfl)) (by decide) (b := a) (av := [(.int x0)]) E_a (own_rm5 l Z a0 hw [] a x0 b k_b f lab h0 n0 hn0 F_a V_b g_b ne_a_b hI hx0) e0 (pc := 2) (Ls := #[.val (.ref a), .val (.int x0), .val (.int x1), .unset, .unset]) (rest := []) (by rw [hml]; rfl) own_k32 rfl 0 (Nat.le_of_eq rfl) (by decide) (by decide) (by decide) (by decide) (hb hby own_k33)
  have f6 := E_a.keep K1q
  have f7 := F_a.keep K1q (ninS ne_a_b nin0)
  have f8 := F_s.keep K1q (ninS ne_a_b nin0)
  have f9 := V_c.keep K1q (ninS (Ne.symm ne_b_c) nin0)
  have N1 := Fr.app N0 N1q
  have Z1 := Nat.le_trans hn0 K1q.1
  have K1 := K0.trans K1q (allS (Or.inl (List.mem_of_getElem? (i := 0) rfl)) all0)
  refine Go.via (U' := T1.setTop (mkF m 5 #[.val (.ref a), .val (.int x0), .val (.int x1), .unset, .unset] [(.int r2)])) (fun tG kG => st1 tG kG) ?_
  refine Go.via (U' := T1.setTop (mkF m 6 #[.val (.ref a), .val (.int x0), .val (.int x1), .val (.int r2), .unset] [])) (fun tG kG => XS.istoreN X1.here hx rfl (hb hby own_k34) rfl (l' := #[.val (.ref a), .val (.int x0), .val (.int x1), .val (.int r2), .unset]) rfl kG) ?_
  refine Go.via (U' := T1.setTop (mkF m 7 #[.val (.ref a), .val (.int x0), .val (.int x1), .val (.int r2), .unset] [(.ref a)])) (fun tG kG => XS.aloadN X1.here hx rfl (hb hby own_k35) rfl rfl kG) ?_
  refine Go.via (U' := T1.setTop (mkF m 8 #[.val (.ref a), .val (.int x0), .val (.int x1), .val (.int r2), .unset] [(.int x1), (.ref a)])) (fun tG kG => XS.iloadN X1.here hx rfl (hb hby own_k36) rfl kG) ?_
  obtain ⟨_, T10, L10, X10, ⟨r11, fr12, rfl, N10q, K10q, f14, hy13⟩, st10⟩ := callVQ X1 hx hZ hown (hw _ (List.mem_of_getElem? (i := 23) rfl)) (hw _ (List.mem_of_getElem? (i := 24) rfl)) (hw _ (List.mem_of_getElem? (i := 26) rfl)) (hw _ (List.mem_of_getElem? (i := 25) rfl)) (hw _ (List.mem_of_getElem? (i := 2) rfl)) (hw _ (List.mem_of_getElem? (i := 27) rfl)) (by decide) (b := a) (av := [(.int x1)]) f6 (own_rm5 l Z a0 hw [] a x1 b k_b fr3 lab T1.heap n0 Z1 f7 f5 g_b ne_a_b hy4.1 hx1) rfl (pc := 8) (Ls := #[.val (.ref a), .val (.int x0), .val (.int x1), .val (.int r2), .unset]) (rest := []) (by rw [hml]; rfl) own_k32 rfl 0 (Nat.le_of_eq rfl) (by decide) (by decide) (by decide) (by decide) (hb hby own_k37)
  have f15 := f6.keep K10q
  have f16 := f7.keep K10q (ninS ne_a_b nin0)
  have f17 := f8.keep K10q (ninS ne_a_b nin0)
  have f18 := f9.keep K10q (ninS (Ne.symm ne_b_c) nin0)
  have N10 := Fr.app N1 N10q
  have Z10 := Nat.le_trans Z1 K10q.1
  have K10 := K1.trans K10q (allS (Or.inl (List.mem_of_getElem? (i := 0) rfl)) all0)
  refine Go.via (U' := T10.setTop (mkF m 11 #[.val (.ref a), .val (.int x0), .val (.int x1), .val (.int r2), .unset] [(.int r11)])) (fun tG kG => st10 tG kG) ?_
  refine Go.via (U' := T10.setTop (mkF m 13 #[.val (.ref a), .val (.int x0), .val (.int x1), .val (.int r2), .val (.int r11)] [])) (fun tG kG => XS.istore X10.here hx rfl (hb hby own_k38) rfl (l' := #[.val (.ref a), .val (.int x0), .val (.int x1), .val (.int r2), .val (.int r11)]) rfl kG) ?_
  refine Go.via (U' := T10.setTop (mkF m 14 #[.val (.ref a), .val (.int x0), .val (.int x1), .val (.int r2), .val (.int r11)] [(.int r2)])) (fun tG kG => XS.iloadN X10.here hx rfl (hb hby own_k39) rfl kG) ?_
  refine Go.via (U' := T10.setTop (mkF m 16 #[.val (.ref a), .val (.int x0), .val (.int x1), .val (.int r2), .val (.int r11)] [(.int r11), (.int r2)])) (fun tG kG => XS.iload X10.here hx rfl (hb hby own_k40) rfl kG) ?_
  by_cases hc16 : r2 = r11
  · refine Go.via (U' := T10.setTop (mkF m 19 #[.val (.ref a), .val (.int x0), .val (.int x1), .val (.int r2), .val (.int r11)] [])) (fun tG kG => XS.icmpNo X10.here hx rfl (hb hby own_k41) rfl (teq hc16).2 kG) ?_
    exact go_retV X10 hx hlk hret (hb hby own_k42) rfl ⟨fr12, gg, rfl, N10, K10, f14, f18, (own_Jeq hy4 hy13 hc16)⟩ (by decide) (by decide)
  · refine Go.via (U' := T10.setTop (mkF m 20 #[.val (.ref a), .val (.int x0), .val (.int x1), .val (.int r2), .val (.int r11)] [])) (fun tG kG => XS.icmpYes X10.here hx rfl (pc0 := 16) (pc' := 20) rfl (hb hby own_k41) rfl (feq hc16).2 (by decide) (by decide) kG) ?_
    refine Go.via (U' := T10.setTop (mkF m 21 #[.val (.ref a), .val (.int x0), .val (.int x1), .val (.int r2), .val (.int r11)] [(.ref a)])) (fun tG kG => XS.aloadN X10.here hx rfl (hb hby own_k43) rfl rfl kG) ?_
    obtain ⟨T19, X19, e19, st19⟩ := getF X10 hx hZ hown (host := "") (Or.inl (hw _ (List.mem_of_getElem? (i := 12) rfl))) Via.refl rfl f17 (g := (mkF m 21 #[.val (.ref a), .val (.int x0), .val (.int x1), .val (.int r2), .val (.int r11)] [(.ref a)])) rfl rfl (hb hby own_k44)
    refine Go.via (U' := T19.setTop (mkF m 24 #[.val (.ref a), .val (.int x0), .val (.int x1), .val (.int r2), .val (.int r11)] [(.ref c_)])) (fun tG kG => st19 tG kG) ?_
    refine Go.via (U' := T19.setTop (mkF m 25 #[.val (.ref a), .val (.int x0), .val (.int x1), .val (.int r2), .val (.int r11)] [(.int r2), (.ref c_)])) (fun tG kG => XS.iloadN X19.here hx rfl (hb hby own_k45) rfl kG) ?_
    refine Go.via (U' := T19.setTop (mkF m 26 #[.val (.ref a), .val (.int x0), .val (.int x1), .val (.int r2), .val (.int r11)] [(.int (gg r2.toNatClampNeg))])) (fun tG kG => own_ldI X19 hx hZ e19 f18 (j := r2) hy4.2.2.1 (hb hby own_k46) tG kG) ?_
    refine Go.via (U' := T19.setTop (mkF m 27 #[.val (.ref a), .val (.int x0), .val (.int x1), .val (.int r2), .val (.int r11)] [(.ref a), (.int (gg r2.toNatClampNeg))])) (fun tG kG => XS.aloadN X19.here hx rfl (hb hby own_k47) rfl rfl kG) ?_
    obtain ⟨T20, X20, e20, st20⟩ := getF X19 hx hZ hown (host := "") (Or.inl (hw _ (List.mem_of_getElem? (i := 12) rfl))) Via.refl e19 f17 (g := (mkF m 27 #[.val (.ref a), .val (.int x0), .val (.int x1), .val (.int r2), .val (.int r11)] [(.ref a), (.int (gg r2.toNatClampNeg))])) rfl rfl (hb hby own_k48)
    refine Go.via (U' := T20.setTop (mkF m 30 #[.val (.ref a), .val (.int x0), .val (.int x1), .val (.int r2), .val (.int r11)] [(.ref c_), (.int (gg r2.toNatClampNeg))])) (fun tG kG => st20 tG kG) ?_
    refine Go.via (U' := T20.setTop (mkF m 32 #[.val (.ref a), .val (.int x0), .val (.int x1), .val (.int r2), .val (.int r11)] [(.int r11), (.ref c_), (.int (gg r2.toNatClampNeg))])) (fun tG kG => XS.iload X20.here hx rfl (hb hby own_k49) rfl kG) ?_
    refine Go.via (U' := T20.setTop (mkF m 33 #[.val (.ref a), .val (.int x0), .val (.int x1), .val (.int r2), .val (.int r11)] [(.int (gg r11.toNatClampNeg)), (.int (gg r2.toNatClampNeg))])) (fun tG kG => own_ldI X20 hx hZ e20 f18 (j := r11) hy13.2.2.1 (hb hby own_k50) tG kG) ?_
    by_cases hc33 : (gg r2.toNatClampNeg) < (gg r11.toNatClampNeg)
    · refine Go.via (U' := T20.setTop (mkF m 36 #[.val (.ref a), .val (.int x0), .val (.int x1), .val (.int r2), .val (.int r11)] [])) (fun tG kG => XS.icmpNo X20.here hx rfl (hb hby own_k51) rfl (tlt hc33).2.1 kG) ?_
      refine Go.via (U' := T20.setTop (mkF m 37 #[.val (.ref a), .val (.int x0), .val (.int x1), .val (.int r2), .val (.int r11)] [(.ref a)])) (fun tG kG => XS.aloadN X20.here hx rfl (hb hby own_k52) rfl rfl kG) ?_
      obtain ⟨T21, X21, e21, st21⟩ := getF X20 hx hZ hown (host := "") (Or.inl (hw _ (List.mem_of_getElem? (i := 10) rfl))) Via.refl e20 f16 (g := (mkF m 37 #[.val (.ref a), .val (.int x0), .val (.int x1), .val (.int r2), .val (.int r11)] [(.ref a)])) rfl rfl (hb hby own_k53)
      refine Go.via (U' := T21.setTop (mkF m 40 #[.val (.ref a), .val (.int x0), .val (.int x1), .val (.int r2), .val (.int r11)] [(.ref b)])) (fun tG kG => st21 tG kG) ?_
      refine Go.via (U' := T21.setTop (mkF m 41 #[.val (.ref a), .val (.int x0), .val (.int x1), .val (.int r2), .val (.int r11)] [(.int r2), (.ref b)])) (fun tG kG => XS.iloadN X21.here hx rfl (hb hby own_k54) rfl kG) ?_
      refine Go.via (U' := T21.setTop (mkF m 43 #[.val (.ref a), .val (.int x0), .val (.int x1), .val (.int r2), .val (.int r11)] [(.int r11), (.int r2), (.ref b)])) (fun tG kG => XS.iload X21.here hx rfl (hb hby own_k55) rfl kG) ?_
      obtain ⟨T22, h22, X22, e22, W22, A22, st22⟩ := own_stI X21 hx hZ e21 f14 (j := r2) (x := r11) hy4.2.2.1 (pc := 43) (Ls := #[.val (.ref a), .val (.int x0), .val (.int x1), .val (.int r2), .val (.int r11)]) (rest := []) (hb hby own_k56)
      have f23 := f15.wr W22
      have f24 := f16.other W22 (Or.inl ne_a_b)
      have f25 := f17.other W22 (Or.inl ne_a_b)
      have f26 := f18.other W22 (Ne.symm ne_b_c)
      replace A22 : Arf Z h22 b k_b .int (5 : Int32) (own_upd fr12 r2.toNatClampNeg r11) := A22
      have K22 := K10.wr W22 (Or.inl (List.mem_of_getElem? (i := 0) rfl))
      have N22 := Fr.snoc X22 N10 g_b
      have Z22 := Nat.le_trans Z10 (Keep.of_wr W22).1
      refine Go.via (U' := T22.setTop (mkF m 44 #[.val (.ref a), .val (.int x0), .val (.int x1), .val (.int r2), .val (.int r11)] [])) (fun tG kG => st22 tG kG) ?_
      refine Go.via (U' := T22.setTop (mkF m 45 #[.val (.ref a), .val (.int x0), .val (.int x1), .val (.int r2), .val (.int r11)] [(.ref a)])) (fun tG kG => XS.aloadN X22.here hx rfl (hb hby own_k57) rfl rfl kG) ?_
      obtain ⟨T27, X27, e27, st27⟩ := getF X22 hx hZ hown (host := "") (Or.inl (hw _ (List.mem_of_getElem? (i := 12) rfl))) Via.refl e22 f25 (g := (mkF m 45 #[.val (.ref a), .val (.int x0), .val (.int x1), .val (.int r2), .val (.int r11)] [(.ref a)])) rfl rfl (hb hby own_k58)
      refine Go.via (U' := T27.setTop (mkF m 48 #[.val (.ref a), .val (.int x0), .val (.int x1), .val (.int r2), .val (.int r11)] [(.ref c_)])) (fun tG kG => st27 tG kG) ?_
      refine Go.via (U' := T27.setTop (mkF m 50 #[.val (.ref a), .val (.int x0), .val (.int x1), .val (.int r2), .val (.int r11)] [(.int r11), (.ref c_)])) (fun tG kG => XS.iload X27.here hx rfl (hb hby own_k59) rfl kG) ?_
      refine Go.via (U' := T27.setTop (mkF m 51 #[.val (.ref a), .val (.int x0), .val (.int x1), .val (.int r2), .val (.int r11)] [(.int r11), (.ref c_), (.int r11), (.ref c_)])) (fun tG kG => Jvm.Free.XT.dup2 X27.here hx rfl (hb hby own_k60) rfl rfl rfl kG) ?_
      refine Go.via (U' := T27.setTop (mkF m 52 #[.val (.ref a), .val (.int x0), .val (.int x1), .val (.int r2), .val (.int r11)] [(.int (gg r11.toNatClampNeg)), (.int r11), (.ref c_)])) (fun tG kG => own_ldI X27 hx hZ e27 f26 (j := r11) hy13.2.2.1 (hb hby own_k61) tG kG) ?_
      refine Go.via (U' := T27.setTop (mkF m 53 #[.val (.ref a), .val (.int x0), .val (.int x1), .val (.int r2), .val (.int r11)] [(.ref a), (.int (gg r11.toNatClampNeg)), (.int r11), (.ref c_)])) (fun tG kG => XS.aloadN X27.here hx rfl (hb hby own_k62) rfl rfl kG) ?_
      obtain ⟨T28, X28, e28, st28⟩ := getF X27 hx hZ hown (host := "") (Or.inl (hw _ (List.mem_of_getElem? (i := 12) rfl))) Via.refl e27 f25 (g := (mkF m 53 #[.val (.ref a), .val (.int x0), .val (.int x1), .val (.int r2), .val (.int r11)] [(.ref a), (.int (gg r11.toNatClampNeg)), (.int r11), (.ref c_)])) rfl rfl (hb hby own_k63)
      refine Go.via (U' := T28.setTop (mkF m 56 #[.val (.ref a), .val (.int x0), .val (.int x1), .val (.int r2), .val (.int r11)] [(.ref c_), (.int (gg r11.toNatClampNeg)), (.int r11), (.ref c_)])) (fun tG kG => st28 tG kG) ?_
      refine Go.via (U' := T28.setTop (mkF m 57 #[.val (.ref a), .val (.int x0), .val (.int x1), .val (.int r2), .val (.int r11)] [(.int r2), (.ref c_), (.int (gg r11.toNatClampNeg)), (.int r11), (.ref c_)])) (fun tG kG => XS.iloadN X28.here hx rfl (hb hby own_k64) rfl kG) ?_
      refine Go.via (U' := T28.setTop (mkF m 58 #[.val (.ref a), .val (.int x0), .val (.int x1), .val (.int r2), .val (.int r11)] [(.int (gg r2.toNatClampNeg)), (.int (gg r11.toNatClampNeg)), (.int r11), (.ref c_)])) (fun tG kG => own_ldI X28 hx hZ e28 f26 (j := r2) hy4.2.2.1 (hb hby own_k65) tG kG) ?_
      refine Go.via (U' := T28.setTop (mkF m 59 #[.val (.ref a), .val (.int x0), .val (.int x1), .val (.int r2), .val (.int r11)] [(.int ((gg r11.toNatClampNeg) + (gg r2.toNatClampNeg))), (.int r11), (.ref c_)])) (fun tG kG => XS.iadd X28.here hx rfl (hb hby own_k66) rfl kG) ?_
      obtain ⟨T29, h29, X29, e29, W29, A29, st29⟩ := own_stI X28 hx hZ e28 f26 (j := r11) (x := ((gg r11.toNatClampNeg) + (gg r2.toNatClampNeg))) hy13.2.2.1 (pc := 59) (Ls := #[.val (.ref a), .val (.int x0), .val (.int x1), .val (.int r2), .val (.int r11)]) (rest := []) (hb hby own_k67)
      have f30 := f23.wr W29
      have f31 := f24.other W29 (Or.inl ne_a_c)
      have f32 := f25.other W29 (Or.inl ne_a_c)
      have f33 := A22.other W29 ne_b_c
      replace A29 : Arf Z h29 c_ k_c .int (5 : Int32) (own_upd gg r11.toNatClampNeg ((gg r11.toNatClampNeg) + (gg r2.toNatClampNeg))) := A29
      have K29 := K22.wr W29 (Or.inl (List.mem_of_getElem? (i := 1) rfl))
      have N29 := Fr.snoc X29 N22 g_c
      have Z29 := Nat.le_trans Z22 (Keep.of_wr W29).1
      refine Go.via (U' := T29.setTop (mkF m 60 #[.val (.ref a), .val (.int x0), .val (.int x1), .val (.int r2), .val (.int r11)] [])) (fun tG kG => st29 tG kG) ?_
      refine Go.via (U' := T29.setTop (mkF m 87 #[.val (.ref a), .val (.int x0), .val (.int x1), .val (.int r2), .val (.int r11)] [])) (fun tG kG => XS.goto X29.here hx rfl (pc0 := 60) (pc' := 87) rfl (hb hby own_k68) (by decide) (by decide) kG) ?_
      exact go_retV X29 hx hlk hret (hb hby own_k69) e29 ⟨(own_upd fr12 r2.toNatClampNeg r11), (own_upd gg r11.toNatClampNeg ((gg r11.toNatClampNeg) + (gg r2.toNatClampNeg))), rfl, N29, K29, f33, A29, (own_JA hy4 hy13 hc16)⟩ (by decide) (by decide)
    · refine Go.via (U' := T20.setTop (mkF m 63 #[.val (.ref a), .val (.int x0), .val (.int x1), .val (.int r2), .val (.int r11)] [])) (fun tG kG => XS.icmpYes X20.here hx rfl (pc0 := 33) (pc' := 63) rfl (hb hby own_k51) rfl (flt hc33).2.1 (by decide) (by decide) kG) ?_
      refine Go.via (U' := T20.setTop (mkF m 64 #[.val (.ref a), .val (.int x0), .val (.int x1), .val (.int r2), .val (.int r11)] [(.ref a)])) (fun tG kG => XS.aloadN X20.here hx rfl (hb hby own_k70) rfl rfl kG) ?_
      obtain ⟨T34, X34, e34, st34⟩ := getF X20 hx hZ hown (host := "") (Or.inl (hw _ (List.mem_of_getElem? (i := 10) rfl))) Via.refl e20 f16 (g := (mkF m 64 #[.val (.ref a), .val (.int x0), .val (.int x1), .val (.int r2), .val (.int r11)] [(.ref a)])) rfl rfl (hb hby own_k71)
      refine Go.via (U' := T34.setTop (mkF m 67 #[.val (.ref a), .val (.int x0), .val (.int x1), .val (.int r2), .val (.int r11)] [(.ref b)])) (fun tG kG => st34 tG kG) ?_
      refine Go.via (U' := T34.setTop (mkF m 69 #[.val (.ref a), .val (.int x0), .val (.int x1), .val (.int r2), .val (.int r11)] [(.int r11), (.ref b)])) (fun tG kG => XS.iload X34.here hx rfl (hb hby own_k72) rfl kG) ?_
      refine Go.via (U' := T34.setTop (mkF m 70 #[.val (.ref a), .val (.int x0), .val (.int x1), .val (.int r2), .val (.int r11)] [(.int r2), (.int r11), (.ref b)])) (fun tG kG => XS.iloadN X34.here hx rfl (hb hby own_k73) rfl kG) ?_
      obtain ⟨T35, h35, X35, e35, W35, A35, st35⟩ := own_stI X34 hx hZ e34 f14 (j := r11) (x := r2) hy13.2.2.1 (pc := 70) (Ls := #[.val (.ref a), .val (.int x0), .val (.int x1), .val (.int r2), .val (.int r11)]) (rest := []) (hb hby own_k74)
      have f36 := f15.wr W35
      have f37 := f16.other W35 (Or.inl ne_a_b)
      have f38 := f17.other W35 (Or.inl ne_a_b)
      have f39 := f18.other W35 (Ne.symm ne_b_c)
      replace A35 : Arf Z h35 b k_b .int (5 : Int32) (own_upd fr12 r11.toNatClampNeg r2) := A35
      have K35 := K10.wr W35 (Or.inl (List.mem_of_getElem? (i := 0) rfl))
      have N35 := Fr.snoc X35 N10 g_b
      have Z35 := Nat.le_trans Z10 (Keep.of_wr W35).1
      refine Go.via (U' := T35.setTop (mkF m 71 #[.val (.ref a), .val (.int x0), .val (.int x1), .val (.int r2), .val (.int r11)] [])) (fun tG kG => st35 tG kG) ?_
      refine Go.via (U' := T35.setTop (mkF m 72 #[.val (.ref a), .val (.int x0), .val (.int x1), .val (.int r2), .val (.int r11)] [(.ref a)])) (fun tG kG => XS.aloadN X35.here hx rfl (hb hby own_k75) rfl rfl kG) ?_
      obtain ⟨T40, X40, e40, st40⟩ := getF X35 hx hZ hown (host := "") (Or.inl (hw _ (List.mem_of_getElem? (i := 12) rfl))) Via.refl e35 f38 (g := (mkF m 72 #[.val (.ref a), .val (.int x0), .val (.int x1), .val (.int r2), .val (.int r11)] [(.ref a)])) rfl rfl (hb hby own_k76)
      refine Go.via (U' := T40.setTop (mkF m 75 #[.val (.ref a), .val (.int x0), .val (.int x1), .val (.int r2), .val (.int r11)] [(.ref c_)])) (fun tG kG => st40 tG kG) ?_
      refine Go.via (U' := T40.setTop (mkF m 76 #[.val (.ref a), .val (.int x0), .val (.int x1), .val (.int r2), .val (.int r11)] [(.int r2), (.ref c_)])) (fun tG kG => XS.iloadN X40.here hx rfl (hb hby own_k77) rfl kG) ?_
      refine Go.via (U' := T40.setTop (mkF m 77 #[.val (.ref a), .val (.int x0), .val (.int x1), .val (.int r2), .val (.int r11)] [(.int r2), (.ref c_), (.int r2), (.ref c_)])) (fun tG kG => Jvm.Free.XT.dup2 X40.here hx rfl (hb hby own_k78) rfl rfl rfl kG) ?_
      refine Go.via (U' := T40.setTop (mkF m 78 #[.val (.ref a), .val (.int x0), .val (.int x1), .val (.int r2), .val (.int r11)] [(.int (gg r2.toNatClampNeg)), (.int r2), (.ref c_)])) (fun tG kG => own_ldI X40 hx hZ e40 f39 (j := r2) hy4.2.2.1 (hb hby own_k79) tG kG) ?_
      refine Go.via (U' := T40.setTop (mkF m 79 #[.val (.ref a), .val (.int x0), .val (.int x1), .val (.int r2), .val (.int r11)] [(.ref a), (.int (gg r2.toNatClampNeg)), (.int r2), (.ref c_)])) (fun tG kG => XS.aloadN X40.here hx rfl (hb hby own_k80) rfl rfl kG) ?_
      obtain ⟨T41, X41, e41, st41⟩ := getF X40 hx hZ hown (host := "") (Or.inl (hw _ (List.mem_of_getElem? (i := 12) rfl))) Via.refl e40 f38 (g := (mkF m 79 #[.val (.ref a), .val (.int x0), .val (.int x1), .val (.int r2), .val (.int r11)] [(.ref a), (.int (gg r2.toNatClampNeg)), (.int r2), (.ref c_)])) rfl rfl (hb hby own_k81)
      refine Go.via (U' := T41.setTop (mkF m 82 #[.val (.ref a), .val (.int x0), .val (.int x1), .val (.int r2), .val (.int r11)] [(.ref c_), (.int (gg r2.toNatClampNeg)), (.int r2), (.ref c_)])) (fun tG kG => st41 tG kG) ?_
      refine Go.via (U' := T41.setTop (mkF m 84 #[.val (.ref a), .val (.int x0), .val (.int x1), .val (.int r2), .val (.int r11)] [(.int r11), (.ref c_), (.int (gg r2.toNatClampNeg)), (.int r2), (.ref c_)])) (fun tG kG => XS.iload X41.here hx rfl (hb hby own_k82) rfl kG) ?_
      refine Go.via (U' := T41.setTop (mkF m 85 #[.val (.ref a), .val (.int x0), .val (.int x1), .val (.int r2), .val (.int r11)] [(.int (gg r11.toNatClampNeg)), (.int (gg r2.toNatClampNeg)), (.int r2), (.ref c_)])) (fun tG kG => own_ldI X41 hx hZ e41 f39 (j := r11) hy13.2.2.1 (hb hby own_k83) tG kG) ?_
      refine Go.via (U' := T41.setTop (mkF m 86 #[.val (.ref a), .val (.int x0), .val (.int x1), .val (.int r2), .val (.int r11)] [(.int ((gg r2.toNatClampNeg) + (gg r11.toNatClampNeg))), (.int r2), (.ref c_)])) (fun tG kG => XS.iadd X41.here hx rfl (hb hby own_k84) rfl kG) ?_
      obtain ⟨T42, h42, X42, e42, W42, A42, st42⟩ := own_stI X41 hx hZ e41 f39 (j := r2) (x := ((gg r2.toNatClampNeg) + (gg r11.toNatClampNeg))) hy4.2.2.1 (pc := 86) (Ls := #[.val (.ref a), .val (.int x0), .val (.int x1), .val (.int r2), .val (.int r11)]) (rest := []) (hb hby own_k85)
      have f43 := f36.wr W42
      have f44 := f37.other W42 (Or.inl ne_a_c)
      have f45 := f38.other W42 (Or.inl ne_a_c)
      have f46 := A35.other W42 ne_b_c
      replace A42 : Arf Z h42 c_ k_c .int (5 : Int32) (own_upd gg r2.toNatClampNeg ((gg r2.toNatClampNeg) + (gg r11.toNatClampNeg))) := A42
      have K42 := K35.wr W42 (Or.inl (List.mem_of_getElem? (i := 1) rfl))
      have N42 := Fr.snoc X42 N35 g_c
      have Z42 := Nat.le_trans Z35 (Keep.of_wr W42).1
      refine Go.via (U' := T42.setTop (mkF m 87 #[.val (.ref a), .val (.int x0), .val (.int x1), .val (.int r2), .val (.int r11)] [])) (fun tG kG => st42 tG kG) ?_
      exact go_retV X42 hx hlk hret (hb hby own_k69) e42 ⟨(own_upd fr12 r11.toNatClampNeg r2), (own_upd gg r2.toNatClampNeg ((gg r2.toNatClampNeg) + (gg r11.toNatClampNeg))), rfl, N42, K42, f46, A42, (own_JB hy4 hy13 hc16)⟩ (by decide) (by decide)
theorem own_k86 (m : MethodId) (a : Addr) (x0 : Int32) (x1 : Int32) : entryFrame m #[(.ref a), (.int x0), (.int x1)] 3 = mkF m 0 #[.val (.ref a), .val (.int x0), .val (.int x1)] [] := by first | (simp [entryFrame, mkF, argsToLocals, Value.category]; done) | rfl
theorem own_k87 : decode method_4_code 0 = .ok (.aload_n 0, 1) := by decide +kernel
theorem own_k88 : decode method_4_code 1 = .ok (.iconst 0, 1) := by decide +kernel
theorem own_k89 : decode method_4_code 2 = .ok (.iaload, 1) := by decide +kernel
theorem own_k90 : decode method_4_code 3 = .ok (.iload_n 1, 1) := by decide +kernel
theorem own_k91 : decode method_4_code 4 = .ok (.if_icmp .ne 7, 3) := by decide +kernel
theorem own_k92 : decode method_4_code 7 = .ok (.aload_n 0, 1) := by decide +kernel
theorem own_k93 : decode method_4_code 8 = .ok (.iconst 0, 1) := by decide +kernel
theorem own_k94 : decode method_4_code 9 = .ok (.iload_n 2, 1) := by decide +kernel
theorem own_k95 : decode method_4_code 10 = .ok (.iastore, 1) := by decide +kernel
def own_h6_4_Aa (x0 : Int32) (x1 : Int32) (f : Nat → Int32) : Nat → Int32 := (if (f 0) = x0 then (own_upd f 0 x1) else f)
theorem own_k96 : decode method_4_code 11 = .ok (.aload_n 0, 1) := by decide +kernel
theorem own_k97 : decode method_4_code 12 = .ok (.iconst 1, 1) := by decide +kernel
theorem own_k98 : decode method_4_code 13 = .ok (.iaload, 1) := by decide +kernel
theorem own_k99 : decode method_4_code 14 = .ok (.iload_n 1, 1) := by decide +kernel
theorem own_k100 : decode method_4_code 15 = .ok (.if_icmp .ne 7, 3) := by decide +kernel
theorem own_k101 : decode method_4_code 18 = .ok (.aload_n 0, 1) := by decide +kernel
theorem own_k102 : decode method_4_code 19 = .ok (.iconst 1, 1) := by decide +kernel
theorem own_k103 : decode method_4_code 20 = .ok (.iload_n 2, 1) := by decide +kernel
theorem own_k104 : decode method_4_code 21 = .ok (.iastore, 1) := by decide +kernel
def own_h6_15_Aa (x0 : Int32) (x1 : Int32) (f : Nat → Int32) : Nat → Int32 := (if ((own_h6_4_Aa x0 x1 f) 1) = x0 then (own_upd (own_h6_4_Aa x0 x1 f) 1 x1) else (own_h6_4_Aa x0 x1 f))
theorem own_k105 : decode method_4_code 22 = .ok (.aload_n 0, 1) := by decide +kernel
theorem own_k106 : decode method_4_code 23 = .ok (.iconst 2, 1) := by decide +kernel
theorem own_k107 : decode method_4_code 24 = .ok (.iaload, 1) := by decide +kernel
theorem own_k108 : decode method_4_code 25 = .ok (.iload_n 1, 1) := by decide +kernel
theorem own_k109 : decode method_4_code 26 = .ok (.if_icmp .ne 7, 3) := by decide +kernel
theorem own_k110 : decode method_4_code 29 = .ok (.aload_n 0, 1) := by decide +kernel
theorem own_k111 : decode method_4_code 30 = .ok (.iconst 2, 1) := by decide +kernel
theorem own_k112 : decode method_4_code 31 = .ok (.iload_n 2, 1) := by decide +kernel
theorem own_k113 : decode method_4_code 32 = .ok (.iastore, 1) := by decide +kernel
def own_h6_26_Aa (x0 : Int32) (x1 : Int32) (f : Nat → Int32) : Nat → Int32 := (if ((own_h6_15_Aa x0 x1 f) 2) = x0 then (own_upd (own_h6_15_Aa x0 x1 f) 2 x1) else (own_h6_15_Aa x0 x1 f))
theorem own_k114 : decode method_4_code 33 = .ok (.aload_n 0, 1) := by decide +kernel
theorem own_k115 : decode method_4_code 34 = .ok (.iconst 3, 1) := by decide +kernel
theorem own_k116 : decode method_4_code 35 = .ok (.iaload, 1) := by decide +kernel
theorem own_k117 : decode method_4_code 36 = .ok (.iload_n 1, 1) := by decide +kernel
theorem own_k118 : decode method_4_code 37 = .ok (.if_icmp .ne 7, 3) := by decide +kernel
theorem own_k119 : decode method_4_code 40 = .ok (.aload_n 0, 1) := by decide +kernel
theorem own_k120 : decode method_4_code 41 = .ok (.iconst 3, 1) := by decide +kernel
theorem own_k121 : decode method_4_code 42 = .ok (.iload_n 2, 1) := by decide +kernel
theorem own_k122 : decode method_4_code 43 = .ok (.iastore, 1) := by decide +kernel
def own_h6_37_Aa (x0 : Int32) (x1 : Int32) (f : Nat → Int32) : Nat → Int32 := (if ((own_h6_26_Aa x0 x1 f) 3) = x0 then (own_upd (own_h6_26_Aa x0 x1 f) 3 x1) else (own_h6_26_Aa x0 x1 f))
theorem own_k123 : decode method_4_code 44 = .ok (.aload_n 0, 1) := by decide +kernel
theorem own_k124 : decode method_4_code 45 = .ok (.iconst 4, 1) := by decide +kernel
theorem own_k125 : decode method_4_code 46 = .ok (.iaload, 1) := by decide +kernel
theorem own_k126 : decode method_4_code 47 = .ok (.iload_n 1, 1) := by decide +kernel
theorem own_k127 : decode method_4_code 48 = .ok (.if_icmp .ne 7, 3) := by decide +kernel
theorem own_k128 : decode method_4_code 51 = .ok (.aload_n 0, 1) := by decide +kernel
theorem own_k129 : decode method_4_code 52 = .ok (.iconst 4, 1) := by decide +kernel
theorem own_k130 : decode method_4_code 53 = .ok (.iload_n 2, 1) := by decide +kernel
theorem own_k131 : decode method_4_code 54 = .ok (.iastore, 1) := by decide +kernel
theorem own_k132 : decode method_4_code 55 = .ok (.return_, 1) := by decide +kernel
theorem own_k133 : plainName "com/example/nearprint/nearprint/DisjointSetsRootPinLaw" = true := by first | (simp [plainName, overriddenIn]; done) | decide +kernel
def own_q6_a (x0 : Int32) (x1 : Int32) (f : Nat → Int32) : Nat → Int32 := (if ((own_h6_37_Aa x0 x1 f) 4) = x0 then (own_upd (own_h6_37_Aa x0 x1 f) 4 x1) else (own_h6_37_Aa x0 x1 f))
set_option maxRecDepth 65536 in
set_option maxHeartbeats 40000000 in
theorem own_rm6 (l : Launch) (Z : State) (a0 : Array Value) (hw : ∀ d ∈ tables_1, d.before a0 Z = true) (ws : List Jvm.Cond) (a : Addr) (x0 : Int32) (x1 : Int32) (k_a : ClassId) (f : Nat → Int32) (h0 : Heap) (n0 : Nat) (hn0 : n0 ≤ h0.size) (V_a : Arf Z h0 a k_a .int (5 : Int32) f) (g_a : n0 ≤ a) : Meets l Z (⟨"com/example/nearprint/nearprint/DisjointSetsRootPinLaw", "relabel", "([III)V"⟩ : MethodName) method_4_code 3 none ws ({ frames := 0, cells := 0, slots := 0, locals := 0 } : Room) #[(.ref a), (.int x0), (.int x1)] h0 (fun v h L => v = none ∧ Fr n0 L ∧ Keep h0 h [a] ∧ Arf Z h a k_a .int (5 : Int32) (own_q6_a x0 x1 f)) := by
  refine meets_of (plainFor_of_name own_k133) ?_
  intro p e s m below meth c s₁ X0 hx hZ hby hml hret hlk hown hnm e0
  replace hml : c.maxLocals = 3 := hml
  replace hown : s.vm.findClass "com/example/nearprint/nearprint/DisjointSetsRootPinLaw" = some m.cls := hown
  refine Go.cast (own_k86 m a x0 x1) ?_
  have N0 := Fr.nil n0
  have K0 : Keep h0 h0 [a] := Keep.refl h0 _
  refine Go.via (U' := s₁.setTop (mkF m 1 #[.val (.ref a), .val (.int x0), .val (.int x1)] [(.ref a)])) (fun tG kG => XS.aloadN X0.here hx rfl (hb hby own_k87) rfl rfl kG) ?_
  refine Go.via (U' := s₁.setTop (mkF m 2 #[.val (.ref a), .val (.int x0), .val (.int x1)] [(.int (0 : Int32)), (.ref a)])) (fun tG kG => XS.iconst X0.here hx rfl (hb hby own_k88) kG) ?_
  refine Go.via (U' := s₁.setTop (mkF m 3 #[.val (.ref a), .val (.int x0), .val (.int x1)] [(.int (f 0))])) (fun tG kG => own_ldI X0 hx hZ e0 V_a (j := (0 : Int32)) ⟨by decide, by decide⟩ (hb hby own_k89) tG kG) ?_
  refine Go.via (U' := s₁.setTop (mkF m 4 #[.val (.ref a), .val (.int x0), .val (.int x1)] [(.int x0), (.int (f 0))])) (fun tG kG => XS.iloadN X0.here hx rfl (hb hby own_k90) rfl kG) ?_
  have J1 : ∀ T' h' L', Stand p l e ({ frames := 0, cells := 0, slots := 0, locals := 0 } : Room) s m #[(.ref a), (.int x0), (.int x1)] below meth c T' L' 0 0 → T'.heap = h' → Fr n0 L' → n0 ≤ h'.size → Keep h0 h' [a] → Arf Z h' a k_a .int (5 : Int32) (own_h6_4_Aa x0 x1 f) → Go p e below s ({ frames := 0, cells := 0, slots := 0, locals := 0 } : Room).cells ({ frames := 0, cells := 0, slots := 0, locals := 0 } : Room).slots (fun v h L => v = none ∧ Fr n0 L ∧ Keep h0 h [a] ∧ Arf Z h a k_a .int (5 : Int32) (own_q6_a x0 x1 f)) (T'.setTop (mkF m 11 #[.val (.ref a), .val (.int x0), .val (.int x1)] [])) := by
    intro T2 h3 L4 X5 e6 N7 Z8 K9 f10
    refine Go.via (U' := T2.setTop (mkF m 12 #[.val (.ref a), .val (.int x0), .val (.int x1)] [(.ref a)])) (fun tG kG => XS.aloadN X5.here hx rfl (hb hby own_k96) rfl rfl kG) ?_
    refine Go.via (U' := T2.setTop (mkF m 13 #[.val (.ref a), .val (.int x0), .val (.int x1)] [(.int (1 : Int32)), (.ref a)])) (fun tG kG => XS.iconst X5.here hx rfl (hb hby own_k97) kG) ?_
    refine Go.via (U' := T2.setTop (mkF m 14 #[.val (.ref a), .val (.int x0), .val (.int x1)] [(.int ((own_h6_4_Aa x0 x1 f) 1))])) (fun tG kG => own_ldI X5 hx hZ e6 f10 (j := (1 : Int32)) ⟨by decide, by decide⟩ (hb hby own_k98) tG kG) ?_
    refine Go.via (U' := T2.setTop (mkF m 15 #[.val (.ref a), .val (.int x0), .val (.int x1)] [(.int x0), (.int ((own_h6_4_Aa x0 x1 f) 1))])) (fun tG kG => XS.iloadN X5.here hx rfl (hb hby own_k99) rfl kG) ?_
    have J11 : ∀ T' h' L', Stand p l e ({ frames := 0, cells := 0, slots := 0, locals := 0 } : Room) s m #[(.ref a), (.int x0), (.int x1)] below meth c T' L' 0 0 → T'.heap = h' → Fr n0 L' → n0 ≤ h'.size → Keep h0 h' [a] → Arf Z h' a k_a .int (5 : Int32) (own_h6_15_Aa x0 x1 f) → Go p e below s ({ frames := 0, cells := 0, slots := 0, locals := 0 } : Room).cells ({ frames := 0, cells := 0, slots := 0, locals := 0 } : Room).slots (fun v h L => v = none ∧ Fr n0 L ∧ Keep h0 h [a] ∧ Arf Z h a k_a .int (5 : Int32) (own_q6_a x0 x1 f)) (T'.setTop (mkF m 22 #[.val (.ref a), .val (.int x0), .val (.int x1)] [])) := by
      intro T12 h13 L14 X15 e16 N17 Z18 K19 f20
      refine Go.via (U' := T12.setTop (mkF m 23 #[.val (.ref a), .val (.int x0), .val (.int x1)] [(.ref a)])) (fun tG kG => XS.aloadN X15.here hx rfl (hb hby own_k105) rfl rfl kG) ?_
      refine Go.via (U' := T12.setTop (mkF m 24 #[.val (.ref a), .val (.int x0), .val (.int x1)] [(.int (2 : Int32)), (.ref a)])) (fun tG kG => XS.iconst X15.here hx rfl (hb hby own_k106) kG) ?_
      refine Go.via (U' := T12.setTop (mkF m 25 #[.val (.ref a), .val (.int x0), .val (.int x1)] [(.int ((own_h6_15_Aa x0 x1 f) 2))])) (fun tG kG => own_ldI X15 hx hZ e16 f20 (j := (2 : Int32)) ⟨by decide, by decide⟩ (hb hby own_k107) tG kG) ?_
      refine Go.via (U' := T12.setTop (mkF m 26 #[.val (.ref a), .val (.int x0), .val (.int x1)] [(.int x0), (.int ((own_h6_15_Aa x0 x1 f) 2))])) (fun tG kG => XS.iloadN X15.here hx rfl (hb hby own_k108) rfl kG) ?_
      have J21 : ∀ T' h' L', Stand p l e ({ frames := 0, cells := 0, slots := 0, locals := 0 } : Room) s m #[(.ref a), (.int x0), (.int x1)] below meth c T' L' 0 0 → T'.heap = h' → Fr n0 L' → n0 ≤ h'.size → Keep h0 h' [a] → Arf Z h' a k_a .int (5 : Int32) (own_h6_26_Aa x0 x1 f) → Go p e below s ({ frames := 0, cells := 0, slots := 0, locals := 0 } : Room).cells ({ frames := 0, cells := 0, slots := 0, locals := 0 } : Room).slots (fun v h L => v = none ∧ Fr n0 L ∧ Keep h0 h [a] ∧ Arf Z h a k_a .int (5 : Int32) (own_q6_a x0 x1 f)) (T'.setTop (mkF m 33 #[.val (.ref a), .val (.int x0), .val (.int x1)] [])) := by
        intro T22 h23 L24 X25 e26 N27 Z28 K29 f30
        refine Go.via (U' := T22.setTop (mkF m 34 #[.val (.ref a), .val (.int x0), .val (.int x1)] [(.ref a)])) (fun tG kG => XS.aloadN X25.here hx rfl (hb hby own_k114) rfl rfl kG) ?_
        refine Go.via (U' := T22.setTop (mkF m 35 #[.val (.ref a), .val (.int x0), .val (.int x1)] [(.int (3 : Int32)), (.ref a)])) (fun tG kG => XS.iconst X25.here hx rfl (hb hby own_k115) kG) ?_
        refine Go.via (U' := T22.setTop (mkF m 36 #[.val (.ref a), .val (.int x0), .val (.int x1)] [(.int ((own_h6_26_Aa x0 x1 f) 3))])) (fun tG kG => own_ldI X25 hx hZ e26 f30 (j := (3 : Int32)) ⟨by decide, by decide⟩ (hb hby own_k116) tG kG) ?_
        refine Go.via (U' := T22.setTop (mkF m 37 #[.val (.ref a), .val (.int x0), .val (.int x1)] [(.int x0), (.int ((own_h6_26_Aa x0 x1 f) 3))])) (fun tG kG => XS.iloadN X25.here hx rfl (hb hby own_k117) rfl kG) ?_
        have J31 : ∀ T' h' L', Stand p l e ({ frames := 0, cells := 0, slots := 0, locals := 0 } : Room) s m #[(.ref a), (.int x0), (.int x1)] below meth c T' L' 0 0 → T'.heap = h' → Fr n0 L' → n0 ≤ h'.size → Keep h0 h' [a] → Arf Z h' a k_a .int (5 : Int32) (own_h6_37_Aa x0 x1 f) → Go p e below s ({ frames := 0, cells := 0, slots := 0, locals := 0 } : Room).cells ({ frames := 0, cells := 0, slots := 0, locals := 0 } : Room).slots (fun v h L => v = none ∧ Fr n0 L ∧ Keep h0 h [a] ∧ Arf Z h a k_a .int (5 : Int32) (own_q6_a x0 x1 f)) (T'.setTop (mkF m 44 #[.val (.ref a), .val (.int x0), .val (.int x1)] [])) := by
          intro T32 h33 L34 X35 e36 N37 Z38 K39 f40
          refine Go.via (U' := T32.setTop (mkF m 45 #[.val (.ref a), .val (.int x0), .val (.int x1)] [(.ref a)])) (fun tG kG => XS.aloadN X35.here hx rfl (hb hby own_k123) rfl rfl kG) ?_
          refine Go.via (U' := T32.setTop (mkF m 46 #[.val (.ref a), .val (.int x0), .val (.int x1)] [(.int (4 : Int32)), (.ref a)])) (fun tG kG => XS.iconst X35.here hx rfl (hb hby own_k124) kG) ?_
          refine Go.via (U' := T32.setTop (mkF m 47 #[.val (.ref a), .val (.int x0), .val (.int x1)] [(.int ((own_h6_37_Aa x0 x1 f) 4))])) (fun tG kG => own_ldI X35 hx hZ e36 f40 (j := (4 : Int32)) ⟨by decide, by decide⟩ (hb hby own_k125) tG kG) ?_
          refine Go.via (U' := T32.setTop (mkF m 48 #[.val (.ref a), .val (.int x0), .val (.int x1)] [(.int x0), (.int ((own_h6_37_Aa x0 x1 f) 4))])) (fun tG kG => XS.iloadN X35.here hx rfl (hb hby own_k126) rfl kG) ?_
          by_cases hc48 : ((own_h6_37_Aa x0 x1 f) 4) = x0
          · refine Go.via (U' := T32.setTop (mkF m 51 #[.val (.ref a), .val (.int x0), .val (.int x1)] [])) (fun tG kG => XS.icmpNo X35.here hx rfl (hb hby own_k127) rfl (teq hc48).2 kG) ?_
            refine Go.via (U' := T32.setTop (mkF m 52 #[.val (.ref a), .val (.int x0), .val (.int x1)] [(.ref a)])) (fun tG kG => XS.aloadN X35.here hx rfl (hb hby own_k128) rfl rfl kG) ?_
            refine Go.via (U' := T32.setTop (mkF m 53 #[.val (.ref a), .val (.int x0), .val (.int x1)] [(.int (4 : Int32)), (.ref a)])) (fun tG kG => XS.iconst X35.here hx rfl (hb hby own_k129) kG) ?_
            refine Go.via (U' := T32.setTop (mkF m 54 #[.val (.ref a), .val (.int x0), .val (.int x1)] [(.int x1), (.int (4 : Int32)), (.ref a)])) (fun tG kG => XS.iloadN X35.here hx rfl (hb hby own_k130) rfl kG) ?_
            obtain ⟨T41, h41, X41, e41, W41, A41, st41⟩ := own_stI X35 hx hZ e36 f40 (j := (4 : Int32)) (x := x1) ⟨by decide, by decide⟩ (pc := 54) (Ls := #[.val (.ref a), .val (.int x0), .val (.int x1)]) (rest := []) (hb hby own_k131)
            replace A41 : Arf Z h41 a k_a .int (5 : Int32) (own_upd (own_h6_37_Aa x0 x1 f) 4 x1) := A41
            have K41 := K39.wr W41 (Or.inl (List.mem_of_getElem? (i := 0) rfl))
            have N41 := Fr.snoc X41 N37 g_a
            have Z41 := Nat.le_trans Z38 (Keep.of_wr W41).1
            refine Go.via (U' := T41.setTop (mkF m 55 #[.val (.ref a), .val (.int x0), .val (.int x1)] [])) (fun tG kG => st41 tG kG) ?_
            exact go_retV X41 hx hlk hret (hb hby own_k132) e41 ⟨rfl, N41, K41, (by rw [show (own_q6_a x0 x1 f) = (own_upd (own_h6_37_Aa x0 x1 f) 4 x1) from by unfold own_q6_a; simp only [if_pos hc48]]; exact A41)⟩ (by decide) (by decide)
          · refine Go.via (U' := T32.setTop (mkF m 55 #[.val (.ref a), .val (.int x0), .val (.int x1)] [])) (fun tG kG => XS.icmpYes X35.here hx rfl (pc0 := 48) (pc' := 55) rfl (hb hby own_k127) rfl (feq hc48).2 (by decide) (by decide) kG) ?_
            exact go_retV X35 hx hlk hret (hb hby own_k132) e36 ⟨rfl, N37, K39, (by rw [show (own_q6_a x0 x1 f) = (own_h6_37_Aa x0 x1 f) from by unfold own_q6_a; simp only [if_neg hc48]]; exact f40)⟩ (by decide) (by decide)
        by_cases hc37 : ((own_h6_26_Aa x0 x1 f) 3) = x0
        · refine Go.via (U' := T22.setTop (mkF m 40 #[.val (.ref a), .val (.int x0), .val (.int x1)] [])) (fun tG kG => XS.icmpNo X25.here hx rfl (hb hby own_k118) rfl (teq hc37).2 kG) ?_
          refine Go.via (U' := T22.setTop (mkF m 41 #[.val (.ref a), .val (.int x0), .val (.int x1)] [(.ref a)])) (fun tG kG => XS.aloadN X25.here hx rfl (hb hby own_k119) rfl rfl kG) ?_
          refine Go.via (U' := T22.setTop (mkF m 42 #[.val (.ref a), .val (.int x0), .val (.int x1)] [(.int (3 : Int32)), (.ref a)])) (fun tG kG => XS.iconst X25.here hx rfl (hb hby own_k120) kG) ?_
          refine Go.via (U' := T22.setTop (mkF m 43 #[.val (.ref a), .val (.int x0), .val (.int x1)] [(.int x1), (.int (3 : Int32)), (.ref a)])) (fun tG kG => XS.iloadN X25.here hx rfl (hb hby own_k121) rfl kG) ?_
          obtain ⟨T42, h42, X42, e42, W42, A42, st42⟩ := own_stI X25 hx hZ e26 f30 (j := (3 : Int32)) (x := x1) ⟨by decide, by decide⟩ (pc := 43) (Ls := #[.val (.ref a), .val (.int x0), .val (.int x1)]) (rest := []) (hb hby own_k122)
          replace A42 : Arf Z h42 a k_a .int (5 : Int32) (own_upd (own_h6_26_Aa x0 x1 f) 3 x1) := A42
          have K42 := K29.wr W42 (Or.inl (List.mem_of_getElem? (i := 0) rfl))
          have N42 := Fr.snoc X42 N27 g_a
          have Z42 := Nat.le_trans Z28 (Keep.of_wr W42).1
          refine Go.via (U' := T42.setTop (mkF m 44 #[.val (.ref a), .val (.int x0), .val (.int x1)] [])) (fun tG kG => st42 tG kG) ?_
          have q_own_h6_37_Aa : (own_h6_37_Aa x0 x1 f) = (own_upd (own_h6_26_Aa x0 x1 f) 3 x1) := by unfold own_h6_37_Aa; simp only [if_pos hc37]
          have q_J := J31 T42 _ _ X42 e42 N42 Z42 K42 (by rw [q_own_h6_37_Aa]; exact A42)
          exact q_J
        · refine Go.via (U' := T22.setTop (mkF m 44 #[.val (.ref a), .val (.int x0), .val (.int x1)] [])) (fun tG kG => XS.icmpYes X25.here hx rfl (pc0 := 37) (pc' := 44) rfl (hb hby own_k118) rfl (feq hc37).2 (by decide) (by decide) kG) ?_
          have q_own_h6_37_Aa : (own_h6_37_Aa x0 x1 f) = (own_h6_26_Aa x0 x1 f) := by unfold own_h6_37_Aa; simp only [if_neg hc37]
          have q_J := J31 T22 _ _ X25 e26 N27 Z28 K29 (by rw [q_own_h6_37_Aa]; exact f30)
          exact q_J
      by_cases hc26 : ((own_h6_15_Aa x0 x1 f) 2) = x0
      · refine Go.via (U' := T12.setTop (mkF m 29 #[.val (.ref a), .val (.int x0), .val (.int x1)] [])) (fun tG kG => XS.icmpNo X15.here hx rfl (hb hby own_k109) rfl (teq hc26).2 kG) ?_
        refine Go.via (U' := T12.setTop (mkF m 30 #[.val (.ref a), .val (.int x0), .val (.int x1)] [(.ref a)])) (fun tG kG => XS.aloadN X15.here hx rfl (hb hby own_k110) rfl rfl kG) ?_
        refine Go.via (U' := T12.setTop (mkF m 31 #[.val (.ref a), .val (.int x0), .val (.int x1)] [(.int (2 : Int32)), (.ref a)])) (fun tG kG => XS.iconst X15.here hx rfl (hb hby own_k111) kG) ?_
        refine Go.via (U' := T12.setTop (mkF m 32 #[.val (.ref a), .val (.int x0), .val (.int x1)] [(.int x1), (.int (2 : Int32)), (.ref a)])) (fun tG kG => XS.iloadN X15.here hx rfl (hb hby own_k112) rfl kG) ?_
        obtain ⟨T43, h43, X43, e43, W43, A43, st43⟩ := own_stI X15 hx hZ e16 f20 (j := (2 : Int32)) (x := x1) ⟨by decide, by decide⟩ (pc := 32) (Ls := #[.val (.ref a), .val (.int x0), .val (.int x1)]) (rest := []) (hb hby own_k113)
        replace A43 : Arf Z h43 a k_a .int (5 : Int32) (own_upd (own_h6_15_Aa x0 x1 f) 2 x1) := A43
        have K43 := K19.wr W43 (Or.inl (List.mem_of_getElem? (i := 0) rfl))
        have N43 := Fr.snoc X43 N17 g_a
        have Z43 := Nat.le_trans Z18 (Keep.of_wr W43).1
        refine Go.via (U' := T43.setTop (mkF m 33 #[.val (.ref a), .val (.int x0), .val (.int x1)] [])) (fun tG kG => st43 tG kG) ?_
        have q_own_h6_26_Aa : (own_h6_26_Aa x0 x1 f) = (own_upd (own_h6_15_Aa x0 x1 f) 2 x1) := by unfold own_h6_26_Aa; simp only [if_pos hc26]
        have q_J := J21 T43 _ _ X43 e43 N43 Z43 K43 (by rw [q_own_h6_26_Aa]; exact A43)
        exact q_J
      · refine Go.via (U' := T12.setTop (mkF m 33 #[.val (.ref a), .val (.int x0), .val (.int x1)] [])) (fun tG kG => XS.icmpYes X15.here hx rfl (pc0 := 26) (pc' := 33) rfl (hb hby own_k109) rfl (feq hc26).2 (by decide) (by decide) kG) ?_
        have q_own_h6_26_Aa : (own_h6_26_Aa x0 x1 f) = (own_h6_15_Aa x0 x1 f) := by unfold own_h6_26_Aa; simp only [if_neg hc26]
        have q_J := J21 T12 _ _ X15 e16 N17 Z18 K19 (by rw [q_own_h6_26_Aa]; exact f20)
        exact q_J
    by_cases hc15 : ((own_h6_4_Aa x0 x1 f) 1) = x0
    · refine Go.via (U' := T2.setTop (mkF m 18 #[.val (.ref a), .val (.int x0), .val (.int x1)] [])) (fun tG kG => XS.icmpNo X5.here hx rfl (hb hby own_k100) rfl (teq hc15).2 kG) ?_
      refine Go.via (U' := T2.setTop (mkF m 19 #[.val (.ref a), .val (.int x0), .val (.int x1)] [(.ref a)])) (fun tG kG => XS.aloadN X5.here hx rfl (hb hby own_k101) rfl rfl kG) ?_
      refine Go.via (U' := T2.setTop (mkF m 20 #[.val (.ref a), .val (.int x0), .val (.int x1)] [(.int (1 : Int32)), (.ref a)])) (fun tG kG => XS.iconst X5.here hx rfl (hb hby own_k102) kG) ?_
      refine Go.via (U' := T2.setTop (mkF m 21 #[.val (.ref a), .val (.int x0), .val (.int x1)] [(.int x1), (.int (1 : Int32)), (.ref a)])) (fun tG kG => XS.iloadN X5.here hx rfl (hb hby own_k103) rfl kG) ?_
      obtain ⟨T44, h44, X44, e44, W44, A44, st44⟩ := own_stI X5 hx hZ e6 f10 (j := (1 : Int32)) (x := x1) ⟨by decide, by decide⟩ (pc := 21) (Ls := #[.val (.ref a), .val (.int x0), .val (.int x1)]) (rest := []) (hb hby own_k104)
      replace A44 : Arf Z h44 a k_a .int (5 : Int32) (own_upd (own_h6_4_Aa x0 x1 f) 1 x1) := A44
      have K44 := K9.wr W44 (Or.inl (List.mem_of_getElem? (i := 0) rfl))
      have N44 := Fr.snoc X44 N7 g_a
      have Z44 := Nat.le_trans Z8 (Keep.of_wr W44).1
      refine Go.via (U' := T44.setTop (mkF m 22 #[.val (.ref a), .val (.int x0), .val (.int x1)] [])) (fun tG kG => st44 tG kG) ?_
      have q_own_h6_15_Aa : (own_h6_15_Aa x0 x1 f) = (own_upd (own_h6_4_Aa x0 x1 f) 1 x1) := by unfold own_h6_15_Aa; simp only [if_pos hc15]
      have q_J := J11 T44 _ _ X44 e44 N44 Z44 K44 (by rw [q_own_h6_15_Aa]; exact A44)
      exact q_J
    · refine Go.via (U' := T2.setTop (mkF m 22 #[.val (.ref a), .val (.int x0), .val (.int x1)] [])) (fun tG kG => XS.icmpYes X5.here hx rfl (pc0 := 15) (pc' := 22) rfl (hb hby own_k100) rfl (feq hc15).2 (by decide) (by decide) kG) ?_
      have q_own_h6_15_Aa : (own_h6_15_Aa x0 x1 f) = (own_h6_4_Aa x0 x1 f) := by unfold own_h6_15_Aa; simp only [if_neg hc15]
      have q_J := J11 T2 _ _ X5 e6 N7 Z8 K9 (by rw [q_own_h6_15_Aa]; exact f10)
      exact q_J
  by_cases hc4 : (f 0) = x0
  · refine Go.via (U' := s₁.setTop (mkF m 7 #[.val (.ref a), .val (.int x0), .val (.int x1)] [])) (fun tG kG => XS.icmpNo X0.here hx rfl (hb hby own_k91) rfl (teq hc4).2 kG) ?_
    refine Go.via (U' := s₁.setTop (mkF m 8 #[.val (.ref a), .val (.int x0), .val (.int x1)] [(.ref a)])) (fun tG kG => XS.aloadN X0.here hx rfl (hb hby own_k92) rfl rfl kG) ?_
    refine Go.via (U' := s₁.setTop (mkF m 9 #[.val (.ref a), .val (.int x0), .val (.int x1)] [(.int (0 : Int32)), (.ref a)])) (fun tG kG => XS.iconst X0.here hx rfl (hb hby own_k93) kG) ?_
    refine Go.via (U' := s₁.setTop (mkF m 10 #[.val (.ref a), .val (.int x0), .val (.int x1)] [(.int x1), (.int (0 : Int32)), (.ref a)])) (fun tG kG => XS.iloadN X0.here hx rfl (hb hby own_k94) rfl kG) ?_
    obtain ⟨T45, h45, X45, e45, W45, A45, st45⟩ := own_stI X0 hx hZ e0 V_a (j := (0 : Int32)) (x := x1) ⟨by decide, by decide⟩ (pc := 10) (Ls := #[.val (.ref a), .val (.int x0), .val (.int x1)]) (rest := []) (hb hby own_k95)
    replace A45 : Arf Z h45 a k_a .int (5 : Int32) (own_upd f 0 x1) := A45
    have K45 := K0.wr W45 (Or.inl (List.mem_of_getElem? (i := 0) rfl))
    have N45 := Fr.snoc X45 N0 g_a
    have Z45 := Nat.le_trans hn0 (Keep.of_wr W45).1
    refine Go.via (U' := T45.setTop (mkF m 11 #[.val (.ref a), .val (.int x0), .val (.int x1)] [])) (fun tG kG => st45 tG kG) ?_
    have q_own_h6_4_Aa : (own_h6_4_Aa x0 x1 f) = (own_upd f 0 x1) := by unfold own_h6_4_Aa; simp only [if_pos hc4]
    have q_J := J1 T45 _ _ X45 e45 N45 Z45 K45 (by rw [q_own_h6_4_Aa]; exact A45)
    exact q_J
  · refine Go.via (U' := s₁.setTop (mkF m 11 #[.val (.ref a), .val (.int x0), .val (.int x1)] [])) (fun tG kG => XS.icmpYes X0.here hx rfl (pc0 := 4) (pc' := 11) rfl (hb hby own_k91) rfl (feq hc4).2 (by decide) (by decide) kG) ?_
    have q_own_h6_4_Aa : (own_h6_4_Aa x0 x1 f) = f := by unfold own_h6_4_Aa; simp only [if_neg hc4]
    have q_J := J1 s₁ _ _ X0 e0 N0 hn0 K0 (by rw [q_own_h6_4_Aa]; exact V_a)
    exact q_J
theorem own_skip (C : Prop) [Decidable C] (F : Nat → Int32) (k : Nat) (v : Int32) (j : Nat) (h : j ≠ k) : (if C then own_upd F k v else F) j = F j := by
  by_cases c : C
  · rw [if_pos c]; exact if_neg h
  · rw [if_neg c]
theorem own_hit (a : Int32) (F : Nat → Int32) (k : Nat) (v : Int32) : (if F k = a then own_upd F k v else F) k = if F k = a then v else F k := by
  by_cases c : F k = a
  · rw [if_pos c, if_pos c]; exact if_pos rfl
  · rw [if_neg c, if_neg c]
theorem own_six {i : Nat} (h : i < 5) : i = 0 ∨ i = 1 ∨ i = 2 ∨ i = 3 ∨ i = 4 := by omega
theorem own_a01 (x0 x1 : Int32) (l : Nat → Int32) : own_h6_4_Aa x0 x1 l 1 = l 1 := by
  unfold own_h6_4_Aa
  rw [own_skip _ _ _ _ _ (by decide)]
theorem own_a02 (x0 x1 : Int32) (l : Nat → Int32) : own_h6_4_Aa x0 x1 l 2 = l 2 := by
  unfold own_h6_4_Aa
  rw [own_skip _ _ _ _ _ (by decide)]
theorem own_a03 (x0 x1 : Int32) (l : Nat → Int32) : own_h6_4_Aa x0 x1 l 3 = l 3 := by
  unfold own_h6_4_Aa
  rw [own_skip _ _ _ _ _ (by decide)]
theorem own_a04 (x0 x1 : Int32) (l : Nat → Int32) : own_h6_4_Aa x0 x1 l 4 = l 4 := by
  unfold own_h6_4_Aa
  rw [own_skip _ _ _ _ _ (by decide)]
theorem own_a12 (x0 x1 : Int32) (l : Nat → Int32) : own_h6_15_Aa x0 x1 l 2 = l 2 := by
  unfold own_h6_15_Aa
  rw [own_skip _ _ _ _ _ (by decide)]
  exact own_a02 x0 x1 l
theorem own_a13 (x0 x1 : Int32) (l : Nat → Int32) : own_h6_15_Aa x0 x1 l 3 = l 3 := by
  unfold own_h6_15_Aa
  rw [own_skip _ _ _ _ _ (by decide)]
  exact own_a03 x0 x1 l
theorem own_a14 (x0 x1 : Int32) (l : Nat → Int32) : own_h6_15_Aa x0 x1 l 4 = l 4 := by
  unfold own_h6_15_Aa
  rw [own_skip _ _ _ _ _ (by decide)]
  exact own_a04 x0 x1 l
theorem own_a23 (x0 x1 : Int32) (l : Nat → Int32) : own_h6_26_Aa x0 x1 l 3 = l 3 := by
  unfold own_h6_26_Aa
  rw [own_skip _ _ _ _ _ (by decide)]
  exact own_a13 x0 x1 l
theorem own_a24 (x0 x1 : Int32) (l : Nat → Int32) : own_h6_26_Aa x0 x1 l 4 = l 4 := by
  unfold own_h6_26_Aa
  rw [own_skip _ _ _ _ _ (by decide)]
  exact own_a14 x0 x1 l
theorem own_a34 (x0 x1 : Int32) (l : Nat → Int32) : own_h6_37_Aa x0 x1 l 4 = l 4 := by
  unfold own_h6_37_Aa
  rw [own_skip _ _ _ _ _ (by decide)]
  exact own_a24 x0 x1 l
theorem own_b0 (x0 x1 : Int32) (l : Nat → Int32) : own_h6_4_Aa x0 x1 l 0 = if l 0 = x0 then x1 else l 0 := by
  unfold own_h6_4_Aa
  rw [own_hit]
theorem own_b1 (x0 x1 : Int32) (l : Nat → Int32) : own_h6_15_Aa x0 x1 l 1 = if l 1 = x0 then x1 else l 1 := by
  unfold own_h6_15_Aa
  rw [own_hit, own_a01]
theorem own_b2 (x0 x1 : Int32) (l : Nat → Int32) : own_h6_26_Aa x0 x1 l 2 = if l 2 = x0 then x1 else l 2 := by
  unfold own_h6_26_Aa
  rw [own_hit, own_a12]
theorem own_b3 (x0 x1 : Int32) (l : Nat → Int32) : own_h6_37_Aa x0 x1 l 3 = if l 3 = x0 then x1 else l 3 := by
  unfold own_h6_37_Aa
  rw [own_hit, own_a23]
theorem own_b4 (x0 x1 : Int32) (l : Nat → Int32) : own_q6_a x0 x1 l 4 = if l 4 = x0 then x1 else l 4 := by
  unfold own_q6_a
  rw [own_hit, own_a34]
theorem own_q6i (x0 x1 : Int32) (l : Nat → Int32) (i : Nat) (hi : i < 5) : own_q6_a x0 x1 l i = if l i = x0 then x1 else l i := by
  rcases own_six hi with rfl | rfl | rfl | rfl | rfl
  · unfold own_q6_a; rw [own_skip _ _ _ _ _ (by decide)]; unfold own_h6_37_Aa; rw [own_skip _ _ _ _ _ (by decide)]; unfold own_h6_26_Aa; rw [own_skip _ _ _ _ _ (by decide)]; unfold own_h6_15_Aa; rw [own_skip _ _ _ _ _ (by decide)]; exact own_b0 x0 x1 l
  · unfold own_q6_a; rw [own_skip _ _ _ _ _ (by decide)]; unfold own_h6_37_Aa; rw [own_skip _ _ _ _ _ (by decide)]; unfold own_h6_26_Aa; rw [own_skip _ _ _ _ _ (by decide)]; exact own_b1 x0 x1 l
  · unfold own_q6_a; rw [own_skip _ _ _ _ _ (by decide)]; unfold own_h6_37_Aa; rw [own_skip _ _ _ _ _ (by decide)]; exact own_b2 x0 x1 l
  · unfold own_q6_a; rw [own_skip _ _ _ _ _ (by decide)]; exact own_b3 x0 x1 l
  · exact own_b4 x0 x1 l
theorem own_Beq {l fj : Nat → Int32} {xa xb : Int32} (h : own_I fj (own_rl l xb xa)) (e : (l xa.toNatClampNeg) = (l xb.toNatClampNeg)) : own_I fj l := own_Icongr h fun i _ => (own_rlsame e i).symm
theorem own_Bne {l fj : Nat → Int32} {xa xb : Int32} (h : own_I fj (own_rl l xb xa)) : own_I fj (own_q6_a (l xb.toNatClampNeg) (l xa.toNatClampNeg) l) := own_Icongr h fun i hi => own_q6i _ _ _ i hi
theorem own_m5 (x : Int32) : own_In ((x &&& (255 : Int32)) % (5 : Int32)) := by
  have m := c_mask x 255 8 (by decide) (by decide)
  have r := (c_irem (x &&& 255) 5 5 rfl).1 (by omega)
  unfold own_In
  rw [Int32.lt_iff_toInt_lt, Int32.lt_iff_toInt_lt, show (0 : Int32).toInt = 0 from rfl, show (5 : Int32).toInt = 5 from rfl]
  omega
theorem own_inA (x : Int32) : own_In ((x &&& (255 : Int32)) % (5 : Int32)) := own_m5 x
theorem own_inB (x : Int32) : own_In (((own_ushr x (8 : Int32)) &&& (255 : Int32)) % (5 : Int32)) := own_m5 _
theorem own_k134 (m : MethodId) (a : Addr) (e_ : Addr) (x0 : Int32) : entryFrame m #[(.ref a), (.ref e_), (.int x0)] 7 = mkF m 0 #[.val (.ref a), .val (.ref e_), .val (.int x0), .unset, .unset, .unset, .unset] [] := by first | (simp [entryFrame, mkF, argsToLocals, Value.category]; done) | rfl
theorem own_k135 : decode method_3_code 0 = .ok (.iload_n 2, 1) := by decide +kernel
theorem own_k136 : decode method_3_code 1 = .ok (.sipush 255, 3) := by decide +kernel
theorem own_k137 : decode method_3_code 4 = .ok (.iand, 1) := by decide +kernel
theorem own_k138 : decode method_3_code 5 = .ok (.iconst 5, 1) := by decide +kernel
theorem own_k139 : decode method_3_code 6 = .ok (.irem, 1) := by decide +kernel
theorem own_k140 : decode method_3_code 7 = .ok (.istore_n 3, 1) := by decide +kernel
theorem own_k141 : decode method_3_code 8 = .ok (.iload_n 2, 1) := by decide +kernel
theorem own_k142 : decode method_3_code 9 = .ok (.bipush 8, 2) := by decide +kernel
theorem own_k143 : decode method_3_code 11 = .ok (.iushr, 1) := by decide +kernel
theorem own_k144 : decode method_3_code 12 = .ok (.sipush 255, 3) := by decide +kernel
theorem own_k145 : decode method_3_code 15 = .ok (.iand, 1) := by decide +kernel
theorem own_k146 : decode method_3_code 16 = .ok (.iconst 5, 1) := by decide +kernel
theorem own_k147 : decode method_3_code 17 = .ok (.irem, 1) := by decide +kernel
theorem own_k148 : decode method_3_code 18 = .ok (.istore 4, 2) := by decide +kernel
theorem own_k149 : decode method_3_code 20 = .ok (.aload_n 0, 1) := by decide +kernel
theorem own_k150 : decode method_3_code 21 = .ok (.iload_n 3, 1) := by decide +kernel
theorem own_k151 : decode method_3_code 22 = .ok (.iload 4, 2) := by decide +kernel
theorem own_k152 : parseMethodDescriptor "(II)V" = some ⟨[.int, .int], none⟩ := by decide +kernel
theorem own_k153 : decode method_3_code 24 = .ok (.invokevirtual 22, 3) := by decide +kernel
theorem own_k154 : decode method_3_code 27 = .ok (.aload_n 1, 1) := by decide +kernel
theorem own_k155 : decode method_3_code 28 = .ok (.iload_n 3, 1) := by decide +kernel
theorem own_k156 : decode method_3_code 29 = .ok (.iaload, 1) := by decide +kernel
theorem own_k157 : decode method_3_code 30 = .ok (.istore 5, 2) := by decide +kernel
theorem own_k158 : decode method_3_code 32 = .ok (.aload_n 1, 1) := by decide +kernel
theorem own_k159 : decode method_3_code 33 = .ok (.iload 4, 2) := by decide +kernel
theorem own_k160 : decode method_3_code 35 = .ok (.iaload, 1) := by decide +kernel
theorem own_k161 : decode method_3_code 36 = .ok (.istore 6, 2) := by decide +kernel
theorem own_k162 : decode method_3_code 38 = .ok (.iload 5, 2) := by decide +kernel
theorem own_k163 : decode method_3_code 40 = .ok (.iload 6, 2) := by decide +kernel
theorem own_k164 : decode method_3_code 42 = .ok (.if_icmp .eq 11, 3) := by decide +kernel
theorem own_k165 : decode method_3_code 53 = .ok (.return_, 1) := by decide +kernel
theorem own_k166 : decode method_3_code 45 = .ok (.aload_n 1, 1) := by decide +kernel
theorem own_k167 : decode method_3_code 46 = .ok (.iload 6, 2) := by decide +kernel
theorem own_k168 : decode method_3_code 48 = .ok (.iload 5, 2) := by decide +kernel
theorem own_k169 : parseMethodDescriptor "([III)V" = some ⟨[(.array .int), .int, .int], none⟩ := by decide +kernel
theorem own_k170 : decode method_3_code 50 = .ok (.invokestatic 26, 3) := by decide +kernel
set_option maxRecDepth 65536 in
set_option maxHeartbeats 40000000 in
theorem own_rm3 (l : Launch) (Z : State) (a0 : Array Value) (hw : ∀ d ∈ tables_1, d.before a0 Z = true) (ws : List Jvm.Cond) (a : Addr) (e_ : Addr) (x0 : Int32) (b : Addr) (c_ : Addr) (k_b : ClassId) (k_c : ClassId) (f : Nat → Int32) (gg : Nat → Int32) (lab : Nat → Int32) (k_e : ClassId) (h0 : Heap) (n0 : Nat) (hn0 : n0 ≤ h0.size) (E_a : Exa Z h0 a "com/example/nearprint/nearprint/DisjointSets") (F_a : Fld Z h0 a "com/example/nearprint/nearprint/DisjointSets" "parents" "[I" (.ref b)) (F_s : Fld Z h0 a "com/example/nearprint/nearprint/DisjointSets" "sizes" "[I" (.ref c_)) (V_b : Arf Z h0 b k_b .int (5 : Int32) f) (V_c : Arf Z h0 c_ k_c .int (5 : Int32) gg) (g_b : n0 ≤ b) (g_c : n0 ≤ c_) (ne_a_b : a ≠ b) (ne_a_c : a ≠ c_) (ne_b_c : b ≠ c_) (hI : own_I f lab) (V_e : Arf Z h0 e_ k_e .int (5 : Int32) lab) (g_e : n0 ≤ e_) (ne_a_e : a ≠ e_) (ne_b_e : b ≠ e_) (ne_c_e : c_ ≠ e_) : Meets l Z (⟨"com/example/nearprint/nearprint/DisjointSetsRootPinLaw", "joinBoth", "(Lcom/example/nearprint/nearprint/DisjointSets;[II)V"⟩ : MethodName) method_3_code 7 none ws ({ frames := 2, cells := 0, slots := 0, locals := 30 } : Room) #[(.ref a), (.ref e_), (.int x0)] h0 (fun v h L => ∃ (f' g' l' : Nat → Int32), v = none ∧ Fr n0 L ∧ Keep h0 h [b, c_, e_] ∧ Arf Z h b k_b .int (5 : Int32) f' ∧ Arf Z h c_ k_c .int (5 : Int32) g' ∧ Arf Z h e_ k_e .int (5 : Int32) l' ∧ own_I f' l') := by
  refine meets_of (plainFor_of_name own_k133) ?_
  intro p e s m below meth c s₁ X0 hx hZ hby hml hret hlk hown hnm e0
  replace hml : c.maxLocals = 7 := hml
  replace hown : s.vm.findClass "com/example/nearprint/nearprint/DisjointSetsRootPinLaw" = some m.cls := hown
  refine Go.cast (own_k134 m a e_ x0) ?_
  have N0 := Fr.nil n0
  have K0 : Keep h0 h0 [b, c_, e_] := Keep.refl h0 _
  refine Go.via (U' := s₁.setTop (mkF m 1 #[.val (.ref a), .val (.ref e_), .val (.int x0), .unset, .unset, .unset, .unset] [(.int x0)])) (fun tG kG => XS.iloadN X0.here hx rfl (hb hby own_k135) rfl kG) ?_
  refine Go.via (U' := s₁.setTop (mkF m 4 #[.val (.ref a), .val (.ref e_), .val (.int x0), .unset, .unset, .unset, .unset] [(.int (255 : Int32)), (.int x0)])) (fun tG kG => XS.sipush X0.here hx rfl (hb hby own_k136) kG) ?_
  refine Go.via (U' := s₁.setTop (mkF m 5 #[.val (.ref a), .val (.ref e_), .val (.int x0), .unset, .unset, .unset, .unset] [(.int (x0 &&& (255 : Int32)))])) (fun tG kG => XS.iand X0.here hx rfl (hb hby own_k137) rfl kG) ?_
  refine Go.via (U' := s₁.setTop (mkF m 6 #[.val (.ref a), .val (.ref e_), .val (.int x0), .unset, .unset, .unset, .unset] [(.int (5 : Int32)), (.int (x0 &&& (255 : Int32)))])) (fun tG kG => XS.iconst X0.here hx rfl (hb hby own_k138) kG) ?_
  refine Go.via (U' := s₁.setTop (mkF m 7 #[.val (.ref a), .val (.ref e_), .val (.int x0), .unset, .unset, .unset, .unset] [(.int ((x0 &&& (255 : Int32)) % (5 : Int32)))])) (fun tG kG => iremM X0 hx rfl (hb hby own_k139) rfl (by decide) kG) ?_
  refine Go.via (U' := s₁.setTop (mkF m 8 #[.val (.ref a), .val (.ref e_), .val (.int x0), .val (.int ((x0 &&& (255 : Int32)) % (5 : Int32))), .unset, .unset, .unset] [])) (fun tG kG => XS.istoreN X0.here hx rfl (hb hby own_k140) rfl (l' := #[.val (.ref a), .val (.ref e_), .val (.int x0), .val (.int ((x0 &&& (255 : Int32)) % (5 : Int32))), .unset, .unset, .unset]) rfl kG) ?_
  refine Go.via (U' := s₁.setTop (mkF m 9 #[.val (.ref a), .val (.ref e_), .val (.int x0), .val (.int ((x0 &&& (255 : Int32)) % (5 : Int32))), .unset, .unset, .unset] [(.int x0)])) (fun tG kG => XS.iloadN X0.here hx rfl (hb hby own_k141) rfl kG) ?_
  refine Go.via (U' := s₁.setTop (mkF m 11 #[.val (.ref a), .val (.ref e_), .val (.int x0), .val (.int ((x0 &&& (255 : Int32)) % (5 : Int32))), .unset, .unset, .unset] [(.int (8 : Int32)), (.int x0)])) (fun tG kG => XS.bipush X0.here hx rfl (hb hby own_k142) kG) ?_
  refine Go.via (U' := s₁.setTop (mkF m 12 #[.val (.ref a), .val (.ref e_), .val (.int x0), .val (.int ((x0 &&& (255 : Int32)) % (5 : Int32))), .unset, .unset, .unset] [(.int (own_ushr x0 (8 : Int32)))])) (fun tG kG => XS.iushr X0.here hx rfl (hb hby own_k143) rfl kG) ?_
  refine Go.via (U' := s₁.setTop (mkF m 15 #[.val (.ref a), .val (.ref e_), .val (.int x0), .val (.int ((x0 &&& (255 : Int32)) % (5 : Int32))), .unset, .unset, .unset] [(.int (255 : Int32)), (.int (own_ushr x0 (8 : Int32)))])) (fun tG kG => XS.sipush X0.here hx rfl (hb hby own_k144) kG) ?_
  refine Go.via (U' := s₁.setTop (mkF m 16 #[.val (.ref a), .val (.ref e_), .val (.int x0), .val (.int ((x0 &&& (255 : Int32)) % (5 : Int32))), .unset, .unset, .unset] [(.int ((own_ushr x0 (8 : Int32)) &&& (255 : Int32)))])) (fun tG kG => XS.iand X0.here hx rfl (hb hby own_k145) rfl kG) ?_
  refine Go.via (U' := s₁.setTop (mkF m 17 #[.val (.ref a), .val (.ref e_), .val (.int x0), .val (.int ((x0 &&& (255 : Int32)) % (5 : Int32))), .unset, .unset, .unset] [(.int (5 : Int32)), (.int ((own_ushr x0 (8 : Int32)) &&& (255 : Int32)))])) (fun tG kG => XS.iconst X0.here hx rfl (hb hby own_k146) kG) ?_
  refine Go.via (U' := s₁.setTop (mkF m 18 #[.val (.ref a), .val (.ref e_), .val (.int x0), .val (.int ((x0 &&& (255 : Int32)) % (5 : Int32))), .unset, .unset, .unset] [(.int (((own_ushr x0 (8 : Int32)) &&& (255 : Int32)) % (5 : Int32)))])) (fun tG kG => iremM X0 hx rfl (hb hby own_k147) rfl (by decide) kG) ?_
  refine Go.via (U' := s₁.setTop (mkF m 20 #[.val (.ref a), .val (.ref e_), .val (.int x0), .val (.int ((x0 &&& (255 : Int32)) % (5 : Int32))), .val (.int (((own_ushr x0 (8 : Int32)) &&& (255 : Int32)) % (5 : Int32))), .unset, .unset] [])) (fun tG kG => XS.istore X0.here hx rfl (hb hby own_k148) rfl (l' := #[.val (.ref a), .val (.ref e_), .val (.int x0), .val (.int ((x0 &&& (255 : Int32)) % (5 : Int32))), .val (.int (((own_ushr x0 (8 : Int32)) &&& (255 : Int32)) % (5 : Int32))), .unset, .unset]) rfl kG) ?_
  refine Go.via (U' := s₁.setTop (mkF m 21 #[.val (.ref a), .val (.ref e_), .val (.int x0), .val (.int ((x0 &&& (255 : Int32)) % (5 : Int32))), .val (.int (((own_ushr x0 (8 : Int32)) &&& (255 : Int32)) % (5 : Int32))), .unset, .unset] [(.ref a)])) (fun tG kG => XS.aloadN X0.here hx rfl (hb hby own_k149) rfl rfl kG) ?_
  refine Go.via (U' := s₁.setTop (mkF m 22 #[.val (.ref a), .val (.ref e_), .val (.int x0), .val (.int ((x0 &&& (255 : Int32)) % (5 : Int32))), .val (.int (((own_ushr x0 (8 : Int32)) &&& (255 : Int32)) % (5 : Int32))), .unset, .unset] [(.int ((x0 &&& (255 : Int32)) % (5 : Int32))), (.ref a)])) (fun tG kG => XS.iloadN X0.here hx rfl (hb hby own_k150) rfl kG) ?_
  refine Go.via (U' := s₁.setTop (mkF m 24 #[.val (.ref a), .val (.ref e_), .val (.int x0), .val (.int ((x0 &&& (255 : Int32)) % (5 : Int32))), .val (.int (((own_ushr x0 (8 : Int32)) &&& (255 : Int32)) % (5 : Int32))), .unset, .unset] [(.int (((own_ushr x0 (8 : Int32)) &&& (255 : Int32)) % (5 : Int32))), (.int ((x0 &&& (255 : Int32)) % (5 : Int32))), (.ref a)])) (fun tG kG => XS.iload X0.here hx rfl (hb hby own_k151) rfl kG) ?_
  obtain ⟨_, T1, L1, X1, ⟨fj2, gj3, rfl, N1q, K1q, f5, f6, hy4⟩, st1⟩ := callVQ X0 hx hZ hown (hw _ (List.mem_of_getElem? (i := 18) rfl)) (hw _ (List.mem_of_getElem? (i := 19) rfl)) (hw _ (List.mem_of_getElem? (i := 21) rfl)) (hw _ (List.mem_of_getElem? (i := 20) rfl)) (hw _ (List.mem_of_getElem? (i := 2) rfl)) (hw _ (List.mem_of_getElem? (i := 22) rfl)) (by decide) (b := a) (av := [(.int ((x0 &&& (255 : Int32)) % (5 : Int32))), (.int (((own_ushr x0 (8 : Int32)) &&& (255 : Int32)) % (5 : Int32)))]) E_a (own_rm4 l Z a0 hw [] a ((x0 &&& (255 : Int32)) % (5 : Int32)) (((own_ushr x0 (8 : Int32)) &&& (255 : Int32)) % (5 : Int32)) b c_ k_b k_c f gg lab h0 n0 hn0 E_a F_a F_s V_b V_c g_b g_c ne_a_b ne_a_c ne_b_c hI (own_inA x0) (own_inB x0)) e0 (pc := 24) (Ls := #[.val (.ref a), .val (.ref e_), .val (.int x0), .val (.int ((x0 &&& (255 : Int32)) % (5 : Int32))), .val (.int (((own_ushr x0 (8 : Int32)) &&& (255 : Int32)) % (5 : Int32))), .unset, .unset]) (rest := []) (by rw [hml]; rfl) own_k152 rfl 0 (Nat.le_of_eq rfl) (by decide) (by decide) (by decide) (by decide) (hb hby own_k153)
  have f7 := E_a.keep K1q
  have f8 := F_a.keep K1q (ninS ne_a_b (ninS ne_a_c nin0))
  have f9 := F_s.keep K1q (ninS ne_a_b (ninS ne_a_c nin0))
  have f10 := V_e.keep K1q (ninS (Ne.symm ne_b_e) (ninS (Ne.symm ne_c_e) nin0))
  have N1 := Fr.app N0 N1q
  have Z1 := Nat.le_trans hn0 K1q.1
  have K1 := K0.trans K1q (allS (Or.inl (List.mem_of_getElem? (i := 0) rfl)) (allS (Or.inl (List.mem_of_getElem? (i := 1) rfl)) all0))
  refine Go.via (U' := T1.setTop (mkF m 27 #[.val (.ref a), .val (.ref e_), .val (.int x0), .val (.int ((x0 &&& (255 : Int32)) % (5 : Int32))), .val (.int (((own_ushr x0 (8 : Int32)) &&& (255 : Int32)) % (5 : Int32))), .unset, .unset] [])) (fun tG kG => st1 tG kG) ?_
  refine Go.via (U' := T1.setTop (mkF m 28 #[.val (.ref a), .val (.ref e_), .val (.int x0), .val (.int ((x0 &&& (255 : Int32)) % (5 : Int32))), .val (.int (((own_ushr x0 (8 : Int32)) &&& (255 : Int32)) % (5 : Int32))), .unset, .unset] [(.ref e_)])) (fun tG kG => XS.aloadN X1.here hx rfl (hb hby own_k154) rfl rfl kG) ?_
  refine Go.via (U' := T1.setTop (mkF m 29 #[.val (.ref a), .val (.ref e_), .val (.int x0), .val (.int ((x0 &&& (255 : Int32)) % (5 : Int32))), .val (.int (((own_ushr x0 (8 : Int32)) &&& (255 : Int32)) % (5 : Int32))), .unset, .unset] [(.int ((x0 &&& (255 : Int32)) % (5 : Int32))), (.ref e_)])) (fun tG kG => XS.iloadN X1.here hx rfl (hb hby own_k155) rfl kG) ?_
  refine Go.via (U' := T1.setTop (mkF m 30 #[.val (.ref a), .val (.ref e_), .val (.int x0), .val (.int ((x0 &&& (255 : Int32)) % (5 : Int32))), .val (.int (((own_ushr x0 (8 : Int32)) &&& (255 : Int32)) % (5 : Int32))), .unset, .unset] [(.int (lab ((x0 &&& (255 : Int32)) % (5 : Int32)).toNatClampNeg))])) (fun tG kG => own_ldI X1 hx hZ rfl f10 (j := ((x0 &&& (255 : Int32)) % (5 : Int32))) (own_inA x0) (hb hby own_k156) tG kG) ?_
  refine Go.via (U' := T1.setTop (mkF m 32 #[.val (.ref a), .val (.ref e_), .val (.int x0), .val (.int ((x0 &&& (255 : Int32)) % (5 : Int32))), .val (.int (((own_ushr x0 (8 : Int32)) &&& (255 : Int32)) % (5 : Int32))), .val (.int (lab ((x0 &&& (255 : Int32)) % (5 : Int32)).toNatClampNeg)), .unset] [])) (fun tG kG => XS.istore X1.here hx rfl (hb hby own_k157) rfl (l' := #[.val (.ref a), .val (.ref e_), .val (.int x0), .val (.int ((x0 &&& (255 : Int32)) % (5 : Int32))), .val (.int (((own_ushr x0 (8 : Int32)) &&& (255 : Int32)) % (5 : Int32))), .val (.int (lab ((x0 &&& (255 : Int32)) % (5 : Int32)).toNatClampNeg)), .unset]) rfl kG) ?_
  refine Go.via (U' := T1.setTop (mkF m 33 #[.val (.ref a), .val (.ref e_), .val (.int x0), .val (.int ((x0 &&& (255 : Int32)) % (5 : Int32))), .val (.int (((own_ushr x0 (8 : Int32)) &&& (255 : Int32)) % (5 : Int32))), .val (.int (lab ((x0 &&& (255 : Int32)) % (5 : Int32)).toNatClampNeg)), .unset] [(.ref e_)])) (fun tG kG => XS.aloadN X1.here hx rfl (hb hby own_k158) rfl rfl kG) ?_
  refine Go.via (U' := T1.setTop (mkF m 35 #[.val (.ref a), .val (.ref e_), .val (.int x0), .val (.int ((x0 &&& (255 : Int32)) % (5 : Int32))), .val (.int (((own_ushr x0 (8 : Int32)) &&& (255 : Int32)) % (5 : Int32))), .val (.int (lab ((x0 &&& (255 : Int32)) % (5 : Int32)).toNatClampNeg)), .unset] [(.int (((own_ushr x0 (8 : Int32)) &&& (255 : Int32)) % (5 : Int32))), (.ref e_)])) (fun tG kG => XS.iload X1.here hx rfl (hb hby own_k159) rfl kG) ?_
  refine Go.via (U' := T1.setTop (mkF m 36 #[.val (.ref a), .val (.ref e_), .val (.int x0), .val (.int ((x0 &&& (255 : Int32)) % (5 : Int32))), .val (.int (((own_ushr x0 (8 : Int32)) &&& (255 : Int32)) % (5 : Int32))), .val (.int (lab ((x0 &&& (255 : Int32)) % (5 : Int32)).toNatClampNeg)), .unset] [(.int (lab (((own_ushr x0 (8 : Int32)) &&& (255 : Int32)) % (5 : Int32)).toNatClampNeg))])) (fun tG kG => own_ldI X1 hx hZ rfl f10 (j := (((own_ushr x0 (8 : Int32)) &&& (255 : Int32)) % (5 : Int32))) (own_inB x0) (hb hby own_k160) tG kG) ?_
  refine Go.via (U' := T1.setTop (mkF m 38 #[.val (.ref a), .val (.ref e_), .val (.int x0), .val (.int ((x0 &&& (255 : Int32)) % (5 : Int32))), .val (.int (((own_ushr x0 (8 : Int32)) &&& (255 : Int32)) % (5 : Int32))), .val (.int (lab ((x0 &&& (255 : Int32)) % (5 : Int32)).toNatClampNeg)), .val (.int (lab (((own_ushr x0 (8 : Int32)) &&& (255 : Int32)) % (5 : Int32)).toNatClampNeg))] [])) (fun tG kG => XS.istore X1.here hx rfl (hb hby own_k161) rfl (l' := #[.val (.ref a), .val (.ref e_), .val (.int x0), .val (.int ((x0 &&& (255 : Int32)) % (5 : Int32))), .val (.int (((own_ushr x0 (8 : Int32)) &&& (255 : Int32)) % (5 : Int32))), .val (.int (lab ((x0 &&& (255 : Int32)) % (5 : Int32)).toNatClampNeg)), .val (.int (lab (((own_ushr x0 (8 : Int32)) &&& (255 : Int32)) % (5 : Int32)).toNatClampNeg))]) rfl kG) ?_
  refine Go.via (U' := T1.setTop (mkF m 40 #[.val (.ref a), .val (.ref e_), .val (.int x0), .val (.int ((x0 &&& (255 : Int32)) % (5 : Int32))), .val (.int (((own_ushr x0 (8 : Int32)) &&& (255 : Int32)) % (5 : Int32))), .val (.int (lab ((x0 &&& (255 : Int32)) % (5 : Int32)).toNatClampNeg)), .val (.int (lab (((own_ushr x0 (8 : Int32)) &&& (255 : Int32)) % (5 : Int32)).toNatClampNeg))] [(.int (lab ((x0 &&& (255 : Int32)) % (5 : Int32)).toNatClampNeg))])) (fun tG kG => XS.iload X1.here hx rfl (hb hby own_k162) rfl kG) ?_
  refine Go.via (U' := T1.setTop (mkF m 42 #[.val (.ref a), .val (.ref e_), .val (.int x0), .val (.int ((x0 &&& (255 : Int32)) % (5 : Int32))), .val (.int (((own_ushr x0 (8 : Int32)) &&& (255 : Int32)) % (5 : Int32))), .val (.int (lab ((x0 &&& (255 : Int32)) % (5 : Int32)).toNatClampNeg)), .val (.int (lab (((own_ushr x0 (8 : Int32)) &&& (255 : Int32)) % (5 : Int32)).toNatClampNeg))] [(.int (lab (((own_ushr x0 (8 : Int32)) &&& (255 : Int32)) % (5 : Int32)).toNatClampNeg)), (.int (lab ((x0 &&& (255 : Int32)) % (5 : Int32)).toNatClampNeg))])) (fun tG kG => XS.iload X1.here hx rfl (hb hby own_k163) rfl kG) ?_
  by_cases hc42 : (lab ((x0 &&& (255 : Int32)) % (5 : Int32)).toNatClampNeg) = (lab (((own_ushr x0 (8 : Int32)) &&& (255 : Int32)) % (5 : Int32)).toNatClampNeg)
  · refine Go.via (U' := T1.setTop (mkF m 53 #[.val (.ref a), .val (.ref e_), .val (.int x0), .val (.int ((x0 &&& (255 : Int32)) % (5 : Int32))), .val (.int (((own_ushr x0 (8 : Int32)) &&& (255 : Int32)) % (5 : Int32))), .val (.int (lab ((x0 &&& (255 : Int32)) % (5 : Int32)).toNatClampNeg)), .val (.int (lab (((own_ushr x0 (8 : Int32)) &&& (255 : Int32)) % (5 : Int32)).toNatClampNeg))] [])) (fun tG kG => XS.icmpYes X1.here hx rfl (pc0 := 42) (pc' := 53) rfl (hb hby own_k164) rfl (teq hc42).1 (by decide) (by decide) kG) ?_
    exact go_retV X1 hx hlk hret (hb hby own_k165) rfl ⟨fj2, gj3, lab, rfl, N1, K1, f5, f6, f10, (own_Beq hy4 hc42)⟩ (by decide) (by decide)
  · refine Go.via (U' := T1.setTop (mkF m 45 #[.val (.ref a), .val (.ref e_), .val (.int x0), .val (.int ((x0 &&& (255 : Int32)) % (5 : Int32))), .val (.int (((own_ushr x0 (8 : Int32)) &&& (255 : Int32)) % (5 : Int32))), .val (.int (lab ((x0 &&& (255 : Int32)) % (5 : Int32)).toNatClampNeg)), .val (.int (lab (((own_ushr x0 (8 : Int32)) &&& (255 : Int32)) % (5 : Int32)).toNatClampNeg))] [])) (fun tG kG => XS.icmpNo X1.here hx rfl (hb hby own_k164) rfl (feq hc42).1 kG) ?_
    refine Go.via (U' := T1.setTop (mkF m 46 #[.val (.ref a), .val (.ref e_), .val (.int x0), .val (.int ((x0 &&& (255 : Int32)) % (5 : Int32))), .val (.int (((own_ushr x0 (8 : Int32)) &&& (255 : Int32)) % (5 : Int32))), .val (.int (lab ((x0 &&& (255 : Int32)) % (5 : Int32)).toNatClampNeg)), .val (.int (lab (((own_ushr x0 (8 : Int32)) &&& (255 : Int32)) % (5 : Int32)).toNatClampNeg))] [(.ref e_)])) (fun tG kG => XS.aloadN X1.here hx rfl (hb hby own_k166) rfl rfl kG) ?_
    refine Go.via (U' := T1.setTop (mkF m 48 #[.val (.ref a), .val (.ref e_), .val (.int x0), .val (.int ((x0 &&& (255 : Int32)) % (5 : Int32))), .val (.int (((own_ushr x0 (8 : Int32)) &&& (255 : Int32)) % (5 : Int32))), .val (.int (lab ((x0 &&& (255 : Int32)) % (5 : Int32)).toNatClampNeg)), .val (.int (lab (((own_ushr x0 (8 : Int32)) &&& (255 : Int32)) % (5 : Int32)).toNatClampNeg))] [(.int (lab (((own_ushr x0 (8 : Int32)) &&& (255 : Int32)) % (5 : Int32)).toNatClampNeg)), (.ref e_)])) (fun tG kG => XS.iload X1.here hx rfl (hb hby own_k167) rfl kG) ?_
    refine Go.via (U' := T1.setTop (mkF m 50 #[.val (.ref a), .val (.ref e_), .val (.int x0), .val (.int ((x0 &&& (255 : Int32)) % (5 : Int32))), .val (.int (((own_ushr x0 (8 : Int32)) &&& (255 : Int32)) % (5 : Int32))), .val (.int (lab ((x0 &&& (255 : Int32)) % (5 : Int32)).toNatClampNeg)), .val (.int (lab (((own_ushr x0 (8 : Int32)) &&& (255 : Int32)) % (5 : Int32)).toNatClampNeg))] [(.int (lab ((x0 &&& (255 : Int32)) % (5 : Int32)).toNatClampNeg)), (.int (lab (((own_ushr x0 (8 : Int32)) &&& (255 : Int32)) % (5 : Int32)).toNatClampNeg)), (.ref e_)])) (fun tG kG => XS.iload X1.here hx rfl (hb hby own_k168) rfl kG) ?_
    obtain ⟨_, T11, L11, X11, ⟨rfl, N11q, K11q, f12⟩, st11⟩ := callSQ X1 hx hZ hown (hw _ (List.mem_of_getElem? (i := 28) rfl)) (hw _ (List.mem_of_getElem? (i := 29) rfl)) (hw _ (List.mem_of_getElem? (i := 16) rfl)) (hw _ (List.mem_of_getElem? (i := 30) rfl)) (by decide) (av := [(.ref e_), (.int (lab (((own_ushr x0 (8 : Int32)) &&& (255 : Int32)) % (5 : Int32)).toNatClampNeg)), (.int (lab ((x0 &&& (255 : Int32)) % (5 : Int32)).toNatClampNeg))]) (own_rm6 l Z a0 hw [] e_ (lab (((own_ushr x0 (8 : Int32)) &&& (255 : Int32)) % (5 : Int32)).toNatClampNeg) (lab ((x0 &&& (255 : Int32)) % (5 : Int32)).toNatClampNeg) k_e lab T1.heap n0 Z1 f10 g_e) rfl (pc := 50) (Ls := #[.val (.ref a), .val (.ref e_), .val (.int x0), .val (.int ((x0 &&& (255 : Int32)) % (5 : Int32))), .val (.int (((own_ushr x0 (8 : Int32)) &&& (255 : Int32)) % (5 : Int32))), .val (.int (lab ((x0 &&& (255 : Int32)) % (5 : Int32)).toNatClampNeg)), .val (.int (lab (((own_ushr x0 (8 : Int32)) &&& (255 : Int32)) % (5 : Int32)).toNatClampNeg))]) (rest := []) (by rw [hml]; rfl) own_k169 rfl 0 (Nat.le_of_eq rfl) (by decide) (by decide) (by decide) (by decide) (hb hby own_k170)
    have f13 := f7.keep K11q
    have f14 := f8.keep K11q (ninS ne_a_e nin0)
    have f15 := f9.keep K11q (ninS ne_a_e nin0)
    have f16 := f5.keep K11q (ninS ne_b_e nin0)
    have f17 := f6.keep K11q (ninS ne_c_e nin0)
    have N11 := Fr.app N1 N11q
    have Z11 := Nat.le_trans Z1 K11q.1
    have K11 := K1.trans K11q (allS (Or.inl (List.mem_of_getElem? (i := 2) rfl)) all0)
    refine Go.via (U' := T11.setTop (mkF m 53 #[.val (.ref a), .val (.ref e_), .val (.int x0), .val (.int ((x0 &&& (255 : Int32)) % (5 : Int32))), .val (.int (((own_ushr x0 (8 : Int32)) &&& (255 : Int32)) % (5 : Int32))), .val (.int (lab ((x0 &&& (255 : Int32)) % (5 : Int32)).toNatClampNeg)), .val (.int (lab (((own_ushr x0 (8 : Int32)) &&& (255 : Int32)) % (5 : Int32)).toNatClampNeg))] [])) (fun tG kG => st11 tG kG) ?_
    exact go_retV X11 hx hlk hret (hb hby own_k165) rfl ⟨fj2, gj3, (own_q6_a (lab (((own_ushr x0 (8 : Int32)) &&& (255 : Int32)) % (5 : Int32)).toNatClampNeg) (lab ((x0 &&& (255 : Int32)) % (5 : Int32)).toNatClampNeg) lab), rfl, N11, K11, f16, f17, f12, (own_Bne hy4)⟩ (by decide) (by decide)
theorem own_k171 (m : MethodId) (a : Addr) : entryFrame m #[(.ref a), (.int (5 : Int32))] 3 = mkF m 0 #[.val (.ref a), .val (.int (5 : Int32)), .unset] [] := by first | (simp [entryFrame, mkF, argsToLocals, Value.category]; done) | rfl
theorem own_k172 : decode prog_4_method_1_code 0 = .ok (.aload_n 0, 1) := by decide +kernel
theorem own_k173 : decode prog_4_method_1_code 1 = .ok (.invokespecial 1, 3) := by decide +kernel
theorem own_k174 : decode prog_4_method_1_code 4 = .ok (.aload_n 0, 1) := by decide +kernel
theorem own_k175 : decode prog_4_method_1_code 5 = .ok (.iload_n 1, 1) := by decide +kernel
theorem own_k176 : decode prog_4_method_1_code 6 = .ok (.newarray .int, 2) := by decide +kernel
theorem own_k177 : decode prog_4_method_1_code 8 = .ok (.putfield 7, 3) := by decide +kernel
theorem own_k178 : decode prog_4_method_1_code 11 = .ok (.aload_n 0, 1) := by decide +kernel
theorem own_k179 : decode prog_4_method_1_code 12 = .ok (.iload_n 1, 1) := by decide +kernel
theorem own_k180 : decode prog_4_method_1_code 13 = .ok (.newarray .int, 2) := by decide +kernel
theorem own_k181 : decode prog_4_method_1_code 15 = .ok (.putfield 13, 3) := by decide +kernel
theorem own_k182 : decode prog_4_method_1_code 18 = .ok (.iconst 0, 1) := by decide +kernel
theorem own_k183 : decode prog_4_method_1_code 19 = .ok (.istore_n 2, 1) := by decide +kernel
theorem own_k184 : decode prog_4_method_1_code 20 = .ok (.iload_n 2, 1) := by decide +kernel
theorem own_k185 : decode prog_4_method_1_code 21 = .ok (.iload_n 1, 1) := by decide +kernel
theorem own_k186 : decode prog_4_method_1_code 22 = .ok (.if_icmp .ge 23, 3) := by decide +kernel
theorem own_k187 : decode prog_4_method_1_code 25 = .ok (.aload_n 0, 1) := by decide +kernel
theorem own_k188 : decode prog_4_method_1_code 26 = .ok (.getfield 7, 3) := by decide +kernel
theorem own_k189 : decode prog_4_method_1_code 29 = .ok (.iload_n 2, 1) := by decide +kernel
theorem own_k190 : decode prog_4_method_1_code 30 = .ok (.iload_n 2, 1) := by decide +kernel
theorem own_k191 : decode prog_4_method_1_code 31 = .ok (.iastore, 1) := by decide +kernel
theorem own_k192 : decode prog_4_method_1_code 32 = .ok (.aload_n 0, 1) := by decide +kernel
theorem own_k193 : decode prog_4_method_1_code 33 = .ok (.getfield 13, 3) := by decide +kernel
theorem own_k194 : decode prog_4_method_1_code 36 = .ok (.iload_n 2, 1) := by decide +kernel
theorem own_k195 : decode prog_4_method_1_code 37 = .ok (.iconst 1, 1) := by decide +kernel
theorem own_k196 : decode prog_4_method_1_code 38 = .ok (.iastore, 1) := by decide +kernel
theorem own_k197 : decode prog_4_method_1_code 39 = .ok (.iinc 2 1, 3) := by decide +kernel
theorem own_k198 : decode prog_4_method_1_code 42 = .ok (.goto (-22), 3) := by decide +kernel
def own_w1_4  : Nat → Int32 := (own_upd (own_upd (own_upd (own_upd (fun _ => (0 : Int32)) 0 (0 : Int32)) 1 (1 : Int32)) 2 (2 : Int32)) 3 (3 : Int32))
def own_w1_5  : Nat → Int32 := (own_upd (own_upd (own_upd (own_upd (fun _ => (0 : Int32)) 0 (1 : Int32)) 1 (1 : Int32)) 2 (1 : Int32)) 3 (1 : Int32))
theorem own_k199 : decode prog_4_method_1_code 45 = .ok (.return_, 1) := by decide +kernel
set_option maxRecDepth 65536 in
set_option maxHeartbeats 40000000 in
theorem own_rm1 (l : Launch) (Z : State) (a0 : Array Value) (hw : ∀ d ∈ tables_1, d.before a0 Z = true) (ws : List Jvm.Cond) (a : Addr) (h0 : Heap) (n0 : Nat) (hn0 : n0 ≤ h0.size) (E_a : Exa Z h0 a "com/example/nearprint/nearprint/DisjointSets") (F_a_parents : Fld Z h0 a "com/example/nearprint/nearprint/DisjointSets" "parents" "[I" .null) (F_a_sizes : Fld Z h0 a "com/example/nearprint/nearprint/DisjointSets" "sizes" "[I" .null) (g_a : n0 ≤ a) : Meets l Z (⟨"com/example/nearprint/nearprint/DisjointSets", "<init>", "(I)V"⟩ : MethodName) prog_4_method_1_code 3 none ws ({ frames := 1, cells := 2, slots := 10, locals := 12 } : Room) #[(.ref a), (.int (5 : Int32))] h0 (fun v h L => ∃ b2 : Addr, n0 ≤ b2 ∧ h0.size ≤ b2 ∧ ∃ b12 : Addr, n0 ≤ b12 ∧ h0.size ≤ b12 ∧ ∃ k2 : ClassId, ∃ k12 : ClassId, v = none ∧ Fr n0 L ∧ Keep h0 h [a] ∧ Exa Z h a "com/example/nearprint/nearprint/DisjointSets" ∧ Fld Z h a "com/example/nearprint/nearprint/DisjointSets" "parents" "[I" (.ref b2) ∧ Fld Z h a "com/example/nearprint/nearprint/DisjointSets" "sizes" "[I" (.ref b12) ∧ Exa Z h b2 "[I" ∧ Exa Z h b12 "[I" ∧ Arf Z h b2 k2 .int (5 : Int32) (own_upd own_w1_4 4 (4 : Int32)) ∧ Arf Z h b12 k12 .int (5 : Int32) (own_upd own_w1_5 4 (1 : Int32)) ∧ b2 ≠ b12) := by
  refine meets_of (plainFor_of_name own_k28) ?_
  intro p e s m below meth c s₁ X0 hx hZ hby hml hret hlk hown hnm e0
  replace hml : c.maxLocals = 3 := hml
  replace hown : s.vm.findClass "com/example/nearprint/nearprint/DisjointSets" = some m.cls := hown
  refine Go.cast (own_k171 m a) ?_
  have N0 := Fr.nil n0
  have K0 : Keep h0 h0 [a] := Keep.refl h0 _
  refine Go.via (U' := s₁.setTop (mkF m 1 #[.val (.ref a), .val (.int (5 : Int32)), .unset] [(.ref a)])) (fun tG kG => XS.aloadN X0.here hx rfl (hb hby own_k172) rfl rfl kG) ?_
  obtain ⟨T1, X1, e1, st1⟩ := initO X0 hx hZ hown (hw _ (List.mem_of_getElem? (i := 6) rfl)) (hw _ (List.mem_of_getElem? (i := 7) rfl)) (hw _ (List.mem_of_getElem? (i := 8) rfl)) e0 (g := (mkF m 1 #[.val (.ref a), .val (.int (5 : Int32)), .unset] [(.ref a)])) rfl (by rw [hml]; rfl) rfl (hb hby own_k173) (by decide) (W := 0) (by show 2 * 0 + _ ≤ _; exact Nat.le_of_eq rfl) (by decide)
  refine Go.via (U' := T1.setTop (mkF m 4 #[.val (.ref a), .val (.int (5 : Int32)), .unset] [])) (fun tG kG => st1 tG kG) ?_
  refine Go.via (U' := T1.setTop (mkF m 5 #[.val (.ref a), .val (.int (5 : Int32)), .unset] [(.ref a)])) (fun tG kG => XS.aloadN X1.here hx rfl (hb hby own_k174) rfl rfl kG) ?_
  refine Go.via (U' := T1.setTop (mkF m 6 #[.val (.ref a), .val (.int (5 : Int32)), .unset] [(.int (5 : Int32)), (.ref a)])) (fun tG kG => XS.iloadN X1.here hx rfl (hb hby own_k175) rfl kG) ?_
  obtain ⟨T2, h2, k2, X2, e2, E2, A2, B2, st2⟩ := newPE X1 hx hZ (hw _ (List.mem_of_getElem? (i := 9) rfl)) e1 (g := (mkF m 6 #[.val (.ref a), .val (.int (5 : Int32)), .unset] [(.int (5 : Int32)), (.ref a)])) rfl (hb hby own_k176) rfl (by decide) (cap := 5) (by decide) (by decide) (by decide) (by decide) (ad := "[I") (by decide)
  obtain ⟨b2, g2⟩ : ∃ z, z = h0.size := ⟨_, rfl⟩
  rw [← g2] at A2 B2 st2
  have g_b2 : n0 ≤ b2 := Nat.le_trans hn0 (Nat.le_of_eq g2.symm)
  have sz_b2 : h0.size ≤ b2 := Nat.le_trans K0.1 (Nat.le_of_eq g2.symm)
  have ne_a_b2 : a ≠ b2 := Nat.ne_of_lt (Nat.lt_of_lt_of_le E_a.lt (Nat.le_of_eq g2.symm))
  have f3 := E_a.ext E2
  have f4 := F_a_parents.ext E2
  have f5 := F_a_sizes.ext E2
  have K2 := K0.ext E2
  have Z2 := Nat.le_trans hn0 E2.1
  have V2 : Arf Z h2 b2 k2 .int (5 : Int32) (fun _ => 0) := Arf.new A2 (by decide) rfl rfl
  refine Go.via (U' := T2.setTop (mkF m 8 #[.val (.ref a), .val (.int (5 : Int32)), .unset] [(.ref b2), (.ref a)])) (fun tG kG => st2 tG kG) ?_
  obtain ⟨T6, h6, X6, e6, W6, st6⟩ := putF X2 hx hZ hown (host := "") (Or.inl (hw _ (List.mem_of_getElem? (i := 10) rfl))) Via.refl e2 f4 f3 (Or.inr ⟨(hw _ (List.mem_of_getElem? (i := 11) rfl)), rfl, hnm⟩) (hw _ (List.mem_of_getElem? (i := 1) rfl)) (ty := (.array .int)) (by decide) rfl rfl (g := (mkF m 8 #[.val (.ref a), .val (.int (5 : Int32)), .unset] [(.ref b2), (.ref a)])) rfl rfl (hb hby own_k177)
  have f7 := f3.wr W6
  have f8 := f4.same W6
  have f9 := f5.other W6 (Or.inr (slot_ne (Or.inr (hw _ (List.mem_of_getElem? (i := 13) rfl))) (Or.inr (hw _ (List.mem_of_getElem? (i := 11) rfl))) (by decide) (t := (.array .int)) (t' := (.array .int)) (by decide) (by decide)))
  have f10 := V2.other W6 (Ne.symm ne_a_b2)
  have f11 := B2.wr W6
  have K6 := K2.wr W6 (Or.inl (List.mem_of_getElem? (i := 0) rfl))
  have N6 := Fr.snoc X6 N0 g_a
  have Z6 := Nat.le_trans Z2 (Keep.of_wr W6).1
  refine Go.via (U' := T6.setTop (mkF m 11 #[.val (.ref a), .val (.int (5 : Int32)), .unset] [])) (fun tG kG => st6 tG kG) ?_
  refine Go.via (U' := T6.setTop (mkF m 12 #[.val (.ref a), .val (.int (5 : Int32)), .unset] [(.ref a)])) (fun tG kG => XS.aloadN X6.here hx rfl (hb hby own_k178) rfl rfl kG) ?_
  refine Go.via (U' := T6.setTop (mkF m 13 #[.val (.ref a), .val (.int (5 : Int32)), .unset] [(.int (5 : Int32)), (.ref a)])) (fun tG kG => XS.iloadN X6.here hx rfl (hb hby own_k179) rfl kG) ?_
  obtain ⟨T12, h12, k12, X12, e12, E12, A12, B12, st12⟩ := newPE X6 hx hZ (hw _ (List.mem_of_getElem? (i := 9) rfl)) e6 (g := (mkF m 13 #[.val (.ref a), .val (.int (5 : Int32)), .unset] [(.int (5 : Int32)), (.ref a)])) rfl (hb hby own_k180) rfl (by decide) (cap := 5) (by decide) (by decide) (by decide) (by decide) (ad := "[I") (by decide)
  obtain ⟨b12, g12⟩ : ∃ z, z = h6.size := ⟨_, rfl⟩
  rw [← g12] at A12 B12 st12
  have g_b12 : n0 ≤ b12 := Nat.le_trans Z6 (Nat.le_of_eq g12.symm)
  have sz_b12 : h0.size ≤ b12 := Nat.le_trans K6.1 (Nat.le_of_eq g12.symm)
  have ne_a_b12 : a ≠ b12 := Nat.ne_of_lt (Nat.lt_of_lt_of_le f7.lt (Nat.le_of_eq g12.symm))
  have ne_b2_b12 : b2 ≠ b12 := Nat.ne_of_lt (Nat.lt_of_lt_of_le f10.lt (Nat.le_of_eq g12.symm))
  have f13 := f7.ext E12
  have f14 := f8.ext E12
  have f15 := f9.ext E12
  have f16 := f10.ext E12
  have f17 := f11.ext E12
  have K12 := K6.ext E12
  have Z12 := Nat.le_trans Z6 E12.1
  have V12 : Arf Z h12 b12 k12 .int (5 : Int32) (fun _ => 0) := Arf.new A12 (by decide) rfl rfl
  refine Go.via (U' := T12.setTop (mkF m 15 #[.val (.ref a), .val (.int (5 : Int32)), .unset] [(.ref b12), (.ref a)])) (fun tG kG => st12 tG kG) ?_
  obtain ⟨T18, h18, X18, e18, W18, st18⟩ := putF X12 hx hZ hown (host := "") (Or.inl (hw _ (List.mem_of_getElem? (i := 12) rfl))) Via.refl e12 f15 f13 (Or.inr ⟨(hw _ (List.mem_of_getElem? (i := 13) rfl)), rfl, hnm⟩) (hw _ (List.mem_of_getElem? (i := 1) rfl)) (ty := (.array .int)) (by decide) rfl rfl (g := (mkF m 15 #[.val (.ref a), .val (.int (5 : Int32)), .unset] [(.ref b12), (.ref a)])) rfl rfl (hb hby own_k181)
  have f19 := f13.wr W18
  have f20 := f14.other W18 (Or.inr (slot_ne (Or.inr (hw _ (List.mem_of_getElem? (i := 11) rfl))) (Or.inr (hw _ (List.mem_of_getElem? (i := 13) rfl))) (by decide) (t := (.array .int)) (t' := (.array .int)) (by decide) (by decide)))
  have f21 := f15.same W18
  have f22 := f16.other W18 (Ne.symm ne_a_b2)
  have f23 := f17.wr W18
  have f24 := V12.other W18 (Ne.symm ne_a_b12)
  have f25 := B12.wr W18
  have K18 := K12.wr W18 (Or.inl (List.mem_of_getElem? (i := 0) rfl))
  have N18 := Fr.snoc X18 N6 g_a
  have Z18 := Nat.le_trans Z12 (Keep.of_wr W18).1
  refine Go.via (U' := T18.setTop (mkF m 18 #[.val (.ref a), .val (.int (5 : Int32)), .unset] [])) (fun tG kG => st18 tG kG) ?_
  refine Go.via (U' := T18.setTop (mkF m 19 #[.val (.ref a), .val (.int (5 : Int32)), .unset] [(.int (0 : Int32))])) (fun tG kG => XS.iconst X18.here hx rfl (hb hby own_k182) kG) ?_
  refine Go.via (U' := T18.setTop (mkF m 20 #[.val (.ref a), .val (.int (5 : Int32)), .val (.int (0 : Int32))] [])) (fun tG kG => XS.istoreN X18.here hx rfl (hb hby own_k183) rfl (l' := #[.val (.ref a), .val (.int (5 : Int32)), .val (.int (0 : Int32))]) rfl kG) ?_
  refine Go.via (U' := T18.setTop (mkF m 21 #[.val (.ref a), .val (.int (5 : Int32)), .val (.int (0 : Int32))] [(.int (0 : Int32))])) (fun tG kG => XS.iloadN X18.here hx rfl (hb hby own_k184) rfl kG) ?_
  refine Go.via (U' := T18.setTop (mkF m 22 #[.val (.ref a), .val (.int (5 : Int32)), .val (.int (0 : Int32))] [(.int (5 : Int32)), (.int (0 : Int32))])) (fun tG kG => XS.iloadN X18.here hx rfl (hb hby own_k185) rfl kG) ?_
  have hc22_26 : (0 : Int32) < (5 : Int32) := by decide
  refine Go.via (U' := T18.setTop (mkF m 25 #[.val (.ref a), .val (.int (5 : Int32)), .val (.int (0 : Int32))] [])) (fun tG kG => XS.icmpNo X18.here hx rfl (hb hby own_k186) rfl (tlt hc22_26).2.1 kG) ?_
  refine Go.via (U' := T18.setTop (mkF m 26 #[.val (.ref a), .val (.int (5 : Int32)), .val (.int (0 : Int32))] [(.ref a)])) (fun tG kG => XS.aloadN X18.here hx rfl (hb hby own_k187) rfl rfl kG) ?_
  obtain ⟨T27, X27, e27, st27⟩ := getF X18 hx hZ hown (host := "") (Or.inl (hw _ (List.mem_of_getElem? (i := 10) rfl))) Via.refl e18 f20 (g := (mkF m 26 #[.val (.ref a), .val (.int (5 : Int32)), .val (.int (0 : Int32))] [(.ref a)])) rfl rfl (hb hby own_k188)
  refine Go.via (U' := T27.setTop (mkF m 29 #[.val (.ref a), .val (.int (5 : Int32)), .val (.int (0 : Int32))] [(.ref b2)])) (fun tG kG => st27 tG kG) ?_
  refine Go.via (U' := T27.setTop (mkF m 30 #[.val (.ref a), .val (.int (5 : Int32)), .val (.int (0 : Int32))] [(.int (0 : Int32)), (.ref b2)])) (fun tG kG => XS.iloadN X27.here hx rfl (hb hby own_k189) rfl kG) ?_
  refine Go.via (U' := T27.setTop (mkF m 31 #[.val (.ref a), .val (.int (5 : Int32)), .val (.int (0 : Int32))] [(.int (0 : Int32)), (.int (0 : Int32)), (.ref b2)])) (fun tG kG => XS.iloadN X27.here hx rfl (hb hby own_k190) rfl kG) ?_
  obtain ⟨T28, h28, X28, e28, W28, A28, st28⟩ := own_stI X27 hx hZ e27 f22 (j := (0 : Int32)) (x := (0 : Int32)) ⟨by decide, by decide⟩ (pc := 31) (Ls := #[.val (.ref a), .val (.int (5 : Int32)), .val (.int (0 : Int32))]) (rest := []) (hb hby own_k191)
  have f29 := f19.wr W28
  have f30 := f20.other W28 (Or.inl ne_a_b2)
  have f31 := f21.other W28 (Or.inl ne_a_b2)
  have f32 := f23.wr W28
  have f33 := f24.other W28 (Ne.symm ne_b2_b12)
  have f34 := f25.wr W28
  replace A28 : Arf Z h28 b2 k2 .int (5 : Int32) (own_upd (fun _ => (0 : Int32)) 0 (0 : Int32)) := A28
  have K28 := K18.wr W28 (Or.inr sz_b2)
  have N28 := Fr.snoc X28 N18 g_b2
  have Z28 := Nat.le_trans Z18 (Keep.of_wr W28).1
  refine Go.via (U' := T28.setTop (mkF m 32 #[.val (.ref a), .val (.int (5 : Int32)), .val (.int (0 : Int32))] [])) (fun tG kG => st28 tG kG) ?_
  refine Go.via (U' := T28.setTop (mkF m 33 #[.val (.ref a), .val (.int (5 : Int32)), .val (.int (0 : Int32))] [(.ref a)])) (fun tG kG => XS.aloadN X28.here hx rfl (hb hby own_k192) rfl rfl kG) ?_
  obtain ⟨T35, X35, e35, st35⟩ := getF X28 hx hZ hown (host := "") (Or.inl (hw _ (List.mem_of_getElem? (i := 12) rfl))) Via.refl e28 f31 (g := (mkF m 33 #[.val (.ref a), .val (.int (5 : Int32)), .val (.int (0 : Int32))] [(.ref a)])) rfl rfl (hb hby own_k193)
  refine Go.via (U' := T35.setTop (mkF m 36 #[.val (.ref a), .val (.int (5 : Int32)), .val (.int (0 : Int32))] [(.ref b12)])) (fun tG kG => st35 tG kG) ?_
  refine Go.via (U' := T35.setTop (mkF m 37 #[.val (.ref a), .val (.int (5 : Int32)), .val (.int (0 : Int32))] [(.int (0 : Int32)), (.ref b12)])) (fun tG kG => XS.iloadN X35.here hx rfl (hb hby own_k194) rfl kG) ?_
  refine Go.via (U' := T35.setTop (mkF m 38 #[.val (.ref a), .val (.int (5 : Int32)), .val (.int (0 : Int32))] [(.int (1 : Int32)), (.int (0 : Int32)), (.ref b12)])) (fun tG kG => XS.iconst X35.here hx rfl (hb hby own_k195) kG) ?_
  obtain ⟨T36, h36, X36, e36, W36, A36, st36⟩ := own_stI X35 hx hZ e35 f33 (j := (0 : Int32)) (x := (1 : Int32)) ⟨by decide, by decide⟩ (pc := 38) (Ls := #[.val (.ref a), .val (.int (5 : Int32)), .val (.int (0 : Int32))]) (rest := []) (hb hby own_k196)
  have f37 := f29.wr W36
  have f38 := f30.other W36 (Or.inl ne_a_b12)
  have f39 := f31.other W36 (Or.inl ne_a_b12)
  have f40 := f32.wr W36
  have f41 := f34.wr W36
  have f42 := A28.other W36 ne_b2_b12
  replace A36 : Arf Z h36 b12 k12 .int (5 : Int32) (own_upd (fun _ => (0 : Int32)) 0 (1 : Int32)) := A36
  have K36 := K28.wr W36 (Or.inr sz_b12)
  have N36 := Fr.snoc X36 N28 g_b12
  have Z36 := Nat.le_trans Z28 (Keep.of_wr W36).1
  refine Go.via (U' := T36.setTop (mkF m 39 #[.val (.ref a), .val (.int (5 : Int32)), .val (.int (0 : Int32))] [])) (fun tG kG => st36 tG kG) ?_
  refine Go.via (U' := T36.setTop (mkF m 42 #[.val (.ref a), .val (.int (5 : Int32)), .val (.int (1 : Int32))] [])) (fun tG kG => XS.iinc X36.here hx rfl (hb hby own_k197) rfl (l' := #[.val (.ref a), .val (.int (5 : Int32)), .val (.int (1 : Int32))]) rfl kG) ?_
  refine Go.via (U' := T36.setTop (mkF m 20 #[.val (.ref a), .val (.int (5 : Int32)), .val (.int (1 : Int32))] [])) (fun tG kG => XS.goto X36.here hx rfl (pc0 := 42) (pc' := 20) rfl (hb hby own_k198) (by decide) (by decide) kG) ?_
  refine Go.via (U' := T36.setTop (mkF m 21 #[.val (.ref a), .val (.int (5 : Int32)), .val (.int (1 : Int32))] [(.int (1 : Int32))])) (fun tG kG => XS.iloadN X36.here hx rfl (hb hby own_k184) rfl kG) ?_
  refine Go.via (U' := T36.setTop (mkF m 22 #[.val (.ref a), .val (.int (5 : Int32)), .val (.int (1 : Int32))] [(.int (5 : Int32)), (.int (1 : Int32))])) (fun tG kG => XS.iloadN X36.here hx rfl (hb hby own_k185) rfl kG) ?_
  have hc22_43 : (1 : Int32) < (5 : Int32) := by decide
  refine Go.via (U' := T36.setTop (mkF m 25 #[.val (.ref a), .val (.int (5 : Int32)), .val (.int (1 : Int32))] [])) (fun tG kG => XS.icmpNo X36.here hx rfl (hb hby own_k186) rfl (tlt hc22_43).2.1 kG) ?_
  refine Go.via (U' := T36.setTop (mkF m 26 #[.val (.ref a), .val (.int (5 : Int32)), .val (.int (1 : Int32))] [(.ref a)])) (fun tG kG => XS.aloadN X36.here hx rfl (hb hby own_k187) rfl rfl kG) ?_
  obtain ⟨T44, X44, e44, st44⟩ := getF X36 hx hZ hown (host := "") (Or.inl (hw _ (List.mem_of_getElem? (i := 10) rfl))) Via.refl e36 f38 (g := (mkF m 26 #[.val (.ref a), .val (.int (5 : Int32)), .val (.int (1 : Int32))] [(.ref a)])) rfl rfl (hb hby own_k188)
  refine Go.via (U' := T44.setTop (mkF m 29 #[.val (.ref a), .val (.int (5 : Int32)), .val (.int (1 : Int32))] [(.ref b2)])) (fun tG kG => st44 tG kG) ?_
  refine Go.via (U' := T44.setTop (mkF m 30 #[.val (.ref a), .val (.int (5 : Int32)), .val (.int (1 : Int32))] [(.int (1 : Int32)), (.ref b2)])) (fun tG kG => XS.iloadN X44.here hx rfl (hb hby own_k189) rfl kG) ?_
  refine Go.via (U' := T44.setTop (mkF m 31 #[.val (.ref a), .val (.int (5 : Int32)), .val (.int (1 : Int32))] [(.int (1 : Int32)), (.int (1 : Int32)), (.ref b2)])) (fun tG kG => XS.iloadN X44.here hx rfl (hb hby own_k190) rfl kG) ?_
  obtain ⟨T45, h45, X45, e45, W45, A45, st45⟩ := own_stI X44 hx hZ e44 f42 (j := (1 : Int32)) (x := (1 : Int32)) ⟨by decide, by decide⟩ (pc := 31) (Ls := #[.val (.ref a), .val (.int (5 : Int32)), .val (.int (1 : Int32))]) (rest := []) (hb hby own_k191)
  have f46 := f37.wr W45
  have f47 := f38.other W45 (Or.inl ne_a_b2)
  have f48 := f39.other W45 (Or.inl ne_a_b2)
  have f49 := f40.wr W45
  have f50 := f41.wr W45
  have f51 := A36.other W45 (Ne.symm ne_b2_b12)
  replace A45 : Arf Z h45 b2 k2 .int (5 : Int32) (own_upd (own_upd (fun _ => (0 : Int32)) 0 (0 : Int32)) 1 (1 : Int32)) := A45
  have K45 := K36.wr W45 (Or.inr sz_b2)
  have N45 := Fr.snoc X45 N36 g_b2
  have Z45 := Nat.le_trans Z36 (Keep.of_wr W45).1
  refine Go.via (U' := T45.setTop (mkF m 32 #[.val (.ref a), .val (.int (5 : Int32)), .val (.int (1 : Int32))] [])) (fun tG kG => st45 tG kG) ?_
  refine Go.via (U' := T45.setTop (mkF m 33 #[.val (.ref a), .val (.int (5 : Int32)), .val (.int (1 : Int32))] [(.ref a)])) (fun tG kG => XS.aloadN X45.here hx rfl (hb hby own_k192) rfl rfl kG) ?_
  obtain ⟨T52, X52, e52, st52⟩ := getF X45 hx hZ hown (host := "") (Or.inl (hw _ (List.mem_of_getElem? (i := 12) rfl))) Via.refl e45 f48 (g := (mkF m 33 #[.val (.ref a), .val (.int (5 : Int32)), .val (.int (1 : Int32))] [(.ref a)])) rfl rfl (hb hby own_k193)
  refine Go.via (U' := T52.setTop (mkF m 36 #[.val (.ref a), .val (.int (5 : Int32)), .val (.int (1 : Int32))] [(.ref b12)])) (fun tG kG => st52 tG kG) ?_
  refine Go.via (U' := T52.setTop (mkF m 37 #[.val (.ref a), .val (.int (5 : Int32)), .val (.int (1 : Int32))] [(.int (1 : Int32)), (.ref b12)])) (fun tG kG => XS.iloadN X52.here hx rfl (hb hby own_k194) rfl kG) ?_
  refine Go.via (U' := T52.setTop (mkF m 38 #[.val (.ref a), .val (.int (5 : Int32)), .val (.int (1 : Int32))] [(.int (1 : Int32)), (.int (1 : Int32)), (.ref b12)])) (fun tG kG => XS.iconst X52.here hx rfl (hb hby own_k195) kG) ?_
  obtain ⟨T53, h53, X53, e53, W53, A53, st53⟩ := own_stI X52 hx hZ e52 f51 (j := (1 : Int32)) (x := (1 : Int32)) ⟨by decide, by decide⟩ (pc := 38) (Ls := #[.val (.ref a), .val (.int (5 : Int32)), .val (.int (1 : Int32))]) (rest := []) (hb hby own_k196)
  have f54 := f46.wr W53
  have f55 := f47.other W53 (Or.inl ne_a_b12)
  have f56 := f48.other W53 (Or.inl ne_a_b12)
  have f57 := f49.wr W53
  have f58 := f50.wr W53
  have f59 := A45.other W53 ne_b2_b12
  replace A53 : Arf Z h53 b12 k12 .int (5 : Int32) (own_upd (own_upd (fun _ => (0 : Int32)) 0 (1 : Int32)) 1 (1 : Int32)) := A53
  have K53 := K45.wr W53 (Or.inr sz_b12)
  have N53 := Fr.snoc X53 N45 g_b12
  have Z53 := Nat.le_trans Z45 (Keep.of_wr W53).1
  refine Go.via (U' := T53.setTop (mkF m 39 #[.val (.ref a), .val (.int (5 : Int32)), .val (.int (1 : Int32))] [])) (fun tG kG => st53 tG kG) ?_
  refine Go.via (U' := T53.setTop (mkF m 42 #[.val (.ref a), .val (.int (5 : Int32)), .val (.int (2 : Int32))] [])) (fun tG kG => XS.iinc X53.here hx rfl (hb hby own_k197) rfl (l' := #[.val (.ref a), .val (.int (5 : Int32)), .val (.int (2 : Int32))]) rfl kG) ?_
  refine Go.via (U' := T53.setTop (mkF m 20 #[.val (.ref a), .val (.int (5 : Int32)), .val (.int (2 : Int32))] [])) (fun tG kG => XS.goto X53.here hx rfl (pc0 := 42) (pc' := 20) rfl (hb hby own_k198) (by decide) (by decide) kG) ?_
  refine Go.via (U' := T53.setTop (mkF m 21 #[.val (.ref a), .val (.int (5 : Int32)), .val (.int (2 : Int32))] [(.int (2 : Int32))])) (fun tG kG => XS.iloadN X53.here hx rfl (hb hby own_k184) rfl kG) ?_
  refine Go.via (U' := T53.setTop (mkF m 22 #[.val (.ref a), .val (.int (5 : Int32)), .val (.int (2 : Int32))] [(.int (5 : Int32)), (.int (2 : Int32))])) (fun tG kG => XS.iloadN X53.here hx rfl (hb hby own_k185) rfl kG) ?_
  have hc22_60 : (2 : Int32) < (5 : Int32) := by decide
  refine Go.via (U' := T53.setTop (mkF m 25 #[.val (.ref a), .val (.int (5 : Int32)), .val (.int (2 : Int32))] [])) (fun tG kG => XS.icmpNo X53.here hx rfl (hb hby own_k186) rfl (tlt hc22_60).2.1 kG) ?_
  refine Go.via (U' := T53.setTop (mkF m 26 #[.val (.ref a), .val (.int (5 : Int32)), .val (.int (2 : Int32))] [(.ref a)])) (fun tG kG => XS.aloadN X53.here hx rfl (hb hby own_k187) rfl rfl kG) ?_
  obtain ⟨T61, X61, e61, st61⟩ := getF X53 hx hZ hown (host := "") (Or.inl (hw _ (List.mem_of_getElem? (i := 10) rfl))) Via.refl e53 f55 (g := (mkF m 26 #[.val (.ref a), .val (.int (5 : Int32)), .val (.int (2 : Int32))] [(.ref a)])) rfl rfl (hb hby own_k188)
  refine Go.via (U' := T61.setTop (mkF m 29 #[.val (.ref a), .val (.int (5 : Int32)), .val (.int (2 : Int32))] [(.ref b2)])) (fun tG kG => st61 tG kG) ?_
  refine Go.via (U' := T61.setTop (mkF m 30 #[.val (.ref a), .val (.int (5 : Int32)), .val (.int (2 : Int32))] [(.int (2 : Int32)), (.ref b2)])) (fun tG kG => XS.iloadN X61.here hx rfl (hb hby own_k189) rfl kG) ?_
  refine Go.via (U' := T61.setTop (mkF m 31 #[.val (.ref a), .val (.int (5 : Int32)), .val (.int (2 : Int32))] [(.int (2 : Int32)), (.int (2 : Int32)), (.ref b2)])) (fun tG kG => XS.iloadN X61.here hx rfl (hb hby own_k190) rfl kG) ?_
  obtain ⟨T62, h62, X62, e62, W62, A62, st62⟩ := own_stI X61 hx hZ e61 f59 (j := (2 : Int32)) (x := (2 : Int32)) ⟨by decide, by decide⟩ (pc := 31) (Ls := #[.val (.ref a), .val (.int (5 : Int32)), .val (.int (2 : Int32))]) (rest := []) (hb hby own_k191)
  have f63 := f54.wr W62
  have f64 := f55.other W62 (Or.inl ne_a_b2)
  have f65 := f56.other W62 (Or.inl ne_a_b2)
  have f66 := f57.wr W62
  have f67 := f58.wr W62
  have f68 := A53.other W62 (Ne.symm ne_b2_b12)
  replace A62 : Arf Z h62 b2 k2 .int (5 : Int32) (own_upd (own_upd (own_upd (fun _ => (0 : Int32)) 0 (0 : Int32)) 1 (1 : Int32)) 2 (2 : Int32)) := A62
  have K62 := K53.wr W62 (Or.inr sz_b2)
  have N62 := Fr.snoc X62 N53 g_b2
  have Z62 := Nat.le_trans Z53 (Keep.of_wr W62).1
  refine Go.via (U' := T62.setTop (mkF m 32 #[.val (.ref a), .val (.int (5 : Int32)), .val (.int (2 : Int32))] [])) (fun tG kG => st62 tG kG) ?_
  refine Go.via (U' := T62.setTop (mkF m 33 #[.val (.ref a), .val (.int (5 : Int32)), .val (.int (2 : Int32))] [(.ref a)])) (fun tG kG => XS.aloadN X62.here hx rfl (hb hby own_k192) rfl rfl kG) ?_
  obtain ⟨T69, X69, e69, st69⟩ := getF X62 hx hZ hown (host := "") (Or.inl (hw _ (List.mem_of_getElem? (i := 12) rfl))) Via.refl e62 f65 (g := (mkF m 33 #[.val (.ref a), .val (.int (5 : Int32)), .val (.int (2 : Int32))] [(.ref a)])) rfl rfl (hb hby own_k193)
  refine Go.via (U' := T69.setTop (mkF m 36 #[.val (.ref a), .val (.int (5 : Int32)), .val (.int (2 : Int32))] [(.ref b12)])) (fun tG kG => st69 tG kG) ?_
  refine Go.via (U' := T69.setTop (mkF m 37 #[.val (.ref a), .val (.int (5 : Int32)), .val (.int (2 : Int32))] [(.int (2 : Int32)), (.ref b12)])) (fun tG kG => XS.iloadN X69.here hx rfl (hb hby own_k194) rfl kG) ?_
  refine Go.via (U' := T69.setTop (mkF m 38 #[.val (.ref a), .val (.int (5 : Int32)), .val (.int (2 : Int32))] [(.int (1 : Int32)), (.int (2 : Int32)), (.ref b12)])) (fun tG kG => XS.iconst X69.here hx rfl (hb hby own_k195) kG) ?_
  obtain ⟨T70, h70, X70, e70, W70, A70, st70⟩ := own_stI X69 hx hZ e69 f68 (j := (2 : Int32)) (x := (1 : Int32)) ⟨by decide, by decide⟩ (pc := 38) (Ls := #[.val (.ref a), .val (.int (5 : Int32)), .val (.int (2 : Int32))]) (rest := []) (hb hby own_k196)
  have f71 := f63.wr W70
  have f72 := f64.other W70 (Or.inl ne_a_b12)
  have f73 := f65.other W70 (Or.inl ne_a_b12)
  have f74 := f66.wr W70
  have f75 := f67.wr W70
  have f76 := A62.other W70 ne_b2_b12
  replace A70 : Arf Z h70 b12 k12 .int (5 : Int32) (own_upd (own_upd (own_upd (fun _ => (0 : Int32)) 0 (1 : Int32)) 1 (1 : Int32)) 2 (1 : Int32)) := A70
  have K70 := K62.wr W70 (Or.inr sz_b12)
  have N70 := Fr.snoc X70 N62 g_b12
  have Z70 := Nat.le_trans Z62 (Keep.of_wr W70).1
  refine Go.via (U' := T70.setTop (mkF m 39 #[.val (.ref a), .val (.int (5 : Int32)), .val (.int (2 : Int32))] [])) (fun tG kG => st70 tG kG) ?_
  refine Go.via (U' := T70.setTop (mkF m 42 #[.val (.ref a), .val (.int (5 : Int32)), .val (.int (3 : Int32))] [])) (fun tG kG => XS.iinc X70.here hx rfl (hb hby own_k197) rfl (l' := #[.val (.ref a), .val (.int (5 : Int32)), .val (.int (3 : Int32))]) rfl kG) ?_
  refine Go.via (U' := T70.setTop (mkF m 20 #[.val (.ref a), .val (.int (5 : Int32)), .val (.int (3 : Int32))] [])) (fun tG kG => XS.goto X70.here hx rfl (pc0 := 42) (pc' := 20) rfl (hb hby own_k198) (by decide) (by decide) kG) ?_
  refine Go.via (U' := T70.setTop (mkF m 21 #[.val (.ref a), .val (.int (5 : Int32)), .val (.int (3 : Int32))] [(.int (3 : Int32))])) (fun tG kG => XS.iloadN X70.here hx rfl (hb hby own_k184) rfl kG) ?_
  refine Go.via (U' := T70.setTop (mkF m 22 #[.val (.ref a), .val (.int (5 : Int32)), .val (.int (3 : Int32))] [(.int (5 : Int32)), (.int (3 : Int32))])) (fun tG kG => XS.iloadN X70.here hx rfl (hb hby own_k185) rfl kG) ?_
  have hc22_77 : (3 : Int32) < (5 : Int32) := by decide
  refine Go.via (U' := T70.setTop (mkF m 25 #[.val (.ref a), .val (.int (5 : Int32)), .val (.int (3 : Int32))] [])) (fun tG kG => XS.icmpNo X70.here hx rfl (hb hby own_k186) rfl (tlt hc22_77).2.1 kG) ?_
  refine Go.via (U' := T70.setTop (mkF m 26 #[.val (.ref a), .val (.int (5 : Int32)), .val (.int (3 : Int32))] [(.ref a)])) (fun tG kG => XS.aloadN X70.here hx rfl (hb hby own_k187) rfl rfl kG) ?_
  obtain ⟨T78, X78, e78, st78⟩ := getF X70 hx hZ hown (host := "") (Or.inl (hw _ (List.mem_of_getElem? (i := 10) rfl))) Via.refl e70 f72 (g := (mkF m 26 #[.val (.ref a), .val (.int (5 : Int32)), .val (.int (3 : Int32))] [(.ref a)])) rfl rfl (hb hby own_k188)
  refine Go.via (U' := T78.setTop (mkF m 29 #[.val (.ref a), .val (.int (5 : Int32)), .val (.int (3 : Int32))] [(.ref b2)])) (fun tG kG => st78 tG kG) ?_
  refine Go.via (U' := T78.setTop (mkF m 30 #[.val (.ref a), .val (.int (5 : Int32)), .val (.int (3 : Int32))] [(.int (3 : Int32)), (.ref b2)])) (fun tG kG => XS.iloadN X78.here hx rfl (hb hby own_k189) rfl kG) ?_
  refine Go.via (U' := T78.setTop (mkF m 31 #[.val (.ref a), .val (.int (5 : Int32)), .val (.int (3 : Int32))] [(.int (3 : Int32)), (.int (3 : Int32)), (.ref b2)])) (fun tG kG => XS.iloadN X78.here hx rfl (hb hby own_k190) rfl kG) ?_
  obtain ⟨T79, h79, X79, e79, W79, A79, st79⟩ := own_stI X78 hx hZ e78 f76 (j := (3 : Int32)) (x := (3 : Int32)) ⟨by decide, by decide⟩ (pc := 31) (Ls := #[.val (.ref a), .val (.int (5 : Int32)), .val (.int (3 : Int32))]) (rest := []) (hb hby own_k191)
  have f80 := f71.wr W79
  have f81 := f72.other W79 (Or.inl ne_a_b2)
  have f82 := f73.other W79 (Or.inl ne_a_b2)
  have f83 := f74.wr W79
  have f84 := f75.wr W79
  have f85 := A70.other W79 (Ne.symm ne_b2_b12)
  replace A79 : Arf Z h79 b2 k2 .int (5 : Int32) own_w1_4 := A79
  have K79 := K70.wr W79 (Or.inr sz_b2)
  have N79 := Fr.snoc X79 N70 g_b2
  have Z79 := Nat.le_trans Z70 (Keep.of_wr W79).1
  refine Go.via (U' := T79.setTop (mkF m 32 #[.val (.ref a), .val (.int (5 : Int32)), .val (.int (3 : Int32))] [])) (fun tG kG => st79 tG kG) ?_
  refine Go.via (U' := T79.setTop (mkF m 33 #[.val (.ref a), .val (.int (5 : Int32)), .val (.int (3 : Int32))] [(.ref a)])) (fun tG kG => XS.aloadN X79.here hx rfl (hb hby own_k192) rfl rfl kG) ?_
  obtain ⟨T86, X86, e86, st86⟩ := getF X79 hx hZ hown (host := "") (Or.inl (hw _ (List.mem_of_getElem? (i := 12) rfl))) Via.refl e79 f82 (g := (mkF m 33 #[.val (.ref a), .val (.int (5 : Int32)), .val (.int (3 : Int32))] [(.ref a)])) rfl rfl (hb hby own_k193)
  refine Go.via (U' := T86.setTop (mkF m 36 #[.val (.ref a), .val (.int (5 : Int32)), .val (.int (3 : Int32))] [(.ref b12)])) (fun tG kG => st86 tG kG) ?_
  refine Go.via (U' := T86.setTop (mkF m 37 #[.val (.ref a), .val (.int (5 : Int32)), .val (.int (3 : Int32))] [(.int (3 : Int32)), (.ref b12)])) (fun tG kG => XS.iloadN X86.here hx rfl (hb hby own_k194) rfl kG) ?_
  refine Go.via (U' := T86.setTop (mkF m 38 #[.val (.ref a), .val (.int (5 : Int32)), .val (.int (3 : Int32))] [(.int (1 : Int32)), (.int (3 : Int32)), (.ref b12)])) (fun tG kG => XS.iconst X86.here hx rfl (hb hby own_k195) kG) ?_
  obtain ⟨T87, h87, X87, e87, W87, A87, st87⟩ := own_stI X86 hx hZ e86 f85 (j := (3 : Int32)) (x := (1 : Int32)) ⟨by decide, by decide⟩ (pc := 38) (Ls := #[.val (.ref a), .val (.int (5 : Int32)), .val (.int (3 : Int32))]) (rest := []) (hb hby own_k196)
  have f88 := f80.wr W87
  have f89 := f81.other W87 (Or.inl ne_a_b12)
  have f90 := f82.other W87 (Or.inl ne_a_b12)
  have f91 := f83.wr W87
  have f92 := f84.wr W87
  have f93 := A79.other W87 ne_b2_b12
  replace A87 : Arf Z h87 b12 k12 .int (5 : Int32) own_w1_5 := A87
  have K87 := K79.wr W87 (Or.inr sz_b12)
  have N87 := Fr.snoc X87 N79 g_b12
  have Z87 := Nat.le_trans Z79 (Keep.of_wr W87).1
  refine Go.via (U' := T87.setTop (mkF m 39 #[.val (.ref a), .val (.int (5 : Int32)), .val (.int (3 : Int32))] [])) (fun tG kG => st87 tG kG) ?_
  refine Go.via (U' := T87.setTop (mkF m 42 #[.val (.ref a), .val (.int (5 : Int32)), .val (.int (4 : Int32))] [])) (fun tG kG => XS.iinc X87.here hx rfl (hb hby own_k197) rfl (l' := #[.val (.ref a), .val (.int (5 : Int32)), .val (.int (4 : Int32))]) rfl kG) ?_
  refine Go.via (U' := T87.setTop (mkF m 20 #[.val (.ref a), .val (.int (5 : Int32)), .val (.int (4 : Int32))] [])) (fun tG kG => XS.goto X87.here hx rfl (pc0 := 42) (pc' := 20) rfl (hb hby own_k198) (by decide) (by decide) kG) ?_
  refine Go.via (U' := T87.setTop (mkF m 21 #[.val (.ref a), .val (.int (5 : Int32)), .val (.int (4 : Int32))] [(.int (4 : Int32))])) (fun tG kG => XS.iloadN X87.here hx rfl (hb hby own_k184) rfl kG) ?_
  refine Go.via (U' := T87.setTop (mkF m 22 #[.val (.ref a), .val (.int (5 : Int32)), .val (.int (4 : Int32))] [(.int (5 : Int32)), (.int (4 : Int32))])) (fun tG kG => XS.iloadN X87.here hx rfl (hb hby own_k185) rfl kG) ?_
  have hc22_94 : (4 : Int32) < (5 : Int32) := by decide
  refine Go.via (U' := T87.setTop (mkF m 25 #[.val (.ref a), .val (.int (5 : Int32)), .val (.int (4 : Int32))] [])) (fun tG kG => XS.icmpNo X87.here hx rfl (hb hby own_k186) rfl (tlt hc22_94).2.1 kG) ?_
  refine Go.via (U' := T87.setTop (mkF m 26 #[.val (.ref a), .val (.int (5 : Int32)), .val (.int (4 : Int32))] [(.ref a)])) (fun tG kG => XS.aloadN X87.here hx rfl (hb hby own_k187) rfl rfl kG) ?_
  obtain ⟨T95, X95, e95, st95⟩ := getF X87 hx hZ hown (host := "") (Or.inl (hw _ (List.mem_of_getElem? (i := 10) rfl))) Via.refl e87 f89 (g := (mkF m 26 #[.val (.ref a), .val (.int (5 : Int32)), .val (.int (4 : Int32))] [(.ref a)])) rfl rfl (hb hby own_k188)
  refine Go.via (U' := T95.setTop (mkF m 29 #[.val (.ref a), .val (.int (5 : Int32)), .val (.int (4 : Int32))] [(.ref b2)])) (fun tG kG => st95 tG kG) ?_
  refine Go.via (U' := T95.setTop (mkF m 30 #[.val (.ref a), .val (.int (5 : Int32)), .val (.int (4 : Int32))] [(.int (4 : Int32)), (.ref b2)])) (fun tG kG => XS.iloadN X95.here hx rfl (hb hby own_k189) rfl kG) ?_
  refine Go.via (U' := T95.setTop (mkF m 31 #[.val (.ref a), .val (.int (5 : Int32)), .val (.int (4 : Int32))] [(.int (4 : Int32)), (.int (4 : Int32)), (.ref b2)])) (fun tG kG => XS.iloadN X95.here hx rfl (hb hby own_k190) rfl kG) ?_
  obtain ⟨T96, h96, X96, e96, W96, A96, st96⟩ := own_stI X95 hx hZ e95 f93 (j := (4 : Int32)) (x := (4 : Int32)) ⟨by decide, by decide⟩ (pc := 31) (Ls := #[.val (.ref a), .val (.int (5 : Int32)), .val (.int (4 : Int32))]) (rest := []) (hb hby own_k191)
  have f97 := f88.wr W96
  have f98 := f89.other W96 (Or.inl ne_a_b2)
  have f99 := f90.other W96 (Or.inl ne_a_b2)
  have f100 := f91.wr W96
  have f101 := f92.wr W96
  have f102 := A87.other W96 (Ne.symm ne_b2_b12)
  replace A96 : Arf Z h96 b2 k2 .int (5 : Int32) (own_upd own_w1_4 4 (4 : Int32)) := A96
  have K96 := K87.wr W96 (Or.inr sz_b2)
  have N96 := Fr.snoc X96 N87 g_b2
  have Z96 := Nat.le_trans Z87 (Keep.of_wr W96).1
  refine Go.via (U' := T96.setTop (mkF m 32 #[.val (.ref a), .val (.int (5 : Int32)), .val (.int (4 : Int32))] [])) (fun tG kG => st96 tG kG) ?_
  refine Go.via (U' := T96.setTop (mkF m 33 #[.val (.ref a), .val (.int (5 : Int32)), .val (.int (4 : Int32))] [(.ref a)])) (fun tG kG => XS.aloadN X96.here hx rfl (hb hby own_k192) rfl rfl kG) ?_
  obtain ⟨T103, X103, e103, st103⟩ := getF X96 hx hZ hown (host := "") (Or.inl (hw _ (List.mem_of_getElem? (i := 12) rfl))) Via.refl e96 f99 (g := (mkF m 33 #[.val (.ref a), .val (.int (5 : Int32)), .val (.int (4 : Int32))] [(.ref a)])) rfl rfl (hb hby own_k193)
  refine Go.via (U' := T103.setTop (mkF m 36 #[.val (.ref a), .val (.int (5 : Int32)), .val (.int (4 : Int32))] [(.ref b12)])) (fun tG kG => st103 tG kG) ?_
  refine Go.via (U' := T103.setTop (mkF m 37 #[.val (.ref a), .val (.int (5 : Int32)), .val (.int (4 : Int32))] [(.int (4 : Int32)), (.ref b12)])) (fun tG kG => XS.iloadN X103.here hx rfl (hb hby own_k194) rfl kG) ?_
  refine Go.via (U' := T103.setTop (mkF m 38 #[.val (.ref a), .val (.int (5 : Int32)), .val (.int (4 : Int32))] [(.int (1 : Int32)), (.int (4 : Int32)), (.ref b12)])) (fun tG kG => XS.iconst X103.here hx rfl (hb hby own_k195) kG) ?_
  obtain ⟨T104, h104, X104, e104, W104, A104, st104⟩ := own_stI X103 hx hZ e103 f102 (j := (4 : Int32)) (x := (1 : Int32)) ⟨by decide, by decide⟩ (pc := 38) (Ls := #[.val (.ref a), .val (.int (5 : Int32)), .val (.int (4 : Int32))]) (rest := []) (hb hby own_k196)
  have f105 := f97.wr W104
  have f106 := f98.other W104 (Or.inl ne_a_b12)
  have f107 := f99.other W104 (Or.inl ne_a_b12)
  have f108 := f100.wr W104
  have f109 := f101.wr W104
  have f110 := A96.other W104 ne_b2_b12
  replace A104 : Arf Z h104 b12 k12 .int (5 : Int32) (own_upd own_w1_5 4 (1 : Int32)) := A104
  have K104 := K96.wr W104 (Or.inr sz_b12)
  have N104 := Fr.snoc X104 N96 g_b12
  have Z104 := Nat.le_trans Z96 (Keep.of_wr W104).1
  refine Go.via (U' := T104.setTop (mkF m 39 #[.val (.ref a), .val (.int (5 : Int32)), .val (.int (4 : Int32))] [])) (fun tG kG => st104 tG kG) ?_
  refine Go.via (U' := T104.setTop (mkF m 42 #[.val (.ref a), .val (.int (5 : Int32)), .val (.int (5 : Int32))] [])) (fun tG kG => XS.iinc X104.here hx rfl (hb hby own_k197) rfl (l' := #[.val (.ref a), .val (.int (5 : Int32)), .val (.int (5 : Int32))]) rfl kG) ?_
  refine Go.via (U' := T104.setTop (mkF m 20 #[.val (.ref a), .val (.int (5 : Int32)), .val (.int (5 : Int32))] [])) (fun tG kG => XS.goto X104.here hx rfl (pc0 := 42) (pc' := 20) rfl (hb hby own_k198) (by decide) (by decide) kG) ?_
  refine Go.via (U' := T104.setTop (mkF m 21 #[.val (.ref a), .val (.int (5 : Int32)), .val (.int (5 : Int32))] [(.int (5 : Int32))])) (fun tG kG => XS.iloadN X104.here hx rfl (hb hby own_k184) rfl kG) ?_
  refine Go.via (U' := T104.setTop (mkF m 22 #[.val (.ref a), .val (.int (5 : Int32)), .val (.int (5 : Int32))] [(.int (5 : Int32)), (.int (5 : Int32))])) (fun tG kG => XS.iloadN X104.here hx rfl (hb hby own_k185) rfl kG) ?_
  have hc22_111 : ¬ ((5 : Int32) < (5 : Int32)) := by decide
  refine Go.via (U' := T104.setTop (mkF m 45 #[.val (.ref a), .val (.int (5 : Int32)), .val (.int (5 : Int32))] [])) (fun tG kG => XS.icmpYes X104.here hx rfl (pc0 := 22) (pc' := 45) rfl (hb hby own_k186) rfl (flt hc22_111).2.1 (by decide) (by decide) kG) ?_
  exact go_retV X104 hx hlk hret (hb hby own_k199) e104 ⟨b2, g_b2, sz_b2, b12, g_b12, sz_b12, k2, k12, rfl, N104, K104, f105, f106, f107, f108, f109, f110, A104, ne_b2_b12⟩ (by decide) (by decide)
def own_F5 : Nat → Int32 := (own_upd (own_upd (own_upd (own_upd (own_upd (fun _ => (0 : Int32)) 0 (0 : Int32)) 1 (1 : Int32)) 2 (2 : Int32)) 3 (3 : Int32)) 4 (4 : Int32))
theorem own_five {i : Nat} (h : i < 5) : i = 0 ∨ i = 1 ∨ i = 2 ∨ i = 3 ∨ i = 4 := by omega
theorem own_F5i {i : Nat} (h : i < 5) : own_F5 i = Int32.ofNat i := by
  rcases own_five h with rfl | rfl | rfl | rfl | rfl <;> rfl
theorem own_init : own_I own_F5 own_F5 := by
  refine ⟨fun _ => 0, fun i hi => ?_, fun i hi ne => absurd (own_F5i hi) ne, fun i hi => ?_, fun i j hi hj _ _ e => ?_⟩
  · rw [own_F5i hi]
    rcases own_five hi with rfl | rfl | rfl | rfl | rfl <;> exact ⟨by decide, by decide⟩
  · rw [own_F5i hi, own_nat hi, own_F5i hi]
  · rw [own_F5i hi, own_F5i hj] at e
    have := congrArg Int32.toNatClampNeg e
    rw [own_nat hi, own_nat hj] at this
    exact this
theorem own_k200 (m : MethodId) (x0 : Int32) (x1 : Int32) (x2 : Int32) (x3 : Int32) : entryFrame m #[(.int x0), (.int x1), (.int x2), (.int x3)] maxLocals = mkF m 0 #[.val (.int x0), .val (.int x1), .val (.int x2), .val (.int x3), .unset, .unset, .unset, .unset, .unset, .unset, .unset, .unset, .unset] [] := by first | (simp [entryFrame, mkF, argsToLocals, Value.category, maxLocals]; done) | rfl
theorem own_k201 : parseMethodDescriptor "(I)V" = some ⟨[.int], none⟩ := by decide +kernel
def own_w0_6  : Nat → Int32 := (own_upd (own_upd (own_upd (own_upd (fun _ => (0 : Int32)) 0 (0 : Int32)) 1 (1 : Int32)) 2 (2 : Int32)) 3 (3 : Int32))
theorem own_k202 : parseMethodDescriptor "(Lcom/example/nearprint/nearprint/DisjointSets;[II)V" = some ⟨[(.object "com/example/nearprint/nearprint/DisjointSets"), (.array .int), .int], none⟩ := by decide +kernel
def own_j0_152_s0 (r113 : Int32) (r126 : Int32) : Int32 := (if r113 = r126 then (1 : Int32) else (0 : Int32))
def own_j0_170_s0 (x3 : Int32) (lb101 : Nat → Int32) : Int32 := (if (lb101 ((x3 &&& (255 : Int32)) % (5 : Int32)).toNatClampNeg) = (lb101 (((own_ushr x3 (8 : Int32)) &&& (255 : Int32)) % (5 : Int32)).toNatClampNeg) then (1 : Int32) else (0 : Int32))
set_option maxRecDepth 65536 in
set_option maxHeartbeats 40000000 in
theorem own_rm0 (l : Launch) (Z : State) (a0 : Array Value) (hw : ∀ d ∈ tables_1, d.before a0 Z = true) (ws : List Jvm.Cond) (x0 : Int32) (x1 : Int32) (x2 : Int32) (x3 : Int32) (h0 : Heap) (n0 : Nat) (hn0 : n0 ≤ h0.size) : Meets l Z x code maxLocals ret ws room_1 #[(.int x0), (.int x1), (.int x2), (.int x3)] h0 (fun v h L => v = some (.int 1) ∧ Fr n0 L) := by
  refine meets_of (plainFor_of_name own_k133) ?_
  intro p e s m below meth c s₁ X0 hx hZ hby hml hret hlk hown hnm e0
  replace hml : c.maxLocals = 13 := hml
  replace hown : s.vm.findClass "com/example/nearprint/nearprint/DisjointSetsRootPinLaw" = some m.cls := hown
  refine Go.cast (own_k200 m x0 x1 x2 x3) ?_
  have N0 := Fr.nil n0
  have K0 : Keep h0 h0 [] := Keep.refl h0 _
  obtain ⟨T1, h1, X1, e1, E1, A1, D1, -, st1⟩ := newO X0 hx hZ hown (hw _ (List.mem_of_getElem? (i := 0) rfl)) (hw _ (List.mem_of_getElem? (i := 1) rfl)) (hw _ (List.mem_of_getElem? (i := 2) rfl)) e0 (g := (mkF m 0 #[.val (.int x0), .val (.int x1), .val (.int x2), .val (.int x3), .unset, .unset, .unset, .unset, .unset, .unset, .unset, .unset, .unset] [])) rfl (hb hby at_0) (by decide) (by decide)
  obtain ⟨b1, g1⟩ : ∃ z, z = h0.size := ⟨_, rfl⟩
  rw [← g1] at A1 D1 st1
  have g_b1 : n0 ≤ b1 := Nat.le_trans hn0 (Nat.le_of_eq g1.symm)
  have sz_b1 : h0.size ≤ b1 := Nat.le_trans K0.1 (Nat.le_of_eq g1.symm)
  have K1 := K0.ext E1
  have Z1 := Nat.le_trans hn0 E1.1
  have f2 : Fld Z h1 b1 "com/example/nearprint/nearprint/DisjointSets" "parents" "[I" .null := D1 (Or.inr (hw _ (List.mem_of_getElem? (i := 11) rfl))) (ty := (.array .int)) (by decide)
  have f3 : Fld Z h1 b1 "com/example/nearprint/nearprint/DisjointSets" "sizes" "[I" .null := D1 (Or.inr (hw _ (List.mem_of_getElem? (i := 13) rfl))) (ty := (.array .int)) (by decide)
  refine Go.via (U' := T1.setTop (mkF m 3 #[.val (.int x0), .val (.int x1), .val (.int x2), .val (.int x3), .unset, .unset, .unset, .unset, .unset, .unset, .unset, .unset, .unset] [(.ref b1)])) (fun tG kG => st1 tG kG) ?_
  refine Go.via (U' := T1.setTop (mkF m 4 #[.val (.int x0), .val (.int x1), .val (.int x2), .val (.int x3), .unset, .unset, .unset, .unset, .unset, .unset, .unset, .unset, .unset] [(.ref b1), (.ref b1)])) (fun tG kG => XS.dup X1.here hx rfl (hb hby at_3) rfl rfl kG) ?_
  refine Go.via (U' := T1.setTop (mkF m 5 #[.val (.int x0), .val (.int x1), .val (.int x2), .val (.int x3), .unset, .unset, .unset, .unset, .unset, .unset, .unset, .unset, .unset] [(.int (5 : Int32)), (.ref b1), (.ref b1)])) (fun tG kG => XS.iconst X1.here hx rfl (hb hby at_4) kG) ?_
  obtain ⟨_, T4, L4, X4, ⟨b5, gb5, zb5, b6, gb6, zb6, k7, k8, rfl, N4q, K4q, f9, f10, f11, f12, f13, f14, f15, ne_b5_b6⟩, st4⟩ := callIQ X1 hx hZ rfl hown (hw _ (List.mem_of_getElem? (i := 3) rfl)) (hw _ (List.mem_of_getElem? (i := 4) rfl)) (hw _ (List.mem_of_getElem? (i := 2) rfl)) (hw _ (List.mem_of_getElem? (i := 5) rfl)) (by decide) (b := b1) (av := [(.int (5 : Int32))]) (own_rm1 l Z a0 hw [] b1  h1 n0 Z1 A1 f2 f3 g_b1) e1 (pc := 5) (Ls := #[.val (.int x0), .val (.int x1), .val (.int x2), .val (.int x3), .unset, .unset, .unset, .unset, .unset, .unset, .unset, .unset, .unset]) (rest := [(.ref b1)]) (by rw [hml]; rfl) own_k201 rfl 1 (Nat.le_of_eq rfl) (by decide) (by decide) (by decide) (by decide) (hb hby at_5)
  have f16 := A1.keep K4q
  have N4 := Fr.app N0 N4q
  have Z4 := Nat.le_trans Z1 K4q.1
  have K4 := K1.trans K4q (allS (Or.inr sz_b1) all0)
  have sb5 : h0.size ≤ b5 := Nat.le_trans K1.1 zb5
  have ne_b1_b5 : b1 ≠ b5 := Nat.ne_of_lt (Nat.lt_of_lt_of_le A1.lt zb5)
  have sb6 : h0.size ≤ b6 := Nat.le_trans K1.1 zb6
  have ne_b1_b6 : b1 ≠ b6 := Nat.ne_of_lt (Nat.lt_of_lt_of_le A1.lt zb6)
  refine Go.via (U' := T4.setTop (mkF m 8 #[.val (.int x0), .val (.int x1), .val (.int x2), .val (.int x3), .unset, .unset, .unset, .unset, .unset, .unset, .unset, .unset, .unset] [(.ref b1)])) (fun tG kG => st4 tG kG) ?_
  refine Go.via (U' := T4.setTop (mkF m 10 #[.val (.int x0), .val (.int x1), .val (.int x2), .val (.int x3), .val (.ref b1), .unset, .unset, .unset, .unset, .unset, .unset, .unset, .unset] [])) (fun tG kG => XS.astore X4.here hx rfl (hb hby at_8) rfl rfl (l' := #[.val (.int x0), .val (.int x1), .val (.int x2), .val (.int x3), .val (.ref b1), .unset, .unset, .unset, .unset, .unset, .unset, .unset, .unset]) rfl kG) ?_
  refine Go.via (U' := T4.setTop (mkF m 11 #[.val (.int x0), .val (.int x1), .val (.int x2), .val (.int x3), .val (.ref b1), .unset, .unset, .unset, .unset, .unset, .unset, .unset, .unset] [(.int (5 : Int32))])) (fun tG kG => XS.iconst X4.here hx rfl (hb hby at_10) kG) ?_
  obtain ⟨T17, h17, k17, X17, e17, E17, A17, B17, st17⟩ := newPE X4 hx hZ (hw _ (List.mem_of_getElem? (i := 9) rfl)) rfl (g := (mkF m 11 #[.val (.int x0), .val (.int x1), .val (.int x2), .val (.int x3), .val (.ref b1), .unset, .unset, .unset, .unset, .unset, .unset, .unset, .unset] [(.int (5 : Int32))])) rfl (hb hby at_11) rfl (by decide) (cap := 5) (by decide) (by decide) (by decide) (by decide) (ad := "[I") (by decide)
  obtain ⟨b17, g17⟩ : ∃ z, z = T4.heap.size := ⟨_, rfl⟩
  rw [← g17] at A17 B17 st17
  have g_b17 : n0 ≤ b17 := Nat.le_trans Z4 (Nat.le_of_eq g17.symm)
  have sz_b17 : h0.size ≤ b17 := Nat.le_trans K4.1 (Nat.le_of_eq g17.symm)
  have ne_b1_b17 : b1 ≠ b17 := Nat.ne_of_lt (Nat.lt_of_lt_of_le f9.lt (Nat.le_of_eq g17.symm))
  have ne_b5_b17 : b5 ≠ b17 := Nat.ne_of_lt (Nat.lt_of_lt_of_le f12.lt (Nat.le_of_eq g17.symm))
  have ne_b6_b17 : b6 ≠ b17 := Nat.ne_of_lt (Nat.lt_of_lt_of_le f13.lt (Nat.le_of_eq g17.symm))
  have f18 := f9.ext E17
  have f19 := f10.ext E17
  have f20 := f11.ext E17
  have f21 := f12.ext E17
  have f22 := f13.ext E17
  have f23 := f14.ext E17
  have f24 := f15.ext E17
  have K17 := K4.ext E17
  have Z17 := Nat.le_trans Z4 E17.1
  have V17 : Arf Z h17 b17 k17 .int (5 : Int32) (fun _ => 0) := Arf.new A17 (by decide) rfl rfl
  refine Go.via (U' := T17.setTop (mkF m 13 #[.val (.int x0), .val (.int x1), .val (.int x2), .val (.int x3), .val (.ref b1), .unset, .unset, .unset, .unset, .unset, .unset, .unset, .unset] [(.ref b17)])) (fun tG kG => st17 tG kG) ?_
  refine Go.via (U' := T17.setTop (mkF m 14 #[.val (.int x0), .val (.int x1), .val (.int x2), .val (.int x3), .val (.ref b1), .unset, .unset, .unset, .unset, .unset, .unset, .unset, .unset] [(.ref b17), (.ref b17)])) (fun tG kG => XS.dup X17.here hx rfl (hb hby at_13) rfl rfl kG) ?_
  refine Go.via (U' := T17.setTop (mkF m 15 #[.val (.int x0), .val (.int x1), .val (.int x2), .val (.int x3), .val (.ref b1), .unset, .unset, .unset, .unset, .unset, .unset, .unset, .unset] [(.int (0 : Int32)), (.ref b17), (.ref b17)])) (fun tG kG => XS.iconst X17.here hx rfl (hb hby at_14) kG) ?_
  refine Go.via (U' := T17.setTop (mkF m 16 #[.val (.int x0), .val (.int x1), .val (.int x2), .val (.int x3), .val (.ref b1), .unset, .unset, .unset, .unset, .unset, .unset, .unset, .unset] [(.int (0 : Int32)), (.int (0 : Int32)), (.ref b17), (.ref b17)])) (fun tG kG => XS.iconst X17.here hx rfl (hb hby at_15) kG) ?_
  obtain ⟨T25, h25, X25, e25, W25, A25, st25⟩ := own_stI X17 hx hZ e17 V17 (j := (0 : Int32)) (x := (0 : Int32)) ⟨by decide, by decide⟩ (pc := 16) (Ls := #[.val (.int x0), .val (.int x1), .val (.int x2), .val (.int x3), .val (.ref b1), .unset, .unset, .unset, .unset, .unset, .unset, .unset, .unset]) (rest := [(.ref b17)]) (hb hby at_16)
  have f26 := f18.wr W25
  have f27 := f19.other W25 (Or.inl ne_b1_b17)
  have f28 := f20.other W25 (Or.inl ne_b1_b17)
  have f29 := f21.wr W25
  have f30 := f22.wr W25
  have f31 := f23.other W25 ne_b5_b17
  have f32 := f24.other W25 ne_b6_b17
  have f33 := B17.wr W25
  replace A25 : Arf Z h25 b17 k17 .int (5 : Int32) (own_upd (fun _ => (0 : Int32)) 0 (0 : Int32)) := A25
  have K25 := K17.wr W25 (Or.inr sz_b17)
  have N25 := Fr.snoc X25 N4 g_b17
  have Z25 := Nat.le_trans Z17 (Keep.of_wr W25).1
  refine Go.via (U' := T25.setTop (mkF m 17 #[.val (.int x0), .val (.int x1), .val (.int x2), .val (.int x3), .val (.ref b1), .unset, .unset, .unset, .unset, .unset, .unset, .unset, .unset] [(.ref b17)])) (fun tG kG => st25 tG kG) ?_
  refine Go.via (U' := T25.setTop (mkF m 18 #[.val (.int x0), .val (.int x1), .val (.int x2), .val (.int x3), .val (.ref b1), .unset, .unset, .unset, .unset, .unset, .unset, .unset, .unset] [(.ref b17), (.ref b17)])) (fun tG kG => XS.dup X25.here hx rfl (hb hby at_17) rfl rfl kG) ?_
  refine Go.via (U' := T25.setTop (mkF m 19 #[.val (.int x0), .val (.int x1), .val (.int x2), .val (.int x3), .val (.ref b1), .unset, .unset, .unset, .unset, .unset, .unset, .unset, .unset] [(.int (1 : Int32)), (.ref b17), (.ref b17)])) (fun tG kG => XS.iconst X25.here hx rfl (hb hby at_18) kG) ?_
  refine Go.via (U' := T25.setTop (mkF m 20 #[.val (.int x0), .val (.int x1), .val (.int x2), .val (.int x3), .val (.ref b1), .unset, .unset, .unset, .unset, .unset, .unset, .unset, .unset] [(.int (1 : Int32)), (.int (1 : Int32)), (.ref b17), (.ref b17)])) (fun tG kG => XS.iconst X25.here hx rfl (hb hby at_19) kG) ?_
  obtain ⟨T34, h34, X34, e34, W34, A34, st34⟩ := own_stI X25 hx hZ e25 A25 (j := (1 : Int32)) (x := (1 : Int32)) ⟨by decide, by decide⟩ (pc := 20) (Ls := #[.val (.int x0), .val (.int x1), .val (.int x2), .val (.int x3), .val (.ref b1), .unset, .unset, .unset, .unset, .unset, .unset, .unset, .unset]) (rest := [(.ref b17)]) (hb hby at_20)
  have f35 := f26.wr W34
  have f36 := f27.other W34 (Or.inl ne_b1_b17)
  have f37 := f28.other W34 (Or.inl ne_b1_b17)
  have f38 := f29.wr W34
  have f39 := f30.wr W34
  have f40 := f31.other W34 ne_b5_b17
  have f41 := f32.other W34 ne_b6_b17
  have f42 := f33.wr W34
  replace A34 : Arf Z h34 b17 k17 .int (5 : Int32) (own_upd (own_upd (fun _ => (0 : Int32)) 0 (0 : Int32)) 1 (1 : Int32)) := A34
  have K34 := K25.wr W34 (Or.inr sz_b17)
  have N34 := Fr.snoc X34 N25 g_b17
  have Z34 := Nat.le_trans Z25 (Keep.of_wr W34).1
  refine Go.via (U' := T34.setTop (mkF m 21 #[.val (.int x0), .val (.int x1), .val (.int x2), .val (.int x3), .val (.ref b1), .unset, .unset, .unset, .unset, .unset, .unset, .unset, .unset] [(.ref b17)])) (fun tG kG => st34 tG kG) ?_
  refine Go.via (U' := T34.setTop (mkF m 22 #[.val (.int x0), .val (.int x1), .val (.int x2), .val (.int x3), .val (.ref b1), .unset, .unset, .unset, .unset, .unset, .unset, .unset, .unset] [(.ref b17), (.ref b17)])) (fun tG kG => XS.dup X34.here hx rfl (hb hby at_21) rfl rfl kG) ?_
  refine Go.via (U' := T34.setTop (mkF m 23 #[.val (.int x0), .val (.int x1), .val (.int x2), .val (.int x3), .val (.ref b1), .unset, .unset, .unset, .unset, .unset, .unset, .unset, .unset] [(.int (2 : Int32)), (.ref b17), (.ref b17)])) (fun tG kG => XS.iconst X34.here hx rfl (hb hby at_22) kG) ?_
  refine Go.via (U' := T34.setTop (mkF m 24 #[.val (.int x0), .val (.int x1), .val (.int x2), .val (.int x3), .val (.ref b1), .unset, .unset, .unset, .unset, .unset, .unset, .unset, .unset] [(.int (2 : Int32)), (.int (2 : Int32)), (.ref b17), (.ref b17)])) (fun tG kG => XS.iconst X34.here hx rfl (hb hby at_23) kG) ?_
  obtain ⟨T43, h43, X43, e43, W43, A43, st43⟩ := own_stI X34 hx hZ e34 A34 (j := (2 : Int32)) (x := (2 : Int32)) ⟨by decide, by decide⟩ (pc := 24) (Ls := #[.val (.int x0), .val (.int x1), .val (.int x2), .val (.int x3), .val (.ref b1), .unset, .unset, .unset, .unset, .unset, .unset, .unset, .unset]) (rest := [(.ref b17)]) (hb hby at_24)
  have f44 := f35.wr W43
  have f45 := f36.other W43 (Or.inl ne_b1_b17)
  have f46 := f37.other W43 (Or.inl ne_b1_b17)
  have f47 := f38.wr W43
  have f48 := f39.wr W43
  have f49 := f40.other W43 ne_b5_b17
  have f50 := f41.other W43 ne_b6_b17
  have f51 := f42.wr W43
  replace A43 : Arf Z h43 b17 k17 .int (5 : Int32) (own_upd (own_upd (own_upd (fun _ => (0 : Int32)) 0 (0 : Int32)) 1 (1 : Int32)) 2 (2 : Int32)) := A43
  have K43 := K34.wr W43 (Or.inr sz_b17)
  have N43 := Fr.snoc X43 N34 g_b17
  have Z43 := Nat.le_trans Z34 (Keep.of_wr W43).1
  refine Go.via (U' := T43.setTop (mkF m 25 #[.val (.int x0), .val (.int x1), .val (.int x2), .val (.int x3), .val (.ref b1), .unset, .unset, .unset, .unset, .unset, .unset, .unset, .unset] [(.ref b17)])) (fun tG kG => st43 tG kG) ?_
  refine Go.via (U' := T43.setTop (mkF m 26 #[.val (.int x0), .val (.int x1), .val (.int x2), .val (.int x3), .val (.ref b1), .unset, .unset, .unset, .unset, .unset, .unset, .unset, .unset] [(.ref b17), (.ref b17)])) (fun tG kG => XS.dup X43.here hx rfl (hb hby at_25) rfl rfl kG) ?_
  refine Go.via (U' := T43.setTop (mkF m 27 #[.val (.int x0), .val (.int x1), .val (.int x2), .val (.int x3), .val (.ref b1), .unset, .unset, .unset, .unset, .unset, .unset, .unset, .unset] [(.int (3 : Int32)), (.ref b17), (.ref b17)])) (fun tG kG => XS.iconst X43.here hx rfl (hb hby at_26) kG) ?_
  refine Go.via (U' := T43.setTop (mkF m 28 #[.val (.int x0), .val (.int x1), .val (.int x2), .val (.int x3), .val (.ref b1), .unset, .unset, .unset, .unset, .unset, .unset, .unset, .unset] [(.int (3 : Int32)), (.int (3 : Int32)), (.ref b17), (.ref b17)])) (fun tG kG => XS.iconst X43.here hx rfl (hb hby at_27) kG) ?_
  obtain ⟨T52, h52, X52, e52, W52, A52, st52⟩ := own_stI X43 hx hZ e43 A43 (j := (3 : Int32)) (x := (3 : Int32)) ⟨by decide, by decide⟩ (pc := 28) (Ls := #[.val (.int x0), .val (.int x1), .val (.int x2), .val (.int x3), .val (.ref b1), .unset, .unset, .unset, .unset, .unset, .unset, .unset, .unset]) (rest := [(.ref b17)]) (hb hby at_28)
  have f53 := f44.wr W52
  have f54 := f45.other W52 (Or.inl ne_b1_b17)
  have f55 := f46.other W52 (Or.inl ne_b1_b17)
  have f56 := f47.wr W52
  have f57 := f48.wr W52
  have f58 := f49.other W52 ne_b5_b17
  have f59 := f50.other W52 ne_b6_b17
  have f60 := f51.wr W52
  replace A52 : Arf Z h52 b17 k17 .int (5 : Int32) own_w0_6 := A52
  have K52 := K43.wr W52 (Or.inr sz_b17)
  have N52 := Fr.snoc X52 N43 g_b17
  have Z52 := Nat.le_trans Z43 (Keep.of_wr W52).1
  refine Go.via (U' := T52.setTop (mkF m 29 #[.val (.int x0), .val (.int x1), .val (.int x2), .val (.int x3), .val (.ref b1), .unset, .unset, .unset, .unset, .unset, .unset, .unset, .unset] [(.ref b17)])) (fun tG kG => st52 tG kG) ?_
  refine Go.via (U' := T52.setTop (mkF m 30 #[.val (.int x0), .val (.int x1), .val (.int x2), .val (.int x3), .val (.ref b1), .unset, .unset, .unset, .unset, .unset, .unset, .unset, .unset] [(.ref b17), (.ref b17)])) (fun tG kG => XS.dup X52.here hx rfl (hb hby at_29) rfl rfl kG) ?_
  refine Go.via (U' := T52.setTop (mkF m 31 #[.val (.int x0), .val (.int x1), .val (.int x2), .val (.int x3), .val (.ref b1), .unset, .unset, .unset, .unset, .unset, .unset, .unset, .unset] [(.int (4 : Int32)), (.ref b17), (.ref b17)])) (fun tG kG => XS.iconst X52.here hx rfl (hb hby at_30) kG) ?_
  refine Go.via (U' := T52.setTop (mkF m 32 #[.val (.int x0), .val (.int x1), .val (.int x2), .val (.int x3), .val (.ref b1), .unset, .unset, .unset, .unset, .unset, .unset, .unset, .unset] [(.int (4 : Int32)), (.int (4 : Int32)), (.ref b17), (.ref b17)])) (fun tG kG => XS.iconst X52.here hx rfl (hb hby at_31) kG) ?_
  obtain ⟨T61, h61, X61, e61, W61, A61, st61⟩ := own_stI X52 hx hZ e52 A52 (j := (4 : Int32)) (x := (4 : Int32)) ⟨by decide, by decide⟩ (pc := 32) (Ls := #[.val (.int x0), .val (.int x1), .val (.int x2), .val (.int x3), .val (.ref b1), .unset, .unset, .unset, .unset, .unset, .unset, .unset, .unset]) (rest := [(.ref b17)]) (hb hby at_32)
  have f62 := f53.wr W61
  have f63 := f54.other W61 (Or.inl ne_b1_b17)
  have f64 := f55.other W61 (Or.inl ne_b1_b17)
  have f65 := f56.wr W61
  have f66 := f57.wr W61
  have f67 := f58.other W61 ne_b5_b17
  have f68 := f59.other W61 ne_b6_b17
  have f69 := f60.wr W61
  replace A61 : Arf Z h61 b17 k17 .int (5 : Int32) (own_upd own_w0_6 4 (4 : Int32)) := A61
  have K61 := K52.wr W61 (Or.inr sz_b17)
  have N61 := Fr.snoc X61 N52 g_b17
  have Z61 := Nat.le_trans Z52 (Keep.of_wr W61).1
  refine Go.via (U' := T61.setTop (mkF m 33 #[.val (.int x0), .val (.int x1), .val (.int x2), .val (.int x3), .val (.ref b1), .unset, .unset, .unset, .unset, .unset, .unset, .unset, .unset] [(.ref b17)])) (fun tG kG => st61 tG kG) ?_
  refine Go.via (U' := T61.setTop (mkF m 35 #[.val (.int x0), .val (.int x1), .val (.int x2), .val (.int x3), .val (.ref b1), .val (.ref b17), .unset, .unset, .unset, .unset, .unset, .unset, .unset] [])) (fun tG kG => XS.astore X61.here hx rfl (hb hby at_33) rfl rfl (l' := #[.val (.int x0), .val (.int x1), .val (.int x2), .val (.int x3), .val (.ref b1), .val (.ref b17), .unset, .unset, .unset, .unset, .unset, .unset, .unset]) rfl kG) ?_
  refine Go.via (U' := T61.setTop (mkF m 37 #[.val (.int x0), .val (.int x1), .val (.int x2), .val (.int x3), .val (.ref b1), .val (.ref b17), .unset, .unset, .unset, .unset, .unset, .unset, .unset] [(.ref b1)])) (fun tG kG => XS.aload X61.here hx rfl (hb hby at_35) rfl rfl kG) ?_
  refine Go.via (U' := T61.setTop (mkF m 39 #[.val (.int x0), .val (.int x1), .val (.int x2), .val (.int x3), .val (.ref b1), .val (.ref b17), .unset, .unset, .unset, .unset, .unset, .unset, .unset] [(.ref b17), (.ref b1)])) (fun tG kG => XS.aload X61.here hx rfl (hb hby at_37) rfl rfl kG) ?_
  refine Go.via (U' := T61.setTop (mkF m 40 #[.val (.int x0), .val (.int x1), .val (.int x2), .val (.int x3), .val (.ref b1), .val (.ref b17), .unset, .unset, .unset, .unset, .unset, .unset, .unset] [(.int x0), (.ref b17), (.ref b1)])) (fun tG kG => XS.iloadN X61.here hx rfl (hb hby at_39) rfl kG) ?_
  obtain ⟨_, T70, L70, X70, ⟨fb71, gb72, lb73, rfl, N70q, K70q, f75, f76, f77, hy74⟩, st70⟩ := callSQ X61 hx hZ hown (hw _ (List.mem_of_getElem? (i := 14) rfl)) (hw _ (List.mem_of_getElem? (i := 15) rfl)) (hw _ (List.mem_of_getElem? (i := 16) rfl)) (hw _ (List.mem_of_getElem? (i := 17) rfl)) (by decide) (av := [(.ref b1), (.ref b17), (.int x0)]) (own_rm3 l Z a0 hw [] b1 b17 x0 b5 b6 k7 k8 (own_upd own_w1_4 4 (4 : Int32)) (own_upd own_w1_5 4 (1 : Int32)) (own_upd own_w0_6 4 (4 : Int32)) k17 h61 n0 Z61 f62 f63 f64 f67 f68 gb5 gb6 ne_b1_b5 ne_b1_b6 ne_b5_b6 own_init A61 g_b17 ne_b1_b17 ne_b5_b17 ne_b6_b17) e61 (pc := 40) (Ls := #[.val (.int x0), .val (.int x1), .val (.int x2), .val (.int x3), .val (.ref b1), .val (.ref b17), .unset, .unset, .unset, .unset, .unset, .unset, .unset]) (rest := []) (by rw [hml]; rfl) own_k202 rfl 0 (Nat.le_of_eq rfl) (by decide) (by decide) (by decide) (by decide) (hb hby at_40)
  have f78 := f62.keep K70q
  have f79 := f63.keep K70q (ninS ne_b1_b5 (ninS ne_b1_b6 (ninS ne_b1_b17 nin0)))
  have f80 := f64.keep K70q (ninS ne_b1_b5 (ninS ne_b1_b6 (ninS ne_b1_b17 nin0)))
  have f81 := f65.keep K70q
  have f82 := f66.keep K70q
  have f83 := f69.keep K70q
  have N70 := Fr.app N61 N70q
  have Z70 := Nat.le_trans Z61 K70q.1
  have K70 := K61.trans K70q (allS (Or.inr sb5) (allS (Or.inr sb6) (allS (Or.inr sz_b17) all0)))
  refine Go.via (U' := T70.setTop (mkF m 43 #[.val (.int x0), .val (.int x1), .val (.int x2), .val (.int x3), .val (.ref b1), .val (.ref b17), .unset, .unset, .unset, .unset, .unset, .unset, .unset] [])) (fun tG kG => st70 tG kG) ?_
  refine Go.via (U' := T70.setTop (mkF m 45 #[.val (.int x0), .val (.int x1), .val (.int x2), .val (.int x3), .val (.ref b1), .val (.ref b17), .unset, .unset, .unset, .unset, .unset, .unset, .unset] [(.ref b1)])) (fun tG kG => XS.aload X70.here hx rfl (hb hby at_43) rfl rfl kG) ?_
  refine Go.via (U' := T70.setTop (mkF m 47 #[.val (.int x0), .val (.int x1), .val (.int x2), .val (.int x3), .val (.ref b1), .val (.ref b17), .unset, .unset, .unset, .unset, .unset, .unset, .unset] [(.ref b17), (.ref b1)])) (fun tG kG => XS.aload X70.here hx rfl (hb hby at_45) rfl rfl kG) ?_
  refine Go.via (U' := T70.setTop (mkF m 48 #[.val (.int x0), .val (.int x1), .val (.int x2), .val (.int x3), .val (.ref b1), .val (.ref b17), .unset, .unset, .unset, .unset, .unset, .unset, .unset] [(.int x1), (.ref b17), (.ref b1)])) (fun tG kG => XS.iloadN X70.here hx rfl (hb hby at_47) rfl kG) ?_
  obtain ⟨_, T84, L84, X84, ⟨fb85, gb86, lb87, rfl, N84q, K84q, f89, f90, f91, hy88⟩, st84⟩ := callSQ X70 hx hZ hown (hw _ (List.mem_of_getElem? (i := 14) rfl)) (hw _ (List.mem_of_getElem? (i := 15) rfl)) (hw _ (List.mem_of_getElem? (i := 16) rfl)) (hw _ (List.mem_of_getElem? (i := 17) rfl)) (by decide) (av := [(.ref b1), (.ref b17), (.int x1)]) (own_rm3 l Z a0 hw [] b1 b17 x1 b5 b6 k7 k8 fb71 gb72 lb73 k17 T70.heap n0 Z70 f78 f79 f80 f75 f76 gb5 gb6 ne_b1_b5 ne_b1_b6 ne_b5_b6 hy74 f77 g_b17 ne_b1_b17 ne_b5_b17 ne_b6_b17) rfl (pc := 48) (Ls := #[.val (.int x0), .val (.int x1), .val (.int x2), .val (.int x3), .val (.ref b1), .val (.ref b17), .unset, .unset, .unset, .unset, .unset, .unset, .unset]) (rest := []) (by rw [hml]; rfl) own_k202 rfl 0 (Nat.le_of_eq rfl) (by decide) (by decide) (by decide) (by decide) (hb hby at_48)
  have f92 := f78.keep K84q
  have f93 := f79.keep K84q (ninS ne_b1_b5 (ninS ne_b1_b6 (ninS ne_b1_b17 nin0)))
  have f94 := f80.keep K84q (ninS ne_b1_b5 (ninS ne_b1_b6 (ninS ne_b1_b17 nin0)))
  have f95 := f81.keep K84q
  have f96 := f82.keep K84q
  have f97 := f83.keep K84q
  have N84 := Fr.app N70 N84q
  have Z84 := Nat.le_trans Z70 K84q.1
  have K84 := K70.trans K84q (allS (Or.inr sb5) (allS (Or.inr sb6) (allS (Or.inr sz_b17) all0)))
  refine Go.via (U' := T84.setTop (mkF m 51 #[.val (.int x0), .val (.int x1), .val (.int x2), .val (.int x3), .val (.ref b1), .val (.ref b17), .unset, .unset, .unset, .unset, .unset, .unset, .unset] [])) (fun tG kG => st84 tG kG) ?_
  refine Go.via (U' := T84.setTop (mkF m 53 #[.val (.int x0), .val (.int x1), .val (.int x2), .val (.int x3), .val (.ref b1), .val (.ref b17), .unset, .unset, .unset, .unset, .unset, .unset, .unset] [(.ref b1)])) (fun tG kG => XS.aload X84.here hx rfl (hb hby at_51) rfl rfl kG) ?_
  refine Go.via (U' := T84.setTop (mkF m 55 #[.val (.int x0), .val (.int x1), .val (.int x2), .val (.int x3), .val (.ref b1), .val (.ref b17), .unset, .unset, .unset, .unset, .unset, .unset, .unset] [(.ref b17), (.ref b1)])) (fun tG kG => XS.aload X84.here hx rfl (hb hby at_53) rfl rfl kG) ?_
  refine Go.via (U' := T84.setTop (mkF m 56 #[.val (.int x0), .val (.int x1), .val (.int x2), .val (.int x3), .val (.ref b1), .val (.ref b17), .unset, .unset, .unset, .unset, .unset, .unset, .unset] [(.int x2), (.ref b17), (.ref b1)])) (fun tG kG => XS.iloadN X84.here hx rfl (hb hby at_55) rfl kG) ?_
  obtain ⟨_, T98, L98, X98, ⟨fb99, gb100, lb101, rfl, N98q, K98q, f103, f104, f105, hy102⟩, st98⟩ := callSQ X84 hx hZ hown (hw _ (List.mem_of_getElem? (i := 14) rfl)) (hw _ (List.mem_of_getElem? (i := 15) rfl)) (hw _ (List.mem_of_getElem? (i := 16) rfl)) (hw _ (List.mem_of_getElem? (i := 17) rfl)) (by decide) (av := [(.ref b1), (.ref b17), (.int x2)]) (own_rm3 l Z a0 hw [] b1 b17 x2 b5 b6 k7 k8 fb85 gb86 lb87 k17 T84.heap n0 Z84 f92 f93 f94 f89 f90 gb5 gb6 ne_b1_b5 ne_b1_b6 ne_b5_b6 hy88 f91 g_b17 ne_b1_b17 ne_b5_b17 ne_b6_b17) rfl (pc := 56) (Ls := #[.val (.int x0), .val (.int x1), .val (.int x2), .val (.int x3), .val (.ref b1), .val (.ref b17), .unset, .unset, .unset, .unset, .unset, .unset, .unset]) (rest := []) (by rw [hml]; rfl) own_k202 rfl 0 (Nat.le_of_eq rfl) (by decide) (by decide) (by decide) (by decide) (hb hby at_56)
  have f106 := f92.keep K98q
  have f107 := f93.keep K98q (ninS ne_b1_b5 (ninS ne_b1_b6 (ninS ne_b1_b17 nin0)))
  have f108 := f94.keep K98q (ninS ne_b1_b5 (ninS ne_b1_b6 (ninS ne_b1_b17 nin0)))
  have f109 := f95.keep K98q
  have f110 := f96.keep K98q
  have f111 := f97.keep K98q
  have N98 := Fr.app N84 N98q
  have Z98 := Nat.le_trans Z84 K98q.1
  have K98 := K84.trans K98q (allS (Or.inr sb5) (allS (Or.inr sb6) (allS (Or.inr sz_b17) all0)))
  refine Go.via (U' := T98.setTop (mkF m 59 #[.val (.int x0), .val (.int x1), .val (.int x2), .val (.int x3), .val (.ref b1), .val (.ref b17), .unset, .unset, .unset, .unset, .unset, .unset, .unset] [])) (fun tG kG => st98 tG kG) ?_
  refine Go.via (U' := T98.setTop (mkF m 60 #[.val (.int x0), .val (.int x1), .val (.int x2), .val (.int x3), .val (.ref b1), .val (.ref b17), .unset, .unset, .unset, .unset, .unset, .unset, .unset] [(.int x3)])) (fun tG kG => XS.iloadN X98.here hx rfl (hb hby at_59) rfl kG) ?_
  refine Go.via (U' := T98.setTop (mkF m 63 #[.val (.int x0), .val (.int x1), .val (.int x2), .val (.int x3), .val (.ref b1), .val (.ref b17), .unset, .unset, .unset, .unset, .unset, .unset, .unset] [(.int (255 : Int32)), (.int x3)])) (fun tG kG => XS.sipush X98.here hx rfl (hb hby at_60) kG) ?_
  refine Go.via (U' := T98.setTop (mkF m 64 #[.val (.int x0), .val (.int x1), .val (.int x2), .val (.int x3), .val (.ref b1), .val (.ref b17), .unset, .unset, .unset, .unset, .unset, .unset, .unset] [(.int (x3 &&& (255 : Int32)))])) (fun tG kG => XS.iand X98.here hx rfl (hb hby at_63) rfl kG) ?_
  refine Go.via (U' := T98.setTop (mkF m 65 #[.val (.int x0), .val (.int x1), .val (.int x2), .val (.int x3), .val (.ref b1), .val (.ref b17), .unset, .unset, .unset, .unset, .unset, .unset, .unset] [(.int (5 : Int32)), (.int (x3 &&& (255 : Int32)))])) (fun tG kG => XS.iconst X98.here hx rfl (hb hby at_64) kG) ?_
  refine Go.via (U' := T98.setTop (mkF m 66 #[.val (.int x0), .val (.int x1), .val (.int x2), .val (.int x3), .val (.ref b1), .val (.ref b17), .unset, .unset, .unset, .unset, .unset, .unset, .unset] [(.int ((x3 &&& (255 : Int32)) % (5 : Int32)))])) (fun tG kG => iremM X98 hx rfl (hb hby at_65) rfl (by decide) kG) ?_
  refine Go.via (U' := T98.setTop (mkF m 68 #[.val (.int x0), .val (.int x1), .val (.int x2), .val (.int x3), .val (.ref b1), .val (.ref b17), .val (.int ((x3 &&& (255 : Int32)) % (5 : Int32))), .unset, .unset, .unset, .unset, .unset, .unset] [])) (fun tG kG => XS.istore X98.here hx rfl (hb hby at_66) rfl (l' := #[.val (.int x0), .val (.int x1), .val (.int x2), .val (.int x3), .val (.ref b1), .val (.ref b17), .val (.int ((x3 &&& (255 : Int32)) % (5 : Int32))), .unset, .unset, .unset, .unset, .unset, .unset]) rfl kG) ?_
  refine Go.via (U' := T98.setTop (mkF m 69 #[.val (.int x0), .val (.int x1), .val (.int x2), .val (.int x3), .val (.ref b1), .val (.ref b17), .val (.int ((x3 &&& (255 : Int32)) % (5 : Int32))), .unset, .unset, .unset, .unset, .unset, .unset] [(.int x3)])) (fun tG kG => XS.iloadN X98.here hx rfl (hb hby at_68) rfl kG) ?_
  refine Go.via (U' := T98.setTop (mkF m 71 #[.val (.int x0), .val (.int x1), .val (.int x2), .val (.int x3), .val (.ref b1), .val (.ref b17), .val (.int ((x3 &&& (255 : Int32)) % (5 : Int32))), .unset, .unset, .unset, .unset, .unset, .unset] [(.int (8 : Int32)), (.int x3)])) (fun tG kG => XS.bipush X98.here hx rfl (hb hby at_69) kG) ?_
  refine Go.via (U' := T98.setTop (mkF m 72 #[.val (.int x0), .val (.int x1), .val (.int x2), .val (.int x3), .val (.ref b1), .val (.ref b17), .val (.int ((x3 &&& (255 : Int32)) % (5 : Int32))), .unset, .unset, .unset, .unset, .unset, .unset] [(.int (own_ushr x3 (8 : Int32)))])) (fun tG kG => XS.iushr X98.here hx rfl (hb hby at_71) rfl kG) ?_
  refine Go.via (U' := T98.setTop (mkF m 75 #[.val (.int x0), .val (.int x1), .val (.int x2), .val (.int x3), .val (.ref b1), .val (.ref b17), .val (.int ((x3 &&& (255 : Int32)) % (5 : Int32))), .unset, .unset, .unset, .unset, .unset, .unset] [(.int (255 : Int32)), (.int (own_ushr x3 (8 : Int32)))])) (fun tG kG => XS.sipush X98.here hx rfl (hb hby at_72) kG) ?_
  refine Go.via (U' := T98.setTop (mkF m 76 #[.val (.int x0), .val (.int x1), .val (.int x2), .val (.int x3), .val (.ref b1), .val (.ref b17), .val (.int ((x3 &&& (255 : Int32)) % (5 : Int32))), .unset, .unset, .unset, .unset, .unset, .unset] [(.int ((own_ushr x3 (8 : Int32)) &&& (255 : Int32)))])) (fun tG kG => XS.iand X98.here hx rfl (hb hby at_75) rfl kG) ?_
  refine Go.via (U' := T98.setTop (mkF m 77 #[.val (.int x0), .val (.int x1), .val (.int x2), .val (.int x3), .val (.ref b1), .val (.ref b17), .val (.int ((x3 &&& (255 : Int32)) % (5 : Int32))), .unset, .unset, .unset, .unset, .unset, .unset] [(.int (5 : Int32)), (.int ((own_ushr x3 (8 : Int32)) &&& (255 : Int32)))])) (fun tG kG => XS.iconst X98.here hx rfl (hb hby at_76) kG) ?_
  refine Go.via (U' := T98.setTop (mkF m 78 #[.val (.int x0), .val (.int x1), .val (.int x2), .val (.int x3), .val (.ref b1), .val (.ref b17), .val (.int ((x3 &&& (255 : Int32)) % (5 : Int32))), .unset, .unset, .unset, .unset, .unset, .unset] [(.int (((own_ushr x3 (8 : Int32)) &&& (255 : Int32)) % (5 : Int32)))])) (fun tG kG => iremM X98 hx rfl (hb hby at_77) rfl (by decide) kG) ?_
  refine Go.via (U' := T98.setTop (mkF m 80 #[.val (.int x0), .val (.int x1), .val (.int x2), .val (.int x3), .val (.ref b1), .val (.ref b17), .val (.int ((x3 &&& (255 : Int32)) % (5 : Int32))), .val (.int (((own_ushr x3 (8 : Int32)) &&& (255 : Int32)) % (5 : Int32))), .unset, .unset, .unset, .unset, .unset] [])) (fun tG kG => XS.istore X98.here hx rfl (hb hby at_78) rfl (l' := #[.val (.int x0), .val (.int x1), .val (.int x2), .val (.int x3), .val (.ref b1), .val (.ref b17), .val (.int ((x3 &&& (255 : Int32)) % (5 : Int32))), .val (.int (((own_ushr x3 (8 : Int32)) &&& (255 : Int32)) % (5 : Int32))), .unset, .unset, .unset, .unset, .unset]) rfl kG) ?_
  refine Go.via (U' := T98.setTop (mkF m 82 #[.val (.int x0), .val (.int x1), .val (.int x2), .val (.int x3), .val (.ref b1), .val (.ref b17), .val (.int ((x3 &&& (255 : Int32)) % (5 : Int32))), .val (.int (((own_ushr x3 (8 : Int32)) &&& (255 : Int32)) % (5 : Int32))), .unset, .unset, .unset, .unset, .unset] [(.ref b1)])) (fun tG kG => XS.aload X98.here hx rfl (hb hby at_80) rfl rfl kG) ?_
  refine Go.via (U' := T98.setTop (mkF m 84 #[.val (.int x0), .val (.int x1), .val (.int x2), .val (.int x3), .val (.ref b1), .val (.ref b17), .val (.int ((x3 &&& (255 : Int32)) % (5 : Int32))), .val (.int (((own_ushr x3 (8 : Int32)) &&& (255 : Int32)) % (5 : Int32))), .unset, .unset, .unset, .unset, .unset] [(.int ((x3 &&& (255 : Int32)) % (5 : Int32))), (.ref b1)])) (fun tG kG => XS.iload X98.here hx rfl (hb hby at_82) rfl kG) ?_
  obtain ⟨_, T112, L112, X112, ⟨r113, fr114, rfl, N112q, K112q, f116, hy115⟩, st112⟩ := callVQ X98 hx hZ hown (hw _ (List.mem_of_getElem? (i := 31) rfl)) (hw _ (List.mem_of_getElem? (i := 24) rfl)) (hw _ (List.mem_of_getElem? (i := 26) rfl)) (hw _ (List.mem_of_getElem? (i := 25) rfl)) (hw _ (List.mem_of_getElem? (i := 2) rfl)) (hw _ (List.mem_of_getElem? (i := 27) rfl)) (by decide) (b := b1) (av := [(.int ((x3 &&& (255 : Int32)) % (5 : Int32)))]) f106 (own_rm5 l Z a0 hw [] b1 ((x3 &&& (255 : Int32)) % (5 : Int32)) b5 k7 fb99 lb101 T98.heap n0 Z98 f107 f103 gb5 ne_b1_b5 hy102 (own_inA x3)) rfl (pc := 84) (Ls := #[.val (.int x0), .val (.int x1), .val (.int x2), .val (.int x3), .val (.ref b1), .val (.ref b17), .val (.int ((x3 &&& (255 : Int32)) % (5 : Int32))), .val (.int (((own_ushr x3 (8 : Int32)) &&& (255 : Int32)) % (5 : Int32))), .unset, .unset, .unset, .unset, .unset]) (rest := []) (by rw [hml]; rfl) own_k32 rfl 0 (Nat.le_of_eq rfl) (by decide) (by decide) (by decide) (by decide) (hb hby at_84)
  have f117 := f106.keep K112q
  have f118 := f107.keep K112q (ninS ne_b1_b5 nin0)
  have f119 := f108.keep K112q (ninS ne_b1_b5 nin0)
  have f120 := f109.keep K112q
  have f121 := f110.keep K112q
  have f122 := f111.keep K112q
  have f123 := f104.keep K112q (ninS (Ne.symm ne_b5_b6) nin0)
  have f124 := f105.keep K112q (ninS (Ne.symm ne_b5_b17) nin0)
  have N112 := Fr.app N98 N112q
  have Z112 := Nat.le_trans Z98 K112q.1
  have K112 := K98.trans K112q (allS (Or.inr sb5) all0)
  refine Go.via (U' := T112.setTop (mkF m 87 #[.val (.int x0), .val (.int x1), .val (.int x2), .val (.int x3), .val (.ref b1), .val (.ref b17), .val (.int ((x3 &&& (255 : Int32)) % (5 : Int32))), .val (.int (((own_ushr x3 (8 : Int32)) &&& (255 : Int32)) % (5 : Int32))), .unset, .unset, .unset, .unset, .unset] [(.int r113)])) (fun tG kG => st112 tG kG) ?_
  refine Go.via (U' := T112.setTop (mkF m 89 #[.val (.int x0), .val (.int x1), .val (.int x2), .val (.int x3), .val (.ref b1), .val (.ref b17), .val (.int ((x3 &&& (255 : Int32)) % (5 : Int32))), .val (.int (((own_ushr x3 (8 : Int32)) &&& (255 : Int32)) % (5 : Int32))), .val (.int r113), .unset, .unset, .unset, .unset] [])) (fun tG kG => XS.istore X112.here hx rfl (hb hby at_87) rfl (l' := #[.val (.int x0), .val (.int x1), .val (.int x2), .val (.int x3), .val (.ref b1), .val (.ref b17), .val (.int ((x3 &&& (255 : Int32)) % (5 : Int32))), .val (.int (((own_ushr x3 (8 : Int32)) &&& (255 : Int32)) % (5 : Int32))), .val (.int r113), .unset, .unset, .unset, .unset]) rfl kG) ?_
  refine Go.via (U' := T112.setTop (mkF m 91 #[.val (.int x0), .val (.int x1), .val (.int x2), .val (.int x3), .val (.ref b1), .val (.ref b17), .val (.int ((x3 &&& (255 : Int32)) % (5 : Int32))), .val (.int (((own_ushr x3 (8 : Int32)) &&& (255 : Int32)) % (5 : Int32))), .val (.int r113), .unset, .unset, .unset, .unset] [(.ref b1)])) (fun tG kG => XS.aload X112.here hx rfl (hb hby at_89) rfl rfl kG) ?_
  refine Go.via (U' := T112.setTop (mkF m 93 #[.val (.int x0), .val (.int x1), .val (.int x2), .val (.int x3), .val (.ref b1), .val (.ref b17), .val (.int ((x3 &&& (255 : Int32)) % (5 : Int32))), .val (.int (((own_ushr x3 (8 : Int32)) &&& (255 : Int32)) % (5 : Int32))), .val (.int r113), .unset, .unset, .unset, .unset] [(.int (((own_ushr x3 (8 : Int32)) &&& (255 : Int32)) % (5 : Int32))), (.ref b1)])) (fun tG kG => XS.iload X112.here hx rfl (hb hby at_91) rfl kG) ?_
  obtain ⟨_, T125, L125, X125, ⟨r126, fr127, rfl, N125q, K125q, f129, hy128⟩, st125⟩ := callVQ X112 hx hZ hown (hw _ (List.mem_of_getElem? (i := 31) rfl)) (hw _ (List.mem_of_getElem? (i := 24) rfl)) (hw _ (List.mem_of_getElem? (i := 26) rfl)) (hw _ (List.mem_of_getElem? (i := 25) rfl)) (hw _ (List.mem_of_getElem? (i := 2) rfl)) (hw _ (List.mem_of_getElem? (i := 27) rfl)) (by decide) (b := b1) (av := [(.int (((own_ushr x3 (8 : Int32)) &&& (255 : Int32)) % (5 : Int32)))]) f117 (own_rm5 l Z a0 hw [] b1 (((own_ushr x3 (8 : Int32)) &&& (255 : Int32)) % (5 : Int32)) b5 k7 fr114 lb101 T112.heap n0 Z112 f118 f116 gb5 ne_b1_b5 hy115.1 (own_inB x3)) rfl (pc := 93) (Ls := #[.val (.int x0), .val (.int x1), .val (.int x2), .val (.int x3), .val (.ref b1), .val (.ref b17), .val (.int ((x3 &&& (255 : Int32)) % (5 : Int32))), .val (.int (((own_ushr x3 (8 : Int32)) &&& (255 : Int32)) % (5 : Int32))), .val (.int r113), .unset, .unset, .unset, .unset]) (rest := []) (by rw [hml]; rfl) own_k32 rfl 0 (Nat.le_of_eq rfl) (by decide) (by decide) (by decide) (by decide) (hb hby at_93)
  have f130 := f117.keep K125q
  have f131 := f118.keep K125q (ninS ne_b1_b5 nin0)
  have f132 := f119.keep K125q (ninS ne_b1_b5 nin0)
  have f133 := f120.keep K125q
  have f134 := f121.keep K125q
  have f135 := f122.keep K125q
  have f136 := f123.keep K125q (ninS (Ne.symm ne_b5_b6) nin0)
  have f137 := f124.keep K125q (ninS (Ne.symm ne_b5_b17) nin0)
  have N125 := Fr.app N112 N125q
  have Z125 := Nat.le_trans Z112 K125q.1
  have K125 := K112.trans K125q (allS (Or.inr sb5) all0)
  refine Go.via (U' := T125.setTop (mkF m 96 #[.val (.int x0), .val (.int x1), .val (.int x2), .val (.int x3), .val (.ref b1), .val (.ref b17), .val (.int ((x3 &&& (255 : Int32)) % (5 : Int32))), .val (.int (((own_ushr x3 (8 : Int32)) &&& (255 : Int32)) % (5 : Int32))), .val (.int r113), .unset, .unset, .unset, .unset] [(.int r126)])) (fun tG kG => st125 tG kG) ?_
  refine Go.via (U' := T125.setTop (mkF m 98 #[.val (.int x0), .val (.int x1), .val (.int x2), .val (.int x3), .val (.ref b1), .val (.ref b17), .val (.int ((x3 &&& (255 : Int32)) % (5 : Int32))), .val (.int (((own_ushr x3 (8 : Int32)) &&& (255 : Int32)) % (5 : Int32))), .val (.int r113), .val (.int r126), .unset, .unset, .unset] [])) (fun tG kG => XS.istore X125.here hx rfl (hb hby at_96) rfl (l' := #[.val (.int x0), .val (.int x1), .val (.int x2), .val (.int x3), .val (.ref b1), .val (.ref b17), .val (.int ((x3 &&& (255 : Int32)) % (5 : Int32))), .val (.int (((own_ushr x3 (8 : Int32)) &&& (255 : Int32)) % (5 : Int32))), .val (.int r113), .val (.int r126), .unset, .unset, .unset]) rfl kG) ?_
  refine Go.via (U' := T125.setTop (mkF m 100 #[.val (.int x0), .val (.int x1), .val (.int x2), .val (.int x3), .val (.ref b1), .val (.ref b17), .val (.int ((x3 &&& (255 : Int32)) % (5 : Int32))), .val (.int (((own_ushr x3 (8 : Int32)) &&& (255 : Int32)) % (5 : Int32))), .val (.int r113), .val (.int r126), .unset, .unset, .unset] [(.int r113)])) (fun tG kG => XS.iload X125.here hx rfl (hb hby at_98) rfl kG) ?_
  have hc100 : ¬ (r113 < (0 : Int32)) := hy115.2.2.1.1
  refine Go.via (U' := T125.setTop (mkF m 103 #[.val (.int x0), .val (.int x1), .val (.int x2), .val (.int x3), .val (.ref b1), .val (.ref b17), .val (.int ((x3 &&& (255 : Int32)) % (5 : Int32))), .val (.int (((own_ushr x3 (8 : Int32)) &&& (255 : Int32)) % (5 : Int32))), .val (.int r113), .val (.int r126), .unset, .unset, .unset] [])) (fun tG kG => XS.ifNo X125.here hx rfl (hb hby at_100) rfl ((if0 _ _).trans (flt hc100).1) kG) ?_
  refine Go.via (U' := T125.setTop (mkF m 105 #[.val (.int x0), .val (.int x1), .val (.int x2), .val (.int x3), .val (.ref b1), .val (.ref b17), .val (.int ((x3 &&& (255 : Int32)) % (5 : Int32))), .val (.int (((own_ushr x3 (8 : Int32)) &&& (255 : Int32)) % (5 : Int32))), .val (.int r113), .val (.int r126), .unset, .unset, .unset] [(.int r113)])) (fun tG kG => XS.iload X125.here hx rfl (hb hby at_103) rfl kG) ?_
  refine Go.via (U' := T125.setTop (mkF m 106 #[.val (.int x0), .val (.int x1), .val (.int x2), .val (.int x3), .val (.ref b1), .val (.ref b17), .val (.int ((x3 &&& (255 : Int32)) % (5 : Int32))), .val (.int (((own_ushr x3 (8 : Int32)) &&& (255 : Int32)) % (5 : Int32))), .val (.int r113), .val (.int r126), .unset, .unset, .unset] [(.int (5 : Int32)), (.int r113)])) (fun tG kG => XS.iconst X125.here hx rfl (hb hby at_105) kG) ?_
  have hc106 : r113 < (5 : Int32) := hy115.2.2.1.2
  refine Go.via (U' := T125.setTop (mkF m 109 #[.val (.int x0), .val (.int x1), .val (.int x2), .val (.int x3), .val (.ref b1), .val (.ref b17), .val (.int ((x3 &&& (255 : Int32)) % (5 : Int32))), .val (.int (((own_ushr x3 (8 : Int32)) &&& (255 : Int32)) % (5 : Int32))), .val (.int r113), .val (.int r126), .unset, .unset, .unset] [])) (fun tG kG => XS.icmpNo X125.here hx rfl (hb hby at_106) rfl (tlt hc106).2.1 kG) ?_
  refine Go.via (U' := T125.setTop (mkF m 111 #[.val (.int x0), .val (.int x1), .val (.int x2), .val (.int x3), .val (.ref b1), .val (.ref b17), .val (.int ((x3 &&& (255 : Int32)) % (5 : Int32))), .val (.int (((own_ushr x3 (8 : Int32)) &&& (255 : Int32)) % (5 : Int32))), .val (.int r113), .val (.int r126), .unset, .unset, .unset] [(.int r126)])) (fun tG kG => XS.iload X125.here hx rfl (hb hby at_109) rfl kG) ?_
  have hc111 : ¬ (r126 < (0 : Int32)) := hy128.2.2.1.1
  refine Go.via (U' := T125.setTop (mkF m 114 #[.val (.int x0), .val (.int x1), .val (.int x2), .val (.int x3), .val (.ref b1), .val (.ref b17), .val (.int ((x3 &&& (255 : Int32)) % (5 : Int32))), .val (.int (((own_ushr x3 (8 : Int32)) &&& (255 : Int32)) % (5 : Int32))), .val (.int r113), .val (.int r126), .unset, .unset, .unset] [])) (fun tG kG => XS.ifNo X125.here hx rfl (hb hby at_111) rfl ((if0 _ _).trans (flt hc111).1) kG) ?_
  refine Go.via (U' := T125.setTop (mkF m 116 #[.val (.int x0), .val (.int x1), .val (.int x2), .val (.int x3), .val (.ref b1), .val (.ref b17), .val (.int ((x3 &&& (255 : Int32)) % (5 : Int32))), .val (.int (((own_ushr x3 (8 : Int32)) &&& (255 : Int32)) % (5 : Int32))), .val (.int r113), .val (.int r126), .unset, .unset, .unset] [(.int r126)])) (fun tG kG => XS.iload X125.here hx rfl (hb hby at_114) rfl kG) ?_
  refine Go.via (U' := T125.setTop (mkF m 117 #[.val (.int x0), .val (.int x1), .val (.int x2), .val (.int x3), .val (.ref b1), .val (.ref b17), .val (.int ((x3 &&& (255 : Int32)) % (5 : Int32))), .val (.int (((own_ushr x3 (8 : Int32)) &&& (255 : Int32)) % (5 : Int32))), .val (.int r113), .val (.int r126), .unset, .unset, .unset] [(.int (5 : Int32)), (.int r126)])) (fun tG kG => XS.iconst X125.here hx rfl (hb hby at_116) kG) ?_
  have hc117 : r126 < (5 : Int32) := hy128.2.2.1.2
  refine Go.via (U' := T125.setTop (mkF m 122 #[.val (.int x0), .val (.int x1), .val (.int x2), .val (.int x3), .val (.ref b1), .val (.ref b17), .val (.int ((x3 &&& (255 : Int32)) % (5 : Int32))), .val (.int (((own_ushr x3 (8 : Int32)) &&& (255 : Int32)) % (5 : Int32))), .val (.int r113), .val (.int r126), .unset, .unset, .unset] [])) (fun tG kG => XS.icmpYes X125.here hx rfl (pc0 := 117) (pc' := 122) rfl (hb hby at_117) rfl (tlt hc117).1 (by decide) (by decide) kG) ?_
  refine Go.via (U' := T125.setTop (mkF m 124 #[.val (.int x0), .val (.int x1), .val (.int x2), .val (.int x3), .val (.ref b1), .val (.ref b17), .val (.int ((x3 &&& (255 : Int32)) % (5 : Int32))), .val (.int (((own_ushr x3 (8 : Int32)) &&& (255 : Int32)) % (5 : Int32))), .val (.int r113), .val (.int r126), .unset, .unset, .unset] [(.ref b17)])) (fun tG kG => XS.aload X125.here hx rfl (hb hby at_122) rfl rfl kG) ?_
  refine Go.via (U' := T125.setTop (mkF m 126 #[.val (.int x0), .val (.int x1), .val (.int x2), .val (.int x3), .val (.ref b1), .val (.ref b17), .val (.int ((x3 &&& (255 : Int32)) % (5 : Int32))), .val (.int (((own_ushr x3 (8 : Int32)) &&& (255 : Int32)) % (5 : Int32))), .val (.int r113), .val (.int r126), .unset, .unset, .unset] [(.int r113), (.ref b17)])) (fun tG kG => XS.iload X125.here hx rfl (hb hby at_124) rfl kG) ?_
  refine Go.via (U' := T125.setTop (mkF m 127 #[.val (.int x0), .val (.int x1), .val (.int x2), .val (.int x3), .val (.ref b1), .val (.ref b17), .val (.int ((x3 &&& (255 : Int32)) % (5 : Int32))), .val (.int (((own_ushr x3 (8 : Int32)) &&& (255 : Int32)) % (5 : Int32))), .val (.int r113), .val (.int r126), .unset, .unset, .unset] [(.int (lb101 r113.toNatClampNeg))])) (fun tG kG => own_ldI X125 hx hZ rfl f137 (j := r113) hy115.2.2.1 (hb hby at_126) tG kG) ?_
  refine Go.via (U' := T125.setTop (mkF m 129 #[.val (.int x0), .val (.int x1), .val (.int x2), .val (.int x3), .val (.ref b1), .val (.ref b17), .val (.int ((x3 &&& (255 : Int32)) % (5 : Int32))), .val (.int (((own_ushr x3 (8 : Int32)) &&& (255 : Int32)) % (5 : Int32))), .val (.int r113), .val (.int r126), .unset, .unset, .unset] [(.ref b17), (.int (lb101 r113.toNatClampNeg))])) (fun tG kG => XS.aload X125.here hx rfl (hb hby at_127) rfl rfl kG) ?_
  refine Go.via (U' := T125.setTop (mkF m 131 #[.val (.int x0), .val (.int x1), .val (.int x2), .val (.int x3), .val (.ref b1), .val (.ref b17), .val (.int ((x3 &&& (255 : Int32)) % (5 : Int32))), .val (.int (((own_ushr x3 (8 : Int32)) &&& (255 : Int32)) % (5 : Int32))), .val (.int r113), .val (.int r126), .unset, .unset, .unset] [(.int ((x3 &&& (255 : Int32)) % (5 : Int32))), (.ref b17), (.int (lb101 r113.toNatClampNeg))])) (fun tG kG => XS.iload X125.here hx rfl (hb hby at_129) rfl kG) ?_
  refine Go.via (U' := T125.setTop (mkF m 132 #[.val (.int x0), .val (.int x1), .val (.int x2), .val (.int x3), .val (.ref b1), .val (.ref b17), .val (.int ((x3 &&& (255 : Int32)) % (5 : Int32))), .val (.int (((own_ushr x3 (8 : Int32)) &&& (255 : Int32)) % (5 : Int32))), .val (.int r113), .val (.int r126), .unset, .unset, .unset] [(.int (lb101 ((x3 &&& (255 : Int32)) % (5 : Int32)).toNatClampNeg)), (.int (lb101 r113.toNatClampNeg))])) (fun tG kG => own_ldI X125 hx hZ rfl f137 (j := ((x3 &&& (255 : Int32)) % (5 : Int32))) (own_inA x3) (hb hby at_131) tG kG) ?_
  have hc132 : (lb101 r113.toNatClampNeg) = (lb101 ((x3 &&& (255 : Int32)) % (5 : Int32)).toNatClampNeg) := hy115.2.2.2.2
  refine Go.via (U' := T125.setTop (mkF m 135 #[.val (.int x0), .val (.int x1), .val (.int x2), .val (.int x3), .val (.ref b1), .val (.ref b17), .val (.int ((x3 &&& (255 : Int32)) % (5 : Int32))), .val (.int (((own_ushr x3 (8 : Int32)) &&& (255 : Int32)) % (5 : Int32))), .val (.int r113), .val (.int r126), .unset, .unset, .unset] [])) (fun tG kG => XS.icmpNo X125.here hx rfl (hb hby at_132) rfl (teq hc132).2 kG) ?_
  refine Go.via (U' := T125.setTop (mkF m 137 #[.val (.int x0), .val (.int x1), .val (.int x2), .val (.int x3), .val (.ref b1), .val (.ref b17), .val (.int ((x3 &&& (255 : Int32)) % (5 : Int32))), .val (.int (((own_ushr x3 (8 : Int32)) &&& (255 : Int32)) % (5 : Int32))), .val (.int r113), .val (.int r126), .unset, .unset, .unset] [(.ref b17)])) (fun tG kG => XS.aload X125.here hx rfl (hb hby at_135) rfl rfl kG) ?_
  refine Go.via (U' := T125.setTop (mkF m 139 #[.val (.int x0), .val (.int x1), .val (.int x2), .val (.int x3), .val (.ref b1), .val (.ref b17), .val (.int ((x3 &&& (255 : Int32)) % (5 : Int32))), .val (.int (((own_ushr x3 (8 : Int32)) &&& (255 : Int32)) % (5 : Int32))), .val (.int r113), .val (.int r126), .unset, .unset, .unset] [(.int r126), (.ref b17)])) (fun tG kG => XS.iload X125.here hx rfl (hb hby at_137) rfl kG) ?_
  refine Go.via (U' := T125.setTop (mkF m 140 #[.val (.int x0), .val (.int x1), .val (.int x2), .val (.int x3), .val (.ref b1), .val (.ref b17), .val (.int ((x3 &&& (255 : Int32)) % (5 : Int32))), .val (.int (((own_ushr x3 (8 : Int32)) &&& (255 : Int32)) % (5 : Int32))), .val (.int r113), .val (.int r126), .unset, .unset, .unset] [(.int (lb101 r126.toNatClampNeg))])) (fun tG kG => own_ldI X125 hx hZ rfl f137 (j := r126) hy128.2.2.1 (hb hby at_139) tG kG) ?_
  refine Go.via (U' := T125.setTop (mkF m 142 #[.val (.int x0), .val (.int x1), .val (.int x2), .val (.int x3), .val (.ref b1), .val (.ref b17), .val (.int ((x3 &&& (255 : Int32)) % (5 : Int32))), .val (.int (((own_ushr x3 (8 : Int32)) &&& (255 : Int32)) % (5 : Int32))), .val (.int r113), .val (.int r126), .unset, .unset, .unset] [(.ref b17), (.int (lb101 r126.toNatClampNeg))])) (fun tG kG => XS.aload X125.here hx rfl (hb hby at_140) rfl rfl kG) ?_
  refine Go.via (U' := T125.setTop (mkF m 144 #[.val (.int x0), .val (.int x1), .val (.int x2), .val (.int x3), .val (.ref b1), .val (.ref b17), .val (.int ((x3 &&& (255 : Int32)) % (5 : Int32))), .val (.int (((own_ushr x3 (8 : Int32)) &&& (255 : Int32)) % (5 : Int32))), .val (.int r113), .val (.int r126), .unset, .unset, .unset] [(.int (((own_ushr x3 (8 : Int32)) &&& (255 : Int32)) % (5 : Int32))), (.ref b17), (.int (lb101 r126.toNatClampNeg))])) (fun tG kG => XS.iload X125.here hx rfl (hb hby at_142) rfl kG) ?_
  refine Go.via (U' := T125.setTop (mkF m 145 #[.val (.int x0), .val (.int x1), .val (.int x2), .val (.int x3), .val (.ref b1), .val (.ref b17), .val (.int ((x3 &&& (255 : Int32)) % (5 : Int32))), .val (.int (((own_ushr x3 (8 : Int32)) &&& (255 : Int32)) % (5 : Int32))), .val (.int r113), .val (.int r126), .unset, .unset, .unset] [(.int (lb101 (((own_ushr x3 (8 : Int32)) &&& (255 : Int32)) % (5 : Int32)).toNatClampNeg)), (.int (lb101 r126.toNatClampNeg))])) (fun tG kG => own_ldI X125 hx hZ rfl f137 (j := (((own_ushr x3 (8 : Int32)) &&& (255 : Int32)) % (5 : Int32))) (own_inB x3) (hb hby at_144) tG kG) ?_
  have hc145 : (lb101 r126.toNatClampNeg) = (lb101 (((own_ushr x3 (8 : Int32)) &&& (255 : Int32)) % (5 : Int32)).toNatClampNeg) := hy128.2.2.2.2
  refine Go.via (U' := T125.setTop (mkF m 148 #[.val (.int x0), .val (.int x1), .val (.int x2), .val (.int x3), .val (.ref b1), .val (.ref b17), .val (.int ((x3 &&& (255 : Int32)) % (5 : Int32))), .val (.int (((own_ushr x3 (8 : Int32)) &&& (255 : Int32)) % (5 : Int32))), .val (.int r113), .val (.int r126), .unset, .unset, .unset] [])) (fun tG kG => XS.icmpNo X125.here hx rfl (hb hby at_145) rfl (teq hc145).2 kG) ?_
  refine Go.via (U' := T125.setTop (mkF m 150 #[.val (.int x0), .val (.int x1), .val (.int x2), .val (.int x3), .val (.ref b1), .val (.ref b17), .val (.int ((x3 &&& (255 : Int32)) % (5 : Int32))), .val (.int (((own_ushr x3 (8 : Int32)) &&& (255 : Int32)) % (5 : Int32))), .val (.int r113), .val (.int r126), .unset, .unset, .unset] [(.int r113)])) (fun tG kG => XS.iload X125.here hx rfl (hb hby at_148) rfl kG) ?_
  refine Go.via (U' := T125.setTop (mkF m 152 #[.val (.int x0), .val (.int x1), .val (.int x2), .val (.int x3), .val (.ref b1), .val (.ref b17), .val (.int ((x3 &&& (255 : Int32)) % (5 : Int32))), .val (.int (((own_ushr x3 (8 : Int32)) &&& (255 : Int32)) % (5 : Int32))), .val (.int r113), .val (.int r126), .unset, .unset, .unset] [(.int r126), (.int r113)])) (fun tG kG => XS.iload X125.here hx rfl (hb hby at_150) rfl kG) ?_
  have J138 : ∀ T' L', Stand p l e room_1 s m #[(.int x0), (.int x1), (.int x2), (.int x3)] below meth c T' L' 4 17 → T'.heap = T125.heap → Fr n0 L' → Go p e below s room_1.cells room_1.slots (fun v h L => v = some (.int 1) ∧ Fr n0 L) (T'.setTop (mkF m 160 #[.val (.int x0), .val (.int x1), .val (.int x2), .val (.int x3), .val (.ref b1), .val (.ref b17), .val (.int ((x3 &&& (255 : Int32)) % (5 : Int32))), .val (.int (((own_ushr x3 (8 : Int32)) &&& (255 : Int32)) % (5 : Int32))), .val (.int r113), .val (.int r126), .unset, .unset, .unset] [(.int (own_j0_152_s0 r113 r126))])) := by
    intro T139 L142 X140 e141 N143
    refine Go.via (U' := T139.setTop (mkF m 162 #[.val (.int x0), .val (.int x1), .val (.int x2), .val (.int x3), .val (.ref b1), .val (.ref b17), .val (.int ((x3 &&& (255 : Int32)) % (5 : Int32))), .val (.int (((own_ushr x3 (8 : Int32)) &&& (255 : Int32)) % (5 : Int32))), .val (.int r113), .val (.int r126), .unset, .unset, .unset] [(.ref b17), (.int (own_j0_152_s0 r113 r126))])) (fun tG kG => XS.aload X140.here hx rfl (hb hby at_160) rfl rfl kG) ?_
    refine Go.via (U' := T139.setTop (mkF m 164 #[.val (.int x0), .val (.int x1), .val (.int x2), .val (.int x3), .val (.ref b1), .val (.ref b17), .val (.int ((x3 &&& (255 : Int32)) % (5 : Int32))), .val (.int (((own_ushr x3 (8 : Int32)) &&& (255 : Int32)) % (5 : Int32))), .val (.int r113), .val (.int r126), .unset, .unset, .unset] [(.int ((x3 &&& (255 : Int32)) % (5 : Int32))), (.ref b17), (.int (own_j0_152_s0 r113 r126))])) (fun tG kG => XS.iload X140.here hx rfl (hb hby at_162) rfl kG) ?_
    refine Go.via (U' := T139.setTop (mkF m 165 #[.val (.int x0), .val (.int x1), .val (.int x2), .val (.int x3), .val (.ref b1), .val (.ref b17), .val (.int ((x3 &&& (255 : Int32)) % (5 : Int32))), .val (.int (((own_ushr x3 (8 : Int32)) &&& (255 : Int32)) % (5 : Int32))), .val (.int r113), .val (.int r126), .unset, .unset, .unset] [(.int (lb101 ((x3 &&& (255 : Int32)) % (5 : Int32)).toNatClampNeg)), (.int (own_j0_152_s0 r113 r126))])) (fun tG kG => own_ldI X140 hx hZ e141 f137 (j := ((x3 &&& (255 : Int32)) % (5 : Int32))) (own_inA x3) (hb hby at_164) tG kG) ?_
    refine Go.via (U' := T139.setTop (mkF m 167 #[.val (.int x0), .val (.int x1), .val (.int x2), .val (.int x3), .val (.ref b1), .val (.ref b17), .val (.int ((x3 &&& (255 : Int32)) % (5 : Int32))), .val (.int (((own_ushr x3 (8 : Int32)) &&& (255 : Int32)) % (5 : Int32))), .val (.int r113), .val (.int r126), .unset, .unset, .unset] [(.ref b17), (.int (lb101 ((x3 &&& (255 : Int32)) % (5 : Int32)).toNatClampNeg)), (.int (own_j0_152_s0 r113 r126))])) (fun tG kG => XS.aload X140.here hx rfl (hb hby at_165) rfl rfl kG) ?_
    refine Go.via (U' := T139.setTop (mkF m 169 #[.val (.int x0), .val (.int x1), .val (.int x2), .val (.int x3), .val (.ref b1), .val (.ref b17), .val (.int ((x3 &&& (255 : Int32)) % (5 : Int32))), .val (.int (((own_ushr x3 (8 : Int32)) &&& (255 : Int32)) % (5 : Int32))), .val (.int r113), .val (.int r126), .unset, .unset, .unset] [(.int (((own_ushr x3 (8 : Int32)) &&& (255 : Int32)) % (5 : Int32))), (.ref b17), (.int (lb101 ((x3 &&& (255 : Int32)) % (5 : Int32)).toNatClampNeg)), (.int (own_j0_152_s0 r113 r126))])) (fun tG kG => XS.iload X140.here hx rfl (hb hby at_167) rfl kG) ?_
    refine Go.via (U' := T139.setTop (mkF m 170 #[.val (.int x0), .val (.int x1), .val (.int x2), .val (.int x3), .val (.ref b1), .val (.ref b17), .val (.int ((x3 &&& (255 : Int32)) % (5 : Int32))), .val (.int (((own_ushr x3 (8 : Int32)) &&& (255 : Int32)) % (5 : Int32))), .val (.int r113), .val (.int r126), .unset, .unset, .unset] [(.int (lb101 (((own_ushr x3 (8 : Int32)) &&& (255 : Int32)) % (5 : Int32)).toNatClampNeg)), (.int (lb101 ((x3 &&& (255 : Int32)) % (5 : Int32)).toNatClampNeg)), (.int (own_j0_152_s0 r113 r126))])) (fun tG kG => own_ldI X140 hx hZ e141 f137 (j := (((own_ushr x3 (8 : Int32)) &&& (255 : Int32)) % (5 : Int32))) (own_inB x3) (hb hby at_169) tG kG) ?_
    have J144 : ∀ T' L', Stand p l e room_1 s m #[(.int x0), (.int x1), (.int x2), (.int x3)] below meth c T' L' 4 17 → T'.heap = T125.heap → Fr n0 L' → Go p e below s room_1.cells room_1.slots (fun v h L => v = some (.int 1) ∧ Fr n0 L) (T'.setTop (mkF m 178 #[.val (.int x0), .val (.int x1), .val (.int x2), .val (.int x3), .val (.ref b1), .val (.ref b17), .val (.int ((x3 &&& (255 : Int32)) % (5 : Int32))), .val (.int (((own_ushr x3 (8 : Int32)) &&& (255 : Int32)) % (5 : Int32))), .val (.int r113), .val (.int r126), .unset, .unset, .unset] [(.int (own_j0_170_s0 x3 lb101)), (.int (own_j0_152_s0 r113 r126))])) := by
      intro T145 L148 X146 e147 N149
      have hc178 : (own_j0_152_s0 r113 r126) = (own_j0_170_s0 x3 lb101) := by unfold own_j0_152_s0 own_j0_170_s0; exact own_iffj hy115 hy128
      refine Go.via (U' := T145.setTop (mkF m 181 #[.val (.int x0), .val (.int x1), .val (.int x2), .val (.int x3), .val (.ref b1), .val (.ref b17), .val (.int ((x3 &&& (255 : Int32)) % (5 : Int32))), .val (.int (((own_ushr x3 (8 : Int32)) &&& (255 : Int32)) % (5 : Int32))), .val (.int r113), .val (.int r126), .unset, .unset, .unset] [])) (fun tG kG => XS.icmpNo X146.here hx rfl (hb hby at_178) rfl (teq hc178).2 kG) ?_
      refine Go.via (U' := T145.setTop (mkF m 182 #[.val (.int x0), .val (.int x1), .val (.int x2), .val (.int x3), .val (.ref b1), .val (.ref b17), .val (.int ((x3 &&& (255 : Int32)) % (5 : Int32))), .val (.int (((own_ushr x3 (8 : Int32)) &&& (255 : Int32)) % (5 : Int32))), .val (.int r113), .val (.int r126), .unset, .unset, .unset] [(.int (1 : Int32))])) (fun tG kG => XS.iconst X146.here hx rfl (hb hby at_181) kG) ?_
      refine Go.via (U' := T145.setTop (mkF m 186 #[.val (.int x0), .val (.int x1), .val (.int x2), .val (.int x3), .val (.ref b1), .val (.ref b17), .val (.int ((x3 &&& (255 : Int32)) % (5 : Int32))), .val (.int (((own_ushr x3 (8 : Int32)) &&& (255 : Int32)) % (5 : Int32))), .val (.int r113), .val (.int r126), .unset, .unset, .unset] [(.int (1 : Int32))])) (fun tG kG => XS.goto X146.here hx rfl (pc0 := 182) (pc' := 186) rfl (hb hby at_182) (by decide) (by decide) kG) ?_
      refine Go.via (U' := T145.setTop (mkF m 188 #[.val (.int x0), .val (.int x1), .val (.int x2), .val (.int x3), .val (.ref b1), .val (.ref b17), .val (.int ((x3 &&& (255 : Int32)) % (5 : Int32))), .val (.int (((own_ushr x3 (8 : Int32)) &&& (255 : Int32)) % (5 : Int32))), .val (.int r113), .val (.int r126), .val (.int (1 : Int32)), .unset, .unset] [])) (fun tG kG => XS.istore X146.here hx rfl (hb hby at_186) rfl (l' := #[.val (.int x0), .val (.int x1), .val (.int x2), .val (.int x3), .val (.ref b1), .val (.ref b17), .val (.int ((x3 &&& (255 : Int32)) % (5 : Int32))), .val (.int (((own_ushr x3 (8 : Int32)) &&& (255 : Int32)) % (5 : Int32))), .val (.int r113), .val (.int r126), .val (.int (1 : Int32)), .unset, .unset]) rfl kG) ?_
      refine Go.via (U' := T145.setTop (mkF m 190 #[.val (.int x0), .val (.int x1), .val (.int x2), .val (.int x3), .val (.ref b1), .val (.ref b17), .val (.int ((x3 &&& (255 : Int32)) % (5 : Int32))), .val (.int (((own_ushr x3 (8 : Int32)) &&& (255 : Int32)) % (5 : Int32))), .val (.int r113), .val (.int r126), .val (.int (1 : Int32)), .unset, .unset] [(.ref b1)])) (fun tG kG => XS.aload X146.here hx rfl (hb hby at_188) rfl rfl kG) ?_
      refine Go.via (U' := T145.setTop (mkF m 192 #[.val (.int x0), .val (.int x1), .val (.int x2), .val (.int x3), .val (.ref b1), .val (.ref b17), .val (.int ((x3 &&& (255 : Int32)) % (5 : Int32))), .val (.int (((own_ushr x3 (8 : Int32)) &&& (255 : Int32)) % (5 : Int32))), .val (.int r113), .val (.int r126), .val (.int (1 : Int32)), .unset, .unset] [(.int r113), (.ref b1)])) (fun tG kG => XS.iload X146.here hx rfl (hb hby at_190) rfl kG) ?_
      obtain ⟨_, T150, L150, X150, ⟨r151, fr152, rfl, N150q, K150q, f154, hy153⟩, st150⟩ := callVQ X146 hx hZ hown (hw _ (List.mem_of_getElem? (i := 31) rfl)) (hw _ (List.mem_of_getElem? (i := 24) rfl)) (hw _ (List.mem_of_getElem? (i := 26) rfl)) (hw _ (List.mem_of_getElem? (i := 25) rfl)) (hw _ (List.mem_of_getElem? (i := 2) rfl)) (hw _ (List.mem_of_getElem? (i := 27) rfl)) (by decide) (b := b1) (av := [(.int r113)]) f130 (own_rm5 l Z a0 hw [] b1 r113 b5 k7 fr127 lb101 T125.heap n0 Z125 f131 f129 gb5 ne_b1_b5 hy128.1 hy115.2.2.1) e147 (pc := 192) (Ls := #[.val (.int x0), .val (.int x1), .val (.int x2), .val (.int x3), .val (.ref b1), .val (.ref b17), .val (.int ((x3 &&& (255 : Int32)) % (5 : Int32))), .val (.int (((own_ushr x3 (8 : Int32)) &&& (255 : Int32)) % (5 : Int32))), .val (.int r113), .val (.int r126), .val (.int (1 : Int32)), .unset, .unset]) (rest := []) (by rw [hml]; rfl) own_k32 rfl 0 (Nat.le_of_eq rfl) (by decide) (by decide) (by decide) (by decide) (hb hby at_192)
      have f155 := f130.keep K150q
      have f156 := f131.keep K150q (ninS ne_b1_b5 nin0)
      have f157 := f132.keep K150q (ninS ne_b1_b5 nin0)
      have f158 := f133.keep K150q
      have f159 := f134.keep K150q
      have f160 := f135.keep K150q
      have f161 := f136.keep K150q (ninS (Ne.symm ne_b5_b6) nin0)
      have f162 := f137.keep K150q (ninS (Ne.symm ne_b5_b17) nin0)
      have N150 := Fr.app N149 N150q
      have Z150 := Nat.le_trans Z125 K150q.1
      have K150 := K125.trans K150q (allS (Or.inr sb5) all0)
      refine Go.via (U' := T150.setTop (mkF m 195 #[.val (.int x0), .val (.int x1), .val (.int x2), .val (.int x3), .val (.ref b1), .val (.ref b17), .val (.int ((x3 &&& (255 : Int32)) % (5 : Int32))), .val (.int (((own_ushr x3 (8 : Int32)) &&& (255 : Int32)) % (5 : Int32))), .val (.int r113), .val (.int r126), .val (.int (1 : Int32)), .unset, .unset] [(.int r151)])) (fun tG kG => st150 tG kG) ?_
      refine Go.via (U' := T150.setTop (mkF m 197 #[.val (.int x0), .val (.int x1), .val (.int x2), .val (.int x3), .val (.ref b1), .val (.ref b17), .val (.int ((x3 &&& (255 : Int32)) % (5 : Int32))), .val (.int (((own_ushr x3 (8 : Int32)) &&& (255 : Int32)) % (5 : Int32))), .val (.int r113), .val (.int r126), .val (.int (1 : Int32)), .val (.int r151), .unset] [])) (fun tG kG => XS.istore X150.here hx rfl (hb hby at_195) rfl (l' := #[.val (.int x0), .val (.int x1), .val (.int x2), .val (.int x3), .val (.ref b1), .val (.ref b17), .val (.int ((x3 &&& (255 : Int32)) % (5 : Int32))), .val (.int (((own_ushr x3 (8 : Int32)) &&& (255 : Int32)) % (5 : Int32))), .val (.int r113), .val (.int r126), .val (.int (1 : Int32)), .val (.int r151), .unset]) rfl kG) ?_
      refine Go.via (U' := T150.setTop (mkF m 199 #[.val (.int x0), .val (.int x1), .val (.int x2), .val (.int x3), .val (.ref b1), .val (.ref b17), .val (.int ((x3 &&& (255 : Int32)) % (5 : Int32))), .val (.int (((own_ushr x3 (8 : Int32)) &&& (255 : Int32)) % (5 : Int32))), .val (.int r113), .val (.int r126), .val (.int (1 : Int32)), .val (.int r151), .unset] [(.ref b1)])) (fun tG kG => XS.aload X150.here hx rfl (hb hby at_197) rfl rfl kG) ?_
      refine Go.via (U' := T150.setTop (mkF m 201 #[.val (.int x0), .val (.int x1), .val (.int x2), .val (.int x3), .val (.ref b1), .val (.ref b17), .val (.int ((x3 &&& (255 : Int32)) % (5 : Int32))), .val (.int (((own_ushr x3 (8 : Int32)) &&& (255 : Int32)) % (5 : Int32))), .val (.int r113), .val (.int r126), .val (.int (1 : Int32)), .val (.int r151), .unset] [(.int ((x3 &&& (255 : Int32)) % (5 : Int32))), (.ref b1)])) (fun tG kG => XS.iload X150.here hx rfl (hb hby at_199) rfl kG) ?_
      obtain ⟨_, T163, L163, X163, ⟨r164, fr165, rfl, N163q, K163q, f167, hy166⟩, st163⟩ := callVQ X150 hx hZ hown (hw _ (List.mem_of_getElem? (i := 31) rfl)) (hw _ (List.mem_of_getElem? (i := 24) rfl)) (hw _ (List.mem_of_getElem? (i := 26) rfl)) (hw _ (List.mem_of_getElem? (i := 25) rfl)) (hw _ (List.mem_of_getElem? (i := 2) rfl)) (hw _ (List.mem_of_getElem? (i := 27) rfl)) (by decide) (b := b1) (av := [(.int ((x3 &&& (255 : Int32)) % (5 : Int32)))]) f155 (own_rm5 l Z a0 hw [] b1 ((x3 &&& (255 : Int32)) % (5 : Int32)) b5 k7 fr152 lb101 T150.heap n0 Z150 f156 f154 gb5 ne_b1_b5 hy153.1 (own_inA x3)) rfl (pc := 201) (Ls := #[.val (.int x0), .val (.int x1), .val (.int x2), .val (.int x3), .val (.ref b1), .val (.ref b17), .val (.int ((x3 &&& (255 : Int32)) % (5 : Int32))), .val (.int (((own_ushr x3 (8 : Int32)) &&& (255 : Int32)) % (5 : Int32))), .val (.int r113), .val (.int r126), .val (.int (1 : Int32)), .val (.int r151), .unset]) (rest := []) (by rw [hml]; rfl) own_k32 rfl 0 (Nat.le_of_eq rfl) (by decide) (by decide) (by decide) (by decide) (hb hby at_201)
      have f168 := f155.keep K163q
      have f169 := f156.keep K163q (ninS ne_b1_b5 nin0)
      have f170 := f157.keep K163q (ninS ne_b1_b5 nin0)
      have f171 := f158.keep K163q
      have f172 := f159.keep K163q
      have f173 := f160.keep K163q
      have f174 := f161.keep K163q (ninS (Ne.symm ne_b5_b6) nin0)
      have f175 := f162.keep K163q (ninS (Ne.symm ne_b5_b17) nin0)
      have N163 := Fr.app N150 N163q
      have Z163 := Nat.le_trans Z150 K163q.1
      have K163 := K150.trans K163q (allS (Or.inr sb5) all0)
      refine Go.via (U' := T163.setTop (mkF m 204 #[.val (.int x0), .val (.int x1), .val (.int x2), .val (.int x3), .val (.ref b1), .val (.ref b17), .val (.int ((x3 &&& (255 : Int32)) % (5 : Int32))), .val (.int (((own_ushr x3 (8 : Int32)) &&& (255 : Int32)) % (5 : Int32))), .val (.int r113), .val (.int r126), .val (.int (1 : Int32)), .val (.int r151), .unset] [(.int r164)])) (fun tG kG => st163 tG kG) ?_
      refine Go.via (U' := T163.setTop (mkF m 206 #[.val (.int x0), .val (.int x1), .val (.int x2), .val (.int x3), .val (.ref b1), .val (.ref b17), .val (.int ((x3 &&& (255 : Int32)) % (5 : Int32))), .val (.int (((own_ushr x3 (8 : Int32)) &&& (255 : Int32)) % (5 : Int32))), .val (.int r113), .val (.int r126), .val (.int (1 : Int32)), .val (.int r151), .val (.int r164)] [])) (fun tG kG => XS.istore X163.here hx rfl (hb hby at_204) rfl (l' := #[.val (.int x0), .val (.int x1), .val (.int x2), .val (.int x3), .val (.ref b1), .val (.ref b17), .val (.int ((x3 &&& (255 : Int32)) % (5 : Int32))), .val (.int (((own_ushr x3 (8 : Int32)) &&& (255 : Int32)) % (5 : Int32))), .val (.int r113), .val (.int r126), .val (.int (1 : Int32)), .val (.int r151), .val (.int r164)]) rfl kG) ?_
      refine Go.via (U' := T163.setTop (mkF m 208 #[.val (.int x0), .val (.int x1), .val (.int x2), .val (.int x3), .val (.ref b1), .val (.ref b17), .val (.int ((x3 &&& (255 : Int32)) % (5 : Int32))), .val (.int (((own_ushr x3 (8 : Int32)) &&& (255 : Int32)) % (5 : Int32))), .val (.int r113), .val (.int r126), .val (.int (1 : Int32)), .val (.int r151), .val (.int r164)] [(.int (1 : Int32))])) (fun tG kG => XS.iload X163.here hx rfl (hb hby at_206) rfl kG) ?_
      have hc208_176 : ¬ ((1 : Int32) = (0 : Int32)) := by decide
      refine Go.via (U' := T163.setTop (mkF m 211 #[.val (.int x0), .val (.int x1), .val (.int x2), .val (.int x3), .val (.ref b1), .val (.ref b17), .val (.int ((x3 &&& (255 : Int32)) % (5 : Int32))), .val (.int (((own_ushr x3 (8 : Int32)) &&& (255 : Int32)) % (5 : Int32))), .val (.int r113), .val (.int r126), .val (.int (1 : Int32)), .val (.int r151), .val (.int r164)] [])) (fun tG kG => XS.ifNo X163.here hx rfl (hb hby at_208) rfl ((if0 _ _).trans (feq hc208_176).1) kG) ?_
      refine Go.via (U' := T163.setTop (mkF m 213 #[.val (.int x0), .val (.int x1), .val (.int x2), .val (.int x3), .val (.ref b1), .val (.ref b17), .val (.int ((x3 &&& (255 : Int32)) % (5 : Int32))), .val (.int (((own_ushr x3 (8 : Int32)) &&& (255 : Int32)) % (5 : Int32))), .val (.int r113), .val (.int r126), .val (.int (1 : Int32)), .val (.int r151), .val (.int r164)] [(.int r151)])) (fun tG kG => XS.iload X163.here hx rfl (hb hby at_211) rfl kG) ?_
      refine Go.via (U' := T163.setTop (mkF m 215 #[.val (.int x0), .val (.int x1), .val (.int x2), .val (.int x3), .val (.ref b1), .val (.ref b17), .val (.int ((x3 &&& (255 : Int32)) % (5 : Int32))), .val (.int (((own_ushr x3 (8 : Int32)) &&& (255 : Int32)) % (5 : Int32))), .val (.int r113), .val (.int r126), .val (.int (1 : Int32)), .val (.int r151), .val (.int r164)] [(.int r113), (.int r151)])) (fun tG kG => XS.iload X163.here hx rfl (hb hby at_213) rfl kG) ?_
      have hc215 : r151 = r113 := own_same hy153 hy115.2.2.1 (own_keep hy128 hy115.2.2.1 hy115.2.2.2.1) rfl
      refine Go.via (U' := T163.setTop (mkF m 218 #[.val (.int x0), .val (.int x1), .val (.int x2), .val (.int x3), .val (.ref b1), .val (.ref b17), .val (.int ((x3 &&& (255 : Int32)) % (5 : Int32))), .val (.int (((own_ushr x3 (8 : Int32)) &&& (255 : Int32)) % (5 : Int32))), .val (.int r113), .val (.int r126), .val (.int (1 : Int32)), .val (.int r151), .val (.int r164)] [])) (fun tG kG => XS.icmpNo X163.here hx rfl (hb hby at_215) rfl (teq hc215).2 kG) ?_
      refine Go.via (U' := T163.setTop (mkF m 220 #[.val (.int x0), .val (.int x1), .val (.int x2), .val (.int x3), .val (.ref b1), .val (.ref b17), .val (.int ((x3 &&& (255 : Int32)) % (5 : Int32))), .val (.int (((own_ushr x3 (8 : Int32)) &&& (255 : Int32)) % (5 : Int32))), .val (.int r113), .val (.int r126), .val (.int (1 : Int32)), .val (.int r151), .val (.int r164)] [(.int r164)])) (fun tG kG => XS.iload X163.here hx rfl (hb hby at_218) rfl kG) ?_
      refine Go.via (U' := T163.setTop (mkF m 222 #[.val (.int x0), .val (.int x1), .val (.int x2), .val (.int x3), .val (.ref b1), .val (.ref b17), .val (.int ((x3 &&& (255 : Int32)) % (5 : Int32))), .val (.int (((own_ushr x3 (8 : Int32)) &&& (255 : Int32)) % (5 : Int32))), .val (.int r113), .val (.int r126), .val (.int (1 : Int32)), .val (.int r151), .val (.int r164)] [(.int r113), (.int r164)])) (fun tG kG => XS.iload X163.here hx rfl (hb hby at_220) rfl kG) ?_
      have hc222 : r164 = r113 := own_same hy166 hy115.2.2.1 (own_keep hy153 hy115.2.2.1 (own_keep hy128 hy115.2.2.1 hy115.2.2.2.1)) hy115.2.2.2.2
      refine Go.via (U' := T163.setTop (mkF m 225 #[.val (.int x0), .val (.int x1), .val (.int x2), .val (.int x3), .val (.ref b1), .val (.ref b17), .val (.int ((x3 &&& (255 : Int32)) % (5 : Int32))), .val (.int (((own_ushr x3 (8 : Int32)) &&& (255 : Int32)) % (5 : Int32))), .val (.int r113), .val (.int r126), .val (.int (1 : Int32)), .val (.int r151), .val (.int r164)] [])) (fun tG kG => XS.icmpNo X163.here hx rfl (hb hby at_222) rfl (teq hc222).2 kG) ?_
      refine Go.via (U' := T163.setTop (mkF m 226 #[.val (.int x0), .val (.int x1), .val (.int x2), .val (.int x3), .val (.ref b1), .val (.ref b17), .val (.int ((x3 &&& (255 : Int32)) % (5 : Int32))), .val (.int (((own_ushr x3 (8 : Int32)) &&& (255 : Int32)) % (5 : Int32))), .val (.int r113), .val (.int r126), .val (.int (1 : Int32)), .val (.int r151), .val (.int r164)] [(.int (1 : Int32))])) (fun tG kG => XS.iconst X163.here hx rfl (hb hby at_225) kG) ?_
      refine Go.via (U' := T163.setTop (mkF m 230 #[.val (.int x0), .val (.int x1), .val (.int x2), .val (.int x3), .val (.ref b1), .val (.ref b17), .val (.int ((x3 &&& (255 : Int32)) % (5 : Int32))), .val (.int (((own_ushr x3 (8 : Int32)) &&& (255 : Int32)) % (5 : Int32))), .val (.int r113), .val (.int r126), .val (.int (1 : Int32)), .val (.int r151), .val (.int r164)] [(.int (1 : Int32))])) (fun tG kG => XS.goto X163.here hx rfl (pc0 := 226) (pc' := 230) rfl (hb hby at_226) (by decide) (by decide) kG) ?_
      exact go_retN X163 hx hlk (t := .boolean) hret (by simp) (hb hby at_230) rfl ⟨rfl, N163⟩ (by decide) (by decide)
    by_cases hc170 : (lb101 ((x3 &&& (255 : Int32)) % (5 : Int32)).toNatClampNeg) = (lb101 (((own_ushr x3 (8 : Int32)) &&& (255 : Int32)) % (5 : Int32)).toNatClampNeg)
    · refine Go.via (U' := T139.setTop (mkF m 173 #[.val (.int x0), .val (.int x1), .val (.int x2), .val (.int x3), .val (.ref b1), .val (.ref b17), .val (.int ((x3 &&& (255 : Int32)) % (5 : Int32))), .val (.int (((own_ushr x3 (8 : Int32)) &&& (255 : Int32)) % (5 : Int32))), .val (.int r113), .val (.int r126), .unset, .unset, .unset] [(.int (own_j0_152_s0 r113 r126))])) (fun tG kG => XS.icmpNo X140.here hx rfl (hb hby at_170) rfl (teq hc170).2 kG) ?_
      refine Go.via (U' := T139.setTop (mkF m 174 #[.val (.int x0), .val (.int x1), .val (.int x2), .val (.int x3), .val (.ref b1), .val (.ref b17), .val (.int ((x3 &&& (255 : Int32)) % (5 : Int32))), .val (.int (((own_ushr x3 (8 : Int32)) &&& (255 : Int32)) % (5 : Int32))), .val (.int r113), .val (.int r126), .unset, .unset, .unset] [(.int (1 : Int32)), (.int (own_j0_152_s0 r113 r126))])) (fun tG kG => XS.iconst X140.here hx rfl (hb hby at_173) kG) ?_
      refine Go.via (U' := T139.setTop (mkF m 178 #[.val (.int x0), .val (.int x1), .val (.int x2), .val (.int x3), .val (.ref b1), .val (.ref b17), .val (.int ((x3 &&& (255 : Int32)) % (5 : Int32))), .val (.int (((own_ushr x3 (8 : Int32)) &&& (255 : Int32)) % (5 : Int32))), .val (.int r113), .val (.int r126), .unset, .unset, .unset] [(.int (1 : Int32)), (.int (own_j0_152_s0 r113 r126))])) (fun tG kG => XS.goto X140.here hx rfl (pc0 := 174) (pc' := 178) rfl (hb hby at_174) (by decide) (by decide) kG) ?_
      have q_own_j0_170_s0 : (own_j0_170_s0 x3 lb101) = (1 : Int32) := by unfold own_j0_170_s0; simp only [if_pos hc170]
      have q_J := J144 T139 _ X140 e141 N143
      rw [q_own_j0_170_s0] at q_J
      exact q_J
    · refine Go.via (U' := T139.setTop (mkF m 177 #[.val (.int x0), .val (.int x1), .val (.int x2), .val (.int x3), .val (.ref b1), .val (.ref b17), .val (.int ((x3 &&& (255 : Int32)) % (5 : Int32))), .val (.int (((own_ushr x3 (8 : Int32)) &&& (255 : Int32)) % (5 : Int32))), .val (.int r113), .val (.int r126), .unset, .unset, .unset] [(.int (own_j0_152_s0 r113 r126))])) (fun tG kG => XS.icmpYes X140.here hx rfl (pc0 := 170) (pc' := 177) rfl (hb hby at_170) rfl (feq hc170).2 (by decide) (by decide) kG) ?_
      refine Go.via (U' := T139.setTop (mkF m 178 #[.val (.int x0), .val (.int x1), .val (.int x2), .val (.int x3), .val (.ref b1), .val (.ref b17), .val (.int ((x3 &&& (255 : Int32)) % (5 : Int32))), .val (.int (((own_ushr x3 (8 : Int32)) &&& (255 : Int32)) % (5 : Int32))), .val (.int r113), .val (.int r126), .unset, .unset, .unset] [(.int (0 : Int32)), (.int (own_j0_152_s0 r113 r126))])) (fun tG kG => XS.iconst X140.here hx rfl (hb hby at_177) kG) ?_
      have q_own_j0_170_s0 : (own_j0_170_s0 x3 lb101) = (0 : Int32) := by unfold own_j0_170_s0; simp only [if_neg hc170]
      have q_J := J144 T139 _ X140 e141 N143
      rw [q_own_j0_170_s0] at q_J
      exact q_J
  by_cases hc152 : r113 = r126
  · refine Go.via (U' := T125.setTop (mkF m 155 #[.val (.int x0), .val (.int x1), .val (.int x2), .val (.int x3), .val (.ref b1), .val (.ref b17), .val (.int ((x3 &&& (255 : Int32)) % (5 : Int32))), .val (.int (((own_ushr x3 (8 : Int32)) &&& (255 : Int32)) % (5 : Int32))), .val (.int r113), .val (.int r126), .unset, .unset, .unset] [])) (fun tG kG => XS.icmpNo X125.here hx rfl (hb hby at_152) rfl (teq hc152).2 kG) ?_
    refine Go.via (U' := T125.setTop (mkF m 156 #[.val (.int x0), .val (.int x1), .val (.int x2), .val (.int x3), .val (.ref b1), .val (.ref b17), .val (.int ((x3 &&& (255 : Int32)) % (5 : Int32))), .val (.int (((own_ushr x3 (8 : Int32)) &&& (255 : Int32)) % (5 : Int32))), .val (.int r113), .val (.int r126), .unset, .unset, .unset] [(.int (1 : Int32))])) (fun tG kG => XS.iconst X125.here hx rfl (hb hby at_155) kG) ?_
    refine Go.via (U' := T125.setTop (mkF m 160 #[.val (.int x0), .val (.int x1), .val (.int x2), .val (.int x3), .val (.ref b1), .val (.ref b17), .val (.int ((x3 &&& (255 : Int32)) % (5 : Int32))), .val (.int (((own_ushr x3 (8 : Int32)) &&& (255 : Int32)) % (5 : Int32))), .val (.int r113), .val (.int r126), .unset, .unset, .unset] [(.int (1 : Int32))])) (fun tG kG => XS.goto X125.here hx rfl (pc0 := 156) (pc' := 160) rfl (hb hby at_156) (by decide) (by decide) kG) ?_
    have q_own_j0_152_s0 : (own_j0_152_s0 r113 r126) = (1 : Int32) := by unfold own_j0_152_s0; simp only [if_pos hc152]
    have q_J := J138 T125 _ X125 rfl N125
    rw [q_own_j0_152_s0] at q_J
    exact q_J
  · refine Go.via (U' := T125.setTop (mkF m 159 #[.val (.int x0), .val (.int x1), .val (.int x2), .val (.int x3), .val (.ref b1), .val (.ref b17), .val (.int ((x3 &&& (255 : Int32)) % (5 : Int32))), .val (.int (((own_ushr x3 (8 : Int32)) &&& (255 : Int32)) % (5 : Int32))), .val (.int r113), .val (.int r126), .unset, .unset, .unset] [])) (fun tG kG => XS.icmpYes X125.here hx rfl (pc0 := 152) (pc' := 159) rfl (hb hby at_152) rfl (feq hc152).2 (by decide) (by decide) kG) ?_
    refine Go.via (U' := T125.setTop (mkF m 160 #[.val (.int x0), .val (.int x1), .val (.int x2), .val (.int x3), .val (.ref b1), .val (.ref b17), .val (.int ((x3 &&& (255 : Int32)) % (5 : Int32))), .val (.int (((own_ushr x3 (8 : Int32)) &&& (255 : Int32)) % (5 : Int32))), .val (.int r113), .val (.int r126), .unset, .unset, .unset] [(.int (0 : Int32))])) (fun tG kG => XS.iconst X125.here hx rfl (hb hby at_159) kG) ?_
    have q_own_j0_152_s0 : (own_j0_152_s0 r113 r126) = (0 : Int32) := by unfold own_j0_152_s0; simp only [if_neg hc152]
    have q_J := J138 T125 _ X125 rfl N125
    rw [q_own_j0_152_s0] at q_J
    exact q_J
set_option maxRecDepth 65536 in
set_option maxHeartbeats 40000000 in
theorem own_comes {Post : Tables → Env → Array Value → State → Outcome → State → Prop} (hpost : ∀ tb e args s v u, (limb_1_1.after args s (.returned v) u = true ∧ limb_1_2.after args s (.returned v) u = true) → FrameEnd s (.returned v) u (Jvm.fieldLocs frame_1_writes args s ++ Jvm.arrayLocs frame_1_arrays args s ++ Jvm.staticLocs frame_1_statics s) 16 128 → Post tb e args s (.returned v) u) :
    ArmFor flags0 classFile x code maxLocals ret World_1 tables_1 room_1 Calls_1 rest_1 Pre_1 Post := by
  intro l hfl _ _ p e ha hc hk s m args below hf hA hF happ hP
  obtain ⟨hcalls, hrest, hpre⟩ := hP
  obtain ⟨-, -, -, hnamed, -, -, -, hat⟩ := (Spec.applies_iff hf).mp happ
  obtain ⟨hg, hn⟩ := and_e (Cond.before_iff.mp (show (Jvm.Cond.and given_1 narrow_1).before args s = true from hpre))
  obtain ⟨hcnt, hg⟩ := and_e hg
  obtain ⟨w0, w1, w2, w3, rfl⟩ : ∃ w0 w1 w2 w3 : Value, args = #[w0, w1, w2, w3] := by
    have hs : args.size = 4 := by simpa [Cond.value, given_1] using hcnt
    obtain ⟨L⟩ := args
    match L, hs with
    | [w0, w1, w2, w3], _ => exact ⟨w0, w1, w2, w3, rfl⟩
  have hw := fun d (hd : d ∈ tables_1) => atoms_spec (ws := Jvm.Cond.code x code maxLocals ret :: tables_1) hat d (List.mem_cons_of_mem _ hd)
  have hfit : Fit s := fun {y c} hc i hi => by
    obtain ⟨ha, rfl⟩ := Array.getElem?_eq_some_iff.mp hc
    have q := List.all_eq_true.mp ((Array.all_eq_true_iff_forall_mem.mp hF) _ (Array.getElem_mem ha)) i (List.mem_range.mpr hi)
    simpa [Array.getElem?_eq_getElem hi] using q
  obtain ⟨hg0, hg⟩ := and_e hg
  obtain ⟨i0, ei0⟩ := is_v hg0
  obtain rfl : w0 = (.int i0) := Option.some.inj ei0
  obtain ⟨hg1, hg⟩ := and_e hg
  obtain ⟨i1, ei1⟩ := is_v hg1
  obtain rfl : w1 = (.int i1) := Option.some.inj ei1
  obtain ⟨hg2, hg⟩ := and_e hg
  obtain ⟨i2, ei2⟩ := is_v hg2
  obtain rfl : w2 = (.int i2) := Option.some.inj ei2
  obtain ⟨i3, ei3⟩ := is_v hg
  obtain rfl : w3 = (.int i3) := Option.some.inj ei3
  obtain ⟨n, o, h1, h2, h3, _, L, rfl, ⟨rfl, N⟩, hq⟩ := own_rm0 l s _ hw tables_1 i0 i1 i2 i3 s.heap s.heap.size (Nat.le_refl _) p e ha hc hk s m _ below hf ((Spec.applies_iff_loose hf).mp happ).1 ⟨rfl, State.Warmed39.refl s, rfl⟩ trivial
  refine ⟨n, _, h1, h2, h3, hpost _ _ _ _ _ _ ⟨Cond.after_iff.mpr rfl, Cond.after_iff.mpr (eq_i res_at (Term.int_eval (1)) rfl)⟩ ⟨hq.1, hq.2.1, (hq.2.2.sift fun y hy => Or.inr (N y hy)).mono (by decide) (by decide)⟩⟩
theorem main_1_1 : Claimed_1_1 := own_comes fun _ _ _ _ _ _ h hF => ⟨h.1, hF⟩
theorem main_1_2 : Claimed_1_2 := own_comes fun _ _ _ _ _ _ h hF => ⟨h.2, hF⟩
end Jvm.Pilot.@@N@@
namespace Jvm.Pilot.@@N@@
open Jvm Jvm.ClassFile Sem Op Lib Jvm.Free Jvm.Stand Jvm.Pilot.@@N@@.Jvm.D
/-! MADE BY PROGRAM (witnessworld.py) out of the Statement's table words and the real class files: 9 classes; the members and pool entries that the words name. The judged class is class 1, her method 1. -/
namespace start1
open Jvm.ClassFile
def u (s : String) : CpInfo := .utf8 (stringToUtf16 s)
/-- a pool by its gaps: so many unusable entries, then the entry; so many at the end -/
def gap : Nat → List CpInfo → List CpInfo
  | 0, r => r
  | n + 1, r => .unusable :: gap n r
def poolList (es : List (Nat × CpInfo)) (last : Nat) : List CpInfo := es.foldr (fun e r => gap e.1 (e.2 :: r)) (gap last [])
def pool (es : List (Nat × CpInfo)) (last : Nat) : Array CpInfo := ⟨poolList es last⟩
def fileOf (pool : Array CpInfo) (this : Nat) (attrs : Array Attribute := #[]) (ms : Array MethodInfo := #[]) (fl : Nat := 33) (sup : Nat := 0) (ifs : Array Nat := #[]) (fds : Array FieldInfo := #[]) : ClassFile where
  minorVersion := 0
  majorVersion := 65
  constantPool := pool
  accessFlags := fl
  thisClass := this
  superClass := sup
  interfaces := ifs
  fields := fds
  methods := ms
  attributes := attrs
def plain (name : String) (sup : Option ClassId) : Class where
  name := name
  kind := .ordinary
  loader := none
  accessFlags := 33
  super := sup
  interfaces := #[]
  cf := none
  fields := #[]
  methods := #[]
  instanceTypes := #[]
  staticTypes := #[]
  resolved := #[]
  callSites := []
  init := .initialized
  statics := none
  mirror := none

def pool0 : Array CpInfo := pool [(5, u "<init>"), (0, u "()V"), (1, .class_ 10), (1, u "java/lang/Object")] 113

def k0c0 : Code := { maxStack := 0, maxLocals := 1, code := object_method_1_code, exceptionTable := #[], attributes := #[] }
def k0m0 : Method := { name := "<init>", desc := "()V", sig := { parameters := [], returnType := none }, accessFlags := 1, code := some k0c0 }
/-- java/lang/Object -/
def k0 : Class := { plain "java/lang/Object" none with
  accessFlags := 33
  interfaces := #[]
  cf := some (fileOf pool0 8 #[] #[{ accessFlags := 1, nameIndex := 5, descriptorIndex := 6, attributes := #[] }] 33 0 #[] #[])
  fields := #[]
  methods := #[k0m0]
  instanceTypes := #[]
  staticTypes := #[]
  resolved := Array.replicate 124 none
  statics := none }

def pool1 : Array CpInfo := pool [(2, .class_ 4), (1, u "java/lang/Object"), (0, u "<init>"), (0, u "()V"), (0, .class_ 8), (0, u "com/example/nearprint/nearprint/DisjointSets"), (0, .methodref 7 10), (0, .nameAndType 5 11), (0, u "(I)V"), (0, .methodref 13 14), (0, .class_ 15), (0, .nameAndType 16 17), (0, u "com/example/nearprint/nearprint/DisjointSetsRootPinLaw"), (0, u "joinBoth"), (0, u "(Lcom/example/nearprint/nearprint/DisjointSets;[II)V"), (0, .methodref 7 19), (0, .nameAndType 20 21), (0, u "root"), (0, u "(I)I"), (0, .methodref 7 23), (0, .nameAndType 24 25), (0, u "join"), (0, u "(II)V"), (0, .methodref 13 27), (0, .nameAndType 28 29), (0, u "relabel"), (0, u "([III)V"), (2, u "law"), (0, u "(IIII)Z")] 5

def k1m0 : Method := { name := "<init>", desc := "()V", sig := { parameters := [], returnType := none }, accessFlags := 1, code := none }
def k1c1 : Code := { maxStack := 4, maxLocals := 13, code := code, exceptionTable := #[], attributes := #[] }
def k1m1 : Method := { name := "law", desc := "(IIII)Z", sig := { parameters := [.int, .int, .int, .int], returnType := some .boolean }, accessFlags := 9, code := some k1c1 }
def k1c2 : Code := { maxStack := 3, maxLocals := 7, code := method_3_code, exceptionTable := #[], attributes := #[] }
def k1m2 : Method := { name := "joinBoth", desc := "(Lcom/example/nearprint/nearprint/DisjointSets;[II)V", sig := { parameters := [(.object "com/example/nearprint/nearprint/DisjointSets"), (.array .int), .int], returnType := none }, accessFlags := 10, code := some k1c2 }
def k1c3 : Code := { maxStack := 3, maxLocals := 3, code := method_4_code, exceptionTable := #[], attributes := #[] }
def k1m3 : Method := { name := "relabel", desc := "([III)V", sig := { parameters := [(.array .int), .int, .int], returnType := none }, accessFlags := 10, code := some k1c3 }
/-- com/example/nearprint/nearprint/DisjointSetsRootPinLaw -/
def k1 : Class := { plain "com/example/nearprint/nearprint/DisjointSetsRootPinLaw" (some 0) with
  accessFlags := 49
  interfaces := #[]
  cf := some (fileOf pool1 13 #[] #[{ accessFlags := 1, nameIndex := 5, descriptorIndex := 6, attributes := #[] }, { accessFlags := 9, nameIndex := 32, descriptorIndex := 33, attributes := #[] }, { accessFlags := 10, nameIndex := 16, descriptorIndex := 17, attributes := #[] }, { accessFlags := 10, nameIndex := 28, descriptorIndex := 29, attributes := #[] }] 49 2 #[] #[])
  fields := #[]
  methods := #[k1m0, k1m1, k1m2, k1m3]
  instanceTypes := #[]
  staticTypes := #[]
  resolved := Array.replicate 39 none
  statics := none }

def pool2 : Array CpInfo := pool [(1, .methodref 2 3), (0, .class_ 4), (0, .nameAndType 5 6), (0, u "java/lang/Object"), (0, u "<init>"), (0, u "()V"), (0, .fieldref 8 9), (0, .class_ 10), (0, .nameAndType 11 12), (0, u "com/example/nearprint/nearprint/DisjointSets"), (0, u "parents"), (0, u "[I"), (0, .fieldref 8 14), (0, .nameAndType 15 12), (0, u "sizes"), (0, .methodref 8 17), (0, .nameAndType 18 19), (0, u "root"), (0, u "(I)I"), (0, u "(I)V"), (3, u "join"), (0, u "(II)V")] 3

def k2c0 : Code := { maxStack := 3, maxLocals := 3, code := prog_4_method_1_code, exceptionTable := #[], attributes := #[] }
def k2m0 : Method := { name := "<init>", desc := "(I)V", sig := { parameters := [.int], returnType := none }, accessFlags := 0, code := some k2c0 }
def k2c1 : Code := { maxStack := 5, maxLocals := 3, code := prog_4_method_2_code, exceptionTable := #[], attributes := #[] }
def k2m1 : Method := { name := "root", desc := "(I)I", sig := { parameters := [.int], returnType := some .int }, accessFlags := 0, code := some k2c1 }
def k2c2 : Code := { maxStack := 5, maxLocals := 5, code := prog_4_method_3_code, exceptionTable := #[], attributes := #[] }
def k2m2 : Method := { name := "join", desc := "(II)V", sig := { parameters := [.int, .int], returnType := none }, accessFlags := 0, code := some k2c2 }
/-- com/example/nearprint/nearprint/DisjointSets -/
def k2 : Class := { plain "com/example/nearprint/nearprint/DisjointSets" (some 0) with
  accessFlags := 48
  interfaces := #[]
  cf := some (fileOf pool2 8 #[] #[{ accessFlags := 0, nameIndex := 5, descriptorIndex := 20, attributes := #[] }, { accessFlags := 0, nameIndex := 18, descriptorIndex := 19, attributes := #[] }, { accessFlags := 0, nameIndex := 24, descriptorIndex := 25, attributes := #[] }] 48 2 #[] #[{ accessFlags := 18, nameIndex := 11, descriptorIndex := 12, attributes := #[] }, { accessFlags := 18, nameIndex := 15, descriptorIndex := 12, attributes := #[] }])
  fields := #[{ name := "parents", type := (.array .int), accessFlags := 18, slot := 0, constantValue := 0 }, { name := "sizes", type := (.array .int), accessFlags := 18, slot := 1, constantValue := 0 }]
  methods := #[k2m0, k2m1, k2m2]
  instanceTypes := #[(.array .int), (.array .int)]
  staticTypes := #[]
  resolved := Array.replicate 29 none
  statics := none }

def pool3 : Array CpInfo := pool [(1, u "java/lang/Cloneable"), (0, .class_ 1), (0, u "java/lang/Object"), (0, .class_ 3)] 3

/-- java/lang/Cloneable -/
def k3 : Class := { plain "java/lang/Cloneable" (some 0) with
  accessFlags := 1537
  interfaces := #[]
  cf := some (fileOf pool3 2 #[] #[] 1537 4 #[] #[])
  fields := #[]
  methods := #[]
  instanceTypes := #[]
  staticTypes := #[]
  resolved := Array.replicate 8 none
  statics := none }

def pool4 : Array CpInfo := pool [(1, u "java/io/Serializable"), (0, .class_ 1), (0, u "java/lang/Object"), (0, .class_ 3)] 3

/-- java/io/Serializable -/
def k4 : Class := { plain "java/io/Serializable" (some 0) with
  accessFlags := 1537
  interfaces := #[]
  cf := some (fileOf pool4 2 #[] #[] 1537 4 #[] #[])
  fields := #[]
  methods := #[]
  instanceTypes := #[]
  staticTypes := #[]
  resolved := Array.replicate 8 none
  statics := none }

/-- the primitive byte -/
def k5 : Class := { plain "byte" none with kind := .primitive 'B', accessFlags := 0x411 }
/-- [B -/
def k6 : Class := { plain "[B" (some 0) with kind := .array 5 .byte, interfaces := #[3, 4], accessFlags := 1041 }

/-- the primitive int -/
def k7 : Class := { plain "int" none with kind := .primitive 'I', accessFlags := 0x411 }
/-- [I -/
def k8 : Class := { plain "[I" (some 0) with kind := .array 7 .int, interfaces := #[3, 4], accessFlags := 1041 }

def heap : Heap := #[]
def classes : Array Class := #[k0, k1, k2, k3, k4, k5, k6, k7, k8]
def interned : List (Array UInt16 × Addr) := []
def slotsUsed : Nat := 0
def theMethod : MethodId := ⟨1, 1⟩
def args0 : Array Value := #[.int 3, .int 200, .int 2, .int 1]
def aboutOver (below : List Frame) : State where
  vm := { classes := classes, interned := interned.toArray }
  heap := heap
  slotsUsed := slotsUsed
  threads := #[{ frames := .invoking theMethod args0 :: below }]
def below0 : List Frame := [.native { method := ⟨0, 0⟩, args := #[] }]
def about1 : State := aboutOver below0
def p0 : Program := .bare "" "" ""
def e0 : Env := launch0.env 0 0 0
theorem w_frames : about1.frames = Frame.invoking theMethod args0 :: below0 := rfl
set_option maxRecDepth 65536 in
theorem w_args : argsFit about1.vm theMethod args0 = true := by decide +kernel
set_option maxRecDepth 65536 in
theorem w_heap : heapFits about1 = true := by decide +kernel
set_option maxRecDepth 65536 in
theorem w_runnable : about1.curStatus? = some .runnable := by decide +kernel
set_option maxRecDepth 65536 in
theorem w_alone : about1.alone = true := by decide +kernel
set_option maxRecDepth 65536 in
theorem w_named : about1.methodNamed? x = some theMethod := by decide +kernel
set_option maxRecDepth 65536 in
theorem w_hears : about1.hears theMethod below0 = true := by decide +kernel
set_option maxRecDepth 65536 in
theorem w_ripe : about1.ripe theMethod args0 below0 = true := by decide +kernel
theorem w_running : about1.status = .running := rfl
set_option maxRecDepth 65536 in
theorem w_room : about1.hasRoom e0.platform room_1 = true :=
  launch0.hasRoom_least _ room_1 (by decide +kernel) (by decide +kernel) (by decide +kernel) (by decide +kernel) (by decide +kernel) (by decide +kernel)
theorem allAtoms_all (ts : List Jvm.Cond) (a : Array Jvm.Value) (st : Jvm.State) : (allAtoms ts).before a st = ts.all (fun c => c.before a st) := by
  induction ts with
  | nil => rfl
  | cons c t ih =>
    show (Jvm.Cond.and c (allAtoms t)).before a st = _
    rw [Jvm.Cond.before_and, ih, List.all_cons]
def words1 : List Jvm.Cond := Jvm.Cond.code x code maxLocals ret :: tables_1
/-- a 'code' word, met by the world's own term for the bytes: nothing is compared byte by byte -/
theorem code_word {y : MethodName} {bytes : ByteArray} {mx : Nat} {rt : Option FieldType} {a : Array Value} {s : State} {m : MethodId} {meth : Method} {c : Code} (h1 : s.methodNamed? y = some m) (h2 : s.vm.method? m = some meth) (h3 : meth.code = some c) (h4 : c.code = bytes)
    (h5 : (c.maxLocals == mx && c.exceptionTable.isEmpty && decide (c.maxStack ≤ mostOperands) && decide (meth.sig.returnType = rt) && !meth.locks && decide (parseMethodDescriptor y.desc = some meth.sig)) = true) : (Jvm.Cond.code y bytes mx rt).before a s = true := by
  simp only [Bool.and_eq_true, beq_iff_eq, Bool.not_eq_true', decide_eq_true_eq] at h5
  obtain ⟨⟨⟨⟨⟨g1, g2⟩, g3⟩, g4⟩, g5⟩, g6⟩ := h5
  simp [Cond.before, Cond.holds, Cond.value, h1, h2, h3, h4, g1, g2, g3, g4, g5, g6]
def isCode : Jvm.Cond → Bool
  | .code _ _ _ _ => true
  | _ => false
theorem all_split {L : List Jvm.Cond} {P : Jvm.Cond → Bool} (h1 : L.all (fun c => isCode c || P c) = true) (h2 : ∀ c ∈ L.filter isCode, P c = true) : L.all P = true := by
  refine List.all_eq_true.mpr fun c hc => ?_
  have h := List.all_eq_true.mp h1 c hc
  rcases Bool.eq_false_or_eq_true (isCode c) with hi | hi
  · exact h2 c (List.mem_filter.mpr ⟨hc, hi⟩)
  · simpa [hi] using h
set_option maxRecDepth 65536 in
theorem w_c0 : (Jvm.Cond.code x code maxLocals ret).before args0 about1 = true := code_word (m := ⟨1, 1⟩) (meth := k1m1) (c := k1c1) (by decide +kernel) rfl rfl rfl (by decide +kernel)
set_option maxRecDepth 65536 in
theorem w_c1 : (Jvm.Cond.code ({ cls := "com/example/nearprint/nearprint/DisjointSets", name := "<init>", desc := "(I)V" } : Jvm.MethodName) prog_4_method_1_code (3 : Nat) (Option.none : Option Jvm.ClassFile.FieldType)).before args0 about1 = true := code_word (m := ⟨2, 0⟩) (meth := k2m0) (c := k2c0) (by decide +kernel) rfl rfl rfl (by decide +kernel)
set_option maxRecDepth 65536 in
theorem w_c2 : (Jvm.Cond.code ({ cls := "java/lang/Object", name := "<init>", desc := "()V" } : Jvm.MethodName) object_method_1_code (1 : Nat) (Option.none : Option Jvm.ClassFile.FieldType)).before args0 about1 = true := code_word (m := ⟨0, 0⟩) (meth := k0m0) (c := k0c0) (by decide +kernel) rfl rfl rfl (by decide +kernel)
set_option maxRecDepth 65536 in
theorem w_c3 : (Jvm.Cond.code ({ cls := "com/example/nearprint/nearprint/DisjointSetsRootPinLaw", name := "joinBoth", desc := "(Lcom/example/nearprint/nearprint/DisjointSets;[II)V" } : Jvm.MethodName) method_3_code (7 : Nat) (Option.none : Option Jvm.ClassFile.FieldType)).before args0 about1 = true := code_word (m := ⟨1, 2⟩) (meth := k1m2) (c := k1c2) (by decide +kernel) rfl rfl rfl (by decide +kernel)
set_option maxRecDepth 65536 in
theorem w_c4 : (Jvm.Cond.code ({ cls := "com/example/nearprint/nearprint/DisjointSets", name := "join", desc := "(II)V" } : Jvm.MethodName) prog_4_method_3_code (5 : Nat) (Option.none : Option Jvm.ClassFile.FieldType)).before args0 about1 = true := code_word (m := ⟨2, 2⟩) (meth := k2m2) (c := k2c2) (by decide +kernel) rfl rfl rfl (by decide +kernel)
set_option maxRecDepth 65536 in
theorem w_c5 : (Jvm.Cond.code ({ cls := "com/example/nearprint/nearprint/DisjointSets", name := "root", desc := "(I)I" } : Jvm.MethodName) prog_4_method_2_code (3 : Nat) (Option.some Jvm.ClassFile.FieldType.int)).before args0 about1 = true := code_word (m := ⟨2, 1⟩) (meth := k2m1) (c := k2c1) (by decide +kernel) rfl rfl rfl (by decide +kernel)
set_option maxRecDepth 65536 in
theorem w_c6 : (Jvm.Cond.code ({ cls := "com/example/nearprint/nearprint/DisjointSetsRootPinLaw", name := "relabel", desc := "([III)V" } : Jvm.MethodName) method_4_code (3 : Nat) (Option.none : Option Jvm.ClassFile.FieldType)).before args0 about1 = true := code_word (m := ⟨1, 3⟩) (meth := k1m3) (c := k1c3) (by decide +kernel) rfl rfl rfl (by decide +kernel)
def codes1 : List Jvm.Cond := [Jvm.Cond.code x code maxLocals ret, Jvm.Cond.code ({ cls := "com/example/nearprint/nearprint/DisjointSets", name := "<init>", desc := "(I)V" } : Jvm.MethodName) prog_4_method_1_code (3 : Nat) (Option.none : Option Jvm.ClassFile.FieldType), Jvm.Cond.code ({ cls := "java/lang/Object", name := "<init>", desc := "()V" } : Jvm.MethodName) object_method_1_code (1 : Nat) (Option.none : Option Jvm.ClassFile.FieldType), Jvm.Cond.code ({ cls := "com/example/nearprint/nearprint/DisjointSetsRootPinLaw", name := "joinBoth", desc := "(Lcom/example/nearprint/nearprint/DisjointSets;[II)V" } : Jvm.MethodName) method_3_code (7 : Nat) (Option.none : Option Jvm.ClassFile.FieldType), Jvm.Cond.code ({ cls := "com/example/nearprint/nearprint/DisjointSets", name := "join", desc := "(II)V" } : Jvm.MethodName) prog_4_method_3_code (5 : Nat) (Option.none : Option Jvm.ClassFile.FieldType), Jvm.Cond.code ({ cls := "com/example/nearprint/nearprint/DisjointSets", name := "root", desc := "(I)I" } : Jvm.MethodName) prog_4_method_2_code (3 : Nat) (Option.some Jvm.ClassFile.FieldType.int), Jvm.Cond.code ({ cls := "com/example/nearprint/nearprint/DisjointSetsRootPinLaw", name := "relabel", desc := "([III)V" } : Jvm.MethodName) method_4_code (3 : Nat) (Option.none : Option Jvm.ClassFile.FieldType)]
set_option maxRecDepth 65536 in
theorem codes_eq : words1.filter isCode = codes1 := rfl
theorem w_codes : ∀ c ∈ words1.filter isCode, c.before args0 about1 = true := by
  rw [codes_eq]
  intro c hc
  simp only [codes1, List.mem_cons, List.not_mem_nil, or_false] at hc
  rcases hc with rfl | rfl | rfl | rfl | rfl | rfl | rfl
  · exact w_c0
  · exact w_c1
  · exact w_c2
  · exact w_c3
  · exact w_c4
  · exact w_c5
  · exact w_c6
set_option maxRecDepth 65536 in
theorem w_t1 : (words1.take 24).all (fun c => isCode c || c.before args0 about1) = true := by decide +kernel
set_option maxRecDepth 65536 in
theorem w_t2 : (words1.drop 24).all (fun c => isCode c || c.before args0 about1) = true := by decide +kernel
theorem w_tables : (allAtoms (Jvm.Cond.code x code maxLocals ret :: tables_1)).before args0 about1 = true := by
  rw [allAtoms_all]
  show words1.all (fun c => c.before args0 about1) = true
  refine all_split ?_ w_codes
  rw [← List.take_append_drop 24 words1, List.all_append, w_t1, w_t2]
  rfl
set_option maxRecDepth 65536 in
theorem w_case : (Jvm.Cond.and given_1 narrow_1).before args0 about1 = true := by decide +kernel
theorem w_applies : (headSpec (Jvm.Cond.code x code maxLocals ret :: tables_1) room_1).applies x e0.platform about1 = true :=
  (Spec.applies_iff w_frames).mpr ⟨w_running, w_runnable, w_alone, w_named, w_hears, w_ripe, w_room, w_tables⟩
theorem atStart : AtStart classFile x code maxLocals ret World_1 tables_1 room_1 Calls_1 rest_1 Pre_1 launch0 p0 e0 about1 theMethod args0 below0 :=
  ⟨lists_1, trivial, launch0.admits_env _ _ _, launch0.least_env, fairChoices_fair.cas, fairChoices_fair.clock, w_frames, w_args, w_heap, w_applies, trivial, trivial, w_case⟩
end start1
theorem witness_1 : WitnessClaimed_1 := ⟨start1.p0, start1.e0, start1.about1, start1.theMethod, start1.args0, start1.below0, start1.atStart⟩
end Jvm.Pilot.@@N@@

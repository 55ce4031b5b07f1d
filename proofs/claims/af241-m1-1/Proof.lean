import JvmDerived
import JvmDerived.Pilot.@@N@@Statement
import JvmDerived.Pilot.@@N@@Code
set_option linter.unusedVariables false
set_option linter.unusedSimpArgs false
namespace Jvm.Pilot.@@N@@
open Jvm Jvm.ClassFile Sem Op Lib Jvm.Free Jvm.Stand Jvm.LawKit Jvm.RoadKit Bundle Jvm.Pilot.@@N@@.Jvm.D
def own_ushr (x y : Int32) : Int32 := (x.toUInt32 >>> (y &&& 31).toUInt32).toInt32
def own_ushrL (x : Int64) (y : Int32) : Int64 := (x.toUInt64 >>> (y &&& 0x3f).toInt64.toUInt64).toInt64
section OwnKit
variable {p : Program} {l : Launch} {e : Env} {R : Room} {s : State} {m : MethodId} {args : Array Value} {below : List Frame} {meth : Method} {c : Code} {T : State} {locs : List Loc} {cells slots : Nat} {Z : State} {h h0 : Heap} {ce sl : Nat} {Q : Option Value → Heap → List Loc → Prop} {U U' : State} {a0 : Array Value}
/-- from U the walk comes to its return, and what it leaves is Q -/
def Go (p : Program) (e : Env) (below : List Frame) (s : State) (ce sl : Nat) (Q : Option Value → Heap → List Loc → Prop) (U : State) : Prop :=
  ∃ s₂ o, Steps p.tables e below U s₂ ∧ s₂.status = .running ∧ Ended s₂ below o ∧ ∃ v L, o = .returned v ∧ Q v s₂.heap L ∧ FrameEnd s o s₂ L ce sl
theorem Go.via (h : ∀ t, Steps p.tables e below U' t → Steps p.tables e below U t) (g : Go p e below s ce sl Q U') : Go p e below s ce sl Q U := by
  obtain ⟨s₂, o, h1, h2⟩ := g
  exact ⟨s₂, o, h _ h1, h2⟩
theorem Go.cast {g g' : JFrame} (q : g = g') (k : Go p e below s ce sl Q (T.setTop g')) : Go p e below s ce sl Q (T.setTop g) := q ▸ k
/-- the contract of a body: called with as', over the heap h0, it returns and leaves Q -/
def Meets (l : Launch) (Z : State) (y : MethodName) (bytes : ByteArray) (maxL : Nat) (rt : Option FieldType) (ws : List Jvm.Cond) (rm : Room) (as' : Array Value) (h0 : Heap) (Q : Option Value → Heap → List Loc → Prop) : Prop :=
  MetFree l y (head1 (Jvm.Cond.code y bytes maxL rt :: ws) rm) (fun a U => a = as' ∧ Z.Warmed39 U.vm ∧ U.heap = h0) (fun _ _ _ _ _ => True) (fun _ U o U' => ∃ v L, o = .returned v ∧ Q v U'.heap L ∧ FrameEnd U o U' L rm.cells rm.slots)
theorem meets_of {y : MethodName} {bytes : ByteArray} {maxL : Nat} {rt : Option FieldType} {ws : List Jvm.Cond} {rm : Room} {as' : Array Value} (hpl : plainFor y = true)
    (body : ∀ p e s m below meth c s₁, Stand p l e rm s m as' below meth c s₁ [] 0 0 → p.tables.exec = Jvm.exec → Z.Warmed39 s.vm → c.code = bytes → c.maxLocals = maxL → meth.sig.returnType = rt → meth.locks = false → s.vm.findClass y.cls = some m.cls → meth.name = y.name → s₁.heap = h0 →
      Go p e below s rm.cells rm.slots Q (s₁.setTop (entryFrame m as' maxL))) : Meets l Z y bytes maxL rt ws rm as' h0 Q := by
  refine MetFree.of_bodySF hpl hisR ?_
  intro p e s m args below meth c s₁ Bd hml hP hK
  obtain ⟨rfl, hZ, hh⟩ := hP
  exact body p e s m below meth c s₁ (Stand.of_body Bd) Bd.exec hZ Bd.bytes hml Bd.returns Bd.notSynchronized (findClass_of_methodNamed Bd.named) (name_of_methodNamed Bd.named Bd.method).1 (by rw [← hh, Bd.state]; rfl)
theorem go_ret (X : Stand p l e R s m args below meth c T locs cells slots) (hlk : meth.locks = false) {v : Option Value} (hv : meth.sig.returnType = none → v = none) (eT : T.heap = h) (hQ : Q v h locs) (hc : cells ≤ ce) (hs : slots ≤ sl)
    (st : ∀ fs, (∀ (f : JFrame) (acts : List Action), f.method = m → f.locked = none → f.entered = [] → (doReturn e (T.setTop f) acts v).1 = T.setFrames fs) → Steps p.tables e below U (T.setFrames fs)) : Go p e below s ce sl Q U := by
  obtain ⟨fs, hr, hrun, hended, hW, hsame⟩ := X.leave hv hlk
  exact ⟨_, _, st fs hr, hrun, hended, v, locs, rfl, (by show Q v T.heap locs; rw [eT]; exact hQ), ⟨_, rfl⟩, hW, hsame.mono hc hs⟩
theorem go_retN (X : Stand p l e R s m args below meth c T locs cells slots) (hx : p.tables.exec = Jvm.exec) (hlk : meth.locks = false) {t : FieldType} (hret : meth.sig.returnType = some t) (ht : t = .boolean ∨ t = .byte ∨ t = .char ∨ t = .short) {pc : Nat} {Ls : Array Slot} {z : Int32} {rest : List Value}
    (hd : decode c.code pc = .ok (.ireturn, 1)) (eT : T.heap = h) (hQ : Q (some (.int (nar t z))) h locs) (hc : cells ≤ ce) (hs : slots ≤ sl) : Go p e below s ce sl Q (T.setTop (mkF m pc Ls (.int z :: rest))) :=
  go_ret X hlk (fun h => by rw [hret] at h; cases h) eT hQ hc hs (fun fs hr => retN X hx hret ht hd hr)
theorem go_retI (X : Stand p l e R s m args below meth c T locs cells slots) (hx : p.tables.exec = Jvm.exec) (hlk : meth.locks = false) (hret : meth.sig.returnType = some .int) {pc : Nat} {Ls : Array Slot} {z : Int32} {rest : List Value}
    (hd : decode c.code pc = .ok (.ireturn, 1)) (eT : T.heap = h) (hQ : Q (some (.int z)) h locs) (hc : cells ≤ ce) (hs : slots ≤ sl) : Go p e below s ce sl Q (T.setTop (mkF m pc Ls (.int z :: rest))) :=
  go_ret X hlk (fun h => by rw [hret] at h; cases h) eT hQ hc hs (fun fs hr => retOut X hx hret rfl (Or.inl ⟨rfl, Or.inl rfl, z, rfl⟩) hd hr)
theorem go_retJ (X : Stand p l e R s m args below meth c T locs cells slots) (hx : p.tables.exec = Jvm.exec) (hlk : meth.locks = false) (hret : meth.sig.returnType = some .long) {pc : Nat} {Ls : Array Slot} {z : Int64} {rest : List Value}
    (hd : decode c.code pc = .ok (.lreturn, 1)) (eT : T.heap = h) (hQ : Q (some (.long z)) h locs) (hc : cells ≤ ce) (hs : slots ≤ sl) : Go p e below s ce sl Q (T.setTop (mkF m pc Ls (.long z :: rest))) :=
  go_ret X hlk (fun h => by rw [hret] at h; cases h) eT hQ hc hs (fun fs hr => retOut X hx hret rfl (Or.inr (Or.inl ⟨rfl, rfl, z, rfl⟩)) hd hr)
theorem go_retA (X : Stand p l e R s m args below meth c T locs cells slots) (hx : p.tables.exec = Jvm.exec) (hlk : meth.locks = false) {t : FieldType} (hret : meth.sig.returnType = some t) (ht : t.isReference = true) {pc : Nat} {Ls : Array Slot} {w : Value} (hw : w.isRef = true) (hn : narrow t w = w) {rest : List Value}
    (hd : decode c.code pc = .ok (.areturn, 1)) (eT : T.heap = h) (hQ : Q (some w) h locs) (hc : cells ≤ ce) (hs : slots ≤ sl) : Go p e below s ce sl Q (T.setTop (mkF m pc Ls (w :: rest))) :=
  go_ret X hlk (fun h => by rw [hret] at h; cases h) eT hQ hc hs (fun fs hr => retOut X hx hret hn (Or.inr (Or.inr (Or.inr (Or.inr ⟨rfl, ht, hw⟩)))) hd hr)
theorem go_retV (X : Stand p l e R s m args below meth c T locs cells slots) (hx : p.tables.exec = Jvm.exec) (hlk : meth.locks = false) (hret : meth.sig.returnType = none) {pc : Nat} {Ls : Array Slot}
    (hd : decode c.code pc = .ok (.return_, 1)) (eT : T.heap = h) (hQ : Q none h locs) (hc : cells ≤ ce) (hs : slots ≤ sl) : Go p e below s ce sl Q (T.setTop (mkF m pc Ls [])) :=
  go_ret X hlk (fun _ => rfl) eT hQ hc hs (fun fs hr => X.returnOut hx hret hd hr)
/-- it returned v, wrote nothing and made nothing -/
def PureR (v : Option Value) (h0 : Heap) : Option Value → Heap → List Loc → Prop := fun v' h L => v' = v ∧ h = h0 ∧ L = []
/-- a static method by its contract -/
theorem callSQ (X : Stand p l e R s m args below meth c T locs cells slots) (hx : p.tables.exec = Jvm.exec) (hZ : Z.Warmed39 s.vm) {own : String} {index : Nat} {y : MethodName} {bytes : ByteArray} {maxL : Nat} {rt : Option FieldType} {rm : Room}
    (hown : s.vm.findClass own = some m.cls) (w1 : (Jvm.Cond.methodLink own index y).before a0 Z = true) (w2 : (Jvm.Cond.static y).before a0 Z = true) (w3 : (Jvm.Cond.initialized y.cls).before a0 Z = true) (w4 : (Jvm.Cond.code y bytes maxL rt).before a0 Z = true)
    (hy : y.cls ≠ "java/lang/invoke/MethodHandle" ∧ y.cls ≠ "java/lang/invoke/VarHandle") {av : List Value} (hM : Meets l Z y bytes maxL rt [] rm av.toArray h Q) (eT : T.heap = h)
    {pc : Nat} {Ls : Array Slot} {rest : List Value} {ps : List FieldType} {r : Option FieldType} (hsize : Ls.size = c.maxLocals) (hp : parseMethodDescriptor y.desc = some ⟨ps, r⟩) (hlen : av.length = ps.length)
    (W : Nat) (hW : (rest.map fun v => v.category).sum ≤ W) (hf : rm.frames + 1 ≤ R.frames) (hl : W + (maxL + 11) + rm.locals ≤ R.locals) (hc : cells + rm.cells ≤ R.cells) (hs : slots + rm.slots ≤ R.slots) (hd : decode c.code pc = .ok (.invokestatic index, 3)) :
    ∃ v T' L, Stand p l e R s m args below meth c T' (locs ++ L) (cells + rm.cells) (slots + rm.slots) ∧ Q v T'.heap L ∧
      ∀ t, Steps p.tables e below (T'.setTop (mkF m (pc + 3) Ls (v.toList ++ rest))) t → Steps p.tables e below (T.setTop (mkF m pc Ls (av.reverse ++ rest))) t := by
  obtain ⟨v, _, ⟨T2, L2, k2, n2⟩, -, X2, ⟨Lc2, hQ2, l2, y2, z2⟩, st2⟩ := Jvm.LawKit.callS X hx (y := y) hown (mvT hZ w1) (mvT hZ w2) (mvT hZ w3) (mvT hZ w4) hy (backOf (W := W) hM hZ w4 w3 hf hl) (g := mkF m pc Ls (av.reverse ++ rest)) rfl hsize (argsL := av) (rest := rest) (lenOf hp hlen) rfl (by show 2 * 0 + _ ≤ _; rw [Nat.mul_zero, Nat.zero_add]; exact hW) hd (fun _ _ => ⟨rfl, eT, hc, hs⟩)
  dsimp only [Pt.U, Pt.locs, Pt.cells, Pt.slots] at X2 l2 y2 z2 st2 hQ2
  subst l2 y2 z2
  exact ⟨v, T2, Lc2, X2, hQ2, st2⟩
/-- a static method that writes and makes nothing -/
theorem callS0 (X : Stand p l e R s m args below meth c T locs cells slots) (hx : p.tables.exec = Jvm.exec) (hZ : Z.Warmed39 s.vm) {own : String} {index : Nat} {y : MethodName} {bytes : ByteArray} {maxL : Nat} {rt : Option FieldType} {fr lo : Nat} {v : Option Value}
    (hown : s.vm.findClass own = some m.cls) (w1 : (Jvm.Cond.methodLink own index y).before a0 Z = true) (w2 : (Jvm.Cond.static y).before a0 Z = true) (w3 : (Jvm.Cond.initialized y.cls).before a0 Z = true) (w4 : (Jvm.Cond.code y bytes maxL rt).before a0 Z = true)
    (hy : y.cls ≠ "java/lang/invoke/MethodHandle" ∧ y.cls ≠ "java/lang/invoke/VarHandle") {av : List Value} (hM : Meets l Z y bytes maxL rt [] ({ frames := fr, cells := 0, slots := 0, locals := lo } : Room) av.toArray h (PureR v h)) (eT : T.heap = h)
    {pc : Nat} {Ls : Array Slot} {rest : List Value} {ps : List FieldType} {r : Option FieldType} (hsize : Ls.size = c.maxLocals) (hp : parseMethodDescriptor y.desc = some ⟨ps, r⟩) (hlen : av.length = ps.length)
    (W : Nat) (hW : (rest.map fun v => v.category).sum ≤ W) (hf : fr + 1 ≤ R.frames) (hl : W + (maxL + 11) + lo ≤ R.locals) (hc : cells ≤ R.cells) (hs : slots ≤ R.slots) (hd : decode c.code pc = .ok (.invokestatic index, 3)) :
    ∃ T', Stand p l e R s m args below meth c T' locs cells slots ∧ T'.heap = h ∧
      ∀ t, Steps p.tables e below (T'.setTop (mkF m (pc + 3) Ls (v.toList ++ rest))) t → Steps p.tables e below (T.setTop (mkF m pc Ls (av.reverse ++ rest))) t := by
  obtain ⟨_, T2, _, X2, ⟨rfl, h2, rfl⟩, st2⟩ := callSQ X hx hZ hown w1 w2 w3 w4 hy hM eT hsize hp hlen W hW hf hl hc hs hd
  rw [List.append_nil] at X2
  exact ⟨T2, X2, h2, st2⟩
end OwnKit
section OwnKit2
variable {p : Program} {l : Launch} {e : Env} {R : Room} {s : State} {m : MethodId} {args : Array Value} {below : List Frame} {meth : Method} {c : Code} {T : State} {locs : List Loc} {cells slots : Nat} {Z : State} {h h0 : Heap} {ce sl : Nat} {Q : Option Value → Heap → List Loc → Prop} {U U' : State} {a0 : Array Value}
/-- an instance method by its contract, the resolved one being the selected one -/
theorem callVQ (X : Stand p l e R s m args below meth c T locs cells slots) (hx : p.tables.exec = Jvm.exec) (hZ : Z.Warmed39 s.vm) {own C : String} {index : Nat} {y : MethodName} {bytes : ByteArray} {maxL : Nat} {rt : Option FieldType} {rm : Room}
    (hown : s.vm.findClass own = some m.cls) (w1 : (Jvm.Cond.methodLink own index y).before a0 Z = true) (w2 : (Jvm.Cond.declares y).before a0 Z = true) (w3 : (Jvm.Cond.selects C y y).before a0 Z = true) (w5 : (Jvm.Cond.instanceMethod y).before a0 Z = true) (w6 : (Jvm.Cond.initialized y.cls).before a0 Z = true) (w4 : (Jvm.Cond.code y bytes maxL rt).before a0 Z = true)
    (hy : y.cls ≠ "java/lang/invoke/MethodHandle" ∧ y.cls ≠ "java/lang/invoke/VarHandle") {b : Addr} {av : List Value} (hE : Exa Z h b C) (hM : Meets l Z y bytes maxL rt [] rm (.ref b :: av).toArray h Q) (eT : T.heap = h)
    {pc : Nat} {Ls : Array Slot} {rest : List Value} {ps : List FieldType} {r : Option FieldType} (hsize : Ls.size = c.maxLocals) (hp : parseMethodDescriptor y.desc = some ⟨ps, r⟩) (hlen : av.length = ps.length)
    (W : Nat) (hW : (rest.map fun v => v.category).sum ≤ W) (hf : rm.frames + 1 ≤ R.frames) (hl : W + (maxL + 11) + rm.locals ≤ R.locals) (hc : cells + rm.cells ≤ R.cells) (hs : slots + rm.slots ≤ R.slots) (hd : decode c.code pc = .ok (.invokevirtual index, 3)) :
    ∃ v T' L, Stand p l e R s m args below meth c T' (locs ++ L) (cells + rm.cells) (slots + rm.slots) ∧ Q v T'.heap L ∧
      ∀ t, Steps p.tables e below (T'.setTop (mkF m (pc + 3) Ls (v.toList ++ rest))) t → Steps p.tables e below (T.setTop (mkF m pc Ls (av.reverse ++ .ref b :: rest))) t := by
  obtain ⟨cq, kq, qa, qb, qc⟩ := isOf hZ eT hE
  obtain ⟨v, _, ⟨T2, L2, k2, n2⟩, -, X2, ⟨Lc2, hQ2, l2, y2, z2⟩, st2⟩ := X.virtualBack hx (y := y) (z := y) hown (mvT hZ w1) (mvT hZ w2) (notFace_of_selects (args := #[]) (mvT hZ w3)) (mvT hZ w3) (mvT hZ w5) hy (backOf (W := W) hM hZ w4 w6 hf hl) qa qc (g := mkF m pc Ls (av.reverse ++ .ref b :: rest)) rfl hsize (Steps.refl _) (argsL := av) (rest := rest) (lenOf hp hlen) rfl (by show 2 * 0 + _ ≤ _; rw [Nat.mul_zero, Nat.zero_add]; exact hW) hd (fun _ _ => ⟨rfl, eT, hc, hs⟩)
  dsimp only [Pt.U, Pt.locs, Pt.cells, Pt.slots] at X2 l2 y2 z2 st2 hQ2
  subst l2 y2 z2
  exact ⟨v, T2, Lc2, X2, hQ2, fun t k => st2.trans k⟩
theorem callV0 (X : Stand p l e R s m args below meth c T locs cells slots) (hx : p.tables.exec = Jvm.exec) (hZ : Z.Warmed39 s.vm) {own C : String} {index : Nat} {y : MethodName} {bytes : ByteArray} {maxL : Nat} {rt : Option FieldType} {fr lo : Nat} {v : Option Value}
    (hown : s.vm.findClass own = some m.cls) (w1 : (Jvm.Cond.methodLink own index y).before a0 Z = true) (w2 : (Jvm.Cond.declares y).before a0 Z = true) (w3 : (Jvm.Cond.selects C y y).before a0 Z = true) (w5 : (Jvm.Cond.instanceMethod y).before a0 Z = true) (w6 : (Jvm.Cond.initialized y.cls).before a0 Z = true) (w4 : (Jvm.Cond.code y bytes maxL rt).before a0 Z = true)
    (hy : y.cls ≠ "java/lang/invoke/MethodHandle" ∧ y.cls ≠ "java/lang/invoke/VarHandle") {b : Addr} {av : List Value} (hE : Exa Z h b C) (hM : Meets l Z y bytes maxL rt [] ({ frames := fr, cells := 0, slots := 0, locals := lo } : Room) (.ref b :: av).toArray h (PureR v h)) (eT : T.heap = h)
    {pc : Nat} {Ls : Array Slot} {rest : List Value} {ps : List FieldType} {r : Option FieldType} (hsize : Ls.size = c.maxLocals) (hp : parseMethodDescriptor y.desc = some ⟨ps, r⟩) (hlen : av.length = ps.length)
    (W : Nat) (hW : (rest.map fun v => v.category).sum ≤ W) (hf : fr + 1 ≤ R.frames) (hl : W + (maxL + 11) + lo ≤ R.locals) (hc : cells ≤ R.cells) (hs : slots ≤ R.slots) (hd : decode c.code pc = .ok (.invokevirtual index, 3)) :
    ∃ T', Stand p l e R s m args below meth c T' locs cells slots ∧ T'.heap = h ∧
      ∀ t, Steps p.tables e below (T'.setTop (mkF m (pc + 3) Ls (v.toList ++ rest))) t → Steps p.tables e below (T.setTop (mkF m pc Ls (av.reverse ++ .ref b :: rest))) t := by
  obtain ⟨_, T2, _, X2, ⟨rfl, h2, rfl⟩, st2⟩ := callVQ X hx hZ hown w1 w2 w3 w5 w6 w4 hy hE hM eT hsize hp hlen W hW hf hl hc hs hd
  rw [List.append_nil] at X2
  exact ⟨T2, X2, h2, st2⟩
/-- a constructor by its contract -/
theorem callIQ (X : Stand p l e R s m args below meth c T locs cells slots) (hx : p.tables.exec = Jvm.exec) (hZ : Z.Warmed39 s.vm) {own : String} {index : Nat} {y : MethodName} {bytes : ByteArray} {maxL : Nat} {rm : Room} (hy1 : y.name = "<init>")
    (hown : s.vm.findClass own = some m.cls) (w1 : (Jvm.Cond.methodLink own index y).before a0 Z = true) (w5 : (Jvm.Cond.instanceMethod y).before a0 Z = true) (w6 : (Jvm.Cond.initialized y.cls).before a0 Z = true) (w4 : (Jvm.Cond.code y bytes maxL none).before a0 Z = true)
    (hy : y.cls ≠ "java/lang/invoke/MethodHandle" ∧ y.cls ≠ "java/lang/invoke/VarHandle") {b : Addr} {av : List Value} (hM : Meets l Z y bytes maxL none [] rm (.ref b :: av).toArray h Q) (eT : T.heap = h)
    {pc : Nat} {Ls : Array Slot} {rest : List Value} {ps : List FieldType} {r : Option FieldType} (hsize : Ls.size = c.maxLocals) (hp : parseMethodDescriptor y.desc = some ⟨ps, r⟩) (hlen : av.length = ps.length)
    (W : Nat) (hW : (rest.map fun v => v.category).sum ≤ W) (hf : rm.frames + 1 ≤ R.frames) (hl : W + (maxL + 11) + rm.locals ≤ R.locals) (hc : cells + rm.cells ≤ R.cells) (hs : slots + rm.slots ≤ R.slots) (hd : decode c.code pc = .ok (.invokespecial index, 3)) :
    ∃ v T' L, Stand p l e R s m args below meth c T' (locs ++ L) (cells + rm.cells) (slots + rm.slots) ∧ Q v T'.heap L ∧
      ∀ t, Steps p.tables e below (T'.setTop (mkF m (pc + 3) Ls (v.toList ++ rest))) t → Steps p.tables e below (T.setTop (mkF m pc Ls (av.reverse ++ .ref b :: rest))) t := by
  obtain ⟨v, _, ⟨T2, L2, k2, n2⟩, -, X2, ⟨Lc2, hQ2, l2, y2, z2⟩, st2⟩ := X.specialBack hx (y := y) hy1 hown (mvT hZ w1) (mvT hZ w5) (mvT hZ w4) hy (backOf (W := W) hM hZ w4 w6 hf hl) (g := mkF m pc Ls (av.reverse ++ .ref b :: rest)) rfl hsize (Steps.refl _) (a := b) (argsL := av) (rest := rest) (lenOf hp hlen) rfl (by show 2 * 0 + _ ≤ _; rw [Nat.mul_zero, Nat.zero_add]; exact hW) hd (fun _ _ => ⟨rfl, eT, hc, hs⟩)
  dsimp only [Pt.U, Pt.locs, Pt.cells, Pt.slots] at X2 l2 y2 z2 st2 hQ2
  subst l2 y2 z2
  exact ⟨v, T2, Lc2, X2, hQ2, fun t k => st2.trans k⟩
/-- a private method by its contract; that its class is no interface is told by another word of it -/
theorem callPQ (X : Stand p l e R s m args below meth c T locs cells slots) (hx : p.tables.exec = Jvm.exec) (hZ : Z.Warmed39 s.vm) {own C : String} {index : Nat} {y y2 : MethodName} {bytes : ByteArray} {maxL : Nat} {rt : Option FieldType} {rm : Room}
    (hown : s.vm.findClass own = some m.cls) (w1 : (Jvm.Cond.methodLink own index y).before a0 Z = true) (w5 : (Jvm.Cond.instanceMethod y).before a0 Z = true) (wp : (Jvm.Cond.privateMethod y).before a0 Z = true) (w3 : (Jvm.Cond.selects y2.cls y2 y2).before a0 Z = true) (hc2 : y2.cls = y.cls) (w6 : (Jvm.Cond.initialized y.cls).before a0 Z = true) (w4 : (Jvm.Cond.code y bytes maxL rt).before a0 Z = true)
    (hy : y.cls ≠ "java/lang/invoke/MethodHandle" ∧ y.cls ≠ "java/lang/invoke/VarHandle") {b : Addr} {av : List Value} (hE : Exa Z h b C) (hM : Meets l Z y bytes maxL rt [] rm (.ref b :: av).toArray h Q) (eT : T.heap = h)
    {pc : Nat} {Ls : Array Slot} {rest : List Value} {ps : List FieldType} {r : Option FieldType} (hsize : Ls.size = c.maxLocals) (hp : parseMethodDescriptor y.desc = some ⟨ps, r⟩) (hlen : av.length = ps.length)
    (W : Nat) (hW : (rest.map fun v => v.category).sum ≤ W) (hf : rm.frames + 1 ≤ R.frames) (hl : W + (maxL + 11) + rm.locals ≤ R.locals) (hc : cells + rm.cells ≤ R.cells) (hs : slots + rm.slots ≤ R.slots) (hd : decode c.code pc = .ok (.invokevirtual index, 3)) :
    ∃ v T' L, Stand p l e R s m args below meth c T' (locs ++ L) (cells + rm.cells) (slots + rm.slots) ∧ Q v T'.heap L ∧
      ∀ t, Steps p.tables e below (T'.setTop (mkF m (pc + 3) Ls (v.toList ++ rest))) t → Steps p.tables e below (T.setTop (mkF m pc Ls (av.reverse ++ .ref b :: rest))) t := by
  obtain ⟨cell, q1, q2⟩ := hE.cell
  have hpriv := Cond.privateMethod_at (mvP hZ wp (args := args))
  have w3' : (Jvm.Cond.selects y2.cls y2 y2).before args s = true := mvT hZ w3
  obtain ⟨c2, r2, m2, -, -, q3, -, kP, hkP, hkPi⟩ := Cond.selects_spec w3'
  have hsel : (Jvm.Cond.selects y.cls y y).before args s = true := selects_self_of_private (hc2 ▸ findClass_of_methodNamed q3) hkP hkPi hpriv (mvT hZ w5) hy
  obtain ⟨v, _, ⟨T2, L2, k2, n2⟩, -, X2, ⟨Lc2, hQ2, l2, y2', z2⟩, st2⟩ := X.privateBack hx (y := y) hown (mvT hZ w1) (mvT hZ w5) hsel hpriv (mvT hZ w4) hy (backOf (W := W) hM hZ w4 w6 hf hl) (g := mkF m pc Ls (av.reverse ++ .ref b :: rest)) rfl hsize (Steps.refl _) (a := b) (by rw [eT]; exact q1) q2 (argsL := av) (rest := rest) (lenOf hp hlen) rfl (by show 2 * 0 + _ ≤ _; rw [Nat.mul_zero, Nat.zero_add]; exact hW) hd (fun _ _ => ⟨rfl, eT, hc, hs⟩)
  dsimp only [Pt.U, Pt.locs, Pt.cells, Pt.slots] at X2 l2 y2' z2 st2 hQ2
  subst l2 y2' z2
  exact ⟨v, T2, Lc2, X2, hQ2, fun t k => st2.trans k⟩
theorem callP0 (X : Stand p l e R s m args below meth c T locs cells slots) (hx : p.tables.exec = Jvm.exec) (hZ : Z.Warmed39 s.vm) {own C : String} {index : Nat} {y y2 : MethodName} {bytes : ByteArray} {maxL : Nat} {rt : Option FieldType} {fr lo : Nat} {v : Option Value}
    (hown : s.vm.findClass own = some m.cls) (w1 : (Jvm.Cond.methodLink own index y).before a0 Z = true) (w5 : (Jvm.Cond.instanceMethod y).before a0 Z = true) (wp : (Jvm.Cond.privateMethod y).before a0 Z = true) (w3 : (Jvm.Cond.selects y2.cls y2 y2).before a0 Z = true) (hc2 : y2.cls = y.cls) (w6 : (Jvm.Cond.initialized y.cls).before a0 Z = true) (w4 : (Jvm.Cond.code y bytes maxL rt).before a0 Z = true)
    (hy : y.cls ≠ "java/lang/invoke/MethodHandle" ∧ y.cls ≠ "java/lang/invoke/VarHandle") {b : Addr} {av : List Value} (hE : Exa Z h b C) (hM : Meets l Z y bytes maxL rt [] ({ frames := fr, cells := 0, slots := 0, locals := lo } : Room) (.ref b :: av).toArray h (PureR v h)) (eT : T.heap = h)
    {pc : Nat} {Ls : Array Slot} {rest : List Value} {ps : List FieldType} {r : Option FieldType} (hsize : Ls.size = c.maxLocals) (hp : parseMethodDescriptor y.desc = some ⟨ps, r⟩) (hlen : av.length = ps.length)
    (W : Nat) (hW : (rest.map fun v => v.category).sum ≤ W) (hf : fr + 1 ≤ R.frames) (hl : W + (maxL + 11) + lo ≤ R.locals) (hc : cells ≤ R.cells) (hs : slots ≤ R.slots) (hd : decode c.code pc = .ok (.invokevirtual index, 3)) :
    ∃ T', Stand p l e R s m args below meth c T' locs cells slots ∧ T'.heap = h ∧
      ∀ t, Steps p.tables e below (T'.setTop (mkF m (pc + 3) Ls (v.toList ++ rest))) t → Steps p.tables e below (T.setTop (mkF m pc Ls (av.reverse ++ .ref b :: rest))) t := by
  obtain ⟨_, T2, _, X2, ⟨rfl, h2, rfl⟩, st2⟩ := callPQ X hx hZ hown w1 w5 wp w3 hc2 w6 w4 hy hE hM eT hsize hp hlen W hW hf hl hc hs hd
  rw [List.append_nil] at X2
  exact ⟨T2, X2, h2, st2⟩
end OwnKit2
section OwnKit3
variable {args : Array Value} {first s : State} {o : Option Outcome} {idx : List Nat} {a b : Term}
theorem own_eqI {k : Int32} (h : (Jvm.Cond.eq a (.int k)).value args first o s idx = some true) : a.eval args first o idx s = some (.int k) := by
  obtain ⟨x, y, hx, hy, -, hk⟩ := cmp_v (Or.inl h)
  rw [Term.int_eval] at hy
  cases hy
  obtain ⟨z, rfl⟩ := hk
  have q := gotT (Cond.eq_ints hx (Term.int_eval k)) h
  rw [hx, q]
theorem own_eqR {b' : Addr} (h : (Jvm.Cond.eq a b).value args first o s idx = some true) (hb : b.eval args first o idx s = some (.ref b')) : a.eval args first o idx s = some (.ref b') := by
  obtain ⟨x, y, hx, hy, -, hk⟩ := cmp_v (Or.inl h)
  rw [hb] at hy
  cases hy
  have hk' : x.isRef = true := hk.2
  have q := gotT (eq_R hx hb hk' rfl) h
  rw [hx, q]
theorem own_lenEq {Z : State} {x : Addr} {cl : Cell} {ty : FieldType} {t : Term} {n : Int32} (ev : t.eval args Z none [] Z = some (.ref x)) (A : Arr Z Z.heap x cl ty) (h : (Jvm.Cond.eq (.length t) (.int n)).value args Z none Z [] = some true) : cl.slots.size = n.toNatClampNeg := by
  have q := own_eqI h
  have ha : Z.arrayAt? x = some cl := Arr.fin (Vm.Alike.refl _) A
  by_cases c : cl.slots.size < 2 ^ 31
  · rw [len_f ev ha c] at q
    have e : cl.slots.size.toInt32 = n := Value.int.inj (Option.some.inj q)
    rw [← e]
    have e2 : (cl.slots.size.toInt32).toInt = cl.slots.size := len_toInt c
    show cl.slots.size = (cl.slots.size.toInt32).toInt.toNat
    omega
  · exfalso
    have q2 : (Term.length t).eval args Z none [] Z = none := by simp [Term.eval, ev, ha, c]
    rw [q2] at q
    cases q
end OwnKit3
section OwnKit4
variable {p : Program} {l : Launch} {e : Env} {R : Room} {s : State} {m : MethodId} {args : Array Value} {below : List Frame} {meth : Method} {c : Code} {T : State} {locs : List Loc} {cells slots : Nat} {Z : State} {h h0 h' : Heap} {a b : Addr} {a0 : Array Value} {k : ClassId} {ty : FieldType} {z j x : Int32} {f : Nat → Int32} {ws : List Addr} {sl : Nat} {v : Value}
/-- an array of ints (or of a narrower kind), its length z, its elements by a function -/
def Arf (Z : State) (h : Heap) (a : Addr) (k : ClassId) (ty : FieldType) (z : Int32) (f : Nat → Int32) : Prop := ∃ c : Cell, Arr Z h a c ty ∧ c.cls = k ∧ c.slots.size = z.toNatClampNeg ∧ ¬ z < 0 ∧ (∀ i, i < c.slots.size → c.slots[i]? = some (.int (f i))) ∧ ∀ i, i < c.slots.size → fits ty (.int (f i)) = true
def own_upd (f : Nat → Int32) (j : Nat) (v : Int32) : Nat → Int32 := fun i => if i = j then v else f i
theorem Arf.lt (F : Arf Z h a k ty z f) : a < h.size := by obtain ⟨c, A, -⟩ := F; exact A.lt
theorem Arf.ext (F : Arf Z h a k ty z f) (E : Ext h h') : Arf Z h' a k ty z f := by obtain ⟨c, A, r⟩ := F; exact ⟨c, A.ext E, r⟩
theorem Arf.other (F : Arf Z h b k ty z f) (W : Wr h h' a sl v) (q : b ≠ a) : Arf Z h' b k ty z f := by obtain ⟨c, A, r⟩ := F; exact ⟨c, A.other W q, r⟩
theorem Arf.keep (F : Arf Z h a k ty z f) (K : Keep h h' ws) (q : a ∉ ws) : Arf Z h' a k ty z f := by obtain ⟨c, A, r⟩ := F; exact ⟨c, ⟨K.2.1 a c A.1 q, A.2⟩, r⟩
theorem Arf.congr {f' : Nat → Int32} (F : Arf Z h a k ty z f) (q : ∀ i, i < z.toNatClampNeg → f i = f' i) : Arf Z h a k ty z f' := by
  obtain ⟨c, A, q1, S, q3, H, G⟩ := F
  exact ⟨c, A, q1, S, q3, fun i hi => by rw [H i hi, q i (S ▸ hi)], fun i hi => by rw [← q i (S ▸ hi)]; exact G i hi⟩
theorem Arf.new (A : Arr Z h a (newA k ty z) ty) (q : ¬ z < 0) (hd : defaultValue ty = .int 0) (hf : fits ty (.int 0) = true) : Arf Z h a k ty z (fun _ => 0) :=
  ⟨_, A, rfl, sz_new _ _ _, q, fun i hi => by rw [sz_new] at hi; simp [newA, hd, hi], fun _ _ => hf⟩
theorem Arf.set {c : Cell} (A : Arr Z h a c ty) (q1 : c.cls = k) (S : c.slots.size = z.toNatClampNeg) (q3 : ¬ z < 0) (H : ∀ i, i < c.slots.size → c.slots[i]? = some (.int (f i))) (G : ∀ i, i < c.slots.size → fits ty (.int (f i)) = true) (hv : fits ty (.int x) = true) (W : Wr h h' a j.toNatClampNeg (.int x)) : Arf Z h' a k ty z (own_upd f j.toNatClampNeg x) := by
  refine ⟨c.setSlot j.toNatClampNeg (.int x), A.same W, q1, (sz_set _ _ _).trans S, q3, fun i hi => ?_, fun i hi => ?_⟩
  · rw [sz_set] at hi
    by_cases e : i = j.toNatClampNeg
    · subst e; simp [Cell.setSlot, own_upd, hi]
    · have e' : ¬ j.toNatClampNeg = i := fun q => e q.symm
      have := H i hi
      simp [Cell.setSlot, own_upd, e, e', this]
  · rw [sz_set] at hi
    by_cases e : i = j.toNatClampNeg
    · subst e; simp only [own_upd, if_pos rfl]; exact hv
    · simp only [own_upd, if_neg e]; exact G i hi
theorem Arf.arv (F : Arf Z h a k ty z f) : Arv Z h a k ty z ((List.range z.toNatClampNeg).map fun i => Value.int (f i)) (.int 0) := by
  obtain ⟨c, A, q1, S, q3, H, G⟩ := F
  have q : ∀ i, i < c.slots.size → ((List.range z.toNatClampNeg).map fun i => Value.int (f i)).getD i (.int 0) = .int (f i) := fun i hi => by rw [S] at hi; simp [List.getD, hi]
  exact ⟨c, A, q1, S, q3, fun i hi => by rw [q i hi]; exact H i hi, fun i hi => by rw [q i hi]; exact G i hi⟩
theorem Arf.of_arv {vs : List Value} {d : Value} (F : Arv Z h a k ty z vs d) (q : ∀ i, i < z.toNatClampNeg → vs.getD i d = .int (f i)) : Arf Z h a k ty z f := by
  obtain ⟨c, A, q1, S, q3, H, G⟩ := F
  exact ⟨c, A, q1, S, q3, fun i hi => by rw [H i hi, q i (S ▸ hi)], fun i hi => by rw [← q i (S ▸ hi)]; exact G i hi⟩
theorem own_inb (F : Arf Z h a k ty z f) (q : ¬ j < 0 ∧ j < z) : ∃ c : Cell, Arr Z h a c ty ∧ ¬ (j < 0 ∨ c.slots.size ≤ j.toNatClampNeg) ∧ c.slots[j.toNatClampNeg]? = some (.int (f j.toNatClampNeg)) ∧ fits ty (.int (f j.toNatClampNeg)) = true := by
  obtain ⟨c, A, q1, S, q3, H, G⟩ := F
  have hin := inb_of S q
  have hlt : j.toNatClampNeg < c.slots.size := Nat.lt_of_not_le fun y => hin (Or.inr y)
  exact ⟨c, A, hin, H _ hlt, G _ hlt⟩
theorem own_len (X : Stand p l e R s m args below meth c T locs cells slots) (hx : p.tables.exec = Jvm.exec) (hZ : Z.Warmed39 s.vm) (eT : T.heap = h) (F : Arf Z h a k ty z f) {pc : Nat} {Ls : Array Slot} {rest : List Value} (hd : decode c.code pc = .ok (.arraylength, 1)) :
    ∀ t, Steps p.tables e below (T.setTop (mkF m (pc + 1) Ls (.int z :: rest))) t → Steps p.tables e below (T.setTop (mkF m pc Ls (.ref a :: rest))) t := by
  obtain ⟨cl, A, q1, S, q3, H, G⟩ := F
  intro t k
  refine X.arraylength hx (by rw [eT]; exact A.1) (State.isArrayOf_alike hZ.alike A.2.1) (g := mkF m pc Ls (.ref a :: rest)) rfl rfl hd _ ?_
  rw [len_of S q3]
  exact k
theorem own_ldI (X : Stand p l e R s m args below meth c T locs cells slots) (hx : p.tables.exec = Jvm.exec) (hZ : Z.Warmed39 s.vm) (eT : T.heap = h) (F : Arf Z h a k .int z f) (q : ¬ j < 0 ∧ j < z) {pc : Nat} {Ls : Array Slot} {rest : List Value} (hd : decode c.code pc = .ok (.iaload, 1)) :
    ∀ t, Steps p.tables e below (T.setTop (mkF m (pc + 1) Ls (.int (f j.toNatClampNeg) :: rest))) t → Steps p.tables e below (T.setTop (mkF m pc Ls (.int j :: .ref a :: rest))) t := by
  obtain ⟨cl, A, hin, hat, -⟩ := own_inb F q
  exact fun t k => X.iaload hx (by rw [eT]; exact A.1) (State.isArrayOf_alike hZ.alike A.2.1) A.2.2 hin hat (g := mkF m pc Ls (.int j :: .ref a :: rest)) rfl rfl hd _ k
theorem own_ldB (X : Stand p l e R s m args below meth c T locs cells slots) (hx : p.tables.exec = Jvm.exec) (hZ : Z.Warmed39 s.vm) (eT : T.heap = h) (F : Arf Z h a k .byte z f) (q : ¬ j < 0 ∧ j < z) {pc : Nat} {Ls : Array Slot} {rest : List Value} (hd : decode c.code pc = .ok (.baload, 1)) :
    ∀ t, Steps p.tables e below (T.setTop (mkF m (pc + 1) Ls (.int (f j.toNatClampNeg) :: rest))) t → Steps p.tables e below (T.setTop (mkF m pc Ls (.int j :: .ref a :: rest))) t := by
  obtain ⟨cl, A, hin, hat, -⟩ := own_inb F q
  exact fun t k => X.baloadBytes hx (by rw [eT]; exact A.1) (State.isArrayOf_alike hZ.alike A.2.1) A.2.2 hin hat (g := mkF m pc Ls (.int j :: .ref a :: rest)) rfl rfl hd _ k
theorem own_ldZ (X : Stand p l e R s m args below meth c T locs cells slots) (hx : p.tables.exec = Jvm.exec) (hZ : Z.Warmed39 s.vm) (eT : T.heap = h) (F : Arf Z h a k .boolean z f) (q : ¬ j < 0 ∧ j < z) {pc : Nat} {Ls : Array Slot} {rest : List Value} (hd : decode c.code pc = .ok (.baload, 1)) :
    ∀ t, Steps p.tables e below (T.setTop (mkF m (pc + 1) Ls (.int (f j.toNatClampNeg) :: rest))) t → Steps p.tables e below (T.setTop (mkF m pc Ls (.int j :: .ref a :: rest))) t := by
  obtain ⟨cl, A, hin, hat, -⟩ := own_inb F q
  exact fun t k => X.baloadBooleans hx (by rw [eT]; exact A.1) (State.isArrayOf_alike hZ.alike A.2.1) A.2.2 hin hat (g := mkF m pc Ls (.int j :: .ref a :: rest)) rfl rfl hd _ k
theorem own_stI (X : Stand p l e R s m args below meth c T locs cells slots) (hx : p.tables.exec = Jvm.exec) (hZ : Z.Warmed39 s.vm) (eT : T.heap = h) (F : Arf Z h a k .int z f) (q : ¬ j < 0 ∧ j < z) {pc : Nat} {Ls : Array Slot} {rest : List Value} (hd : decode c.code pc = .ok (.iastore, 1)) :
    ∃ T' h', Stand p l e R s m args below meth c T' (locs ++ [⟨a, j.toNatClampNeg⟩]) cells slots ∧ T'.heap = h' ∧ Wr h h' a j.toNatClampNeg (.int x) ∧ Arf Z h' a k .int z (own_upd f j.toNatClampNeg x) ∧ ∀ t, Steps p.tables e below (T'.setTop (mkF m (pc + 1) Ls rest)) t → Steps p.tables e below (T.setTop (mkF m pc Ls (.int x :: .int j :: .ref a :: rest))) t := by
  obtain ⟨cl, A, q1, S, q3, H, G⟩ := F
  obtain ⟨T', h', X', e', W, st⟩ := stI X hx hZ eT A (j := j) (inb_of S q) (g := mkF m pc Ls (.int x :: .int j :: .ref a :: rest)) rfl rfl hd
  exact ⟨T', h', X', e', W, Arf.set A q1 S q3 H G rfl W, st⟩
theorem own_stB (X : Stand p l e R s m args below meth c T locs cells slots) (hx : p.tables.exec = Jvm.exec) (hZ : Z.Warmed39 s.vm) (eT : T.heap = h) (F : Arf Z h a k .byte z f) (q : ¬ j < 0 ∧ j < z) {pc : Nat} {Ls : Array Slot} {rest : List Value} (hd : decode c.code pc = .ok (.bastore, 1)) :
    ∃ T' h', Stand p l e R s m args below meth c T' (locs ++ [⟨a, j.toNatClampNeg⟩]) cells slots ∧ T'.heap = h' ∧ Wr h h' a j.toNatClampNeg (.int (nar .byte x)) ∧ Arf Z h' a k .byte z (own_upd f j.toNatClampNeg (nar .byte x)) ∧ ∀ t, Steps p.tables e below (T'.setTop (mkF m (pc + 1) Ls rest)) t → Steps p.tables e below (T.setTop (mkF m pc Ls (.int x :: .int j :: .ref a :: rest))) t := by
  obtain ⟨cl, A, q1, S, q3, H, G⟩ := F
  obtain ⟨T', h', X', e', W, st⟩ := stB X hx hZ eT A (j := j) (inb_of S q) (g := mkF m pc Ls (.int x :: .int j :: .ref a :: rest)) rfl rfl hd
  exact ⟨T', h', X', e', W, Arf.set A q1 S q3 H G (fits_nar_byte _) W, st⟩
theorem own_stZ (X : Stand p l e R s m args below meth c T locs cells slots) (hx : p.tables.exec = Jvm.exec) (hZ : Z.Warmed39 s.vm) (eT : T.heap = h) (F : Arf Z h a k .boolean z f) (q : ¬ j < 0 ∧ j < z) {pc : Nat} {Ls : Array Slot} {rest : List Value} (hd : decode c.code pc = .ok (.bastore, 1)) :
    ∃ T' h', Stand p l e R s m args below meth c T' (locs ++ [⟨a, j.toNatClampNeg⟩]) cells slots ∧ T'.heap = h' ∧ Wr h h' a j.toNatClampNeg (.int (nar .boolean x)) ∧ Arf Z h' a k .boolean z (own_upd f j.toNatClampNeg (nar .boolean x)) ∧ ∀ t, Steps p.tables e below (T'.setTop (mkF m (pc + 1) Ls rest)) t → Steps p.tables e below (T.setTop (mkF m pc Ls (.int x :: .int j :: .ref a :: rest))) t := by
  obtain ⟨cl, A, q1, S, q3, H, G⟩ := F
  obtain ⟨T', h', X', e', W, st⟩ := stZ X hx hZ eT A (j := j) (inb_of S q) (g := mkF m pc Ls (.int x :: .int j :: .ref a :: rest)) rfl rfl hd
  exact ⟨T', h', X', e', W, Arf.set A q1 S q3 H G (fits_nar_bool _) W, st⟩
end OwnKit4
section OwnKit5
variable {Z : State} {h : Heap} {a : Addr} {k : ClassId} {ty : FieldType} {z : Int32} {f : Nat → Int32}
theorem own_ofArh (F : Arh Z h a k ty z [] ((List.range z.toNatClampNeg).map fun i => Value.int (f i)) (.int 0)) : Arf Z h a k ty z f :=
  Arf.of_arv (vs := (List.range z.toNatClampNeg).map fun i => Value.int (f i)) (d := .int 0) F fun i hi => by simp [List.getD, hi]
end OwnKit5
section OwnKit6
variable {Z : State} {h h' : Heap} {a : Addr} {k : ClassId} {ty : FieldType} {z : Int32} {f : Nat → Int32} {ws : List Addr} {C n d : String} {w : Value}
theorem own_staKeep (F : Sta Z h C n d w) (K : Keep h h' ws) (q : ∀ x ∈ ws, ∀ c : Cell, h[x]? = some c → c.vm.isStatics = false) : Sta Z h' C n d w := by
  obtain ⟨cf, i, k, f, st, cell, h1, h2, h3, h4, h5, h6, h7⟩ := F
  exact ⟨cf, i, k, f, st, cell, h1, h2, h3, h4, K.2.1 st cell h5 (fun m => by have := q st m cell h5; rw [this] at h6; cases h6), h6, h7⟩
theorem own_plainA (F : Arf Z h a k ty z f) : ∀ c : Cell, h[a]? = some c → c.vm.isStatics = false := by
  obtain ⟨cl, A, -⟩ := F
  intro c hc
  rw [A.1] at hc
  cases hc
  exact A.plain
theorem own_plainE (F : Exa Z h a C) : ∀ c : Cell, h[a]? = some c → c.vm.isStatics = false := by
  obtain ⟨cl, k, h1, -, -, h4, -⟩ := F
  intro c hc
  rw [h1] at hc
  cases hc
  exact h4
theorem own_plainF (F : Fld Z h a C n d w) : ∀ c : Cell, h[a]? = some c → c.vm.isStatics = false := old_plain F
end OwnKit6
theorem own_k0 (m : MethodId) (x0 : Int32) : entryFrame m #[(.int x0)] 1 = mkF m 0 #[.val (.int x0)] [] := by first | (simp [entryFrame, mkF, argsToLocals, Value.category]; done) | rfl
theorem own_k1 : decode jdk_43_method_3_code 0 = .ok (.iload_n 0, 1) := by decide +kernel
theorem own_k2 : decode jdk_43_method_3_code 1 = .ok (.sipush 255, 3) := by decide +kernel
theorem own_k3 : decode jdk_43_method_3_code 4 = .ok (.if_icmp .gt 7, 3) := by decide +kernel
theorem own_k4 : decode jdk_43_method_3_code 11 = .ok (.iconst 0, 1) := by decide +kernel
theorem own_k5 : decode jdk_43_method_3_code 12 = .ok (.ireturn, 1) := by decide +kernel
theorem own_k6 : decode jdk_43_method_3_code 7 = .ok (.iconst 1, 1) := by decide +kernel
theorem own_k7 : decode jdk_43_method_3_code 8 = .ok (.goto 4, 3) := by decide +kernel
theorem own_k8 : plainName "java/lang/StringLatin1" = true := by first | (simp [plainName, overriddenIn]; done) | decide +kernel
def own_f2 (x0 : Int32) : Int32 := (if (255 : Int32) < x0 then (0 : Int32) else (1 : Int32))
set_option maxRecDepth 65536 in
set_option maxHeartbeats 40000000 in
theorem own_rm2 (l : Launch) (Z : State) (a0 : Array Value) (hw : ∀ d ∈ tables_1, d.before a0 Z = true) (ws : List Jvm.Cond) (x0 : Int32) (h0 : Heap) : Meets l Z (⟨"java/lang/StringLatin1", "canEncode", "(C)Z"⟩ : MethodName) jdk_43_method_3_code 1 (some .boolean) ws ({ frames := 0, cells := 0, slots := 0, locals := 0 } : Room) #[(.int x0)] h0 (PureR (some (.int (own_f2 x0))) h0) := by
  refine meets_of (plainFor_of_name own_k8) ?_
  intro p e s m below meth c s₁ X0 hx hZ hby hml hret hlk hown hnm e0
  replace hml : c.maxLocals = 1 := hml
  replace hown : s.vm.findClass "java/lang/StringLatin1" = some m.cls := hown
  refine Go.cast (own_k0 m x0) ?_
  refine Go.via (U' := s₁.setTop (mkF m 1 #[.val (.int x0)] [(.int x0)])) (fun tG kG => XS.iloadN X0.here hx rfl (hb hby own_k1) rfl kG) ?_
  refine Go.via (U' := s₁.setTop (mkF m 4 #[.val (.int x0)] [(.int (255 : Int32)), (.int x0)])) (fun tG kG => XS.sipush X0.here hx rfl (hb hby own_k2) kG) ?_
  by_cases hc4 : (255 : Int32) < x0
  · refine Go.via (U' := s₁.setTop (mkF m 11 #[.val (.int x0)] [])) (fun tG kG => XS.icmpYes X0.here hx rfl (pc0 := 4) (pc' := 11) rfl (hb hby own_k3) rfl (tlt hc4).2.2.1 (by decide) (by decide) kG) ?_
    refine Go.via (U' := s₁.setTop (mkF m 12 #[.val (.int x0)] [(.int (0 : Int32))])) (fun tG kG => XS.iconst X0.here hx rfl (hb hby own_k4) kG) ?_
    exact go_retN X0 hx hlk (t := .boolean) hret (by simp) (hb hby own_k5) e0 ⟨(congrArg (fun z => some (Value.int z)) (show nar .boolean (0 : Int32) = (own_f2 x0) from by unfold own_f2; simp only [if_pos hc4] <;> rfl)), rfl, rfl⟩ (by decide) (by decide)
  · refine Go.via (U' := s₁.setTop (mkF m 7 #[.val (.int x0)] [])) (fun tG kG => XS.icmpNo X0.here hx rfl (hb hby own_k3) rfl (flt hc4).2.2.1 kG) ?_
    refine Go.via (U' := s₁.setTop (mkF m 8 #[.val (.int x0)] [(.int (1 : Int32))])) (fun tG kG => XS.iconst X0.here hx rfl (hb hby own_k6) kG) ?_
    refine Go.via (U' := s₁.setTop (mkF m 12 #[.val (.int x0)] [(.int (1 : Int32))])) (fun tG kG => XS.goto X0.here hx rfl (pc0 := 8) (pc' := 12) rfl (hb hby own_k7) (by decide) (by decide) kG) ?_
    exact go_retN X0 hx hlk (t := .boolean) hret (by simp) (hb hby own_k5) e0 ⟨(congrArg (fun z => some (Value.int z)) (show nar .boolean (1 : Int32) = (own_f2 x0) from by unfold own_f2; simp only [if_neg hc4] <;> rfl)), rfl, rfl⟩ (by decide) (by decide)
theorem own_k9 (m : MethodId) (x0 : Int32) : entryFrame m #[(.int x0)] 1 = mkF m 0 #[.val (.int x0)] [] := by first | (simp [entryFrame, mkF, argsToLocals, Value.category]; done) | rfl
theorem own_k10 : decode jdk_43_method_46_code 0 = .ok (.iconst 1, 1) := by decide +kernel
theorem own_k11 : decode jdk_43_method_46_code 1 = .ok (.newarray .byte, 2) := by decide +kernel
theorem own_k12 : decode jdk_43_method_46_code 3 = .ok (.dup, 1) := by decide +kernel
theorem own_k13 : decode jdk_43_method_46_code 4 = .ok (.iconst 0, 1) := by decide +kernel
theorem own_k14 : decode jdk_43_method_46_code 5 = .ok (.iload_n 0, 1) := by decide +kernel
theorem own_k15 : decode jdk_43_method_46_code 6 = .ok (.i2b, 1) := by decide +kernel
theorem own_k16 : decode jdk_43_method_46_code 7 = .ok (.bastore, 1) := by decide +kernel
theorem own_k17 : decode jdk_43_method_46_code 8 = .ok (.areturn, 1) := by decide +kernel
def own_q3_b1 (x0 : Int32) : Nat → Int32 := (own_upd (fun _ => (0 : Int32)) 0 (nar .byte (x0.toInt8.toInt32)))
set_option maxRecDepth 65536 in
set_option maxHeartbeats 40000000 in
theorem own_rm3 (l : Launch) (Z : State) (a0 : Array Value) (hw : ∀ d ∈ tables_1, d.before a0 Z = true) (ws : List Jvm.Cond) (x0 : Int32) (h0 : Heap) (n0 : Nat) (hn0 : n0 ≤ h0.size) : Meets l Z (⟨"java/lang/StringLatin1", "toBytes", "(C)[B"⟩ : MethodName) jdk_43_method_46_code 1 (some (.array .byte)) ws ({ frames := 0, cells := 1, slots := 1, locals := 0 } : Room) #[(.int x0)] h0 (fun v h L => ∃ b1 : Addr, n0 ≤ b1 ∧ h0.size ≤ b1 ∧ ∃ k1 : ClassId, v = some (.ref b1) ∧ Fr n0 L ∧ Keep h0 h [] ∧ Exa Z h b1 "[B" ∧ Arf Z h b1 k1 .byte (1 : Int32) (own_q3_b1 x0)) := by
  refine meets_of (plainFor_of_name own_k8) ?_
  intro p e s m below meth c s₁ X0 hx hZ hby hml hret hlk hown hnm e0
  replace hml : c.maxLocals = 1 := hml
  replace hown : s.vm.findClass "java/lang/StringLatin1" = some m.cls := hown
  refine Go.cast (own_k9 m x0) ?_
  have N0 := Fr.nil n0
  have K0 : Keep h0 h0 [] := Keep.refl h0 _
  refine Go.via (U' := s₁.setTop (mkF m 1 #[.val (.int x0)] [(.int (1 : Int32))])) (fun tG kG => XS.iconst X0.here hx rfl (hb hby own_k10) kG) ?_
  obtain ⟨T1, h1, k1, X1, e1, E1, A1, B1, st1⟩ := newPE X0 hx hZ (hw _ (List.mem_of_getElem? (i := 0) rfl)) e0 (g := (mkF m 1 #[.val (.int x0)] [(.int (1 : Int32))])) rfl (hb hby own_k11) rfl (by decide) (cap := 1) (by decide) (by decide) (by decide) (by decide) (ad := "[B") (by decide)
  obtain ⟨b1, g1⟩ : ∃ z, z = h0.size := ⟨_, rfl⟩
  rw [← g1] at A1 B1 st1
  have g_b1 : n0 ≤ b1 := Nat.le_trans hn0 (Nat.le_of_eq g1.symm)
  have sz_b1 : h0.size ≤ b1 := Nat.le_trans K0.1 (Nat.le_of_eq g1.symm)
  have K1 := K0.ext E1
  have Z1 := Nat.le_trans hn0 E1.1
  have V1 : Arf Z h1 b1 k1 .byte (1 : Int32) (fun _ => 0) := Arf.new A1 (by decide) rfl rfl
  refine Go.via (U' := T1.setTop (mkF m 3 #[.val (.int x0)] [(.ref b1)])) (fun tG kG => st1 tG kG) ?_
  refine Go.via (U' := T1.setTop (mkF m 4 #[.val (.int x0)] [(.ref b1), (.ref b1)])) (fun tG kG => XS.dup X1.here hx rfl (hb hby own_k12) rfl rfl kG) ?_
  refine Go.via (U' := T1.setTop (mkF m 5 #[.val (.int x0)] [(.int (0 : Int32)), (.ref b1), (.ref b1)])) (fun tG kG => XS.iconst X1.here hx rfl (hb hby own_k13) kG) ?_
  refine Go.via (U' := T1.setTop (mkF m 6 #[.val (.int x0)] [(.int x0), (.int (0 : Int32)), (.ref b1), (.ref b1)])) (fun tG kG => XS.iloadN X1.here hx rfl (hb hby own_k14) rfl kG) ?_
  refine Go.via (U' := T1.setTop (mkF m 7 #[.val (.int x0)] [(.int (x0.toInt8.toInt32)), (.int (0 : Int32)), (.ref b1), (.ref b1)])) (fun tG kG => XS.i2b X1.here hx rfl (hb hby own_k15) rfl kG) ?_
  obtain ⟨T2, h2, X2, e2, W2, A2, st2⟩ := own_stB X1 hx hZ e1 V1 (j := (0 : Int32)) (x := (x0.toInt8.toInt32)) ⟨by decide, by decide⟩ (pc := 7) (Ls := #[.val (.int x0)]) (rest := [(.ref b1)]) (hb hby own_k16)
  have f3 := B1.wr W2
  replace A2 : Arf Z h2 b1 k1 .byte (1 : Int32) (own_upd (fun _ => (0 : Int32)) 0 (nar .byte (x0.toInt8.toInt32))) := A2
  have K2 := K1.wr W2 (Or.inr sz_b1)
  have N2 := Fr.snoc X2 N0 g_b1
  have Z2 := Nat.le_trans Z1 (Keep.of_wr W2).1
  refine Go.via (U' := T2.setTop (mkF m 8 #[.val (.int x0)] [(.ref b1)])) (fun tG kG => st2 tG kG) ?_
  exact go_retA X2 hx hlk hret rfl rfl rfl (hb hby own_k17) e2 ⟨b1, g_b1, sz_b1, k1, rfl, N2, K2, f3, (by rw [show (own_q3_b1 x0) = (own_upd (fun _ => (0 : Int32)) 0 (nar .byte (x0.toInt8.toInt32))) from by rfl]; exact A2)⟩ (by decide) (by decide)
theorem own_k18 (m : MethodId) (a : Addr) (b : Addr) (x0 : Int32) : entryFrame m #[(.ref a), (.ref b), (.int x0)] 3 = mkF m 0 #[.val (.ref a), .val (.ref b), .val (.int x0)] [] := by first | (simp [entryFrame, mkF, argsToLocals, Value.category]; done) | rfl
theorem own_k19 : decode jdk_42_method_151_code 0 = .ok (.aload_n 0, 1) := by decide +kernel
theorem own_k20 : decode jdk_42_method_151_code 1 = .ok (.invokespecial 1, 3) := by decide +kernel
theorem own_k21 : decode jdk_42_method_151_code 4 = .ok (.aload_n 0, 1) := by decide +kernel
theorem own_k22 : decode jdk_42_method_151_code 5 = .ok (.aload_n 1, 1) := by decide +kernel
theorem own_k23 : decode jdk_42_method_151_code 6 = .ok (.putfield 9, 3) := by decide +kernel
theorem own_k24 : decode jdk_42_method_151_code 9 = .ok (.aload_n 0, 1) := by decide +kernel
theorem own_k25 : decode jdk_42_method_151_code 10 = .ok (.iload_n 2, 1) := by decide +kernel
theorem own_k26 : decode jdk_42_method_151_code 11 = .ok (.putfield 15, 3) := by decide +kernel
theorem own_k27 : decode jdk_42_method_151_code 14 = .ok (.return_, 1) := by decide +kernel
theorem own_k28 : plainName "java/lang/String" = true := by first | (simp [plainName, overriddenIn]; done) | decide +kernel
set_option maxRecDepth 65536 in
set_option maxHeartbeats 40000000 in
theorem own_rm4 (l : Launch) (Z : State) (a0 : Array Value) (hw : ∀ d ∈ tables_1, d.before a0 Z = true) (ws : List Jvm.Cond) (a : Addr) (b : Addr) (x0 : Int32) (h0 : Heap) (n0 : Nat) (hn0 : n0 ≤ h0.size) (E_a : Exa Z h0 a "java/lang/String") (F_a_value : Fld Z h0 a "java/lang/String" "value" "[B" .null) (F_a_coder : Fld Z h0 a "java/lang/String" "coder" "B" (.int (0 : Int32))) (g_a : n0 ≤ a) : Meets l Z (⟨"java/lang/String", "<init>", "([BB)V"⟩ : MethodName) jdk_42_method_151_code 3 none ws ({ frames := 1, cells := 0, slots := 0, locals := 12 } : Room) #[(.ref a), (.ref b), (.int x0)] h0 (fun v h L => v = none ∧ Fr n0 L ∧ Keep h0 h [a] ∧ Exa Z h a "java/lang/String" ∧ Fld Z h a "java/lang/String" "value" "[B" (.ref b) ∧ Fld Z h a "java/lang/String" "coder" "B" (.int (nar .byte x0))) := by
  refine meets_of (plainFor_of_name own_k28) ?_
  intro p e s m below meth c s₁ X0 hx hZ hby hml hret hlk hown hnm e0
  replace hml : c.maxLocals = 3 := hml
  replace hown : s.vm.findClass "java/lang/String" = some m.cls := hown
  refine Go.cast (own_k18 m a b x0) ?_
  have N0 := Fr.nil n0
  have K0 : Keep h0 h0 [a] := Keep.refl h0 _
  refine Go.via (U' := s₁.setTop (mkF m 1 #[.val (.ref a), .val (.ref b), .val (.int x0)] [(.ref a)])) (fun tG kG => XS.aloadN X0.here hx rfl (hb hby own_k19) rfl rfl kG) ?_
  obtain ⟨T1, X1, e1, st1⟩ := initO X0 hx hZ hown (hw _ (List.mem_of_getElem? (i := 19) rfl)) (hw _ (List.mem_of_getElem? (i := 20) rfl)) (hw _ (List.mem_of_getElem? (i := 21) rfl)) e0 (g := (mkF m 1 #[.val (.ref a), .val (.ref b), .val (.int x0)] [(.ref a)])) rfl (by rw [hml]; rfl) rfl (hb hby own_k20) (by decide) (W := 0) (by show 2 * 0 + _ ≤ _; exact Nat.le_of_eq rfl) (by decide)
  refine Go.via (U' := T1.setTop (mkF m 4 #[.val (.ref a), .val (.ref b), .val (.int x0)] [])) (fun tG kG => st1 tG kG) ?_
  refine Go.via (U' := T1.setTop (mkF m 5 #[.val (.ref a), .val (.ref b), .val (.int x0)] [(.ref a)])) (fun tG kG => XS.aloadN X1.here hx rfl (hb hby own_k21) rfl rfl kG) ?_
  refine Go.via (U' := T1.setTop (mkF m 6 #[.val (.ref a), .val (.ref b), .val (.int x0)] [(.ref b), (.ref a)])) (fun tG kG => XS.aloadN X1.here hx rfl (hb hby own_k22) rfl rfl kG) ?_
  obtain ⟨T2, h2, X2, e2, W2, st2⟩ := putF X1 hx hZ hown (host := "") (Or.inl (hw _ (List.mem_of_getElem? (i := 22) rfl))) Via.refl e1 F_a_value E_a (Or.inr ⟨(hw _ (List.mem_of_getElem? (i := 23) rfl)), rfl, hnm⟩) (hw _ (List.mem_of_getElem? (i := 11) rfl)) (ty := (.array .byte)) (by decide) rfl rfl (g := (mkF m 6 #[.val (.ref a), .val (.ref b), .val (.int x0)] [(.ref b), (.ref a)])) rfl rfl (hb hby own_k23)
  have f3 := E_a.wr W2
  have f4 := F_a_value.same W2
  have f5 := F_a_coder.other W2 (Or.inr (slot_ne (Or.inr (hw _ (List.mem_of_getElem? (i := 25) rfl))) (Or.inr (hw _ (List.mem_of_getElem? (i := 23) rfl))) (by decide) (t := .byte) (t' := (.array .byte)) (by decide) (by decide)))
  have K2 := K0.wr W2 (Or.inl (List.mem_of_getElem? (i := 0) rfl))
  have N2 := Fr.snoc X2 N0 g_a
  have Z2 := Nat.le_trans hn0 (Keep.of_wr W2).1
  refine Go.via (U' := T2.setTop (mkF m 9 #[.val (.ref a), .val (.ref b), .val (.int x0)] [])) (fun tG kG => st2 tG kG) ?_
  refine Go.via (U' := T2.setTop (mkF m 10 #[.val (.ref a), .val (.ref b), .val (.int x0)] [(.ref a)])) (fun tG kG => XS.aloadN X2.here hx rfl (hb hby own_k24) rfl rfl kG) ?_
  refine Go.via (U' := T2.setTop (mkF m 11 #[.val (.ref a), .val (.ref b), .val (.int x0)] [(.int x0), (.ref a)])) (fun tG kG => XS.iloadN X2.here hx rfl (hb hby own_k25) rfl kG) ?_
  obtain ⟨T6, h6, X6, e6, W6, st6⟩ := putFN X2 hx hZ hown (hw _ (List.mem_of_getElem? (i := 24) rfl)) Via.refl e2 f5 f3 (Or.inr ⟨(hw _ (List.mem_of_getElem? (i := 25) rfl)), rfl, hnm⟩) (hw _ (List.mem_of_getElem? (i := 11) rfl)) (ty := .byte) (v' := (.int (nar .byte x0))) (by decide) rfl (fits_nar_byte _) (g := (mkF m 11 #[.val (.ref a), .val (.ref b), .val (.int x0)] [(.int x0), (.ref a)])) rfl rfl (hb hby own_k26)
  have f7 := f3.wr W6
  have f8 := f4.other W6 (Or.inr (slot_ne (Or.inr (hw _ (List.mem_of_getElem? (i := 23) rfl))) (Or.inr (hw _ (List.mem_of_getElem? (i := 25) rfl))) (by decide) (t := (.array .byte)) (t' := .byte) (by decide) (by decide)))
  have f9 := f5.same W6
  have K6 := K2.wr W6 (Or.inl (List.mem_of_getElem? (i := 0) rfl))
  have N6 := Fr.snoc X6 N2 g_a
  have Z6 := Nat.le_trans Z2 (Keep.of_wr W6).1
  refine Go.via (U' := T6.setTop (mkF m 14 #[.val (.ref a), .val (.ref b), .val (.int x0)] [])) (fun tG kG => st6 tG kG) ?_
  exact go_retV X6 hx hlk hret (hb hby own_k27) e6 ⟨rfl, N6, K6, f7, f8, f9⟩ (by decide) (by decide)
theorem own_k29 (m : MethodId) (x0 : Int32) : entryFrame m #[(.int x0)] 1 = mkF m 0 #[.val (.int x0)] [] := by first | (simp [entryFrame, mkF, argsToLocals, Value.category]; done) | rfl
theorem own_k30 : decode jdk_42_method_139_code 0 = .ok (.getstatic 38, 3) := by decide +kernel
theorem own_k31 : decode jdk_42_method_139_code 3 = .ok (.ifCond .eq 23, 3) := by decide +kernel
theorem own_k32 : decode jdk_42_method_139_code 6 = .ok (.iload_n 0, 1) := by decide +kernel
theorem own_k33 : parseMethodDescriptor "(C)Z" = some ⟨[.char], some .boolean⟩ := by decide +kernel
theorem own_k34 : decode jdk_42_method_139_code 7 = .ok (.invokestatic 1015, 3) := by decide +kernel
theorem own_k35 : decode jdk_42_method_139_code 10 = .ok (.ifCond .eq 16, 3) := by decide +kernel
theorem own_k36 : decode jdk_42_method_139_code 13 = .ok (.new 10, 3) := by decide +kernel
theorem own_k37 : decode jdk_42_method_139_code 16 = .ok (.dup, 1) := by decide +kernel
theorem own_k38 : decode jdk_42_method_139_code 17 = .ok (.iload_n 0, 1) := by decide +kernel
theorem own_k39 : parseMethodDescriptor "(C)[B" = some ⟨[.char], some (.array .byte)⟩ := by decide +kernel
theorem own_k40 : decode jdk_42_method_139_code 18 = .ok (.invokestatic 1018, 3) := by decide +kernel
theorem own_k41 : decode jdk_42_method_139_code 21 = .ok (.iconst 0, 1) := by decide +kernel
theorem own_k42 : parseMethodDescriptor "([BB)V" = some ⟨[(.array .byte), .byte], none⟩ := by decide +kernel
theorem own_k43 : decode jdk_42_method_139_code 22 = .ok (.invokespecial 209, 3) := by decide +kernel
theorem own_k44 : decode jdk_42_method_139_code 25 = .ok (.areturn, 1) := by decide +kernel
set_option maxRecDepth 65536 in
set_option maxHeartbeats 40000000 in
theorem own_rm1 (l : Launch) (Z : State) (a0 : Array Value) (hw : ∀ d ∈ tables_1, d.before a0 Z = true) (ws : List Jvm.Cond) (x0 : Int32) (cz : Int32) (h0 : Heap) (n0 : Nat) (hn0 : n0 ≤ h0.size) (S_COMPACT_STRINGS : Sta Z h0 "java/lang/String" "COMPACT_STRINGS" "Z" (.int cz)) (hcz : ¬ (cz = (0 : Int32))) (hce : ¬ ((own_f2 x0) = (0 : Int32))) : Meets l Z (⟨"java/lang/String", "valueOf", "(C)Ljava/lang/String;"⟩ : MethodName) jdk_42_method_139_code 1 (some (.object "java/lang/String")) ws ({ frames := 2, cells := 2, slots := 5, locals := 27 } : Room) #[(.int x0)] h0 (fun v h L => ∃ b3 : Addr, n0 ≤ b3 ∧ h0.size ≤ b3 ∧ ∃ b8 : Addr, n0 ≤ b8 ∧ h0.size ≤ b8 ∧ ∃ k9 : ClassId, v = some (.ref b3) ∧ Fr n0 L ∧ Keep h0 h [] ∧ Exa Z h b3 "java/lang/String" ∧ Exa Z h b8 "[B" ∧ Arf Z h b8 k9 .byte (1 : Int32) (own_q3_b1 x0) ∧ Fld Z h b3 "java/lang/String" "value" "[B" (.ref b8) ∧ Fld Z h b3 "java/lang/String" "coder" "B" (.int (nar .byte (0 : Int32)))) := by
  refine meets_of (plainFor_of_name own_k28) ?_
  intro p e s m below meth c s₁ X0 hx hZ hby hml hret hlk hown hnm e0
  replace hml : c.maxLocals = 1 := hml
  replace hown : s.vm.findClass "java/lang/String" = some m.cls := hown
  refine Go.cast (own_k29 m x0) ?_
  have N0 := Fr.nil n0
  have K0 : Keep h0 h0 [] := Keep.refl h0 _
  obtain ⟨T1, X1, e1, st1⟩ := getS2 X0 hx hZ hown (host := "") (Or.inl (hw _ (List.mem_of_getElem? (i := 5) rfl))) Via.refl e0 S_COMPACT_STRINGS (g := (mkF m 0 #[.val (.int x0)] [])) rfl (hb hby own_k30)
  refine Go.via (U' := T1.setTop (mkF m 3 #[.val (.int x0)] [(.int cz)])) (fun tG kG => st1 tG kG) ?_
  have hc3 : ¬ (cz = (0 : Int32)) := hcz
  refine Go.via (U' := T1.setTop (mkF m 6 #[.val (.int x0)] [])) (fun tG kG => XS.ifNo X1.here hx rfl (hb hby own_k31) rfl ((if0 _ _).trans (feq hc3).1) kG) ?_
  refine Go.via (U' := T1.setTop (mkF m 7 #[.val (.int x0)] [(.int x0)])) (fun tG kG => XS.iloadN X1.here hx rfl (hb hby own_k32) rfl kG) ?_
  obtain ⟨T2, X2, e2, st2⟩ := callS0 X1 hx hZ hown (hw _ (List.mem_of_getElem? (i := 6) rfl)) (hw _ (List.mem_of_getElem? (i := 7) rfl)) (hw _ (List.mem_of_getElem? (i := 8) rfl)) (hw _ (List.mem_of_getElem? (i := 9) rfl)) (by decide) (av := [(.int x0)]) (own_rm2 l Z a0 hw [] x0  h0) e1 (pc := 7) (Ls := #[.val (.int x0)]) (rest := []) (by rw [hml]; rfl) own_k33 rfl 0 (Nat.le_of_eq rfl) (by decide) (by decide) (by decide) (by decide) (hb hby own_k34)
  refine Go.via (U' := T2.setTop (mkF m 10 #[.val (.int x0)] [(.int (own_f2 x0))])) (fun tG kG => st2 tG kG) ?_
  have hc10 : ¬ ((own_f2 x0) = (0 : Int32)) := hce
  refine Go.via (U' := T2.setTop (mkF m 13 #[.val (.int x0)] [])) (fun tG kG => XS.ifNo X2.here hx rfl (hb hby own_k35) rfl ((if0 _ _).trans (feq hc10).1) kG) ?_
  obtain ⟨T3, h3, X3, e3, E3, A3, D3, -, st3⟩ := newO X2 hx hZ hown (hw _ (List.mem_of_getElem? (i := 10) rfl)) (hw _ (List.mem_of_getElem? (i := 11) rfl)) (hw _ (List.mem_of_getElem? (i := 3) rfl)) e2 (g := (mkF m 13 #[.val (.int x0)] [])) rfl (hb hby own_k36) (by decide) (by decide)
  obtain ⟨b3, g3⟩ : ∃ z, z = h0.size := ⟨_, rfl⟩
  rw [← g3] at A3 D3 st3
  have g_b3 : n0 ≤ b3 := Nat.le_trans hn0 (Nat.le_of_eq g3.symm)
  have sz_b3 : h0.size ≤ b3 := Nat.le_trans K0.1 (Nat.le_of_eq g3.symm)
  have f4 := S_COMPACT_STRINGS.ext E3
  have K3 := K0.ext E3
  have Z3 := Nat.le_trans hn0 E3.1
  have f5 : Fld Z h3 b3 "java/lang/String" "value" "[B" .null := D3 (Or.inr (hw _ (List.mem_of_getElem? (i := 23) rfl))) (ty := (.array .byte)) (by decide)
  have f6 : Fld Z h3 b3 "java/lang/String" "coder" "B" (.int (0 : Int32)) := D3 (Or.inr (hw _ (List.mem_of_getElem? (i := 25) rfl))) (ty := .byte) (by decide)
  refine Go.via (U' := T3.setTop (mkF m 16 #[.val (.int x0)] [(.ref b3)])) (fun tG kG => st3 tG kG) ?_
  refine Go.via (U' := T3.setTop (mkF m 17 #[.val (.int x0)] [(.ref b3), (.ref b3)])) (fun tG kG => XS.dup X3.here hx rfl (hb hby own_k37) rfl rfl kG) ?_
  refine Go.via (U' := T3.setTop (mkF m 18 #[.val (.int x0)] [(.int x0), (.ref b3), (.ref b3)])) (fun tG kG => XS.iloadN X3.here hx rfl (hb hby own_k38) rfl kG) ?_
  obtain ⟨_, T7, L7, X7, ⟨b8, gb8, zb8, k9, rfl, N7q, K7q, f10, f11⟩, st7⟩ := callSQ X3 hx hZ hown (hw _ (List.mem_of_getElem? (i := 12) rfl)) (hw _ (List.mem_of_getElem? (i := 13) rfl)) (hw _ (List.mem_of_getElem? (i := 8) rfl)) (hw _ (List.mem_of_getElem? (i := 14) rfl)) (by decide) (av := [(.int x0)]) (own_rm3 l Z a0 hw [] x0  h3 n0 Z3 ) e3 (pc := 18) (Ls := #[.val (.int x0)]) (rest := [(.ref b3), (.ref b3)]) (by rw [hml]; rfl) own_k39 rfl 2 (Nat.le_of_eq rfl) (by decide) (by decide) (by decide) (by decide) (hb hby own_k40)
  have f12 := own_staKeep f4 K7q all0
  have f13 := A3.keep K7q
  have f14 := f5.keep K7q nin0
  have f15 := f6.keep K7q nin0
  have N7 := Fr.app N0 N7q
  have Z7 := Nat.le_trans Z3 K7q.1
  have K7 := K3.trans K7q all0
  have sb8 : h0.size ≤ b8 := Nat.le_trans K3.1 zb8
  have ne_b3_b8 : b3 ≠ b8 := Nat.ne_of_lt (Nat.lt_of_lt_of_le A3.lt zb8)
  refine Go.via (U' := T7.setTop (mkF m 21 #[.val (.int x0)] [(.ref b8), (.ref b3), (.ref b3)])) (fun tG kG => st7 tG kG) ?_
  refine Go.via (U' := T7.setTop (mkF m 22 #[.val (.int x0)] [(.int (0 : Int32)), (.ref b8), (.ref b3), (.ref b3)])) (fun tG kG => XS.iconst X7.here hx rfl (hb hby own_k41) kG) ?_
  obtain ⟨_, T16, L16, X16, ⟨rfl, N16q, K16q, f17, f18, f19⟩, st16⟩ := callIQ X7 hx hZ rfl hown (hw _ (List.mem_of_getElem? (i := 15) rfl)) (hw _ (List.mem_of_getElem? (i := 16) rfl)) (hw _ (List.mem_of_getElem? (i := 3) rfl)) (hw _ (List.mem_of_getElem? (i := 18) rfl)) (by decide) (b := b3) (av := [(.ref b8), (.int (0 : Int32))]) (own_rm4 l Z a0 hw [] b3 b8 (0 : Int32)  T7.heap n0 Z7 f13 f14 f15 g_b3) rfl (pc := 22) (Ls := #[.val (.int x0)]) (rest := [(.ref b3)]) (by rw [hml]; rfl) own_k42 rfl 1 (Nat.le_of_eq rfl) (by decide) (by decide) (by decide) (by decide) (hb hby own_k43)
  have f20 := own_staKeep f12 K16q ((allS (own_plainE f13) all0))
  have f21 := f13.keep K16q
  have f22 := f10.keep K16q
  have f23 := f11.keep K16q (ninS (Ne.symm ne_b3_b8) nin0)
  have N16 := Fr.app N7 N16q
  have Z16 := Nat.le_trans Z7 K16q.1
  have K16 := K7.trans K16q (allS (Or.inr sz_b3) all0)
  refine Go.via (U' := T16.setTop (mkF m 25 #[.val (.int x0)] [(.ref b3)])) (fun tG kG => st16 tG kG) ?_
  exact go_retA X16 hx hlk hret rfl rfl rfl (hb hby own_k44) rfl ⟨b3, g_b3, sz_b3, b8, gb8, sb8, k9, rfl, N16, K16, f17, f22, f23, f18, f19⟩ (by decide) (by decide)
theorem own_k45 (m : MethodId) (a : Addr) (b : Addr) (x0 : Int32) (x1 : Int32) (cc : Addr) : entryFrame m #[(.ref a), (.ref b), (.int x0), (.int x1), (.ref cc)] 5 = mkF m 0 #[.val (.ref a), .val (.ref b), .val (.int x0), .val (.int x1), .val (.ref cc)] [] := by first | (simp [entryFrame, mkF, argsToLocals, Value.category]; done) | rfl
theorem own_k46 : decode prog_14_method_2_code 0 = .ok (.aload_n 0, 1) := by decide +kernel
theorem own_k47 : decode prog_14_method_2_code 1 = .ok (.invokespecial 7, 3) := by decide +kernel
theorem own_k48 : decode prog_14_method_2_code 4 = .ok (.aload_n 0, 1) := by decide +kernel
theorem own_k49 : decode prog_14_method_2_code 5 = .ok (.aload_n 1, 1) := by decide +kernel
theorem own_k50 : decode prog_14_method_2_code 6 = .ok (.putfield 12, 3) := by decide +kernel
theorem own_k51 : decode prog_14_method_2_code 9 = .ok (.aload_n 0, 1) := by decide +kernel
theorem own_k52 : decode prog_14_method_2_code 10 = .ok (.iload_n 2, 1) := by decide +kernel
theorem own_k53 : decode prog_14_method_2_code 11 = .ok (.putfield 16, 3) := by decide +kernel
theorem own_k54 : decode prog_14_method_2_code 14 = .ok (.aload_n 0, 1) := by decide +kernel
theorem own_k55 : decode prog_14_method_2_code 15 = .ok (.iload_n 3, 1) := by decide +kernel
theorem own_k56 : decode prog_14_method_2_code 16 = .ok (.putfield 20, 3) := by decide +kernel
theorem own_k57 : decode prog_14_method_2_code 19 = .ok (.aload_n 0, 1) := by decide +kernel
theorem own_k58 : decode prog_14_method_2_code 20 = .ok (.aload 4, 2) := by decide +kernel
theorem own_k59 : decode prog_14_method_2_code 22 = .ok (.putfield 23, 3) := by decide +kernel
theorem own_k60 : decode prog_14_method_2_code 25 = .ok (.return_, 1) := by decide +kernel
theorem own_k61 : plainName "com/example/stokehold/stokehold/wire/ProtoReader" = true := by first | (simp [plainName, overriddenIn]; done) | decide +kernel
set_option maxRecDepth 65536 in
set_option maxHeartbeats 40000000 in
theorem own_rm7 (l : Launch) (Z : State) (a0 : Array Value) (hw : ∀ d ∈ tables_1, d.before a0 Z = true) (ws : List Jvm.Cond) (a : Addr) (b : Addr) (x0 : Int32) (x1 : Int32) (cc : Addr) (h0 : Heap) (n0 : Nat) (hn0 : n0 ≤ h0.size) (E_a : Exa Z h0 a "com/example/stokehold/stokehold/wire/ProtoReader") (F_a_bytes : Fld Z h0 a "com/example/stokehold/stokehold/wire/ProtoReader" "bytes" "[B" .null) (F_a_available : Fld Z h0 a "com/example/stokehold/stokehold/wire/ProtoReader" "available" "I" (.int (0 : Int32))) (F_a_end : Fld Z h0 a "com/example/stokehold/stokehold/wire/ProtoReader" "end" "I" (.int (0 : Int32))) (F_a_name : Fld Z h0 a "com/example/stokehold/stokehold/wire/ProtoReader" "name" "Ljava/lang/String;" .null) (F_a_position : Fld Z h0 a "com/example/stokehold/stokehold/wire/ProtoReader" "position" "I" (.int (0 : Int32))) (g_a : n0 ≤ a) : Meets l Z (⟨"com/example/stokehold/stokehold/wire/ProtoReader", "<init>", "([BIILjava/lang/String;)V"⟩ : MethodName) prog_14_method_2_code 5 none ws ({ frames := 1, cells := 0, slots := 0, locals := 12 } : Room) #[(.ref a), (.ref b), (.int x0), (.int x1), (.ref cc)] h0 (fun v h L => v = none ∧ Fr n0 L ∧ Keep h0 h [a] ∧ Exa Z h a "com/example/stokehold/stokehold/wire/ProtoReader" ∧ Fld Z h a "com/example/stokehold/stokehold/wire/ProtoReader" "bytes" "[B" (.ref b) ∧ Fld Z h a "com/example/stokehold/stokehold/wire/ProtoReader" "available" "I" (.int x0) ∧ Fld Z h a "com/example/stokehold/stokehold/wire/ProtoReader" "end" "I" (.int x1) ∧ Fld Z h a "com/example/stokehold/stokehold/wire/ProtoReader" "name" "Ljava/lang/String;" (.ref cc) ∧ Fld Z h a "com/example/stokehold/stokehold/wire/ProtoReader" "position" "I" (.int (0 : Int32))) := by
  refine meets_of (plainFor_of_name own_k61) ?_
  intro p e s m below meth c s₁ X0 hx hZ hby hml hret hlk hown hnm e0
  replace hml : c.maxLocals = 5 := hml
  replace hown : s.vm.findClass "com/example/stokehold/stokehold/wire/ProtoReader" = some m.cls := hown
  refine Go.cast (own_k45 m a b x0 x1 cc) ?_
  have N0 := Fr.nil n0
  have K0 : Keep h0 h0 [a] := Keep.refl h0 _
  refine Go.via (U' := s₁.setTop (mkF m 1 #[.val (.ref a), .val (.ref b), .val (.int x0), .val (.int x1), .val (.ref cc)] [(.ref a)])) (fun tG kG => XS.aloadN X0.here hx rfl (hb hby own_k46) rfl rfl kG) ?_
  obtain ⟨T1, X1, e1, st1⟩ := initO X0 hx hZ hown (hw _ (List.mem_of_getElem? (i := 35) rfl)) (hw _ (List.mem_of_getElem? (i := 20) rfl)) (hw _ (List.mem_of_getElem? (i := 21) rfl)) e0 (g := (mkF m 1 #[.val (.ref a), .val (.ref b), .val (.int x0), .val (.int x1), .val (.ref cc)] [(.ref a)])) rfl (by rw [hml]; rfl) rfl (hb hby own_k47) (by decide) (W := 0) (by show 2 * 0 + _ ≤ _; exact Nat.le_of_eq rfl) (by decide)
  refine Go.via (U' := T1.setTop (mkF m 4 #[.val (.ref a), .val (.ref b), .val (.int x0), .val (.int x1), .val (.ref cc)] [])) (fun tG kG => st1 tG kG) ?_
  refine Go.via (U' := T1.setTop (mkF m 5 #[.val (.ref a), .val (.ref b), .val (.int x0), .val (.int x1), .val (.ref cc)] [(.ref a)])) (fun tG kG => XS.aloadN X1.here hx rfl (hb hby own_k48) rfl rfl kG) ?_
  refine Go.via (U' := T1.setTop (mkF m 6 #[.val (.ref a), .val (.ref b), .val (.int x0), .val (.int x1), .val (.ref cc)] [(.ref b), (.ref a)])) (fun tG kG => XS.aloadN X1.here hx rfl (hb hby own_k49) rfl rfl kG) ?_
  obtain ⟨T2, h2, X2, e2, W2, st2⟩ := putF X1 hx hZ hown (host := "") (Or.inl (hw _ (List.mem_of_getElem? (i := 36) rfl))) Via.refl e1 F_a_bytes E_a (Or.inr ⟨(hw _ (List.mem_of_getElem? (i := 37) rfl)), rfl, hnm⟩) (hw _ (List.mem_of_getElem? (i := 27) rfl)) (ty := (.array .byte)) (by decide) rfl rfl (g := (mkF m 6 #[.val (.ref a), .val (.ref b), .val (.int x0), .val (.int x1), .val (.ref cc)] [(.ref b), (.ref a)])) rfl rfl (hb hby own_k50)
  have f3 := E_a.wr W2
  have f4 := F_a_bytes.same W2
  have f5 := F_a_available.other W2 (Or.inr (slot_ne (Or.inr (hw _ (List.mem_of_getElem? (i := 39) rfl))) (Or.inr (hw _ (List.mem_of_getElem? (i := 37) rfl))) (by decide) (t := .int) (t' := (.array .byte)) (by decide) (by decide)))
  have f6 := F_a_end.other W2 (Or.inr (slot_ne (Or.inr (hw _ (List.mem_of_getElem? (i := 41) rfl))) (Or.inr (hw _ (List.mem_of_getElem? (i := 37) rfl))) (by decide) (t := .int) (t' := (.array .byte)) (by decide) (by decide)))
  have f7 := F_a_name.other W2 (Or.inr (slot_ne (Or.inr (hw _ (List.mem_of_getElem? (i := 43) rfl))) (Or.inr (hw _ (List.mem_of_getElem? (i := 37) rfl))) (by decide) (t := (.object "java/lang/String")) (t' := (.array .byte)) (by decide) (by decide)))
  have f8 := F_a_position.other W2 (Or.inr (slot_ne (Or.inl (hw _ (List.mem_of_getElem? (i := 50) rfl))) (Or.inr (hw _ (List.mem_of_getElem? (i := 37) rfl))) (by decide) (t := .int) (t' := (.array .byte)) (by decide) (by decide)))
  have K2 := K0.wr W2 (Or.inl (List.mem_of_getElem? (i := 0) rfl))
  have N2 := Fr.snoc X2 N0 g_a
  have Z2 := Nat.le_trans hn0 (Keep.of_wr W2).1
  refine Go.via (U' := T2.setTop (mkF m 9 #[.val (.ref a), .val (.ref b), .val (.int x0), .val (.int x1), .val (.ref cc)] [])) (fun tG kG => st2 tG kG) ?_
  refine Go.via (U' := T2.setTop (mkF m 10 #[.val (.ref a), .val (.ref b), .val (.int x0), .val (.int x1), .val (.ref cc)] [(.ref a)])) (fun tG kG => XS.aloadN X2.here hx rfl (hb hby own_k51) rfl rfl kG) ?_
  refine Go.via (U' := T2.setTop (mkF m 11 #[.val (.ref a), .val (.ref b), .val (.int x0), .val (.int x1), .val (.ref cc)] [(.int x0), (.ref a)])) (fun tG kG => XS.iloadN X2.here hx rfl (hb hby own_k52) rfl kG) ?_
  obtain ⟨T9, h9, X9, e9, W9, st9⟩ := putF X2 hx hZ hown (host := "") (Or.inl (hw _ (List.mem_of_getElem? (i := 38) rfl))) Via.refl e2 f5 f3 (Or.inr ⟨(hw _ (List.mem_of_getElem? (i := 39) rfl)), rfl, hnm⟩) (hw _ (List.mem_of_getElem? (i := 27) rfl)) (ty := .int) (by decide) rfl rfl (g := (mkF m 11 #[.val (.ref a), .val (.ref b), .val (.int x0), .val (.int x1), .val (.ref cc)] [(.int x0), (.ref a)])) rfl rfl (hb hby own_k53)
  have f10 := f3.wr W9
  have f11 := f4.other W9 (Or.inr (slot_ne (Or.inr (hw _ (List.mem_of_getElem? (i := 37) rfl))) (Or.inr (hw _ (List.mem_of_getElem? (i := 39) rfl))) (by decide) (t := (.array .byte)) (t' := .int) (by decide) (by decide)))
  have f12 := f5.same W9
  have f13 := f6.other W9 (Or.inr (slot_ne (Or.inr (hw _ (List.mem_of_getElem? (i := 41) rfl))) (Or.inr (hw _ (List.mem_of_getElem? (i := 39) rfl))) (by decide) (t := .int) (t' := .int) (by decide) (by decide)))
  have f14 := f7.other W9 (Or.inr (slot_ne (Or.inr (hw _ (List.mem_of_getElem? (i := 43) rfl))) (Or.inr (hw _ (List.mem_of_getElem? (i := 39) rfl))) (by decide) (t := (.object "java/lang/String")) (t' := .int) (by decide) (by decide)))
  have f15 := f8.other W9 (Or.inr (slot_ne (Or.inl (hw _ (List.mem_of_getElem? (i := 50) rfl))) (Or.inr (hw _ (List.mem_of_getElem? (i := 39) rfl))) (by decide) (t := .int) (t' := .int) (by decide) (by decide)))
  have K9 := K2.wr W9 (Or.inl (List.mem_of_getElem? (i := 0) rfl))
  have N9 := Fr.snoc X9 N2 g_a
  have Z9 := Nat.le_trans Z2 (Keep.of_wr W9).1
  refine Go.via (U' := T9.setTop (mkF m 14 #[.val (.ref a), .val (.ref b), .val (.int x0), .val (.int x1), .val (.ref cc)] [])) (fun tG kG => st9 tG kG) ?_
  refine Go.via (U' := T9.setTop (mkF m 15 #[.val (.ref a), .val (.ref b), .val (.int x0), .val (.int x1), .val (.ref cc)] [(.ref a)])) (fun tG kG => XS.aloadN X9.here hx rfl (hb hby own_k54) rfl rfl kG) ?_
  refine Go.via (U' := T9.setTop (mkF m 16 #[.val (.ref a), .val (.ref b), .val (.int x0), .val (.int x1), .val (.ref cc)] [(.int x1), (.ref a)])) (fun tG kG => XS.iloadN X9.here hx rfl (hb hby own_k55) rfl kG) ?_
  obtain ⟨T16, h16, X16, e16, W16, st16⟩ := putF X9 hx hZ hown (host := "") (Or.inl (hw _ (List.mem_of_getElem? (i := 40) rfl))) Via.refl e9 f13 f10 (Or.inr ⟨(hw _ (List.mem_of_getElem? (i := 41) rfl)), rfl, hnm⟩) (hw _ (List.mem_of_getElem? (i := 27) rfl)) (ty := .int) (by decide) rfl rfl (g := (mkF m 16 #[.val (.ref a), .val (.ref b), .val (.int x0), .val (.int x1), .val (.ref cc)] [(.int x1), (.ref a)])) rfl rfl (hb hby own_k56)
  have f17 := f10.wr W16
  have f18 := f11.other W16 (Or.inr (slot_ne (Or.inr (hw _ (List.mem_of_getElem? (i := 37) rfl))) (Or.inr (hw _ (List.mem_of_getElem? (i := 41) rfl))) (by decide) (t := (.array .byte)) (t' := .int) (by decide) (by decide)))
  have f19 := f12.other W16 (Or.inr (slot_ne (Or.inr (hw _ (List.mem_of_getElem? (i := 39) rfl))) (Or.inr (hw _ (List.mem_of_getElem? (i := 41) rfl))) (by decide) (t := .int) (t' := .int) (by decide) (by decide)))
  have f20 := f13.same W16
  have f21 := f14.other W16 (Or.inr (slot_ne (Or.inr (hw _ (List.mem_of_getElem? (i := 43) rfl))) (Or.inr (hw _ (List.mem_of_getElem? (i := 41) rfl))) (by decide) (t := (.object "java/lang/String")) (t' := .int) (by decide) (by decide)))
  have f22 := f15.other W16 (Or.inr (slot_ne (Or.inl (hw _ (List.mem_of_getElem? (i := 50) rfl))) (Or.inr (hw _ (List.mem_of_getElem? (i := 41) rfl))) (by decide) (t := .int) (t' := .int) (by decide) (by decide)))
  have K16 := K9.wr W16 (Or.inl (List.mem_of_getElem? (i := 0) rfl))
  have N16 := Fr.snoc X16 N9 g_a
  have Z16 := Nat.le_trans Z9 (Keep.of_wr W16).1
  refine Go.via (U' := T16.setTop (mkF m 19 #[.val (.ref a), .val (.ref b), .val (.int x0), .val (.int x1), .val (.ref cc)] [])) (fun tG kG => st16 tG kG) ?_
  refine Go.via (U' := T16.setTop (mkF m 20 #[.val (.ref a), .val (.ref b), .val (.int x0), .val (.int x1), .val (.ref cc)] [(.ref a)])) (fun tG kG => XS.aloadN X16.here hx rfl (hb hby own_k57) rfl rfl kG) ?_
  refine Go.via (U' := T16.setTop (mkF m 22 #[.val (.ref a), .val (.ref b), .val (.int x0), .val (.int x1), .val (.ref cc)] [(.ref cc), (.ref a)])) (fun tG kG => XS.aload X16.here hx rfl (hb hby own_k58) rfl rfl kG) ?_
  obtain ⟨T23, h23, X23, e23, W23, st23⟩ := putF X16 hx hZ hown (host := "") (Or.inl (hw _ (List.mem_of_getElem? (i := 42) rfl))) Via.refl e16 f21 f17 (Or.inr ⟨(hw _ (List.mem_of_getElem? (i := 43) rfl)), rfl, hnm⟩) (hw _ (List.mem_of_getElem? (i := 27) rfl)) (ty := (.object "java/lang/String")) (by decide) rfl rfl (g := (mkF m 22 #[.val (.ref a), .val (.ref b), .val (.int x0), .val (.int x1), .val (.ref cc)] [(.ref cc), (.ref a)])) rfl rfl (hb hby own_k59)
  have f24 := f17.wr W23
  have f25 := f18.other W23 (Or.inr (slot_ne (Or.inr (hw _ (List.mem_of_getElem? (i := 37) rfl))) (Or.inr (hw _ (List.mem_of_getElem? (i := 43) rfl))) (by decide) (t := (.array .byte)) (t' := (.object "java/lang/String")) (by decide) (by decide)))
  have f26 := f19.other W23 (Or.inr (slot_ne (Or.inr (hw _ (List.mem_of_getElem? (i := 39) rfl))) (Or.inr (hw _ (List.mem_of_getElem? (i := 43) rfl))) (by decide) (t := .int) (t' := (.object "java/lang/String")) (by decide) (by decide)))
  have f27 := f20.other W23 (Or.inr (slot_ne (Or.inr (hw _ (List.mem_of_getElem? (i := 41) rfl))) (Or.inr (hw _ (List.mem_of_getElem? (i := 43) rfl))) (by decide) (t := .int) (t' := (.object "java/lang/String")) (by decide) (by decide)))
  have f28 := f21.same W23
  have f29 := f22.other W23 (Or.inr (slot_ne (Or.inl (hw _ (List.mem_of_getElem? (i := 50) rfl))) (Or.inr (hw _ (List.mem_of_getElem? (i := 43) rfl))) (by decide) (t := .int) (t' := (.object "java/lang/String")) (by decide) (by decide)))
  have K23 := K16.wr W23 (Or.inl (List.mem_of_getElem? (i := 0) rfl))
  have N23 := Fr.snoc X23 N16 g_a
  have Z23 := Nat.le_trans Z16 (Keep.of_wr W23).1
  refine Go.via (U' := T23.setTop (mkF m 25 #[.val (.ref a), .val (.ref b), .val (.int x0), .val (.int x1), .val (.ref cc)] [])) (fun tG kG => st23 tG kG) ?_
  exact go_retV X23 hx hlk hret (hb hby own_k60) e23 ⟨rfl, N23, K23, f24, f25, f26, f27, f28, f29⟩ (by decide) (by decide)
theorem own_k62 (m : MethodId) (a : Addr) (b : Addr) (cc : Addr) : entryFrame m #[(.ref a), (.ref b), (.ref cc)] 3 = mkF m 0 #[.val (.ref a), .val (.ref b), .val (.ref cc)] [] := by first | (simp [entryFrame, mkF, argsToLocals, Value.category]; done) | rfl
theorem own_k63 : decode prog_14_method_1_code 0 = .ok (.aload_n 0, 1) := by decide +kernel
theorem own_k64 : decode prog_14_method_1_code 1 = .ok (.aload_n 1, 1) := by decide +kernel
theorem own_k65 : decode prog_14_method_1_code 2 = .ok (.aload_n 1, 1) := by decide +kernel
theorem own_k66 : decode prog_14_method_1_code 3 = .ok (.arraylength, 1) := by decide +kernel
theorem own_k67 : decode prog_14_method_1_code 4 = .ok (.aload_n 1, 1) := by decide +kernel
theorem own_k68 : decode prog_14_method_1_code 5 = .ok (.arraylength, 1) := by decide +kernel
theorem own_k69 : decode prog_14_method_1_code 6 = .ok (.aload_n 2, 1) := by decide +kernel
theorem own_k70 : parseMethodDescriptor "([BIILjava/lang/String;)V" = some ⟨[(.array .byte), .int, .int, (.object "java/lang/String")], none⟩ := by decide +kernel
theorem own_k71 : decode prog_14_method_1_code 7 = .ok (.invokespecial 1, 3) := by decide +kernel
theorem own_k72 : decode prog_14_method_1_code 10 = .ok (.return_, 1) := by decide +kernel
set_option maxRecDepth 65536 in
set_option maxHeartbeats 40000000 in
theorem own_rm6 (l : Launch) (Z : State) (a0 : Array Value) (hw : ∀ d ∈ tables_1, d.before a0 Z = true) (ws : List Jvm.Cond) (a : Addr) (b : Addr) (cc : Addr) (k_b : ClassId) (z : Int32) (f : Nat → Int32) (h0 : Heap) (n0 : Nat) (hn0 : n0 ≤ h0.size) (E_a : Exa Z h0 a "com/example/stokehold/stokehold/wire/ProtoReader") (F_a_bytes : Fld Z h0 a "com/example/stokehold/stokehold/wire/ProtoReader" "bytes" "[B" .null) (F_a_available : Fld Z h0 a "com/example/stokehold/stokehold/wire/ProtoReader" "available" "I" (.int (0 : Int32))) (F_a_end : Fld Z h0 a "com/example/stokehold/stokehold/wire/ProtoReader" "end" "I" (.int (0 : Int32))) (F_a_name : Fld Z h0 a "com/example/stokehold/stokehold/wire/ProtoReader" "name" "Ljava/lang/String;" .null) (F_a_position : Fld Z h0 a "com/example/stokehold/stokehold/wire/ProtoReader" "position" "I" (.int (0 : Int32))) (V_b : Arf Z h0 b k_b .byte z f) (g_a : n0 ≤ a) (ne_a_b : a ≠ b) : Meets l Z (⟨"com/example/stokehold/stokehold/wire/ProtoReader", "<init>", "([BLjava/lang/String;)V"⟩ : MethodName) prog_14_method_1_code 3 none ws ({ frames := 2, cells := 0, slots := 0, locals := 28 } : Room) #[(.ref a), (.ref b), (.ref cc)] h0 (fun v h L => v = none ∧ Fr n0 L ∧ Keep h0 h [a] ∧ Exa Z h a "com/example/stokehold/stokehold/wire/ProtoReader" ∧ Fld Z h a "com/example/stokehold/stokehold/wire/ProtoReader" "bytes" "[B" (.ref b) ∧ Fld Z h a "com/example/stokehold/stokehold/wire/ProtoReader" "available" "I" (.int z) ∧ Fld Z h a "com/example/stokehold/stokehold/wire/ProtoReader" "end" "I" (.int z) ∧ Fld Z h a "com/example/stokehold/stokehold/wire/ProtoReader" "name" "Ljava/lang/String;" (.ref cc) ∧ Fld Z h a "com/example/stokehold/stokehold/wire/ProtoReader" "position" "I" (.int (0 : Int32))) := by
  refine meets_of (plainFor_of_name own_k61) ?_
  intro p e s m below meth c s₁ X0 hx hZ hby hml hret hlk hown hnm e0
  replace hml : c.maxLocals = 3 := hml
  replace hown : s.vm.findClass "com/example/stokehold/stokehold/wire/ProtoReader" = some m.cls := hown
  refine Go.cast (own_k62 m a b cc) ?_
  have N0 := Fr.nil n0
  have K0 : Keep h0 h0 [a] := Keep.refl h0 _
  refine Go.via (U' := s₁.setTop (mkF m 1 #[.val (.ref a), .val (.ref b), .val (.ref cc)] [(.ref a)])) (fun tG kG => XS.aloadN X0.here hx rfl (hb hby own_k63) rfl rfl kG) ?_
  refine Go.via (U' := s₁.setTop (mkF m 2 #[.val (.ref a), .val (.ref b), .val (.ref cc)] [(.ref b), (.ref a)])) (fun tG kG => XS.aloadN X0.here hx rfl (hb hby own_k64) rfl rfl kG) ?_
  refine Go.via (U' := s₁.setTop (mkF m 3 #[.val (.ref a), .val (.ref b), .val (.ref cc)] [(.ref b), (.ref b), (.ref a)])) (fun tG kG => XS.aloadN X0.here hx rfl (hb hby own_k65) rfl rfl kG) ?_
  refine Go.via (U' := s₁.setTop (mkF m 4 #[.val (.ref a), .val (.ref b), .val (.ref cc)] [(.int z), (.ref b), (.ref a)])) (fun tG kG => own_len X0 hx hZ e0 V_b (hb hby own_k66) tG kG) ?_
  refine Go.via (U' := s₁.setTop (mkF m 5 #[.val (.ref a), .val (.ref b), .val (.ref cc)] [(.ref b), (.int z), (.ref b), (.ref a)])) (fun tG kG => XS.aloadN X0.here hx rfl (hb hby own_k67) rfl rfl kG) ?_
  refine Go.via (U' := s₁.setTop (mkF m 6 #[.val (.ref a), .val (.ref b), .val (.ref cc)] [(.int z), (.int z), (.ref b), (.ref a)])) (fun tG kG => own_len X0 hx hZ e0 V_b (hb hby own_k68) tG kG) ?_
  refine Go.via (U' := s₁.setTop (mkF m 7 #[.val (.ref a), .val (.ref b), .val (.ref cc)] [(.ref cc), (.int z), (.int z), (.ref b), (.ref a)])) (fun tG kG => XS.aloadN X0.here hx rfl (hb hby own_k69) rfl rfl kG) ?_
  obtain ⟨_, T1, L1, X1, ⟨rfl, N1q, K1q, f2, f3, f4, f5, f6, f7⟩, st1⟩ := callIQ X0 hx hZ rfl hown (hw _ (List.mem_of_getElem? (i := 32) rfl)) (hw _ (List.mem_of_getElem? (i := 33) rfl)) (hw _ (List.mem_of_getElem? (i := 28) rfl)) (hw _ (List.mem_of_getElem? (i := 34) rfl)) (by decide) (b := a) (av := [(.ref b), (.int z), (.int z), (.ref cc)]) (own_rm7 l Z a0 hw [] a b z z cc  h0 n0 hn0 E_a F_a_bytes F_a_available F_a_end F_a_name F_a_position g_a) e0 (pc := 7) (Ls := #[.val (.ref a), .val (.ref b), .val (.ref cc)]) (rest := []) (by rw [hml]; rfl) own_k70 rfl 0 (Nat.le_of_eq rfl) (by decide) (by decide) (by decide) (by decide) (hb hby own_k71)
  have f8 := E_a.keep K1q
  have f9 := V_b.keep K1q (ninS (Ne.symm ne_a_b) nin0)
  have N1 := Fr.app N0 N1q
  have Z1 := Nat.le_trans hn0 K1q.1
  have K1 := K0.trans K1q (allS (Or.inl (List.mem_of_getElem? (i := 0) rfl)) all0)
  refine Go.via (U' := T1.setTop (mkF m 10 #[.val (.ref a), .val (.ref b), .val (.ref cc)] [])) (fun tG kG => st1 tG kG) ?_
  exact go_retV X1 hx hlk hret (hb hby own_k72) rfl ⟨rfl, N1, K1, f2, f3, f4, f5, f6, f7⟩ (by decide) (by decide)
theorem own_k73 (m : MethodId) (a : Addr) : entryFrame m #[(.ref a)] 1 = mkF m 0 #[.val (.ref a)] [] := by first | (simp [entryFrame, mkF, argsToLocals, Value.category]; done) | rfl
theorem own_k74 : decode prog_14_method_4_code 0 = .ok (.aload_n 0, 1) := by decide +kernel
theorem own_k75 : decode prog_14_method_4_code 1 = .ok (.getfield 110, 3) := by decide +kernel
theorem own_k76 : decode prog_14_method_4_code 4 = .ok (.aload_n 0, 1) := by decide +kernel
theorem own_k77 : decode prog_14_method_4_code 5 = .ok (.getfield 20, 3) := by decide +kernel
theorem own_k78 : decode prog_14_method_4_code 8 = .ok (.if_icmp .ne 7, 3) := by decide +kernel
theorem own_k79 : decode prog_14_method_4_code 11 = .ok (.iconst 1, 1) := by decide +kernel
theorem own_k80 : decode prog_14_method_4_code 12 = .ok (.goto 4, 3) := by decide +kernel
theorem own_k81 : decode prog_14_method_4_code 16 = .ok (.ireturn, 1) := by decide +kernel
theorem own_k82 : decode prog_14_method_4_code 15 = .ok (.iconst 0, 1) := by decide +kernel
def own_f8 (u : Int32) (w : Int32) : Int32 := (if u = w then (1 : Int32) else (0 : Int32))
set_option maxRecDepth 65536 in
set_option maxHeartbeats 40000000 in
theorem own_rm8 (l : Launch) (Z : State) (a0 : Array Value) (hw : ∀ d ∈ tables_1, d.before a0 Z = true) (ws : List Jvm.Cond) (a : Addr) (u : Int32) (w : Int32) (h0 : Heap) (F_a_position : Fld Z h0 a "com/example/stokehold/stokehold/wire/ProtoReader" "position" "I" (.int u)) (F_a_end : Fld Z h0 a "com/example/stokehold/stokehold/wire/ProtoReader" "end" "I" (.int w)) : Meets l Z (⟨"com/example/stokehold/stokehold/wire/ProtoReader", "atEnd", "()Z"⟩ : MethodName) prog_14_method_4_code 1 (some .boolean) ws ({ frames := 0, cells := 0, slots := 0, locals := 0 } : Room) #[(.ref a)] h0 (PureR (some (.int (own_f8 u w))) h0) := by
  refine meets_of (plainFor_of_name own_k61) ?_
  intro p e s m below meth c s₁ X0 hx hZ hby hml hret hlk hown hnm e0
  replace hml : c.maxLocals = 1 := hml
  replace hown : s.vm.findClass "com/example/stokehold/stokehold/wire/ProtoReader" = some m.cls := hown
  refine Go.cast (own_k73 m a) ?_
  refine Go.via (U' := s₁.setTop (mkF m 1 #[.val (.ref a)] [(.ref a)])) (fun tG kG => XS.aloadN X0.here hx rfl (hb hby own_k74) rfl rfl kG) ?_
  obtain ⟨T1, X1, e1, st1⟩ := getF X0 hx hZ hown (host := "") (Or.inl (hw _ (List.mem_of_getElem? (i := 49) rfl))) Via.refl e0 F_a_position (g := (mkF m 1 #[.val (.ref a)] [(.ref a)])) rfl rfl (hb hby own_k75)
  refine Go.via (U' := T1.setTop (mkF m 4 #[.val (.ref a)] [(.int u)])) (fun tG kG => st1 tG kG) ?_
  refine Go.via (U' := T1.setTop (mkF m 5 #[.val (.ref a)] [(.ref a), (.int u)])) (fun tG kG => XS.aloadN X1.here hx rfl (hb hby own_k76) rfl rfl kG) ?_
  obtain ⟨T2, X2, e2, st2⟩ := getF X1 hx hZ hown (host := "") (Or.inl (hw _ (List.mem_of_getElem? (i := 40) rfl))) Via.refl e1 F_a_end (g := (mkF m 5 #[.val (.ref a)] [(.ref a), (.int u)])) rfl rfl (hb hby own_k77)
  refine Go.via (U' := T2.setTop (mkF m 8 #[.val (.ref a)] [(.int w), (.int u)])) (fun tG kG => st2 tG kG) ?_
  by_cases hc8 : u = w
  · refine Go.via (U' := T2.setTop (mkF m 11 #[.val (.ref a)] [])) (fun tG kG => XS.icmpNo X2.here hx rfl (hb hby own_k78) rfl (teq hc8).2 kG) ?_
    refine Go.via (U' := T2.setTop (mkF m 12 #[.val (.ref a)] [(.int (1 : Int32))])) (fun tG kG => XS.iconst X2.here hx rfl (hb hby own_k79) kG) ?_
    refine Go.via (U' := T2.setTop (mkF m 16 #[.val (.ref a)] [(.int (1 : Int32))])) (fun tG kG => XS.goto X2.here hx rfl (pc0 := 12) (pc' := 16) rfl (hb hby own_k80) (by decide) (by decide) kG) ?_
    exact go_retN X2 hx hlk (t := .boolean) hret (by simp) (hb hby own_k81) e2 ⟨(congrArg (fun z => some (Value.int z)) (show nar .boolean (1 : Int32) = (own_f8 u w) from by unfold own_f8; simp only [if_pos hc8] <;> rfl)), rfl, rfl⟩ (by decide) (by decide)
  · refine Go.via (U' := T2.setTop (mkF m 15 #[.val (.ref a)] [])) (fun tG kG => XS.icmpYes X2.here hx rfl (pc0 := 8) (pc' := 15) rfl (hb hby own_k78) rfl (feq hc8).2 (by decide) (by decide) kG) ?_
    refine Go.via (U' := T2.setTop (mkF m 16 #[.val (.ref a)] [(.int (0 : Int32))])) (fun tG kG => XS.iconst X2.here hx rfl (hb hby own_k82) kG) ?_
    exact go_retN X2 hx hlk (t := .boolean) hret (by simp) (hb hby own_k81) e2 ⟨(congrArg (fun z => some (Value.int z)) (show nar .boolean (0 : Int32) = (own_f8 u w) from by unfold own_f8; simp only [if_neg hc8] <;> rfl)), rfl, rfl⟩ (by decide) (by decide)
theorem own_k83 (m : MethodId) (a : Addr) (x0 : Int32) : entryFrame m #[(.ref a), (.int x0)] 2 = mkF m 0 #[.val (.ref a), .val (.int x0)] [] := by first | (simp [entryFrame, mkF, argsToLocals, Value.category]; done) | rfl
theorem own_k84 : decode prog_14_method_11_code 0 = .ok (.iload_n 1, 1) := by decide +kernel
theorem own_k85 : decode prog_14_method_11_code 1 = .ok (.aload_n 0, 1) := by decide +kernel
theorem own_k86 : decode prog_14_method_11_code 2 = .ok (.getfield 16, 3) := by decide +kernel
theorem own_k87 : decode prog_14_method_11_code 5 = .ok (.aload_n 0, 1) := by decide +kernel
theorem own_k88 : decode prog_14_method_11_code 6 = .ok (.getfield 110, 3) := by decide +kernel
theorem own_k89 : decode prog_14_method_11_code 9 = .ok (.isub, 1) := by decide +kernel
theorem own_k90 : decode prog_14_method_11_code 10 = .ok (.if_icmp .le 7, 3) := by decide +kernel
theorem own_k91 : decode prog_14_method_11_code 17 = .ok (.return_, 1) := by decide +kernel
set_option maxRecDepth 65536 in
set_option maxHeartbeats 40000000 in
theorem own_rm10 (l : Launch) (Z : State) (a0 : Array Value) (hw : ∀ d ∈ tables_1, d.before a0 Z = true) (ws : List Jvm.Cond) (a : Addr) (x0 : Int32) (u : Int32) (w : Int32) (h0 : Heap) (F_a_available : Fld Z h0 a "com/example/stokehold/stokehold/wire/ProtoReader" "available" "I" (.int u)) (F_a_position : Fld Z h0 a "com/example/stokehold/stokehold/wire/ProtoReader" "position" "I" (.int w)) (hp : ¬ ((u - w) < x0)) : Meets l Z (⟨"com/example/stokehold/stokehold/wire/ProtoReader", "needBytes", "(I)V"⟩ : MethodName) prog_14_method_11_code 2 none ws ({ frames := 0, cells := 0, slots := 0, locals := 0 } : Room) #[(.ref a), (.int x0)] h0 (PureR (none) h0) := by
  refine meets_of (plainFor_of_name own_k61) ?_
  intro p e s m below meth c s₁ X0 hx hZ hby hml hret hlk hown hnm e0
  replace hml : c.maxLocals = 2 := hml
  replace hown : s.vm.findClass "com/example/stokehold/stokehold/wire/ProtoReader" = some m.cls := hown
  refine Go.cast (own_k83 m a x0) ?_
  refine Go.via (U' := s₁.setTop (mkF m 1 #[.val (.ref a), .val (.int x0)] [(.int x0)])) (fun tG kG => XS.iloadN X0.here hx rfl (hb hby own_k84) rfl kG) ?_
  refine Go.via (U' := s₁.setTop (mkF m 2 #[.val (.ref a), .val (.int x0)] [(.ref a), (.int x0)])) (fun tG kG => XS.aloadN X0.here hx rfl (hb hby own_k85) rfl rfl kG) ?_
  obtain ⟨T1, X1, e1, st1⟩ := getF X0 hx hZ hown (host := "") (Or.inl (hw _ (List.mem_of_getElem? (i := 38) rfl))) Via.refl e0 F_a_available (g := (mkF m 2 #[.val (.ref a), .val (.int x0)] [(.ref a), (.int x0)])) rfl rfl (hb hby own_k86)
  refine Go.via (U' := T1.setTop (mkF m 5 #[.val (.ref a), .val (.int x0)] [(.int u), (.int x0)])) (fun tG kG => st1 tG kG) ?_
  refine Go.via (U' := T1.setTop (mkF m 6 #[.val (.ref a), .val (.int x0)] [(.ref a), (.int u), (.int x0)])) (fun tG kG => XS.aloadN X1.here hx rfl (hb hby own_k87) rfl rfl kG) ?_
  obtain ⟨T2, X2, e2, st2⟩ := getF X1 hx hZ hown (host := "") (Or.inl (hw _ (List.mem_of_getElem? (i := 49) rfl))) Via.refl e1 F_a_position (g := (mkF m 6 #[.val (.ref a), .val (.int x0)] [(.ref a), (.int u), (.int x0)])) rfl rfl (hb hby own_k88)
  refine Go.via (U' := T2.setTop (mkF m 9 #[.val (.ref a), .val (.int x0)] [(.int w), (.int u), (.int x0)])) (fun tG kG => st2 tG kG) ?_
  refine Go.via (U' := T2.setTop (mkF m 10 #[.val (.ref a), .val (.int x0)] [(.int (u - w)), (.int x0)])) (fun tG kG => XS.isub X2.here hx rfl (hb hby own_k89) rfl kG) ?_
  have hc10 : ¬ ((u - w) < x0) := hp
  refine Go.via (U' := T2.setTop (mkF m 17 #[.val (.ref a), .val (.int x0)] [])) (fun tG kG => XS.icmpYes X2.here hx rfl (pc0 := 10) (pc' := 17) rfl (hb hby own_k90) rfl (flt hc10).2.2.2 (by decide) (by decide) kG) ?_
  exact go_retV X2 hx hlk hret (hb hby own_k91) e2 ⟨rfl, rfl, rfl⟩ (by decide) (by decide)
def own_H (f : Nat → Int32) (u z : Int32) : Prop := ¬ u < 0 ∧ u < z ∧ z.toInt ≤ 100 ∧ (f u.toNatClampNeg < 0 → (u + (1 : Int32)) < z ∧ (f (u + (1 : Int32)).toNatClampNeg < 0 → ((u + (1 : Int32)) + (1 : Int32)) < z ∧ ¬ f ((u + (1 : Int32)) + (1 : Int32)).toNatClampNeg < 0))
theorem own_rg1 {f : Nat → Int32} {u z : Int32} (H : own_H f u z) : 0 ≤ u.toInt ∧ u.toInt < z.toInt ∧ z.toInt ≤ 100 ∧ (u + (1 : Int32)).toInt = u.toInt + 1 ∧ ((u + (1 : Int32)) + (1 : Int32)).toInt = u.toInt + 2 := by
  obtain ⟨h1, h2, h3, -⟩ := H
  rw [Int32.lt_iff_toInt_lt, show (0 : Int32).toInt = 0 from rfl] at h1
  rw [Int32.lt_iff_toInt_lt] at h2
  have e : (1 : Int32).toInt = 1 := rfl
  have a := c_iadd u 1
  have r := rng32 (u + 1)
  have b := c_iadd (u + 1) 1
  have r2 := rng32 (u + 1 + 1)
  omega
theorem own_in0 {f : Nat → Int32} {u z : Int32} (H : own_H f u z) (h : u < z) : ¬ u < 0 ∧ u < z := ⟨H.1, h⟩
theorem own_in1 {f : Nat → Int32} {u z : Int32} (H : own_H f u z) (h : (u + (1 : Int32)) < z) : ¬ (u + (1 : Int32)) < 0 ∧ (u + (1 : Int32)) < z := by
  have r := own_rg1 H
  refine ⟨?_, h⟩
  rw [Int32.lt_iff_toInt_lt, show (0 : Int32).toInt = 0 from rfl]
  omega
theorem own_in2 {f : Nat → Int32} {u z : Int32} (H : own_H f u z) (h : ((u + (1 : Int32)) + (1 : Int32)) < z) : ¬ ((u + (1 : Int32)) + (1 : Int32)) < 0 ∧ ((u + (1 : Int32)) + (1 : Int32)) < z := by
  have r := own_rg1 H
  refine ⟨?_, h⟩
  rw [Int32.lt_iff_toInt_lt, show (0 : Int32).toInt = 0 from rfl]
  omega
theorem own_neq {u z : Int32} (h : u < z) : own_f8 u z = 0 := by
  unfold own_f8
  exact if_neg (fun e => by rw [e] at h; exact absurd h Int32.lt_irrefl)
theorem own_needq {u z : Int32} (h0 : ¬ u < 0) (hz : z.toInt ≤ 100) (h : u < z) : ¬ ((z - u) < (1 : Int32)) := by
  rw [Int32.lt_iff_toInt_lt, show (0 : Int32).toInt = 0 from rfl] at h0
  rw [Int32.lt_iff_toInt_lt] at h
  have s := c_isub z u
  have r := rng32 (z - u)
  rw [Int32.lt_iff_toInt_lt, show (1 : Int32).toInt = 1 from rfl]
  omega
theorem own_k92 (m : MethodId) (a : Addr) : entryFrame m #[(.ref a)] 5 = mkF m 0 #[.val (.ref a), .unset, .unset, .unset, .unset] [] := by first | (simp [entryFrame, mkF, argsToLocals, Value.category]; done) | rfl
theorem own_k93 : decode prog_14_method_6_code 0 = .ok (.lconst 0, 1) := by decide +kernel
theorem own_k94 : decode prog_14_method_6_code 1 = .ok (.lstore_n 1, 1) := by decide +kernel
theorem own_k95 : decode prog_14_method_6_code 2 = .ok (.iconst 0, 1) := by decide +kernel
theorem own_k96 : decode prog_14_method_6_code 3 = .ok (.istore_n 3, 1) := by decide +kernel
theorem own_k97 : decode prog_14_method_6_code 4 = .ok (.iload_n 3, 1) := by decide +kernel
theorem own_k98 : decode prog_14_method_6_code 5 = .ok (.bipush 10, 2) := by decide +kernel
theorem own_k99 : decode prog_14_method_6_code 7 = .ok (.if_icmp .ge 67, 3) := by decide +kernel
theorem own_k100 : decode prog_14_method_6_code 10 = .ok (.aload_n 0, 1) := by decide +kernel
theorem own_k101 : parseMethodDescriptor "()Z" = some ⟨[], some .boolean⟩ := by decide +kernel
theorem own_k102 : decode prog_14_method_6_code 11 = .ok (.invokevirtual 119, 3) := by decide +kernel
theorem own_k103 : decode prog_14_method_6_code 14 = .ok (.ifCond .eq 10, 3) := by decide +kernel
theorem own_k104 : decode prog_14_method_6_code 24 = .ok (.aload_n 0, 1) := by decide +kernel
theorem own_k105 : decode prog_14_method_6_code 25 = .ok (.iconst 1, 1) := by decide +kernel
theorem own_k106 : parseMethodDescriptor "(I)V" = some ⟨[.int], none⟩ := by decide +kernel
theorem own_k107 : decode prog_14_method_6_code 26 = .ok (.invokevirtual 125, 3) := by decide +kernel
theorem own_k108 : decode prog_14_method_6_code 29 = .ok (.aload_n 0, 1) := by decide +kernel
theorem own_k109 : decode prog_14_method_6_code 30 = .ok (.getfield 12, 3) := by decide +kernel
theorem own_k110 : decode prog_14_method_6_code 33 = .ok (.aload_n 0, 1) := by decide +kernel
theorem own_k111 : decode prog_14_method_6_code 34 = .ok (.dup, 1) := by decide +kernel
theorem own_k112 : decode prog_14_method_6_code 35 = .ok (.getfield 110, 3) := by decide +kernel
theorem own_k113 : decode prog_14_method_6_code 38 = .ok (.dup_x1, 1) := by decide +kernel
theorem own_k114 : decode prog_14_method_6_code 39 = .ok (.iconst 1, 1) := by decide +kernel
theorem own_k115 : decode prog_14_method_6_code 40 = .ok (.iadd, 1) := by decide +kernel
theorem own_k116 : decode prog_14_method_6_code 41 = .ok (.putfield 110, 3) := by decide +kernel
theorem own_k117 : decode prog_14_method_6_code 44 = .ok (.baload, 1) := by decide +kernel
theorem own_k118 : decode prog_14_method_6_code 45 = .ok (.istore 4, 2) := by decide +kernel
theorem own_k119 : decode prog_14_method_6_code 47 = .ok (.lload_n 1, 1) := by decide +kernel
theorem own_k120 : decode prog_14_method_6_code 48 = .ok (.iload 4, 2) := by decide +kernel
theorem own_k121 : decode prog_14_method_6_code 50 = .ok (.bipush 127, 2) := by decide +kernel
theorem own_k122 : decode prog_14_method_6_code 52 = .ok (.iand, 1) := by decide +kernel
theorem own_k123 : decode prog_14_method_6_code 53 = .ok (.i2l, 1) := by decide +kernel
theorem own_k124 : decode prog_14_method_6_code 54 = .ok (.bipush 7, 2) := by decide +kernel
theorem own_k125 : decode prog_14_method_6_code 56 = .ok (.iload_n 3, 1) := by decide +kernel
theorem own_k126 : decode prog_14_method_6_code 57 = .ok (.imul, 1) := by decide +kernel
theorem own_k127 : decode prog_14_method_6_code 58 = .ok (.lshl, 1) := by decide +kernel
theorem own_k128 : decode prog_14_method_6_code 59 = .ok (.lor, 1) := by decide +kernel
theorem own_k129 : decode prog_14_method_6_code 60 = .ok (.lstore_n 1, 1) := by decide +kernel
theorem own_k130 : decode prog_14_method_6_code 61 = .ok (.iload 4, 2) := by decide +kernel
theorem own_k131 : decode prog_14_method_6_code 63 = .ok (.ifCond .lt 5, 3) := by decide +kernel
theorem own_k132 : decode prog_14_method_6_code 68 = .ok (.iinc 3 1, 3) := by decide +kernel
theorem own_k133 : decode prog_14_method_6_code 71 = .ok (.goto (-67), 3) := by decide +kernel
theorem own_k134 : decode prog_14_method_6_code 66 = .ok (.lload_n 1, 1) := by decide +kernel
theorem own_k135 : decode prog_14_method_6_code 67 = .ok (.lreturn, 1) := by decide +kernel
def own_f9 (u : Int32) (f : Nat → Int32) : Int64 := (if (f u.toNatClampNeg) < (0 : Int32) then (if (f (u + (1 : Int32)).toNatClampNeg) < (0 : Int32) then ((((0 : Int64) ||| ((((f u.toNatClampNeg) &&& (127 : Int32)).toInt64) <<< ((0 : Int32) &&& 0x3f).toInt64)) ||| ((((f (u + (1 : Int32)).toNatClampNeg) &&& (127 : Int32)).toInt64) <<< ((7 : Int32) &&& 0x3f).toInt64)) ||| ((((f ((u + (1 : Int32)) + (1 : Int32)).toNatClampNeg) &&& (127 : Int32)).toInt64) <<< ((14 : Int32) &&& 0x3f).toInt64)) else (((0 : Int64) ||| ((((f u.toNatClampNeg) &&& (127 : Int32)).toInt64) <<< ((0 : Int32) &&& 0x3f).toInt64)) ||| ((((f (u + (1 : Int32)).toNatClampNeg) &&& (127 : Int32)).toInt64) <<< ((7 : Int32) &&& 0x3f).toInt64))) else ((0 : Int64) ||| ((((f u.toNatClampNeg) &&& (127 : Int32)).toInt64) <<< ((0 : Int32) &&& 0x3f).toInt64)))
def own_q9_a_position (u : Int32) (f : Nat → Int32) : Int32 := (if (f u.toNatClampNeg) < (0 : Int32) then (if (f (u + (1 : Int32)).toNatClampNeg) < (0 : Int32) then (((u + (1 : Int32)) + (1 : Int32)) + (1 : Int32)) else ((u + (1 : Int32)) + (1 : Int32))) else (u + (1 : Int32)))
set_option maxRecDepth 65536 in
set_option maxHeartbeats 40000000 in
theorem own_rm9 (l : Launch) (Z : State) (a0 : Array Value) (hw : ∀ d ∈ tables_1, d.before a0 Z = true) (ws : List Jvm.Cond) (a : Addr) (b : Addr) (z : Int32) (u : Int32) (k_b : ClassId) (f : Nat → Int32) (h0 : Heap) (n0 : Nat) (hn0 : n0 ≤ h0.size) (E_a : Exa Z h0 a "com/example/stokehold/stokehold/wire/ProtoReader") (F_a_bytes : Fld Z h0 a "com/example/stokehold/stokehold/wire/ProtoReader" "bytes" "[B" (.ref b)) (F_a_available : Fld Z h0 a "com/example/stokehold/stokehold/wire/ProtoReader" "available" "I" (.int z)) (F_a_end : Fld Z h0 a "com/example/stokehold/stokehold/wire/ProtoReader" "end" "I" (.int z)) (F_a_position : Fld Z h0 a "com/example/stokehold/stokehold/wire/ProtoReader" "position" "I" (.int u)) (V_b : Arf Z h0 b k_b .byte z f) (g_a : n0 ≤ a) (ne_a_b : a ≠ b) (hH : own_H f u z) : Meets l Z (⟨"com/example/stokehold/stokehold/wire/ProtoReader", "readVarint", "()J"⟩ : MethodName) prog_14_method_6_code 5 (some .long) ws ({ frames := 1, cells := 0, slots := 0, locals := 13 } : Room) #[(.ref a)] h0 (fun v h L => v = some (.long (own_f9 u f)) ∧ Fr n0 L ∧ Keep h0 h [a] ∧ Exa Z h a "com/example/stokehold/stokehold/wire/ProtoReader" ∧ Fld Z h a "com/example/stokehold/stokehold/wire/ProtoReader" "bytes" "[B" (.ref b) ∧ Fld Z h a "com/example/stokehold/stokehold/wire/ProtoReader" "available" "I" (.int z) ∧ Fld Z h a "com/example/stokehold/stokehold/wire/ProtoReader" "end" "I" (.int z) ∧ Fld Z h a "com/example/stokehold/stokehold/wire/ProtoReader" "position" "I" (.int (own_q9_a_position u f))) := by
  refine meets_of (plainFor_of_name own_k61) ?_
  intro p e s m below meth c s₁ X0 hx hZ hby hml hret hlk hown hnm e0
  replace hml : c.maxLocals = 5 := hml
  replace hown : s.vm.findClass "com/example/stokehold/stokehold/wire/ProtoReader" = some m.cls := hown
  refine Go.cast (own_k92 m a) ?_
  have N0 := Fr.nil n0
  have K0 : Keep h0 h0 [a] := Keep.refl h0 _
  refine Go.via (U' := s₁.setTop (mkF m 1 #[.val (.ref a), .unset, .unset, .unset, .unset] [(.long (0 : Int64))])) (fun tG kG => XS.lconst X0.here hx rfl (hb hby own_k93) kG) ?_
  refine Go.via (U' := s₁.setTop (mkF m 2 #[.val (.ref a), .val (.long (0 : Int64)), .second, .unset, .unset] [])) (fun tG kG => XS.lstoreN X0.here hx rfl (hb hby own_k94) rfl (l' := #[.val (.ref a), .val (.long (0 : Int64)), .second, .unset, .unset]) rfl kG) ?_
  refine Go.via (U' := s₁.setTop (mkF m 3 #[.val (.ref a), .val (.long (0 : Int64)), .second, .unset, .unset] [(.int (0 : Int32))])) (fun tG kG => XS.iconst X0.here hx rfl (hb hby own_k95) kG) ?_
  refine Go.via (U' := s₁.setTop (mkF m 4 #[.val (.ref a), .val (.long (0 : Int64)), .second, .val (.int (0 : Int32)), .unset] [])) (fun tG kG => XS.istoreN X0.here hx rfl (hb hby own_k96) rfl (l' := #[.val (.ref a), .val (.long (0 : Int64)), .second, .val (.int (0 : Int32)), .unset]) rfl kG) ?_
  refine Go.via (U' := s₁.setTop (mkF m 5 #[.val (.ref a), .val (.long (0 : Int64)), .second, .val (.int (0 : Int32)), .unset] [(.int (0 : Int32))])) (fun tG kG => XS.iloadN X0.here hx rfl (hb hby own_k97) rfl kG) ?_
  refine Go.via (U' := s₁.setTop (mkF m 7 #[.val (.ref a), .val (.long (0 : Int64)), .second, .val (.int (0 : Int32)), .unset] [(.int (10 : Int32)), (.int (0 : Int32))])) (fun tG kG => XS.bipush X0.here hx rfl (hb hby own_k98) kG) ?_
  have hc7_1 : (0 : Int32) < (10 : Int32) := by decide
  refine Go.via (U' := s₁.setTop (mkF m 10 #[.val (.ref a), .val (.long (0 : Int64)), .second, .val (.int (0 : Int32)), .unset] [])) (fun tG kG => XS.icmpNo X0.here hx rfl (hb hby own_k99) rfl (tlt hc7_1).2.1 kG) ?_
  refine Go.via (U' := s₁.setTop (mkF m 11 #[.val (.ref a), .val (.long (0 : Int64)), .second, .val (.int (0 : Int32)), .unset] [(.ref a)])) (fun tG kG => XS.aloadN X0.here hx rfl (hb hby own_k100) rfl rfl kG) ?_
  obtain ⟨T2, X2, e2, st2⟩ := callV0 X0 hx hZ hown (hw _ (List.mem_of_getElem? (i := 56) rfl)) (hw _ (List.mem_of_getElem? (i := 45) rfl)) (hw _ (List.mem_of_getElem? (i := 47) rfl)) (hw _ (List.mem_of_getElem? (i := 46) rfl)) (hw _ (List.mem_of_getElem? (i := 28) rfl)) (hw _ (List.mem_of_getElem? (i := 48) rfl)) (by decide) (b := a) (av := []) E_a (own_rm8 l Z a0 hw [] a u z h0 F_a_position F_a_end) e0 (pc := 11) (Ls := #[.val (.ref a), .val (.long (0 : Int64)), .second, .val (.int (0 : Int32)), .unset]) (rest := []) (by rw [hml]; rfl) own_k101 rfl 0 (Nat.le_of_eq rfl) (by decide) (by decide) (by decide) (by decide) (hb hby own_k102)
  refine Go.via (U' := T2.setTop (mkF m 14 #[.val (.ref a), .val (.long (0 : Int64)), .second, .val (.int (0 : Int32)), .unset] [(.int (own_f8 u z))])) (fun tG kG => st2 tG kG) ?_
  have hc14 : (own_f8 u z) = (0 : Int32) := (own_neq hH.2.1)
  refine Go.via (U' := T2.setTop (mkF m 24 #[.val (.ref a), .val (.long (0 : Int64)), .second, .val (.int (0 : Int32)), .unset] [])) (fun tG kG => XS.ifYes X2.here hx rfl (pc0 := 14) (pc' := 24) rfl (hb hby own_k103) rfl ((if0 _ _).trans (teq hc14).1) (by decide) (by decide) kG) ?_
  refine Go.via (U' := T2.setTop (mkF m 25 #[.val (.ref a), .val (.long (0 : Int64)), .second, .val (.int (0 : Int32)), .unset] [(.ref a)])) (fun tG kG => XS.aloadN X2.here hx rfl (hb hby own_k104) rfl rfl kG) ?_
  refine Go.via (U' := T2.setTop (mkF m 26 #[.val (.ref a), .val (.long (0 : Int64)), .second, .val (.int (0 : Int32)), .unset] [(.int (1 : Int32)), (.ref a)])) (fun tG kG => XS.iconst X2.here hx rfl (hb hby own_k105) kG) ?_
  obtain ⟨T3, X3, e3, st3⟩ := callP0 X2 hx hZ (y2 := (⟨"com/example/stokehold/stokehold/wire/ProtoReader", "atEnd", "()Z"⟩ : MethodName)) hown (hw _ (List.mem_of_getElem? (i := 57) rfl)) (hw _ (List.mem_of_getElem? (i := 58) rfl)) (hw _ (List.mem_of_getElem? (i := 59) rfl)) (hw _ (List.mem_of_getElem? (i := 47) rfl)) rfl (hw _ (List.mem_of_getElem? (i := 28) rfl)) (hw _ (List.mem_of_getElem? (i := 60) rfl)) (by decide) (b := a) (av := [(.int (1 : Int32))]) E_a (own_rm10 l Z a0 hw [] a (1 : Int32) z u h0 F_a_available F_a_position (own_needq (own_in0 hH hH.2.1).1 hH.2.2.1 hH.2.1)) e2 (pc := 26) (Ls := #[.val (.ref a), .val (.long (0 : Int64)), .second, .val (.int (0 : Int32)), .unset]) (rest := []) (by rw [hml]; rfl) own_k106 rfl 0 (Nat.le_of_eq rfl) (by decide) (by decide) (by decide) (by decide) (hb hby own_k107)
  refine Go.via (U' := T3.setTop (mkF m 29 #[.val (.ref a), .val (.long (0 : Int64)), .second, .val (.int (0 : Int32)), .unset] [])) (fun tG kG => st3 tG kG) ?_
  refine Go.via (U' := T3.setTop (mkF m 30 #[.val (.ref a), .val (.long (0 : Int64)), .second, .val (.int (0 : Int32)), .unset] [(.ref a)])) (fun tG kG => XS.aloadN X3.here hx rfl (hb hby own_k108) rfl rfl kG) ?_
  obtain ⟨T4, X4, e4, st4⟩ := getF X3 hx hZ hown (host := "") (Or.inl (hw _ (List.mem_of_getElem? (i := 36) rfl))) Via.refl e3 F_a_bytes (g := (mkF m 30 #[.val (.ref a), .val (.long (0 : Int64)), .second, .val (.int (0 : Int32)), .unset] [(.ref a)])) rfl rfl (hb hby own_k109)
  refine Go.via (U' := T4.setTop (mkF m 33 #[.val (.ref a), .val (.long (0 : Int64)), .second, .val (.int (0 : Int32)), .unset] [(.ref b)])) (fun tG kG => st4 tG kG) ?_
  refine Go.via (U' := T4.setTop (mkF m 34 #[.val (.ref a), .val (.long (0 : Int64)), .second, .val (.int (0 : Int32)), .unset] [(.ref a), (.ref b)])) (fun tG kG => XS.aloadN X4.here hx rfl (hb hby own_k110) rfl rfl kG) ?_
  refine Go.via (U' := T4.setTop (mkF m 35 #[.val (.ref a), .val (.long (0 : Int64)), .second, .val (.int (0 : Int32)), .unset] [(.ref a), (.ref a), (.ref b)])) (fun tG kG => XS.dup X4.here hx rfl (hb hby own_k111) rfl rfl kG) ?_
  obtain ⟨T5, X5, e5, st5⟩ := getF X4 hx hZ hown (host := "") (Or.inl (hw _ (List.mem_of_getElem? (i := 49) rfl))) Via.refl e4 F_a_position (g := (mkF m 35 #[.val (.ref a), .val (.long (0 : Int64)), .second, .val (.int (0 : Int32)), .unset] [(.ref a), (.ref a), (.ref b)])) rfl rfl (hb hby own_k112)
  refine Go.via (U' := T5.setTop (mkF m 38 #[.val (.ref a), .val (.long (0 : Int64)), .second, .val (.int (0 : Int32)), .unset] [(.int u), (.ref a), (.ref b)])) (fun tG kG => st5 tG kG) ?_
  refine Go.via (U' := T5.setTop (mkF m 39 #[.val (.ref a), .val (.long (0 : Int64)), .second, .val (.int (0 : Int32)), .unset] [(.int u), (.ref a), (.int u), (.ref b)])) (fun tG kG => XS.dupX1 X5.here hx rfl (hb hby own_k113) rfl rfl rfl kG) ?_
  refine Go.via (U' := T5.setTop (mkF m 40 #[.val (.ref a), .val (.long (0 : Int64)), .second, .val (.int (0 : Int32)), .unset] [(.int (1 : Int32)), (.int u), (.ref a), (.int u), (.ref b)])) (fun tG kG => XS.iconst X5.here hx rfl (hb hby own_k114) kG) ?_
  refine Go.via (U' := T5.setTop (mkF m 41 #[.val (.ref a), .val (.long (0 : Int64)), .second, .val (.int (0 : Int32)), .unset] [(.int (u + (1 : Int32))), (.ref a), (.int u), (.ref b)])) (fun tG kG => XS.iadd X5.here hx rfl (hb hby own_k115) rfl kG) ?_
  obtain ⟨T6, h6, X6, e6, W6, st6⟩ := putF X5 hx hZ hown (host := "") (Or.inl (hw _ (List.mem_of_getElem? (i := 49) rfl))) Via.refl e5 F_a_position E_a (Or.inl (hw _ (List.mem_of_getElem? (i := 50) rfl))) (hw _ (List.mem_of_getElem? (i := 27) rfl)) (ty := .int) (by decide) rfl rfl (g := (mkF m 41 #[.val (.ref a), .val (.long (0 : Int64)), .second, .val (.int (0 : Int32)), .unset] [(.int (u + (1 : Int32))), (.ref a), (.int u), (.ref b)])) rfl rfl (hb hby own_k116)
  have f7 := E_a.wr W6
  have f8 := F_a_bytes.other W6 (Or.inr (slot_ne (Or.inr (hw _ (List.mem_of_getElem? (i := 37) rfl))) (Or.inl (hw _ (List.mem_of_getElem? (i := 50) rfl))) (by decide) (t := (.array .byte)) (t' := .int) (by decide) (by decide)))
  have f9 := F_a_available.other W6 (Or.inr (slot_ne (Or.inr (hw _ (List.mem_of_getElem? (i := 39) rfl))) (Or.inl (hw _ (List.mem_of_getElem? (i := 50) rfl))) (by decide) (t := .int) (t' := .int) (by decide) (by decide)))
  have f10 := F_a_end.other W6 (Or.inr (slot_ne (Or.inr (hw _ (List.mem_of_getElem? (i := 41) rfl))) (Or.inl (hw _ (List.mem_of_getElem? (i := 50) rfl))) (by decide) (t := .int) (t' := .int) (by decide) (by decide)))
  have f11 := F_a_position.same W6
  have f12 := V_b.other W6 (Ne.symm ne_a_b)
  have K6 := K0.wr W6 (Or.inl (List.mem_of_getElem? (i := 0) rfl))
  have N6 := Fr.snoc X6 N0 g_a
  have Z6 := Nat.le_trans hn0 (Keep.of_wr W6).1
  refine Go.via (U' := T6.setTop (mkF m 44 #[.val (.ref a), .val (.long (0 : Int64)), .second, .val (.int (0 : Int32)), .unset] [(.int u), (.ref b)])) (fun tG kG => st6 tG kG) ?_
  refine Go.via (U' := T6.setTop (mkF m 45 #[.val (.ref a), .val (.long (0 : Int64)), .second, .val (.int (0 : Int32)), .unset] [(.int (f u.toNatClampNeg))])) (fun tG kG => own_ldB X6 hx hZ e6 f12 (j := u) (own_in0 hH hH.2.1) (hb hby own_k117) tG kG) ?_
  refine Go.via (U' := T6.setTop (mkF m 47 #[.val (.ref a), .val (.long (0 : Int64)), .second, .val (.int (0 : Int32)), .val (.int (f u.toNatClampNeg))] [])) (fun tG kG => XS.istore X6.here hx rfl (hb hby own_k118) rfl (l' := #[.val (.ref a), .val (.long (0 : Int64)), .second, .val (.int (0 : Int32)), .val (.int (f u.toNatClampNeg))]) rfl kG) ?_
  refine Go.via (U' := T6.setTop (mkF m 48 #[.val (.ref a), .val (.long (0 : Int64)), .second, .val (.int (0 : Int32)), .val (.int (f u.toNatClampNeg))] [(.long (0 : Int64))])) (fun tG kG => XS.lloadN X6.here hx rfl (hb hby own_k119) rfl kG) ?_
  refine Go.via (U' := T6.setTop (mkF m 50 #[.val (.ref a), .val (.long (0 : Int64)), .second, .val (.int (0 : Int32)), .val (.int (f u.toNatClampNeg))] [(.int (f u.toNatClampNeg)), (.long (0 : Int64))])) (fun tG kG => XS.iload X6.here hx rfl (hb hby own_k120) rfl kG) ?_
  refine Go.via (U' := T6.setTop (mkF m 52 #[.val (.ref a), .val (.long (0 : Int64)), .second, .val (.int (0 : Int32)), .val (.int (f u.toNatClampNeg))] [(.int (127 : Int32)), (.int (f u.toNatClampNeg)), (.long (0 : Int64))])) (fun tG kG => XS.bipush X6.here hx rfl (hb hby own_k121) kG) ?_
  refine Go.via (U' := T6.setTop (mkF m 53 #[.val (.ref a), .val (.long (0 : Int64)), .second, .val (.int (0 : Int32)), .val (.int (f u.toNatClampNeg))] [(.int ((f u.toNatClampNeg) &&& (127 : Int32))), (.long (0 : Int64))])) (fun tG kG => XS.iand X6.here hx rfl (hb hby own_k122) rfl kG) ?_
  refine Go.via (U' := T6.setTop (mkF m 54 #[.val (.ref a), .val (.long (0 : Int64)), .second, .val (.int (0 : Int32)), .val (.int (f u.toNatClampNeg))] [(.long (((f u.toNatClampNeg) &&& (127 : Int32)).toInt64)), (.long (0 : Int64))])) (fun tG kG => XS.i2l X6.here hx rfl (hb hby own_k123) rfl kG) ?_
  refine Go.via (U' := T6.setTop (mkF m 56 #[.val (.ref a), .val (.long (0 : Int64)), .second, .val (.int (0 : Int32)), .val (.int (f u.toNatClampNeg))] [(.int (7 : Int32)), (.long (((f u.toNatClampNeg) &&& (127 : Int32)).toInt64)), (.long (0 : Int64))])) (fun tG kG => XS.bipush X6.here hx rfl (hb hby own_k124) kG) ?_
  refine Go.via (U' := T6.setTop (mkF m 57 #[.val (.ref a), .val (.long (0 : Int64)), .second, .val (.int (0 : Int32)), .val (.int (f u.toNatClampNeg))] [(.int (0 : Int32)), (.int (7 : Int32)), (.long (((f u.toNatClampNeg) &&& (127 : Int32)).toInt64)), (.long (0 : Int64))])) (fun tG kG => XS.iloadN X6.here hx rfl (hb hby own_k125) rfl kG) ?_
  refine Go.via (U' := T6.setTop (mkF m 58 #[.val (.ref a), .val (.long (0 : Int64)), .second, .val (.int (0 : Int32)), .val (.int (f u.toNatClampNeg))] [(.int (0 : Int32)), (.long (((f u.toNatClampNeg) &&& (127 : Int32)).toInt64)), (.long (0 : Int64))])) (fun tG kG => XS.imul X6.here hx rfl (hb hby own_k126) rfl kG) ?_
  refine Go.via (U' := T6.setTop (mkF m 59 #[.val (.ref a), .val (.long (0 : Int64)), .second, .val (.int (0 : Int32)), .val (.int (f u.toNatClampNeg))] [(.long ((((f u.toNatClampNeg) &&& (127 : Int32)).toInt64) <<< ((0 : Int32) &&& 0x3f).toInt64)), (.long (0 : Int64))])) (fun tG kG => XS.lshl X6.here hx rfl (hb hby own_k127) rfl kG) ?_
  refine Go.via (U' := T6.setTop (mkF m 60 #[.val (.ref a), .val (.long (0 : Int64)), .second, .val (.int (0 : Int32)), .val (.int (f u.toNatClampNeg))] [(.long ((0 : Int64) ||| ((((f u.toNatClampNeg) &&& (127 : Int32)).toInt64) <<< ((0 : Int32) &&& 0x3f).toInt64)))])) (fun tG kG => XS.lor X6.here hx rfl (hb hby own_k128) rfl kG) ?_
  refine Go.via (U' := T6.setTop (mkF m 61 #[.val (.ref a), .val (.long ((0 : Int64) ||| ((((f u.toNatClampNeg) &&& (127 : Int32)).toInt64) <<< ((0 : Int32) &&& 0x3f).toInt64))), .second, .val (.int (0 : Int32)), .val (.int (f u.toNatClampNeg))] [])) (fun tG kG => XS.lstoreN X6.here hx rfl (hb hby own_k129) rfl (l' := #[.val (.ref a), .val (.long ((0 : Int64) ||| ((((f u.toNatClampNeg) &&& (127 : Int32)).toInt64) <<< ((0 : Int32) &&& 0x3f).toInt64))), .second, .val (.int (0 : Int32)), .val (.int (f u.toNatClampNeg))]) rfl kG) ?_
  refine Go.via (U' := T6.setTop (mkF m 63 #[.val (.ref a), .val (.long ((0 : Int64) ||| ((((f u.toNatClampNeg) &&& (127 : Int32)).toInt64) <<< ((0 : Int32) &&& 0x3f).toInt64))), .second, .val (.int (0 : Int32)), .val (.int (f u.toNatClampNeg))] [(.int (f u.toNatClampNeg))])) (fun tG kG => XS.iload X6.here hx rfl (hb hby own_k130) rfl kG) ?_
  by_cases hc63 : (f u.toNatClampNeg) < (0 : Int32)
  · refine Go.via (U' := T6.setTop (mkF m 68 #[.val (.ref a), .val (.long ((0 : Int64) ||| ((((f u.toNatClampNeg) &&& (127 : Int32)).toInt64) <<< ((0 : Int32) &&& 0x3f).toInt64))), .second, .val (.int (0 : Int32)), .val (.int (f u.toNatClampNeg))] [])) (fun tG kG => XS.ifYes X6.here hx rfl (pc0 := 63) (pc' := 68) rfl (hb hby own_k131) rfl ((if0 _ _).trans (tlt hc63).1) (by decide) (by decide) kG) ?_
    refine Go.via (U' := T6.setTop (mkF m 71 #[.val (.ref a), .val (.long ((0 : Int64) ||| ((((f u.toNatClampNeg) &&& (127 : Int32)).toInt64) <<< ((0 : Int32) &&& 0x3f).toInt64))), .second, .val (.int (1 : Int32)), .val (.int (f u.toNatClampNeg))] [])) (fun tG kG => XS.iinc X6.here hx rfl (hb hby own_k132) rfl (l' := #[.val (.ref a), .val (.long ((0 : Int64) ||| ((((f u.toNatClampNeg) &&& (127 : Int32)).toInt64) <<< ((0 : Int32) &&& 0x3f).toInt64))), .second, .val (.int (1 : Int32)), .val (.int (f u.toNatClampNeg))]) rfl kG) ?_
    refine Go.via (U' := T6.setTop (mkF m 4 #[.val (.ref a), .val (.long ((0 : Int64) ||| ((((f u.toNatClampNeg) &&& (127 : Int32)).toInt64) <<< ((0 : Int32) &&& 0x3f).toInt64))), .second, .val (.int (1 : Int32)), .val (.int (f u.toNatClampNeg))] [])) (fun tG kG => XS.goto X6.here hx rfl (pc0 := 71) (pc' := 4) rfl (hb hby own_k133) (by decide) (by decide) kG) ?_
    refine Go.via (U' := T6.setTop (mkF m 5 #[.val (.ref a), .val (.long ((0 : Int64) ||| ((((f u.toNatClampNeg) &&& (127 : Int32)).toInt64) <<< ((0 : Int32) &&& 0x3f).toInt64))), .second, .val (.int (1 : Int32)), .val (.int (f u.toNatClampNeg))] [(.int (1 : Int32))])) (fun tG kG => XS.iloadN X6.here hx rfl (hb hby own_k97) rfl kG) ?_
    refine Go.via (U' := T6.setTop (mkF m 7 #[.val (.ref a), .val (.long ((0 : Int64) ||| ((((f u.toNatClampNeg) &&& (127 : Int32)).toInt64) <<< ((0 : Int32) &&& 0x3f).toInt64))), .second, .val (.int (1 : Int32)), .val (.int (f u.toNatClampNeg))] [(.int (10 : Int32)), (.int (1 : Int32))])) (fun tG kG => XS.bipush X6.here hx rfl (hb hby own_k98) kG) ?_
    have hc7_13 : (1 : Int32) < (10 : Int32) := by decide
    refine Go.via (U' := T6.setTop (mkF m 10 #[.val (.ref a), .val (.long ((0 : Int64) ||| ((((f u.toNatClampNeg) &&& (127 : Int32)).toInt64) <<< ((0 : Int32) &&& 0x3f).toInt64))), .second, .val (.int (1 : Int32)), .val (.int (f u.toNatClampNeg))] [])) (fun tG kG => XS.icmpNo X6.here hx rfl (hb hby own_k99) rfl (tlt hc7_13).2.1 kG) ?_
    refine Go.via (U' := T6.setTop (mkF m 11 #[.val (.ref a), .val (.long ((0 : Int64) ||| ((((f u.toNatClampNeg) &&& (127 : Int32)).toInt64) <<< ((0 : Int32) &&& 0x3f).toInt64))), .second, .val (.int (1 : Int32)), .val (.int (f u.toNatClampNeg))] [(.ref a)])) (fun tG kG => XS.aloadN X6.here hx rfl (hb hby own_k100) rfl rfl kG) ?_
    obtain ⟨T14, X14, e14, st14⟩ := callV0 X6 hx hZ hown (hw _ (List.mem_of_getElem? (i := 56) rfl)) (hw _ (List.mem_of_getElem? (i := 45) rfl)) (hw _ (List.mem_of_getElem? (i := 47) rfl)) (hw _ (List.mem_of_getElem? (i := 46) rfl)) (hw _ (List.mem_of_getElem? (i := 28) rfl)) (hw _ (List.mem_of_getElem? (i := 48) rfl)) (by decide) (b := a) (av := []) f7 (own_rm8 l Z a0 hw [] a (u + (1 : Int32)) z h6 f11 f10) e6 (pc := 11) (Ls := #[.val (.ref a), .val (.long ((0 : Int64) ||| ((((f u.toNatClampNeg) &&& (127 : Int32)).toInt64) <<< ((0 : Int32) &&& 0x3f).toInt64))), .second, .val (.int (1 : Int32)), .val (.int (f u.toNatClampNeg))]) (rest := []) (by rw [hml]; rfl) own_k101 rfl 0 (Nat.le_of_eq rfl) (by decide) (by decide) (by decide) (by decide) (hb hby own_k102)
    refine Go.via (U' := T14.setTop (mkF m 14 #[.val (.ref a), .val (.long ((0 : Int64) ||| ((((f u.toNatClampNeg) &&& (127 : Int32)).toInt64) <<< ((0 : Int32) &&& 0x3f).toInt64))), .second, .val (.int (1 : Int32)), .val (.int (f u.toNatClampNeg))] [(.int (own_f8 (u + (1 : Int32)) z))])) (fun tG kG => st14 tG kG) ?_
    have hc14 : (own_f8 (u + (1 : Int32)) z) = (0 : Int32) := (own_neq (hH.2.2.2 hc63).1)
    refine Go.via (U' := T14.setTop (mkF m 24 #[.val (.ref a), .val (.long ((0 : Int64) ||| ((((f u.toNatClampNeg) &&& (127 : Int32)).toInt64) <<< ((0 : Int32) &&& 0x3f).toInt64))), .second, .val (.int (1 : Int32)), .val (.int (f u.toNatClampNeg))] [])) (fun tG kG => XS.ifYes X14.here hx rfl (pc0 := 14) (pc' := 24) rfl (hb hby own_k103) rfl ((if0 _ _).trans (teq hc14).1) (by decide) (by decide) kG) ?_
    refine Go.via (U' := T14.setTop (mkF m 25 #[.val (.ref a), .val (.long ((0 : Int64) ||| ((((f u.toNatClampNeg) &&& (127 : Int32)).toInt64) <<< ((0 : Int32) &&& 0x3f).toInt64))), .second, .val (.int (1 : Int32)), .val (.int (f u.toNatClampNeg))] [(.ref a)])) (fun tG kG => XS.aloadN X14.here hx rfl (hb hby own_k104) rfl rfl kG) ?_
    refine Go.via (U' := T14.setTop (mkF m 26 #[.val (.ref a), .val (.long ((0 : Int64) ||| ((((f u.toNatClampNeg) &&& (127 : Int32)).toInt64) <<< ((0 : Int32) &&& 0x3f).toInt64))), .second, .val (.int (1 : Int32)), .val (.int (f u.toNatClampNeg))] [(.int (1 : Int32)), (.ref a)])) (fun tG kG => XS.iconst X14.here hx rfl (hb hby own_k105) kG) ?_
    obtain ⟨T15, X15, e15, st15⟩ := callP0 X14 hx hZ (y2 := (⟨"com/example/stokehold/stokehold/wire/ProtoReader", "atEnd", "()Z"⟩ : MethodName)) hown (hw _ (List.mem_of_getElem? (i := 57) rfl)) (hw _ (List.mem_of_getElem? (i := 58) rfl)) (hw _ (List.mem_of_getElem? (i := 59) rfl)) (hw _ (List.mem_of_getElem? (i := 47) rfl)) rfl (hw _ (List.mem_of_getElem? (i := 28) rfl)) (hw _ (List.mem_of_getElem? (i := 60) rfl)) (by decide) (b := a) (av := [(.int (1 : Int32))]) f7 (own_rm10 l Z a0 hw [] a (1 : Int32) z (u + (1 : Int32)) h6 f9 f11 (own_needq (own_in1 hH (hH.2.2.2 hc63).1).1 hH.2.2.1 (hH.2.2.2 hc63).1)) e14 (pc := 26) (Ls := #[.val (.ref a), .val (.long ((0 : Int64) ||| ((((f u.toNatClampNeg) &&& (127 : Int32)).toInt64) <<< ((0 : Int32) &&& 0x3f).toInt64))), .second, .val (.int (1 : Int32)), .val (.int (f u.toNatClampNeg))]) (rest := []) (by rw [hml]; rfl) own_k106 rfl 0 (Nat.le_of_eq rfl) (by decide) (by decide) (by decide) (by decide) (hb hby own_k107)
    refine Go.via (U' := T15.setTop (mkF m 29 #[.val (.ref a), .val (.long ((0 : Int64) ||| ((((f u.toNatClampNeg) &&& (127 : Int32)).toInt64) <<< ((0 : Int32) &&& 0x3f).toInt64))), .second, .val (.int (1 : Int32)), .val (.int (f u.toNatClampNeg))] [])) (fun tG kG => st15 tG kG) ?_
    refine Go.via (U' := T15.setTop (mkF m 30 #[.val (.ref a), .val (.long ((0 : Int64) ||| ((((f u.toNatClampNeg) &&& (127 : Int32)).toInt64) <<< ((0 : Int32) &&& 0x3f).toInt64))), .second, .val (.int (1 : Int32)), .val (.int (f u.toNatClampNeg))] [(.ref a)])) (fun tG kG => XS.aloadN X15.here hx rfl (hb hby own_k108) rfl rfl kG) ?_
    obtain ⟨T16, X16, e16, st16⟩ := getF X15 hx hZ hown (host := "") (Or.inl (hw _ (List.mem_of_getElem? (i := 36) rfl))) Via.refl e15 f8 (g := (mkF m 30 #[.val (.ref a), .val (.long ((0 : Int64) ||| ((((f u.toNatClampNeg) &&& (127 : Int32)).toInt64) <<< ((0 : Int32) &&& 0x3f).toInt64))), .second, .val (.int (1 : Int32)), .val (.int (f u.toNatClampNeg))] [(.ref a)])) rfl rfl (hb hby own_k109)
    refine Go.via (U' := T16.setTop (mkF m 33 #[.val (.ref a), .val (.long ((0 : Int64) ||| ((((f u.toNatClampNeg) &&& (127 : Int32)).toInt64) <<< ((0 : Int32) &&& 0x3f).toInt64))), .second, .val (.int (1 : Int32)), .val (.int (f u.toNatClampNeg))] [(.ref b)])) (fun tG kG => st16 tG kG) ?_
    refine Go.via (U' := T16.setTop (mkF m 34 #[.val (.ref a), .val (.long ((0 : Int64) ||| ((((f u.toNatClampNeg) &&& (127 : Int32)).toInt64) <<< ((0 : Int32) &&& 0x3f).toInt64))), .second, .val (.int (1 : Int32)), .val (.int (f u.toNatClampNeg))] [(.ref a), (.ref b)])) (fun tG kG => XS.aloadN X16.here hx rfl (hb hby own_k110) rfl rfl kG) ?_
    refine Go.via (U' := T16.setTop (mkF m 35 #[.val (.ref a), .val (.long ((0 : Int64) ||| ((((f u.toNatClampNeg) &&& (127 : Int32)).toInt64) <<< ((0 : Int32) &&& 0x3f).toInt64))), .second, .val (.int (1 : Int32)), .val (.int (f u.toNatClampNeg))] [(.ref a), (.ref a), (.ref b)])) (fun tG kG => XS.dup X16.here hx rfl (hb hby own_k111) rfl rfl kG) ?_
    obtain ⟨T17, X17, e17, st17⟩ := getF X16 hx hZ hown (host := "") (Or.inl (hw _ (List.mem_of_getElem? (i := 49) rfl))) Via.refl e16 f11 (g := (mkF m 35 #[.val (.ref a), .val (.long ((0 : Int64) ||| ((((f u.toNatClampNeg) &&& (127 : Int32)).toInt64) <<< ((0 : Int32) &&& 0x3f).toInt64))), .second, .val (.int (1 : Int32)), .val (.int (f u.toNatClampNeg))] [(.ref a), (.ref a), (.ref b)])) rfl rfl (hb hby own_k112)
    refine Go.via (U' := T17.setTop (mkF m 38 #[.val (.ref a), .val (.long ((0 : Int64) ||| ((((f u.toNatClampNeg) &&& (127 : Int32)).toInt64) <<< ((0 : Int32) &&& 0x3f).toInt64))), .second, .val (.int (1 : Int32)), .val (.int (f u.toNatClampNeg))] [(.int (u + (1 : Int32))), (.ref a), (.ref b)])) (fun tG kG => st17 tG kG) ?_
    refine Go.via (U' := T17.setTop (mkF m 39 #[.val (.ref a), .val (.long ((0 : Int64) ||| ((((f u.toNatClampNeg) &&& (127 : Int32)).toInt64) <<< ((0 : Int32) &&& 0x3f).toInt64))), .second, .val (.int (1 : Int32)), .val (.int (f u.toNatClampNeg))] [(.int (u + (1 : Int32))), (.ref a), (.int (u + (1 : Int32))), (.ref b)])) (fun tG kG => XS.dupX1 X17.here hx rfl (hb hby own_k113) rfl rfl rfl kG) ?_
    refine Go.via (U' := T17.setTop (mkF m 40 #[.val (.ref a), .val (.long ((0 : Int64) ||| ((((f u.toNatClampNeg) &&& (127 : Int32)).toInt64) <<< ((0 : Int32) &&& 0x3f).toInt64))), .second, .val (.int (1 : Int32)), .val (.int (f u.toNatClampNeg))] [(.int (1 : Int32)), (.int (u + (1 : Int32))), (.ref a), (.int (u + (1 : Int32))), (.ref b)])) (fun tG kG => XS.iconst X17.here hx rfl (hb hby own_k114) kG) ?_
    refine Go.via (U' := T17.setTop (mkF m 41 #[.val (.ref a), .val (.long ((0 : Int64) ||| ((((f u.toNatClampNeg) &&& (127 : Int32)).toInt64) <<< ((0 : Int32) &&& 0x3f).toInt64))), .second, .val (.int (1 : Int32)), .val (.int (f u.toNatClampNeg))] [(.int ((u + (1 : Int32)) + (1 : Int32))), (.ref a), (.int (u + (1 : Int32))), (.ref b)])) (fun tG kG => XS.iadd X17.here hx rfl (hb hby own_k115) rfl kG) ?_
    obtain ⟨T18, h18, X18, e18, W18, st18⟩ := putF X17 hx hZ hown (host := "") (Or.inl (hw _ (List.mem_of_getElem? (i := 49) rfl))) Via.refl e17 f11 f7 (Or.inl (hw _ (List.mem_of_getElem? (i := 50) rfl))) (hw _ (List.mem_of_getElem? (i := 27) rfl)) (ty := .int) (by decide) rfl rfl (g := (mkF m 41 #[.val (.ref a), .val (.long ((0 : Int64) ||| ((((f u.toNatClampNeg) &&& (127 : Int32)).toInt64) <<< ((0 : Int32) &&& 0x3f).toInt64))), .second, .val (.int (1 : Int32)), .val (.int (f u.toNatClampNeg))] [(.int ((u + (1 : Int32)) + (1 : Int32))), (.ref a), (.int (u + (1 : Int32))), (.ref b)])) rfl rfl (hb hby own_k116)
    have f19 := f7.wr W18
    have f20 := f8.other W18 (Or.inr (slot_ne (Or.inr (hw _ (List.mem_of_getElem? (i := 37) rfl))) (Or.inl (hw _ (List.mem_of_getElem? (i := 50) rfl))) (by decide) (t := (.array .byte)) (t' := .int) (by decide) (by decide)))
    have f21 := f9.other W18 (Or.inr (slot_ne (Or.inr (hw _ (List.mem_of_getElem? (i := 39) rfl))) (Or.inl (hw _ (List.mem_of_getElem? (i := 50) rfl))) (by decide) (t := .int) (t' := .int) (by decide) (by decide)))
    have f22 := f10.other W18 (Or.inr (slot_ne (Or.inr (hw _ (List.mem_of_getElem? (i := 41) rfl))) (Or.inl (hw _ (List.mem_of_getElem? (i := 50) rfl))) (by decide) (t := .int) (t' := .int) (by decide) (by decide)))
    have f23 := f11.same W18
    have f24 := f12.other W18 (Ne.symm ne_a_b)
    have K18 := K6.wr W18 (Or.inl (List.mem_of_getElem? (i := 0) rfl))
    have N18 := Fr.snoc X18 N6 g_a
    have Z18 := Nat.le_trans Z6 (Keep.of_wr W18).1
    refine Go.via (U' := T18.setTop (mkF m 44 #[.val (.ref a), .val (.long ((0 : Int64) ||| ((((f u.toNatClampNeg) &&& (127 : Int32)).toInt64) <<< ((0 : Int32) &&& 0x3f).toInt64))), .second, .val (.int (1 : Int32)), .val (.int (f u.toNatClampNeg))] [(.int (u + (1 : Int32))), (.ref b)])) (fun tG kG => st18 tG kG) ?_
    refine Go.via (U' := T18.setTop (mkF m 45 #[.val (.ref a), .val (.long ((0 : Int64) ||| ((((f u.toNatClampNeg) &&& (127 : Int32)).toInt64) <<< ((0 : Int32) &&& 0x3f).toInt64))), .second, .val (.int (1 : Int32)), .val (.int (f u.toNatClampNeg))] [(.int (f (u + (1 : Int32)).toNatClampNeg))])) (fun tG kG => own_ldB X18 hx hZ e18 f24 (j := (u + (1 : Int32))) (own_in1 hH (hH.2.2.2 hc63).1) (hb hby own_k117) tG kG) ?_
    refine Go.via (U' := T18.setTop (mkF m 47 #[.val (.ref a), .val (.long ((0 : Int64) ||| ((((f u.toNatClampNeg) &&& (127 : Int32)).toInt64) <<< ((0 : Int32) &&& 0x3f).toInt64))), .second, .val (.int (1 : Int32)), .val (.int (f (u + (1 : Int32)).toNatClampNeg))] [])) (fun tG kG => XS.istore X18.here hx rfl (hb hby own_k118) rfl (l' := #[.val (.ref a), .val (.long ((0 : Int64) ||| ((((f u.toNatClampNeg) &&& (127 : Int32)).toInt64) <<< ((0 : Int32) &&& 0x3f).toInt64))), .second, .val (.int (1 : Int32)), .val (.int (f (u + (1 : Int32)).toNatClampNeg))]) rfl kG) ?_
    refine Go.via (U' := T18.setTop (mkF m 48 #[.val (.ref a), .val (.long ((0 : Int64) ||| ((((f u.toNatClampNeg) &&& (127 : Int32)).toInt64) <<< ((0 : Int32) &&& 0x3f).toInt64))), .second, .val (.int (1 : Int32)), .val (.int (f (u + (1 : Int32)).toNatClampNeg))] [(.long ((0 : Int64) ||| ((((f u.toNatClampNeg) &&& (127 : Int32)).toInt64) <<< ((0 : Int32) &&& 0x3f).toInt64)))])) (fun tG kG => XS.lloadN X18.here hx rfl (hb hby own_k119) rfl kG) ?_
    refine Go.via (U' := T18.setTop (mkF m 50 #[.val (.ref a), .val (.long ((0 : Int64) ||| ((((f u.toNatClampNeg) &&& (127 : Int32)).toInt64) <<< ((0 : Int32) &&& 0x3f).toInt64))), .second, .val (.int (1 : Int32)), .val (.int (f (u + (1 : Int32)).toNatClampNeg))] [(.int (f (u + (1 : Int32)).toNatClampNeg)), (.long ((0 : Int64) ||| ((((f u.toNatClampNeg) &&& (127 : Int32)).toInt64) <<< ((0 : Int32) &&& 0x3f).toInt64)))])) (fun tG kG => XS.iload X18.here hx rfl (hb hby own_k120) rfl kG) ?_
    refine Go.via (U' := T18.setTop (mkF m 52 #[.val (.ref a), .val (.long ((0 : Int64) ||| ((((f u.toNatClampNeg) &&& (127 : Int32)).toInt64) <<< ((0 : Int32) &&& 0x3f).toInt64))), .second, .val (.int (1 : Int32)), .val (.int (f (u + (1 : Int32)).toNatClampNeg))] [(.int (127 : Int32)), (.int (f (u + (1 : Int32)).toNatClampNeg)), (.long ((0 : Int64) ||| ((((f u.toNatClampNeg) &&& (127 : Int32)).toInt64) <<< ((0 : Int32) &&& 0x3f).toInt64)))])) (fun tG kG => XS.bipush X18.here hx rfl (hb hby own_k121) kG) ?_
    refine Go.via (U' := T18.setTop (mkF m 53 #[.val (.ref a), .val (.long ((0 : Int64) ||| ((((f u.toNatClampNeg) &&& (127 : Int32)).toInt64) <<< ((0 : Int32) &&& 0x3f).toInt64))), .second, .val (.int (1 : Int32)), .val (.int (f (u + (1 : Int32)).toNatClampNeg))] [(.int ((f (u + (1 : Int32)).toNatClampNeg) &&& (127 : Int32))), (.long ((0 : Int64) ||| ((((f u.toNatClampNeg) &&& (127 : Int32)).toInt64) <<< ((0 : Int32) &&& 0x3f).toInt64)))])) (fun tG kG => XS.iand X18.here hx rfl (hb hby own_k122) rfl kG) ?_
    refine Go.via (U' := T18.setTop (mkF m 54 #[.val (.ref a), .val (.long ((0 : Int64) ||| ((((f u.toNatClampNeg) &&& (127 : Int32)).toInt64) <<< ((0 : Int32) &&& 0x3f).toInt64))), .second, .val (.int (1 : Int32)), .val (.int (f (u + (1 : Int32)).toNatClampNeg))] [(.long (((f (u + (1 : Int32)).toNatClampNeg) &&& (127 : Int32)).toInt64)), (.long ((0 : Int64) ||| ((((f u.toNatClampNeg) &&& (127 : Int32)).toInt64) <<< ((0 : Int32) &&& 0x3f).toInt64)))])) (fun tG kG => XS.i2l X18.here hx rfl (hb hby own_k123) rfl kG) ?_
    refine Go.via (U' := T18.setTop (mkF m 56 #[.val (.ref a), .val (.long ((0 : Int64) ||| ((((f u.toNatClampNeg) &&& (127 : Int32)).toInt64) <<< ((0 : Int32) &&& 0x3f).toInt64))), .second, .val (.int (1 : Int32)), .val (.int (f (u + (1 : Int32)).toNatClampNeg))] [(.int (7 : Int32)), (.long (((f (u + (1 : Int32)).toNatClampNeg) &&& (127 : Int32)).toInt64)), (.long ((0 : Int64) ||| ((((f u.toNatClampNeg) &&& (127 : Int32)).toInt64) <<< ((0 : Int32) &&& 0x3f).toInt64)))])) (fun tG kG => XS.bipush X18.here hx rfl (hb hby own_k124) kG) ?_
    refine Go.via (U' := T18.setTop (mkF m 57 #[.val (.ref a), .val (.long ((0 : Int64) ||| ((((f u.toNatClampNeg) &&& (127 : Int32)).toInt64) <<< ((0 : Int32) &&& 0x3f).toInt64))), .second, .val (.int (1 : Int32)), .val (.int (f (u + (1 : Int32)).toNatClampNeg))] [(.int (1 : Int32)), (.int (7 : Int32)), (.long (((f (u + (1 : Int32)).toNatClampNeg) &&& (127 : Int32)).toInt64)), (.long ((0 : Int64) ||| ((((f u.toNatClampNeg) &&& (127 : Int32)).toInt64) <<< ((0 : Int32) &&& 0x3f).toInt64)))])) (fun tG kG => XS.iloadN X18.here hx rfl (hb hby own_k125) rfl kG) ?_
    refine Go.via (U' := T18.setTop (mkF m 58 #[.val (.ref a), .val (.long ((0 : Int64) ||| ((((f u.toNatClampNeg) &&& (127 : Int32)).toInt64) <<< ((0 : Int32) &&& 0x3f).toInt64))), .second, .val (.int (1 : Int32)), .val (.int (f (u + (1 : Int32)).toNatClampNeg))] [(.int (7 : Int32)), (.long (((f (u + (1 : Int32)).toNatClampNeg) &&& (127 : Int32)).toInt64)), (.long ((0 : Int64) ||| ((((f u.toNatClampNeg) &&& (127 : Int32)).toInt64) <<< ((0 : Int32) &&& 0x3f).toInt64)))])) (fun tG kG => XS.imul X18.here hx rfl (hb hby own_k126) rfl kG) ?_
    refine Go.via (U' := T18.setTop (mkF m 59 #[.val (.ref a), .val (.long ((0 : Int64) ||| ((((f u.toNatClampNeg) &&& (127 : Int32)).toInt64) <<< ((0 : Int32) &&& 0x3f).toInt64))), .second, .val (.int (1 : Int32)), .val (.int (f (u + (1 : Int32)).toNatClampNeg))] [(.long ((((f (u + (1 : Int32)).toNatClampNeg) &&& (127 : Int32)).toInt64) <<< ((7 : Int32) &&& 0x3f).toInt64)), (.long ((0 : Int64) ||| ((((f u.toNatClampNeg) &&& (127 : Int32)).toInt64) <<< ((0 : Int32) &&& 0x3f).toInt64)))])) (fun tG kG => XS.lshl X18.here hx rfl (hb hby own_k127) rfl kG) ?_
    refine Go.via (U' := T18.setTop (mkF m 60 #[.val (.ref a), .val (.long ((0 : Int64) ||| ((((f u.toNatClampNeg) &&& (127 : Int32)).toInt64) <<< ((0 : Int32) &&& 0x3f).toInt64))), .second, .val (.int (1 : Int32)), .val (.int (f (u + (1 : Int32)).toNatClampNeg))] [(.long (((0 : Int64) ||| ((((f u.toNatClampNeg) &&& (127 : Int32)).toInt64) <<< ((0 : Int32) &&& 0x3f).toInt64)) ||| ((((f (u + (1 : Int32)).toNatClampNeg) &&& (127 : Int32)).toInt64) <<< ((7 : Int32) &&& 0x3f).toInt64)))])) (fun tG kG => XS.lor X18.here hx rfl (hb hby own_k128) rfl kG) ?_
    refine Go.via (U' := T18.setTop (mkF m 61 #[.val (.ref a), .val (.long (((0 : Int64) ||| ((((f u.toNatClampNeg) &&& (127 : Int32)).toInt64) <<< ((0 : Int32) &&& 0x3f).toInt64)) ||| ((((f (u + (1 : Int32)).toNatClampNeg) &&& (127 : Int32)).toInt64) <<< ((7 : Int32) &&& 0x3f).toInt64))), .second, .val (.int (1 : Int32)), .val (.int (f (u + (1 : Int32)).toNatClampNeg))] [])) (fun tG kG => XS.lstoreN X18.here hx rfl (hb hby own_k129) rfl (l' := #[.val (.ref a), .val (.long (((0 : Int64) ||| ((((f u.toNatClampNeg) &&& (127 : Int32)).toInt64) <<< ((0 : Int32) &&& 0x3f).toInt64)) ||| ((((f (u + (1 : Int32)).toNatClampNeg) &&& (127 : Int32)).toInt64) <<< ((7 : Int32) &&& 0x3f).toInt64))), .second, .val (.int (1 : Int32)), .val (.int (f (u + (1 : Int32)).toNatClampNeg))]) rfl kG) ?_
    refine Go.via (U' := T18.setTop (mkF m 63 #[.val (.ref a), .val (.long (((0 : Int64) ||| ((((f u.toNatClampNeg) &&& (127 : Int32)).toInt64) <<< ((0 : Int32) &&& 0x3f).toInt64)) ||| ((((f (u + (1 : Int32)).toNatClampNeg) &&& (127 : Int32)).toInt64) <<< ((7 : Int32) &&& 0x3f).toInt64))), .second, .val (.int (1 : Int32)), .val (.int (f (u + (1 : Int32)).toNatClampNeg))] [(.int (f (u + (1 : Int32)).toNatClampNeg))])) (fun tG kG => XS.iload X18.here hx rfl (hb hby own_k130) rfl kG) ?_
    by_cases hc63_25 : (f (u + (1 : Int32)).toNatClampNeg) < (0 : Int32)
    · refine Go.via (U' := T18.setTop (mkF m 68 #[.val (.ref a), .val (.long (((0 : Int64) ||| ((((f u.toNatClampNeg) &&& (127 : Int32)).toInt64) <<< ((0 : Int32) &&& 0x3f).toInt64)) ||| ((((f (u + (1 : Int32)).toNatClampNeg) &&& (127 : Int32)).toInt64) <<< ((7 : Int32) &&& 0x3f).toInt64))), .second, .val (.int (1 : Int32)), .val (.int (f (u + (1 : Int32)).toNatClampNeg))] [])) (fun tG kG => XS.ifYes X18.here hx rfl (pc0 := 63) (pc' := 68) rfl (hb hby own_k131) rfl ((if0 _ _).trans (tlt hc63_25).1) (by decide) (by decide) kG) ?_
      refine Go.via (U' := T18.setTop (mkF m 71 #[.val (.ref a), .val (.long (((0 : Int64) ||| ((((f u.toNatClampNeg) &&& (127 : Int32)).toInt64) <<< ((0 : Int32) &&& 0x3f).toInt64)) ||| ((((f (u + (1 : Int32)).toNatClampNeg) &&& (127 : Int32)).toInt64) <<< ((7 : Int32) &&& 0x3f).toInt64))), .second, .val (.int (2 : Int32)), .val (.int (f (u + (1 : Int32)).toNatClampNeg))] [])) (fun tG kG => XS.iinc X18.here hx rfl (hb hby own_k132) rfl (l' := #[.val (.ref a), .val (.long (((0 : Int64) ||| ((((f u.toNatClampNeg) &&& (127 : Int32)).toInt64) <<< ((0 : Int32) &&& 0x3f).toInt64)) ||| ((((f (u + (1 : Int32)).toNatClampNeg) &&& (127 : Int32)).toInt64) <<< ((7 : Int32) &&& 0x3f).toInt64))), .second, .val (.int (2 : Int32)), .val (.int (f (u + (1 : Int32)).toNatClampNeg))]) rfl kG) ?_
      refine Go.via (U' := T18.setTop (mkF m 4 #[.val (.ref a), .val (.long (((0 : Int64) ||| ((((f u.toNatClampNeg) &&& (127 : Int32)).toInt64) <<< ((0 : Int32) &&& 0x3f).toInt64)) ||| ((((f (u + (1 : Int32)).toNatClampNeg) &&& (127 : Int32)).toInt64) <<< ((7 : Int32) &&& 0x3f).toInt64))), .second, .val (.int (2 : Int32)), .val (.int (f (u + (1 : Int32)).toNatClampNeg))] [])) (fun tG kG => XS.goto X18.here hx rfl (pc0 := 71) (pc' := 4) rfl (hb hby own_k133) (by decide) (by decide) kG) ?_
      refine Go.via (U' := T18.setTop (mkF m 5 #[.val (.ref a), .val (.long (((0 : Int64) ||| ((((f u.toNatClampNeg) &&& (127 : Int32)).toInt64) <<< ((0 : Int32) &&& 0x3f).toInt64)) ||| ((((f (u + (1 : Int32)).toNatClampNeg) &&& (127 : Int32)).toInt64) <<< ((7 : Int32) &&& 0x3f).toInt64))), .second, .val (.int (2 : Int32)), .val (.int (f (u + (1 : Int32)).toNatClampNeg))] [(.int (2 : Int32))])) (fun tG kG => XS.iloadN X18.here hx rfl (hb hby own_k97) rfl kG) ?_
      refine Go.via (U' := T18.setTop (mkF m 7 #[.val (.ref a), .val (.long (((0 : Int64) ||| ((((f u.toNatClampNeg) &&& (127 : Int32)).toInt64) <<< ((0 : Int32) &&& 0x3f).toInt64)) ||| ((((f (u + (1 : Int32)).toNatClampNeg) &&& (127 : Int32)).toInt64) <<< ((7 : Int32) &&& 0x3f).toInt64))), .second, .val (.int (2 : Int32)), .val (.int (f (u + (1 : Int32)).toNatClampNeg))] [(.int (10 : Int32)), (.int (2 : Int32))])) (fun tG kG => XS.bipush X18.here hx rfl (hb hby own_k98) kG) ?_
      have hc7_26 : (2 : Int32) < (10 : Int32) := by decide
      refine Go.via (U' := T18.setTop (mkF m 10 #[.val (.ref a), .val (.long (((0 : Int64) ||| ((((f u.toNatClampNeg) &&& (127 : Int32)).toInt64) <<< ((0 : Int32) &&& 0x3f).toInt64)) ||| ((((f (u + (1 : Int32)).toNatClampNeg) &&& (127 : Int32)).toInt64) <<< ((7 : Int32) &&& 0x3f).toInt64))), .second, .val (.int (2 : Int32)), .val (.int (f (u + (1 : Int32)).toNatClampNeg))] [])) (fun tG kG => XS.icmpNo X18.here hx rfl (hb hby own_k99) rfl (tlt hc7_26).2.1 kG) ?_
      refine Go.via (U' := T18.setTop (mkF m 11 #[.val (.ref a), .val (.long (((0 : Int64) ||| ((((f u.toNatClampNeg) &&& (127 : Int32)).toInt64) <<< ((0 : Int32) &&& 0x3f).toInt64)) ||| ((((f (u + (1 : Int32)).toNatClampNeg) &&& (127 : Int32)).toInt64) <<< ((7 : Int32) &&& 0x3f).toInt64))), .second, .val (.int (2 : Int32)), .val (.int (f (u + (1 : Int32)).toNatClampNeg))] [(.ref a)])) (fun tG kG => XS.aloadN X18.here hx rfl (hb hby own_k100) rfl rfl kG) ?_
      obtain ⟨T27, X27, e27, st27⟩ := callV0 X18 hx hZ hown (hw _ (List.mem_of_getElem? (i := 56) rfl)) (hw _ (List.mem_of_getElem? (i := 45) rfl)) (hw _ (List.mem_of_getElem? (i := 47) rfl)) (hw _ (List.mem_of_getElem? (i := 46) rfl)) (hw _ (List.mem_of_getElem? (i := 28) rfl)) (hw _ (List.mem_of_getElem? (i := 48) rfl)) (by decide) (b := a) (av := []) f19 (own_rm8 l Z a0 hw [] a ((u + (1 : Int32)) + (1 : Int32)) z h18 f23 f22) e18 (pc := 11) (Ls := #[.val (.ref a), .val (.long (((0 : Int64) ||| ((((f u.toNatClampNeg) &&& (127 : Int32)).toInt64) <<< ((0 : Int32) &&& 0x3f).toInt64)) ||| ((((f (u + (1 : Int32)).toNatClampNeg) &&& (127 : Int32)).toInt64) <<< ((7 : Int32) &&& 0x3f).toInt64))), .second, .val (.int (2 : Int32)), .val (.int (f (u + (1 : Int32)).toNatClampNeg))]) (rest := []) (by rw [hml]; rfl) own_k101 rfl 0 (Nat.le_of_eq rfl) (by decide) (by decide) (by decide) (by decide) (hb hby own_k102)
      refine Go.via (U' := T27.setTop (mkF m 14 #[.val (.ref a), .val (.long (((0 : Int64) ||| ((((f u.toNatClampNeg) &&& (127 : Int32)).toInt64) <<< ((0 : Int32) &&& 0x3f).toInt64)) ||| ((((f (u + (1 : Int32)).toNatClampNeg) &&& (127 : Int32)).toInt64) <<< ((7 : Int32) &&& 0x3f).toInt64))), .second, .val (.int (2 : Int32)), .val (.int (f (u + (1 : Int32)).toNatClampNeg))] [(.int (own_f8 ((u + (1 : Int32)) + (1 : Int32)) z))])) (fun tG kG => st27 tG kG) ?_
      have hc14 : (own_f8 ((u + (1 : Int32)) + (1 : Int32)) z) = (0 : Int32) := (own_neq ((hH.2.2.2 hc63).2 hc63_25).1)
      refine Go.via (U' := T27.setTop (mkF m 24 #[.val (.ref a), .val (.long (((0 : Int64) ||| ((((f u.toNatClampNeg) &&& (127 : Int32)).toInt64) <<< ((0 : Int32) &&& 0x3f).toInt64)) ||| ((((f (u + (1 : Int32)).toNatClampNeg) &&& (127 : Int32)).toInt64) <<< ((7 : Int32) &&& 0x3f).toInt64))), .second, .val (.int (2 : Int32)), .val (.int (f (u + (1 : Int32)).toNatClampNeg))] [])) (fun tG kG => XS.ifYes X27.here hx rfl (pc0 := 14) (pc' := 24) rfl (hb hby own_k103) rfl ((if0 _ _).trans (teq hc14).1) (by decide) (by decide) kG) ?_
      refine Go.via (U' := T27.setTop (mkF m 25 #[.val (.ref a), .val (.long (((0 : Int64) ||| ((((f u.toNatClampNeg) &&& (127 : Int32)).toInt64) <<< ((0 : Int32) &&& 0x3f).toInt64)) ||| ((((f (u + (1 : Int32)).toNatClampNeg) &&& (127 : Int32)).toInt64) <<< ((7 : Int32) &&& 0x3f).toInt64))), .second, .val (.int (2 : Int32)), .val (.int (f (u + (1 : Int32)).toNatClampNeg))] [(.ref a)])) (fun tG kG => XS.aloadN X27.here hx rfl (hb hby own_k104) rfl rfl kG) ?_
      refine Go.via (U' := T27.setTop (mkF m 26 #[.val (.ref a), .val (.long (((0 : Int64) ||| ((((f u.toNatClampNeg) &&& (127 : Int32)).toInt64) <<< ((0 : Int32) &&& 0x3f).toInt64)) ||| ((((f (u + (1 : Int32)).toNatClampNeg) &&& (127 : Int32)).toInt64) <<< ((7 : Int32) &&& 0x3f).toInt64))), .second, .val (.int (2 : Int32)), .val (.int (f (u + (1 : Int32)).toNatClampNeg))] [(.int (1 : Int32)), (.ref a)])) (fun tG kG => XS.iconst X27.here hx rfl (hb hby own_k105) kG) ?_
      obtain ⟨T28, X28, e28, st28⟩ := callP0 X27 hx hZ (y2 := (⟨"com/example/stokehold/stokehold/wire/ProtoReader", "atEnd", "()Z"⟩ : MethodName)) hown (hw _ (List.mem_of_getElem? (i := 57) rfl)) (hw _ (List.mem_of_getElem? (i := 58) rfl)) (hw _ (List.mem_of_getElem? (i := 59) rfl)) (hw _ (List.mem_of_getElem? (i := 47) rfl)) rfl (hw _ (List.mem_of_getElem? (i := 28) rfl)) (hw _ (List.mem_of_getElem? (i := 60) rfl)) (by decide) (b := a) (av := [(.int (1 : Int32))]) f19 (own_rm10 l Z a0 hw [] a (1 : Int32) z ((u + (1 : Int32)) + (1 : Int32)) h18 f21 f23 (own_needq (own_in2 hH ((hH.2.2.2 hc63).2 hc63_25).1).1 hH.2.2.1 ((hH.2.2.2 hc63).2 hc63_25).1)) e27 (pc := 26) (Ls := #[.val (.ref a), .val (.long (((0 : Int64) ||| ((((f u.toNatClampNeg) &&& (127 : Int32)).toInt64) <<< ((0 : Int32) &&& 0x3f).toInt64)) ||| ((((f (u + (1 : Int32)).toNatClampNeg) &&& (127 : Int32)).toInt64) <<< ((7 : Int32) &&& 0x3f).toInt64))), .second, .val (.int (2 : Int32)), .val (.int (f (u + (1 : Int32)).toNatClampNeg))]) (rest := []) (by rw [hml]; rfl) own_k106 rfl 0 (Nat.le_of_eq rfl) (by decide) (by decide) (by decide) (by decide) (hb hby own_k107)
      refine Go.via (U' := T28.setTop (mkF m 29 #[.val (.ref a), .val (.long (((0 : Int64) ||| ((((f u.toNatClampNeg) &&& (127 : Int32)).toInt64) <<< ((0 : Int32) &&& 0x3f).toInt64)) ||| ((((f (u + (1 : Int32)).toNatClampNeg) &&& (127 : Int32)).toInt64) <<< ((7 : Int32) &&& 0x3f).toInt64))), .second, .val (.int (2 : Int32)), .val (.int (f (u + (1 : Int32)).toNatClampNeg))] [])) (fun tG kG => st28 tG kG) ?_
      refine Go.via (U' := T28.setTop (mkF m 30 #[.val (.ref a), .val (.long (((0 : Int64) ||| ((((f u.toNatClampNeg) &&& (127 : Int32)).toInt64) <<< ((0 : Int32) &&& 0x3f).toInt64)) ||| ((((f (u + (1 : Int32)).toNatClampNeg) &&& (127 : Int32)).toInt64) <<< ((7 : Int32) &&& 0x3f).toInt64))), .second, .val (.int (2 : Int32)), .val (.int (f (u + (1 : Int32)).toNatClampNeg))] [(.ref a)])) (fun tG kG => XS.aloadN X28.here hx rfl (hb hby own_k108) rfl rfl kG) ?_
      obtain ⟨T29, X29, e29, st29⟩ := getF X28 hx hZ hown (host := "") (Or.inl (hw _ (List.mem_of_getElem? (i := 36) rfl))) Via.refl e28 f20 (g := (mkF m 30 #[.val (.ref a), .val (.long (((0 : Int64) ||| ((((f u.toNatClampNeg) &&& (127 : Int32)).toInt64) <<< ((0 : Int32) &&& 0x3f).toInt64)) ||| ((((f (u + (1 : Int32)).toNatClampNeg) &&& (127 : Int32)).toInt64) <<< ((7 : Int32) &&& 0x3f).toInt64))), .second, .val (.int (2 : Int32)), .val (.int (f (u + (1 : Int32)).toNatClampNeg))] [(.ref a)])) rfl rfl (hb hby own_k109)
      refine Go.via (U' := T29.setTop (mkF m 33 #[.val (.ref a), .val (.long (((0 : Int64) ||| ((((f u.toNatClampNeg) &&& (127 : Int32)).toInt64) <<< ((0 : Int32) &&& 0x3f).toInt64)) ||| ((((f (u + (1 : Int32)).toNatClampNeg) &&& (127 : Int32)).toInt64) <<< ((7 : Int32) &&& 0x3f).toInt64))), .second, .val (.int (2 : Int32)), .val (.int (f (u + (1 : Int32)).toNatClampNeg))] [(.ref b)])) (fun tG kG => st29 tG kG) ?_
      refine Go.via (U' := T29.setTop (mkF m 34 #[.val (.ref a), .val (.long (((0 : Int64) ||| ((((f u.toNatClampNeg) &&& (127 : Int32)).toInt64) <<< ((0 : Int32) &&& 0x3f).toInt64)) ||| ((((f (u + (1 : Int32)).toNatClampNeg) &&& (127 : Int32)).toInt64) <<< ((7 : Int32) &&& 0x3f).toInt64))), .second, .val (.int (2 : Int32)), .val (.int (f (u + (1 : Int32)).toNatClampNeg))] [(.ref a), (.ref b)])) (fun tG kG => XS.aloadN X29.here hx rfl (hb hby own_k110) rfl rfl kG) ?_
      refine Go.via (U' := T29.setTop (mkF m 35 #[.val (.ref a), .val (.long (((0 : Int64) ||| ((((f u.toNatClampNeg) &&& (127 : Int32)).toInt64) <<< ((0 : Int32) &&& 0x3f).toInt64)) ||| ((((f (u + (1 : Int32)).toNatClampNeg) &&& (127 : Int32)).toInt64) <<< ((7 : Int32) &&& 0x3f).toInt64))), .second, .val (.int (2 : Int32)), .val (.int (f (u + (1 : Int32)).toNatClampNeg))] [(.ref a), (.ref a), (.ref b)])) (fun tG kG => XS.dup X29.here hx rfl (hb hby own_k111) rfl rfl kG) ?_
      obtain ⟨T30, X30, e30, st30⟩ := getF X29 hx hZ hown (host := "") (Or.inl (hw _ (List.mem_of_getElem? (i := 49) rfl))) Via.refl e29 f23 (g := (mkF m 35 #[.val (.ref a), .val (.long (((0 : Int64) ||| ((((f u.toNatClampNeg) &&& (127 : Int32)).toInt64) <<< ((0 : Int32) &&& 0x3f).toInt64)) ||| ((((f (u + (1 : Int32)).toNatClampNeg) &&& (127 : Int32)).toInt64) <<< ((7 : Int32) &&& 0x3f).toInt64))), .second, .val (.int (2 : Int32)), .val (.int (f (u + (1 : Int32)).toNatClampNeg))] [(.ref a), (.ref a), (.ref b)])) rfl rfl (hb hby own_k112)
      refine Go.via (U' := T30.setTop (mkF m 38 #[.val (.ref a), .val (.long (((0 : Int64) ||| ((((f u.toNatClampNeg) &&& (127 : Int32)).toInt64) <<< ((0 : Int32) &&& 0x3f).toInt64)) ||| ((((f (u + (1 : Int32)).toNatClampNeg) &&& (127 : Int32)).toInt64) <<< ((7 : Int32) &&& 0x3f).toInt64))), .second, .val (.int (2 : Int32)), .val (.int (f (u + (1 : Int32)).toNatClampNeg))] [(.int ((u + (1 : Int32)) + (1 : Int32))), (.ref a), (.ref b)])) (fun tG kG => st30 tG kG) ?_
      refine Go.via (U' := T30.setTop (mkF m 39 #[.val (.ref a), .val (.long (((0 : Int64) ||| ((((f u.toNatClampNeg) &&& (127 : Int32)).toInt64) <<< ((0 : Int32) &&& 0x3f).toInt64)) ||| ((((f (u + (1 : Int32)).toNatClampNeg) &&& (127 : Int32)).toInt64) <<< ((7 : Int32) &&& 0x3f).toInt64))), .second, .val (.int (2 : Int32)), .val (.int (f (u + (1 : Int32)).toNatClampNeg))] [(.int ((u + (1 : Int32)) + (1 : Int32))), (.ref a), (.int ((u + (1 : Int32)) + (1 : Int32))), (.ref b)])) (fun tG kG => XS.dupX1 X30.here hx rfl (hb hby own_k113) rfl rfl rfl kG) ?_
      refine Go.via (U' := T30.setTop (mkF m 40 #[.val (.ref a), .val (.long (((0 : Int64) ||| ((((f u.toNatClampNeg) &&& (127 : Int32)).toInt64) <<< ((0 : Int32) &&& 0x3f).toInt64)) ||| ((((f (u + (1 : Int32)).toNatClampNeg) &&& (127 : Int32)).toInt64) <<< ((7 : Int32) &&& 0x3f).toInt64))), .second, .val (.int (2 : Int32)), .val (.int (f (u + (1 : Int32)).toNatClampNeg))] [(.int (1 : Int32)), (.int ((u + (1 : Int32)) + (1 : Int32))), (.ref a), (.int ((u + (1 : Int32)) + (1 : Int32))), (.ref b)])) (fun tG kG => XS.iconst X30.here hx rfl (hb hby own_k114) kG) ?_
      refine Go.via (U' := T30.setTop (mkF m 41 #[.val (.ref a), .val (.long (((0 : Int64) ||| ((((f u.toNatClampNeg) &&& (127 : Int32)).toInt64) <<< ((0 : Int32) &&& 0x3f).toInt64)) ||| ((((f (u + (1 : Int32)).toNatClampNeg) &&& (127 : Int32)).toInt64) <<< ((7 : Int32) &&& 0x3f).toInt64))), .second, .val (.int (2 : Int32)), .val (.int (f (u + (1 : Int32)).toNatClampNeg))] [(.int (((u + (1 : Int32)) + (1 : Int32)) + (1 : Int32))), (.ref a), (.int ((u + (1 : Int32)) + (1 : Int32))), (.ref b)])) (fun tG kG => XS.iadd X30.here hx rfl (hb hby own_k115) rfl kG) ?_
      obtain ⟨T31, h31, X31, e31, W31, st31⟩ := putF X30 hx hZ hown (host := "") (Or.inl (hw _ (List.mem_of_getElem? (i := 49) rfl))) Via.refl e30 f23 f19 (Or.inl (hw _ (List.mem_of_getElem? (i := 50) rfl))) (hw _ (List.mem_of_getElem? (i := 27) rfl)) (ty := .int) (by decide) rfl rfl (g := (mkF m 41 #[.val (.ref a), .val (.long (((0 : Int64) ||| ((((f u.toNatClampNeg) &&& (127 : Int32)).toInt64) <<< ((0 : Int32) &&& 0x3f).toInt64)) ||| ((((f (u + (1 : Int32)).toNatClampNeg) &&& (127 : Int32)).toInt64) <<< ((7 : Int32) &&& 0x3f).toInt64))), .second, .val (.int (2 : Int32)), .val (.int (f (u + (1 : Int32)).toNatClampNeg))] [(.int (((u + (1 : Int32)) + (1 : Int32)) + (1 : Int32))), (.ref a), (.int ((u + (1 : Int32)) + (1 : Int32))), (.ref b)])) rfl rfl (hb hby own_k116)
      have f32 := f19.wr W31
      have f33 := f20.other W31 (Or.inr (slot_ne (Or.inr (hw _ (List.mem_of_getElem? (i := 37) rfl))) (Or.inl (hw _ (List.mem_of_getElem? (i := 50) rfl))) (by decide) (t := (.array .byte)) (t' := .int) (by decide) (by decide)))
      have f34 := f21.other W31 (Or.inr (slot_ne (Or.inr (hw _ (List.mem_of_getElem? (i := 39) rfl))) (Or.inl (hw _ (List.mem_of_getElem? (i := 50) rfl))) (by decide) (t := .int) (t' := .int) (by decide) (by decide)))
      have f35 := f22.other W31 (Or.inr (slot_ne (Or.inr (hw _ (List.mem_of_getElem? (i := 41) rfl))) (Or.inl (hw _ (List.mem_of_getElem? (i := 50) rfl))) (by decide) (t := .int) (t' := .int) (by decide) (by decide)))
      have f36 := f23.same W31
      have f37 := f24.other W31 (Ne.symm ne_a_b)
      have K31 := K18.wr W31 (Or.inl (List.mem_of_getElem? (i := 0) rfl))
      have N31 := Fr.snoc X31 N18 g_a
      have Z31 := Nat.le_trans Z18 (Keep.of_wr W31).1
      refine Go.via (U' := T31.setTop (mkF m 44 #[.val (.ref a), .val (.long (((0 : Int64) ||| ((((f u.toNatClampNeg) &&& (127 : Int32)).toInt64) <<< ((0 : Int32) &&& 0x3f).toInt64)) ||| ((((f (u + (1 : Int32)).toNatClampNeg) &&& (127 : Int32)).toInt64) <<< ((7 : Int32) &&& 0x3f).toInt64))), .second, .val (.int (2 : Int32)), .val (.int (f (u + (1 : Int32)).toNatClampNeg))] [(.int ((u + (1 : Int32)) + (1 : Int32))), (.ref b)])) (fun tG kG => st31 tG kG) ?_
      refine Go.via (U' := T31.setTop (mkF m 45 #[.val (.ref a), .val (.long (((0 : Int64) ||| ((((f u.toNatClampNeg) &&& (127 : Int32)).toInt64) <<< ((0 : Int32) &&& 0x3f).toInt64)) ||| ((((f (u + (1 : Int32)).toNatClampNeg) &&& (127 : Int32)).toInt64) <<< ((7 : Int32) &&& 0x3f).toInt64))), .second, .val (.int (2 : Int32)), .val (.int (f (u + (1 : Int32)).toNatClampNeg))] [(.int (f ((u + (1 : Int32)) + (1 : Int32)).toNatClampNeg))])) (fun tG kG => own_ldB X31 hx hZ e31 f37 (j := ((u + (1 : Int32)) + (1 : Int32))) (own_in2 hH ((hH.2.2.2 hc63).2 hc63_25).1) (hb hby own_k117) tG kG) ?_
      refine Go.via (U' := T31.setTop (mkF m 47 #[.val (.ref a), .val (.long (((0 : Int64) ||| ((((f u.toNatClampNeg) &&& (127 : Int32)).toInt64) <<< ((0 : Int32) &&& 0x3f).toInt64)) ||| ((((f (u + (1 : Int32)).toNatClampNeg) &&& (127 : Int32)).toInt64) <<< ((7 : Int32) &&& 0x3f).toInt64))), .second, .val (.int (2 : Int32)), .val (.int (f ((u + (1 : Int32)) + (1 : Int32)).toNatClampNeg))] [])) (fun tG kG => XS.istore X31.here hx rfl (hb hby own_k118) rfl (l' := #[.val (.ref a), .val (.long (((0 : Int64) ||| ((((f u.toNatClampNeg) &&& (127 : Int32)).toInt64) <<< ((0 : Int32) &&& 0x3f).toInt64)) ||| ((((f (u + (1 : Int32)).toNatClampNeg) &&& (127 : Int32)).toInt64) <<< ((7 : Int32) &&& 0x3f).toInt64))), .second, .val (.int (2 : Int32)), .val (.int (f ((u + (1 : Int32)) + (1 : Int32)).toNatClampNeg))]) rfl kG) ?_
      refine Go.via (U' := T31.setTop (mkF m 48 #[.val (.ref a), .val (.long (((0 : Int64) ||| ((((f u.toNatClampNeg) &&& (127 : Int32)).toInt64) <<< ((0 : Int32) &&& 0x3f).toInt64)) ||| ((((f (u + (1 : Int32)).toNatClampNeg) &&& (127 : Int32)).toInt64) <<< ((7 : Int32) &&& 0x3f).toInt64))), .second, .val (.int (2 : Int32)), .val (.int (f ((u + (1 : Int32)) + (1 : Int32)).toNatClampNeg))] [(.long (((0 : Int64) ||| ((((f u.toNatClampNeg) &&& (127 : Int32)).toInt64) <<< ((0 : Int32) &&& 0x3f).toInt64)) ||| ((((f (u + (1 : Int32)).toNatClampNeg) &&& (127 : Int32)).toInt64) <<< ((7 : Int32) &&& 0x3f).toInt64)))])) (fun tG kG => XS.lloadN X31.here hx rfl (hb hby own_k119) rfl kG) ?_
      refine Go.via (U' := T31.setTop (mkF m 50 #[.val (.ref a), .val (.long (((0 : Int64) ||| ((((f u.toNatClampNeg) &&& (127 : Int32)).toInt64) <<< ((0 : Int32) &&& 0x3f).toInt64)) ||| ((((f (u + (1 : Int32)).toNatClampNeg) &&& (127 : Int32)).toInt64) <<< ((7 : Int32) &&& 0x3f).toInt64))), .second, .val (.int (2 : Int32)), .val (.int (f ((u + (1 : Int32)) + (1 : Int32)).toNatClampNeg))] [(.int (f ((u + (1 : Int32)) + (1 : Int32)).toNatClampNeg)), (.long (((0 : Int64) ||| ((((f u.toNatClampNeg) &&& (127 : Int32)).toInt64) <<< ((0 : Int32) &&& 0x3f).toInt64)) ||| ((((f (u + (1 : Int32)).toNatClampNeg) &&& (127 : Int32)).toInt64) <<< ((7 : Int32) &&& 0x3f).toInt64)))])) (fun tG kG => XS.iload X31.here hx rfl (hb hby own_k120) rfl kG) ?_
      refine Go.via (U' := T31.setTop (mkF m 52 #[.val (.ref a), .val (.long (((0 : Int64) ||| ((((f u.toNatClampNeg) &&& (127 : Int32)).toInt64) <<< ((0 : Int32) &&& 0x3f).toInt64)) ||| ((((f (u + (1 : Int32)).toNatClampNeg) &&& (127 : Int32)).toInt64) <<< ((7 : Int32) &&& 0x3f).toInt64))), .second, .val (.int (2 : Int32)), .val (.int (f ((u + (1 : Int32)) + (1 : Int32)).toNatClampNeg))] [(.int (127 : Int32)), (.int (f ((u + (1 : Int32)) + (1 : Int32)).toNatClampNeg)), (.long (((0 : Int64) ||| ((((f u.toNatClampNeg) &&& (127 : Int32)).toInt64) <<< ((0 : Int32) &&& 0x3f).toInt64)) ||| ((((f (u + (1 : Int32)).toNatClampNeg) &&& (127 : Int32)).toInt64) <<< ((7 : Int32) &&& 0x3f).toInt64)))])) (fun tG kG => XS.bipush X31.here hx rfl (hb hby own_k121) kG) ?_
      refine Go.via (U' := T31.setTop (mkF m 53 #[.val (.ref a), .val (.long (((0 : Int64) ||| ((((f u.toNatClampNeg) &&& (127 : Int32)).toInt64) <<< ((0 : Int32) &&& 0x3f).toInt64)) ||| ((((f (u + (1 : Int32)).toNatClampNeg) &&& (127 : Int32)).toInt64) <<< ((7 : Int32) &&& 0x3f).toInt64))), .second, .val (.int (2 : Int32)), .val (.int (f ((u + (1 : Int32)) + (1 : Int32)).toNatClampNeg))] [(.int ((f ((u + (1 : Int32)) + (1 : Int32)).toNatClampNeg) &&& (127 : Int32))), (.long (((0 : Int64) ||| ((((f u.toNatClampNeg) &&& (127 : Int32)).toInt64) <<< ((0 : Int32) &&& 0x3f).toInt64)) ||| ((((f (u + (1 : Int32)).toNatClampNeg) &&& (127 : Int32)).toInt64) <<< ((7 : Int32) &&& 0x3f).toInt64)))])) (fun tG kG => XS.iand X31.here hx rfl (hb hby own_k122) rfl kG) ?_
      refine Go.via (U' := T31.setTop (mkF m 54 #[.val (.ref a), .val (.long (((0 : Int64) ||| ((((f u.toNatClampNeg) &&& (127 : Int32)).toInt64) <<< ((0 : Int32) &&& 0x3f).toInt64)) ||| ((((f (u + (1 : Int32)).toNatClampNeg) &&& (127 : Int32)).toInt64) <<< ((7 : Int32) &&& 0x3f).toInt64))), .second, .val (.int (2 : Int32)), .val (.int (f ((u + (1 : Int32)) + (1 : Int32)).toNatClampNeg))] [(.long (((f ((u + (1 : Int32)) + (1 : Int32)).toNatClampNeg) &&& (127 : Int32)).toInt64)), (.long (((0 : Int64) ||| ((((f u.toNatClampNeg) &&& (127 : Int32)).toInt64) <<< ((0 : Int32) &&& 0x3f).toInt64)) ||| ((((f (u + (1 : Int32)).toNatClampNeg) &&& (127 : Int32)).toInt64) <<< ((7 : Int32) &&& 0x3f).toInt64)))])) (fun tG kG => XS.i2l X31.here hx rfl (hb hby own_k123) rfl kG) ?_
      refine Go.via (U' := T31.setTop (mkF m 56 #[.val (.ref a), .val (.long (((0 : Int64) ||| ((((f u.toNatClampNeg) &&& (127 : Int32)).toInt64) <<< ((0 : Int32) &&& 0x3f).toInt64)) ||| ((((f (u + (1 : Int32)).toNatClampNeg) &&& (127 : Int32)).toInt64) <<< ((7 : Int32) &&& 0x3f).toInt64))), .second, .val (.int (2 : Int32)), .val (.int (f ((u + (1 : Int32)) + (1 : Int32)).toNatClampNeg))] [(.int (7 : Int32)), (.long (((f ((u + (1 : Int32)) + (1 : Int32)).toNatClampNeg) &&& (127 : Int32)).toInt64)), (.long (((0 : Int64) ||| ((((f u.toNatClampNeg) &&& (127 : Int32)).toInt64) <<< ((0 : Int32) &&& 0x3f).toInt64)) ||| ((((f (u + (1 : Int32)).toNatClampNeg) &&& (127 : Int32)).toInt64) <<< ((7 : Int32) &&& 0x3f).toInt64)))])) (fun tG kG => XS.bipush X31.here hx rfl (hb hby own_k124) kG) ?_
      refine Go.via (U' := T31.setTop (mkF m 57 #[.val (.ref a), .val (.long (((0 : Int64) ||| ((((f u.toNatClampNeg) &&& (127 : Int32)).toInt64) <<< ((0 : Int32) &&& 0x3f).toInt64)) ||| ((((f (u + (1 : Int32)).toNatClampNeg) &&& (127 : Int32)).toInt64) <<< ((7 : Int32) &&& 0x3f).toInt64))), .second, .val (.int (2 : Int32)), .val (.int (f ((u + (1 : Int32)) + (1 : Int32)).toNatClampNeg))] [(.int (2 : Int32)), (.int (7 : Int32)), (.long (((f ((u + (1 : Int32)) + (1 : Int32)).toNatClampNeg) &&& (127 : Int32)).toInt64)), (.long (((0 : Int64) ||| ((((f u.toNatClampNeg) &&& (127 : Int32)).toInt64) <<< ((0 : Int32) &&& 0x3f).toInt64)) ||| ((((f (u + (1 : Int32)).toNatClampNeg) &&& (127 : Int32)).toInt64) <<< ((7 : Int32) &&& 0x3f).toInt64)))])) (fun tG kG => XS.iloadN X31.here hx rfl (hb hby own_k125) rfl kG) ?_
      refine Go.via (U' := T31.setTop (mkF m 58 #[.val (.ref a), .val (.long (((0 : Int64) ||| ((((f u.toNatClampNeg) &&& (127 : Int32)).toInt64) <<< ((0 : Int32) &&& 0x3f).toInt64)) ||| ((((f (u + (1 : Int32)).toNatClampNeg) &&& (127 : Int32)).toInt64) <<< ((7 : Int32) &&& 0x3f).toInt64))), .second, .val (.int (2 : Int32)), .val (.int (f ((u + (1 : Int32)) + (1 : Int32)).toNatClampNeg))] [(.int (14 : Int32)), (.long (((f ((u + (1 : Int32)) + (1 : Int32)).toNatClampNeg) &&& (127 : Int32)).toInt64)), (.long (((0 : Int64) ||| ((((f u.toNatClampNeg) &&& (127 : Int32)).toInt64) <<< ((0 : Int32) &&& 0x3f).toInt64)) ||| ((((f (u + (1 : Int32)).toNatClampNeg) &&& (127 : Int32)).toInt64) <<< ((7 : Int32) &&& 0x3f).toInt64)))])) (fun tG kG => XS.imul X31.here hx rfl (hb hby own_k126) rfl kG) ?_
      refine Go.via (U' := T31.setTop (mkF m 59 #[.val (.ref a), .val (.long (((0 : Int64) ||| ((((f u.toNatClampNeg) &&& (127 : Int32)).toInt64) <<< ((0 : Int32) &&& 0x3f).toInt64)) ||| ((((f (u + (1 : Int32)).toNatClampNeg) &&& (127 : Int32)).toInt64) <<< ((7 : Int32) &&& 0x3f).toInt64))), .second, .val (.int (2 : Int32)), .val (.int (f ((u + (1 : Int32)) + (1 : Int32)).toNatClampNeg))] [(.long ((((f ((u + (1 : Int32)) + (1 : Int32)).toNatClampNeg) &&& (127 : Int32)).toInt64) <<< ((14 : Int32) &&& 0x3f).toInt64)), (.long (((0 : Int64) ||| ((((f u.toNatClampNeg) &&& (127 : Int32)).toInt64) <<< ((0 : Int32) &&& 0x3f).toInt64)) ||| ((((f (u + (1 : Int32)).toNatClampNeg) &&& (127 : Int32)).toInt64) <<< ((7 : Int32) &&& 0x3f).toInt64)))])) (fun tG kG => XS.lshl X31.here hx rfl (hb hby own_k127) rfl kG) ?_
      refine Go.via (U' := T31.setTop (mkF m 60 #[.val (.ref a), .val (.long (((0 : Int64) ||| ((((f u.toNatClampNeg) &&& (127 : Int32)).toInt64) <<< ((0 : Int32) &&& 0x3f).toInt64)) ||| ((((f (u + (1 : Int32)).toNatClampNeg) &&& (127 : Int32)).toInt64) <<< ((7 : Int32) &&& 0x3f).toInt64))), .second, .val (.int (2 : Int32)), .val (.int (f ((u + (1 : Int32)) + (1 : Int32)).toNatClampNeg))] [(.long ((((0 : Int64) ||| ((((f u.toNatClampNeg) &&& (127 : Int32)).toInt64) <<< ((0 : Int32) &&& 0x3f).toInt64)) ||| ((((f (u + (1 : Int32)).toNatClampNeg) &&& (127 : Int32)).toInt64) <<< ((7 : Int32) &&& 0x3f).toInt64)) ||| ((((f ((u + (1 : Int32)) + (1 : Int32)).toNatClampNeg) &&& (127 : Int32)).toInt64) <<< ((14 : Int32) &&& 0x3f).toInt64)))])) (fun tG kG => XS.lor X31.here hx rfl (hb hby own_k128) rfl kG) ?_
      refine Go.via (U' := T31.setTop (mkF m 61 #[.val (.ref a), .val (.long ((((0 : Int64) ||| ((((f u.toNatClampNeg) &&& (127 : Int32)).toInt64) <<< ((0 : Int32) &&& 0x3f).toInt64)) ||| ((((f (u + (1 : Int32)).toNatClampNeg) &&& (127 : Int32)).toInt64) <<< ((7 : Int32) &&& 0x3f).toInt64)) ||| ((((f ((u + (1 : Int32)) + (1 : Int32)).toNatClampNeg) &&& (127 : Int32)).toInt64) <<< ((14 : Int32) &&& 0x3f).toInt64))), .second, .val (.int (2 : Int32)), .val (.int (f ((u + (1 : Int32)) + (1 : Int32)).toNatClampNeg))] [])) (fun tG kG => XS.lstoreN X31.here hx rfl (hb hby own_k129) rfl (l' := #[.val (.ref a), .val (.long ((((0 : Int64) ||| ((((f u.toNatClampNeg) &&& (127 : Int32)).toInt64) <<< ((0 : Int32) &&& 0x3f).toInt64)) ||| ((((f (u + (1 : Int32)).toNatClampNeg) &&& (127 : Int32)).toInt64) <<< ((7 : Int32) &&& 0x3f).toInt64)) ||| ((((f ((u + (1 : Int32)) + (1 : Int32)).toNatClampNeg) &&& (127 : Int32)).toInt64) <<< ((14 : Int32) &&& 0x3f).toInt64))), .second, .val (.int (2 : Int32)), .val (.int (f ((u + (1 : Int32)) + (1 : Int32)).toNatClampNeg))]) rfl kG) ?_
      refine Go.via (U' := T31.setTop (mkF m 63 #[.val (.ref a), .val (.long ((((0 : Int64) ||| ((((f u.toNatClampNeg) &&& (127 : Int32)).toInt64) <<< ((0 : Int32) &&& 0x3f).toInt64)) ||| ((((f (u + (1 : Int32)).toNatClampNeg) &&& (127 : Int32)).toInt64) <<< ((7 : Int32) &&& 0x3f).toInt64)) ||| ((((f ((u + (1 : Int32)) + (1 : Int32)).toNatClampNeg) &&& (127 : Int32)).toInt64) <<< ((14 : Int32) &&& 0x3f).toInt64))), .second, .val (.int (2 : Int32)), .val (.int (f ((u + (1 : Int32)) + (1 : Int32)).toNatClampNeg))] [(.int (f ((u + (1 : Int32)) + (1 : Int32)).toNatClampNeg))])) (fun tG kG => XS.iload X31.here hx rfl (hb hby own_k130) rfl kG) ?_
      have hc63_38 : ¬ ((f ((u + (1 : Int32)) + (1 : Int32)).toNatClampNeg) < (0 : Int32)) := ((hH.2.2.2 hc63).2 hc63_25).2
      refine Go.via (U' := T31.setTop (mkF m 66 #[.val (.ref a), .val (.long ((((0 : Int64) ||| ((((f u.toNatClampNeg) &&& (127 : Int32)).toInt64) <<< ((0 : Int32) &&& 0x3f).toInt64)) ||| ((((f (u + (1 : Int32)).toNatClampNeg) &&& (127 : Int32)).toInt64) <<< ((7 : Int32) &&& 0x3f).toInt64)) ||| ((((f ((u + (1 : Int32)) + (1 : Int32)).toNatClampNeg) &&& (127 : Int32)).toInt64) <<< ((14 : Int32) &&& 0x3f).toInt64))), .second, .val (.int (2 : Int32)), .val (.int (f ((u + (1 : Int32)) + (1 : Int32)).toNatClampNeg))] [])) (fun tG kG => XS.ifNo X31.here hx rfl (hb hby own_k131) rfl ((if0 _ _).trans (flt hc63_38).1) kG) ?_
      refine Go.via (U' := T31.setTop (mkF m 67 #[.val (.ref a), .val (.long ((((0 : Int64) ||| ((((f u.toNatClampNeg) &&& (127 : Int32)).toInt64) <<< ((0 : Int32) &&& 0x3f).toInt64)) ||| ((((f (u + (1 : Int32)).toNatClampNeg) &&& (127 : Int32)).toInt64) <<< ((7 : Int32) &&& 0x3f).toInt64)) ||| ((((f ((u + (1 : Int32)) + (1 : Int32)).toNatClampNeg) &&& (127 : Int32)).toInt64) <<< ((14 : Int32) &&& 0x3f).toInt64))), .second, .val (.int (2 : Int32)), .val (.int (f ((u + (1 : Int32)) + (1 : Int32)).toNatClampNeg))] [(.long ((((0 : Int64) ||| ((((f u.toNatClampNeg) &&& (127 : Int32)).toInt64) <<< ((0 : Int32) &&& 0x3f).toInt64)) ||| ((((f (u + (1 : Int32)).toNatClampNeg) &&& (127 : Int32)).toInt64) <<< ((7 : Int32) &&& 0x3f).toInt64)) ||| ((((f ((u + (1 : Int32)) + (1 : Int32)).toNatClampNeg) &&& (127 : Int32)).toInt64) <<< ((14 : Int32) &&& 0x3f).toInt64)))])) (fun tG kG => XS.lloadN X31.here hx rfl (hb hby own_k134) rfl kG) ?_
      exact go_retJ X31 hx hlk hret (hb hby own_k135) e31 ⟨(congrArg (fun z => some (Value.long z)) (show ((((0 : Int64) ||| ((((f u.toNatClampNeg) &&& (127 : Int32)).toInt64) <<< ((0 : Int32) &&& 0x3f).toInt64)) ||| ((((f (u + (1 : Int32)).toNatClampNeg) &&& (127 : Int32)).toInt64) <<< ((7 : Int32) &&& 0x3f).toInt64)) ||| ((((f ((u + (1 : Int32)) + (1 : Int32)).toNatClampNeg) &&& (127 : Int32)).toInt64) <<< ((14 : Int32) &&& 0x3f).toInt64)) = (own_f9 u f) from by unfold own_f9; simp only [if_pos hc63, if_pos hc63_25])), N31, K31, f32, f33, f34, f35, (by rw [show (own_q9_a_position u f) = (((u + (1 : Int32)) + (1 : Int32)) + (1 : Int32)) from by unfold own_q9_a_position; simp only [if_pos hc63, if_pos hc63_25]]; exact f36)⟩ (by decide) (by decide)
    · refine Go.via (U' := T18.setTop (mkF m 66 #[.val (.ref a), .val (.long (((0 : Int64) ||| ((((f u.toNatClampNeg) &&& (127 : Int32)).toInt64) <<< ((0 : Int32) &&& 0x3f).toInt64)) ||| ((((f (u + (1 : Int32)).toNatClampNeg) &&& (127 : Int32)).toInt64) <<< ((7 : Int32) &&& 0x3f).toInt64))), .second, .val (.int (1 : Int32)), .val (.int (f (u + (1 : Int32)).toNatClampNeg))] [])) (fun tG kG => XS.ifNo X18.here hx rfl (hb hby own_k131) rfl ((if0 _ _).trans (flt hc63_25).1) kG) ?_
      refine Go.via (U' := T18.setTop (mkF m 67 #[.val (.ref a), .val (.long (((0 : Int64) ||| ((((f u.toNatClampNeg) &&& (127 : Int32)).toInt64) <<< ((0 : Int32) &&& 0x3f).toInt64)) ||| ((((f (u + (1 : Int32)).toNatClampNeg) &&& (127 : Int32)).toInt64) <<< ((7 : Int32) &&& 0x3f).toInt64))), .second, .val (.int (1 : Int32)), .val (.int (f (u + (1 : Int32)).toNatClampNeg))] [(.long (((0 : Int64) ||| ((((f u.toNatClampNeg) &&& (127 : Int32)).toInt64) <<< ((0 : Int32) &&& 0x3f).toInt64)) ||| ((((f (u + (1 : Int32)).toNatClampNeg) &&& (127 : Int32)).toInt64) <<< ((7 : Int32) &&& 0x3f).toInt64)))])) (fun tG kG => XS.lloadN X18.here hx rfl (hb hby own_k134) rfl kG) ?_
      exact go_retJ X18 hx hlk hret (hb hby own_k135) e18 ⟨(congrArg (fun z => some (Value.long z)) (show (((0 : Int64) ||| ((((f u.toNatClampNeg) &&& (127 : Int32)).toInt64) <<< ((0 : Int32) &&& 0x3f).toInt64)) ||| ((((f (u + (1 : Int32)).toNatClampNeg) &&& (127 : Int32)).toInt64) <<< ((7 : Int32) &&& 0x3f).toInt64)) = (own_f9 u f) from by unfold own_f9; simp only [if_pos hc63, if_neg hc63_25])), N18, K18, f19, f20, f21, f22, (by rw [show (own_q9_a_position u f) = ((u + (1 : Int32)) + (1 : Int32)) from by unfold own_q9_a_position; simp only [if_pos hc63, if_neg hc63_25]]; exact f23)⟩ (by decide) (by decide)
  · refine Go.via (U' := T6.setTop (mkF m 66 #[.val (.ref a), .val (.long ((0 : Int64) ||| ((((f u.toNatClampNeg) &&& (127 : Int32)).toInt64) <<< ((0 : Int32) &&& 0x3f).toInt64))), .second, .val (.int (0 : Int32)), .val (.int (f u.toNatClampNeg))] [])) (fun tG kG => XS.ifNo X6.here hx rfl (hb hby own_k131) rfl ((if0 _ _).trans (flt hc63).1) kG) ?_
    refine Go.via (U' := T6.setTop (mkF m 67 #[.val (.ref a), .val (.long ((0 : Int64) ||| ((((f u.toNatClampNeg) &&& (127 : Int32)).toInt64) <<< ((0 : Int32) &&& 0x3f).toInt64))), .second, .val (.int (0 : Int32)), .val (.int (f u.toNatClampNeg))] [(.long ((0 : Int64) ||| ((((f u.toNatClampNeg) &&& (127 : Int32)).toInt64) <<< ((0 : Int32) &&& 0x3f).toInt64)))])) (fun tG kG => XS.lloadN X6.here hx rfl (hb hby own_k134) rfl kG) ?_
    exact go_retJ X6 hx hlk hret (hb hby own_k135) e6 ⟨(congrArg (fun z => some (Value.long z)) (show ((0 : Int64) ||| ((((f u.toNatClampNeg) &&& (127 : Int32)).toInt64) <<< ((0 : Int32) &&& 0x3f).toInt64)) = (own_f9 u f) from by unfold own_f9; simp only [if_neg hc63])), N6, K6, f7, f8, f9, f10, (by rw [show (own_q9_a_position u f) = (u + (1 : Int32)) from by unfold own_q9_a_position; simp only [if_neg hc63]]; exact f11)⟩ (by decide) (by decide)
theorem own_k136 (m : MethodId) (b : Addr) (x0 : Int32) : entryFrame m #[(.ref b), (.int x0)] 3 = mkF m 0 #[.val (.ref b), .val (.int x0), .unset] [] := by first | (simp [entryFrame, mkF, argsToLocals, Value.category]; done) | rfl
theorem own_k137 : decode method_2_code 0 = .ok (.aload_n 0, 1) := by decide +kernel
theorem own_k138 : decode method_2_code 1 = .ok (.arraylength, 1) := by decide +kernel
theorem own_k139 : decode method_2_code 2 = .ok (.istore_n 2, 1) := by decide +kernel
theorem own_k140 : decode method_2_code 3 = .ok (.aload_n 0, 1) := by decide +kernel
theorem own_k141 : decode method_2_code 4 = .ok (.iload_n 1, 1) := by decide +kernel
theorem own_k142 : decode method_2_code 5 = .ok (.baload, 1) := by decide +kernel
theorem own_k143 : decode method_2_code 6 = .ok (.ifCond .lt 7, 3) := by decide +kernel
theorem own_k144 : decode method_2_code 13 = .ok (.iload_n 1, 1) := by decide +kernel
theorem own_k145 : decode method_2_code 14 = .ok (.iconst 1, 1) := by decide +kernel
theorem own_k146 : decode method_2_code 15 = .ok (.iadd, 1) := by decide +kernel
theorem own_k147 : decode method_2_code 16 = .ok (.iload_n 2, 1) := by decide +kernel
theorem own_k148 : decode method_2_code 17 = .ok (.if_icmp .ge 15, 3) := by decide +kernel
theorem own_k149 : decode method_2_code 20 = .ok (.aload_n 0, 1) := by decide +kernel
theorem own_k150 : decode method_2_code 21 = .ok (.iload_n 1, 1) := by decide +kernel
theorem own_k151 : decode method_2_code 22 = .ok (.iconst 1, 1) := by decide +kernel
theorem own_k152 : decode method_2_code 23 = .ok (.iadd, 1) := by decide +kernel
theorem own_k153 : decode method_2_code 24 = .ok (.baload, 1) := by decide +kernel
theorem own_k154 : decode method_2_code 25 = .ok (.ifCond .lt 7, 3) := by decide +kernel
theorem own_k155 : decode method_2_code 32 = .ok (.iload_n 1, 1) := by decide +kernel
theorem own_k156 : decode method_2_code 33 = .ok (.iconst 3, 1) := by decide +kernel
theorem own_k157 : decode method_2_code 34 = .ok (.iadd, 1) := by decide +kernel
theorem own_k158 : decode method_2_code 35 = .ok (.ireturn, 1) := by decide +kernel
theorem own_k159 : decode method_2_code 28 = .ok (.iload_n 1, 1) := by decide +kernel
theorem own_k160 : decode method_2_code 29 = .ok (.iconst 2, 1) := by decide +kernel
theorem own_k161 : decode method_2_code 30 = .ok (.iadd, 1) := by decide +kernel
theorem own_k162 : decode method_2_code 31 = .ok (.ireturn, 1) := by decide +kernel
theorem own_k163 : decode method_2_code 9 = .ok (.iload_n 1, 1) := by decide +kernel
theorem own_k164 : decode method_2_code 10 = .ok (.iconst 1, 1) := by decide +kernel
theorem own_k165 : decode method_2_code 11 = .ok (.iadd, 1) := by decide +kernel
theorem own_k166 : decode method_2_code 12 = .ok (.ireturn, 1) := by decide +kernel
theorem own_k167 : plainName "com/example/stokehold/stokehold/wire/ProtoReaderAtEndPinLaw" = true := by first | (simp [plainName, overriddenIn]; done) | decide +kernel
def own_f11 (x0 : Int32) (z : Int32) (f : Nat → Int32) : Int32 := (if (f x0.toNatClampNeg) < (0 : Int32) then (if (x0 + (1 : Int32)) < z then (if (f (x0 + (1 : Int32)).toNatClampNeg) < (0 : Int32) then (x0 + (3 : Int32)) else (x0 + (2 : Int32))) else (x0 + (3 : Int32))) else (x0 + (1 : Int32)))
set_option maxRecDepth 65536 in
set_option maxHeartbeats 40000000 in
theorem own_rm11 (l : Launch) (Z : State) (a0 : Array Value) (hw : ∀ d ∈ tables_1, d.before a0 Z = true) (ws : List Jvm.Cond) (b : Addr) (x0 : Int32) (k_b : ClassId) (z : Int32) (f : Nat → Int32) (h0 : Heap) (V_b : Arf Z h0 b k_b .byte z f) (hH : own_H f x0 z) : Meets l Z (⟨"com/example/stokehold/stokehold/wire/ProtoReaderAtEndPinLaw", "next", "([BI)I"⟩ : MethodName) method_2_code 3 (some .int) ws ({ frames := 0, cells := 0, slots := 0, locals := 0 } : Room) #[(.ref b), (.int x0)] h0 (PureR (some (.int (own_f11 x0 z f))) h0) := by
  refine meets_of (plainFor_of_name own_k167) ?_
  intro p e s m below meth c s₁ X0 hx hZ hby hml hret hlk hown hnm e0
  replace hml : c.maxLocals = 3 := hml
  replace hown : s.vm.findClass "com/example/stokehold/stokehold/wire/ProtoReaderAtEndPinLaw" = some m.cls := hown
  refine Go.cast (own_k136 m b x0) ?_
  refine Go.via (U' := s₁.setTop (mkF m 1 #[.val (.ref b), .val (.int x0), .unset] [(.ref b)])) (fun tG kG => XS.aloadN X0.here hx rfl (hb hby own_k137) rfl rfl kG) ?_
  refine Go.via (U' := s₁.setTop (mkF m 2 #[.val (.ref b), .val (.int x0), .unset] [(.int z)])) (fun tG kG => own_len X0 hx hZ e0 V_b (hb hby own_k138) tG kG) ?_
  refine Go.via (U' := s₁.setTop (mkF m 3 #[.val (.ref b), .val (.int x0), .val (.int z)] [])) (fun tG kG => XS.istoreN X0.here hx rfl (hb hby own_k139) rfl (l' := #[.val (.ref b), .val (.int x0), .val (.int z)]) rfl kG) ?_
  refine Go.via (U' := s₁.setTop (mkF m 4 #[.val (.ref b), .val (.int x0), .val (.int z)] [(.ref b)])) (fun tG kG => XS.aloadN X0.here hx rfl (hb hby own_k140) rfl rfl kG) ?_
  refine Go.via (U' := s₁.setTop (mkF m 5 #[.val (.ref b), .val (.int x0), .val (.int z)] [(.int x0), (.ref b)])) (fun tG kG => XS.iloadN X0.here hx rfl (hb hby own_k141) rfl kG) ?_
  refine Go.via (U' := s₁.setTop (mkF m 6 #[.val (.ref b), .val (.int x0), .val (.int z)] [(.int (f x0.toNatClampNeg))])) (fun tG kG => own_ldB X0 hx hZ e0 V_b (j := x0) ⟨hH.1, hH.2.1⟩ (hb hby own_k142) tG kG) ?_
  by_cases hc6 : (f x0.toNatClampNeg) < (0 : Int32)
  · refine Go.via (U' := s₁.setTop (mkF m 13 #[.val (.ref b), .val (.int x0), .val (.int z)] [])) (fun tG kG => XS.ifYes X0.here hx rfl (pc0 := 6) (pc' := 13) rfl (hb hby own_k143) rfl ((if0 _ _).trans (tlt hc6).1) (by decide) (by decide) kG) ?_
    refine Go.via (U' := s₁.setTop (mkF m 14 #[.val (.ref b), .val (.int x0), .val (.int z)] [(.int x0)])) (fun tG kG => XS.iloadN X0.here hx rfl (hb hby own_k144) rfl kG) ?_
    refine Go.via (U' := s₁.setTop (mkF m 15 #[.val (.ref b), .val (.int x0), .val (.int z)] [(.int (1 : Int32)), (.int x0)])) (fun tG kG => XS.iconst X0.here hx rfl (hb hby own_k145) kG) ?_
    refine Go.via (U' := s₁.setTop (mkF m 16 #[.val (.ref b), .val (.int x0), .val (.int z)] [(.int (x0 + (1 : Int32)))])) (fun tG kG => XS.iadd X0.here hx rfl (hb hby own_k146) rfl kG) ?_
    refine Go.via (U' := s₁.setTop (mkF m 17 #[.val (.ref b), .val (.int x0), .val (.int z)] [(.int z), (.int (x0 + (1 : Int32)))])) (fun tG kG => XS.iloadN X0.here hx rfl (hb hby own_k147) rfl kG) ?_
    by_cases hc17 : (x0 + (1 : Int32)) < z
    · refine Go.via (U' := s₁.setTop (mkF m 20 #[.val (.ref b), .val (.int x0), .val (.int z)] [])) (fun tG kG => XS.icmpNo X0.here hx rfl (hb hby own_k148) rfl (tlt hc17).2.1 kG) ?_
      refine Go.via (U' := s₁.setTop (mkF m 21 #[.val (.ref b), .val (.int x0), .val (.int z)] [(.ref b)])) (fun tG kG => XS.aloadN X0.here hx rfl (hb hby own_k149) rfl rfl kG) ?_
      refine Go.via (U' := s₁.setTop (mkF m 22 #[.val (.ref b), .val (.int x0), .val (.int z)] [(.int x0), (.ref b)])) (fun tG kG => XS.iloadN X0.here hx rfl (hb hby own_k150) rfl kG) ?_
      refine Go.via (U' := s₁.setTop (mkF m 23 #[.val (.ref b), .val (.int x0), .val (.int z)] [(.int (1 : Int32)), (.int x0), (.ref b)])) (fun tG kG => XS.iconst X0.here hx rfl (hb hby own_k151) kG) ?_
      refine Go.via (U' := s₁.setTop (mkF m 24 #[.val (.ref b), .val (.int x0), .val (.int z)] [(.int (x0 + (1 : Int32))), (.ref b)])) (fun tG kG => XS.iadd X0.here hx rfl (hb hby own_k152) rfl kG) ?_
      refine Go.via (U' := s₁.setTop (mkF m 25 #[.val (.ref b), .val (.int x0), .val (.int z)] [(.int (f (x0 + (1 : Int32)).toNatClampNeg))])) (fun tG kG => own_ldB X0 hx hZ e0 V_b (j := (x0 + (1 : Int32))) (own_in1 hH hc17) (hb hby own_k153) tG kG) ?_
      by_cases hc25 : (f (x0 + (1 : Int32)).toNatClampNeg) < (0 : Int32)
      · refine Go.via (U' := s₁.setTop (mkF m 32 #[.val (.ref b), .val (.int x0), .val (.int z)] [])) (fun tG kG => XS.ifYes X0.here hx rfl (pc0 := 25) (pc' := 32) rfl (hb hby own_k154) rfl ((if0 _ _).trans (tlt hc25).1) (by decide) (by decide) kG) ?_
        refine Go.via (U' := s₁.setTop (mkF m 33 #[.val (.ref b), .val (.int x0), .val (.int z)] [(.int x0)])) (fun tG kG => XS.iloadN X0.here hx rfl (hb hby own_k155) rfl kG) ?_
        refine Go.via (U' := s₁.setTop (mkF m 34 #[.val (.ref b), .val (.int x0), .val (.int z)] [(.int (3 : Int32)), (.int x0)])) (fun tG kG => XS.iconst X0.here hx rfl (hb hby own_k156) kG) ?_
        refine Go.via (U' := s₁.setTop (mkF m 35 #[.val (.ref b), .val (.int x0), .val (.int z)] [(.int (x0 + (3 : Int32)))])) (fun tG kG => XS.iadd X0.here hx rfl (hb hby own_k157) rfl kG) ?_
        exact go_retI X0 hx hlk hret (hb hby own_k158) e0 ⟨(congrArg (fun z => some (Value.int z)) (show (x0 + (3 : Int32)) = (own_f11 x0 z f) from by unfold own_f11; simp only [if_pos hc6, if_pos hc17, if_pos hc25])), rfl, rfl⟩ (by decide) (by decide)
      · refine Go.via (U' := s₁.setTop (mkF m 28 #[.val (.ref b), .val (.int x0), .val (.int z)] [])) (fun tG kG => XS.ifNo X0.here hx rfl (hb hby own_k154) rfl ((if0 _ _).trans (flt hc25).1) kG) ?_
        refine Go.via (U' := s₁.setTop (mkF m 29 #[.val (.ref b), .val (.int x0), .val (.int z)] [(.int x0)])) (fun tG kG => XS.iloadN X0.here hx rfl (hb hby own_k159) rfl kG) ?_
        refine Go.via (U' := s₁.setTop (mkF m 30 #[.val (.ref b), .val (.int x0), .val (.int z)] [(.int (2 : Int32)), (.int x0)])) (fun tG kG => XS.iconst X0.here hx rfl (hb hby own_k160) kG) ?_
        refine Go.via (U' := s₁.setTop (mkF m 31 #[.val (.ref b), .val (.int x0), .val (.int z)] [(.int (x0 + (2 : Int32)))])) (fun tG kG => XS.iadd X0.here hx rfl (hb hby own_k161) rfl kG) ?_
        exact go_retI X0 hx hlk hret (hb hby own_k162) e0 ⟨(congrArg (fun z => some (Value.int z)) (show (x0 + (2 : Int32)) = (own_f11 x0 z f) from by unfold own_f11; simp only [if_pos hc6, if_pos hc17, if_neg hc25])), rfl, rfl⟩ (by decide) (by decide)
    · refine Go.via (U' := s₁.setTop (mkF m 32 #[.val (.ref b), .val (.int x0), .val (.int z)] [])) (fun tG kG => XS.icmpYes X0.here hx rfl (pc0 := 17) (pc' := 32) rfl (hb hby own_k148) rfl (flt hc17).2.1 (by decide) (by decide) kG) ?_
      refine Go.via (U' := s₁.setTop (mkF m 33 #[.val (.ref b), .val (.int x0), .val (.int z)] [(.int x0)])) (fun tG kG => XS.iloadN X0.here hx rfl (hb hby own_k155) rfl kG) ?_
      refine Go.via (U' := s₁.setTop (mkF m 34 #[.val (.ref b), .val (.int x0), .val (.int z)] [(.int (3 : Int32)), (.int x0)])) (fun tG kG => XS.iconst X0.here hx rfl (hb hby own_k156) kG) ?_
      refine Go.via (U' := s₁.setTop (mkF m 35 #[.val (.ref b), .val (.int x0), .val (.int z)] [(.int (x0 + (3 : Int32)))])) (fun tG kG => XS.iadd X0.here hx rfl (hb hby own_k157) rfl kG) ?_
      exact go_retI X0 hx hlk hret (hb hby own_k158) e0 ⟨(congrArg (fun z => some (Value.int z)) (show (x0 + (3 : Int32)) = (own_f11 x0 z f) from by unfold own_f11; simp only [if_pos hc6, if_neg hc17])), rfl, rfl⟩ (by decide) (by decide)
  · refine Go.via (U' := s₁.setTop (mkF m 9 #[.val (.ref b), .val (.int x0), .val (.int z)] [])) (fun tG kG => XS.ifNo X0.here hx rfl (hb hby own_k143) rfl ((if0 _ _).trans (flt hc6).1) kG) ?_
    refine Go.via (U' := s₁.setTop (mkF m 10 #[.val (.ref b), .val (.int x0), .val (.int z)] [(.int x0)])) (fun tG kG => XS.iloadN X0.here hx rfl (hb hby own_k163) rfl kG) ?_
    refine Go.via (U' := s₁.setTop (mkF m 11 #[.val (.ref b), .val (.int x0), .val (.int z)] [(.int (1 : Int32)), (.int x0)])) (fun tG kG => XS.iconst X0.here hx rfl (hb hby own_k164) kG) ?_
    refine Go.via (U' := s₁.setTop (mkF m 12 #[.val (.ref b), .val (.int x0), .val (.int z)] [(.int (x0 + (1 : Int32)))])) (fun tG kG => XS.iadd X0.here hx rfl (hb hby own_k165) rfl kG) ?_
    exact go_retI X0 hx hlk hret (hb hby own_k166) e0 ⟨(congrArg (fun z => some (Value.int z)) (show (x0 + (1 : Int32)) = (own_f11 x0 z f) from by unfold own_f11; simp only [if_neg hc6])), rfl, rfl⟩ (by decide) (by decide)
theorem own_nr (x : Int32) : 0 ≤ (x &&& (3 : Int32)).toInt ∧ (x &&& (3 : Int32)).toInt ≤ 3 := by
  have m := c_mask x 3 2 (by decide) (by decide)
  omega
theorem own_n (x : Int32) : ¬ (x &&& (3 : Int32)) < 0 ∧ (x &&& (3 : Int32)).toNatClampNeg ≤ 3 := by
  have r := own_nr x
  have hz : (x &&& (3 : Int32)).toNatClampNeg = (x &&& (3 : Int32)).toInt.toNat := rfl
  rw [Int32.lt_iff_toInt_lt, show (0 : Int32).toInt = 0 from rfl]
  omega
theorem own_nm1 (x : Int32) (h : (0 : Int32) < (x &&& (3 : Int32))) : ¬ ((x &&& (3 : Int32)) - (1 : Int32)) < 0 ∧ ((x &&& (3 : Int32)) - (1 : Int32)) < (x &&& (3 : Int32)) := by
  have r := own_nr x
  have s := c_isub (x &&& (3 : Int32)) 1
  have g := rng32 ((x &&& (3 : Int32)) - 1)
  have e : (1 : Int32).toInt = 1 := rfl
  rw [Int32.lt_iff_toInt_lt, show (0 : Int32).toInt = 0 from rfl] at h
  rw [Int32.lt_iff_toInt_lt, Int32.lt_iff_toInt_lt, show (0 : Int32).toInt = 0 from rfl]
  omega
theorem own_ce (x : Int32) : ¬ own_f2 ((x &&& (255 : Int32)).toUInt32.toUInt16.toUInt32.toInt32) = 0 := by
  have m := c_mask x 255 8 (by decide) (by decide)
  have c := c_i2c (x &&& 255)
  unfold own_f2
  rw [if_neg (by rw [Int32.lt_iff_toInt_lt, show (255 : Int32).toInt = 255 from rfl]; omega)]
  decide
theorem own_pq {f : Nat → Int32} {u z : Int32} (H : own_H f u z) : own_q9_a_position u f = own_f11 u z f := by
  have e2 : (u + (1 : Int32)) + (1 : Int32) = u + (2 : Int32) := by rw [Int32.add_assoc]; rfl
  have e3 : ((u + (1 : Int32)) + (1 : Int32)) + (1 : Int32) = u + (3 : Int32) := by rw [e2, Int32.add_assoc]; rfl
  unfold own_q9_a_position own_f11
  by_cases a : f u.toNatClampNeg < 0
  · have h := H.2.2.2 a
    rw [if_pos a, if_pos a, if_pos h.1, e3, e2]
  · rw [if_neg a, if_neg a]
theorem own_k168 (m : MethodId) (x0 : Int32) (x1 : Int32) (x2 : Int32) (x3 : Int32) (x4 : Int32) : entryFrame m #[(.int x0), (.int x1), (.int x2), (.int x3), (.int x4)] maxLocals = mkF m 0 #[.val (.int x0), .val (.int x1), .val (.int x2), .val (.int x3), .val (.int x4), .unset, .unset, .unset, .unset, .unset, .unset] [] := by first | (simp [entryFrame, mkF, argsToLocals, Value.category, maxLocals]; done) | rfl
def own_h0_13_Ab1 (x0 : Int32) (x1 : Int32) : Nat → Int32 := (if (0 : Int32) < (x0 &&& (3 : Int32)) then (own_upd (fun _ => (0 : Int32)) 0 (nar .byte (x1.toInt8.toInt32))) else (fun _ => (0 : Int32)))
def own_h0_25_Ab1 (x0 : Int32) (x1 : Int32) (x2 : Int32) : Nat → Int32 := (if (1 : Int32) < (x0 &&& (3 : Int32)) then (own_upd (own_h0_13_Ab1 x0 x1) 1 (nar .byte (x2.toInt8.toInt32))) else (own_h0_13_Ab1 x0 x1))
def own_h0_37_Ab1 (x0 : Int32) (x1 : Int32) (x2 : Int32) (x3 : Int32) : Nat → Int32 := (if (2 : Int32) < (x0 &&& (3 : Int32)) then (own_upd (own_h0_25_Ab1 x0 x1 x2) 2 (nar .byte (x3.toInt8.toInt32))) else (own_h0_25_Ab1 x0 x1 x2))
def own_w0_3 (x0 : Int32) (x1 : Int32) (x2 : Int32) (x3 : Int32) : Nat → Int32 := (own_upd (own_h0_37_Ab1 x0 x1 x2 x3) ((x0 &&& (3 : Int32)) - (1 : Int32)).toNatClampNeg (nar .byte ((((own_h0_37_Ab1 x0 x1 x2 x3) ((x0 &&& (3 : Int32)) - (1 : Int32)).toNatClampNeg) &&& (127 : Int32)).toInt8.toInt32)))
def own_h0_48_Ab1 (x0 : Int32) (x1 : Int32) (x2 : Int32) (x3 : Int32) : Nat → Int32 := (if (0 : Int32) < (x0 &&& (3 : Int32)) then (own_w0_3 x0 x1 x2 x3) else (own_h0_37_Ab1 x0 x1 x2 x3))
theorem own_k169 : parseMethodDescriptor "(C)Ljava/lang/String;" = some ⟨[.char], some (.object "java/lang/String")⟩ := by decide +kernel
theorem own_k170 : parseMethodDescriptor "([BLjava/lang/String;)V" = some ⟨[(.array .byte), (.object "java/lang/String")], none⟩ := by decide +kernel
def own_j0_101_s0 (x0 : Int32) : Int32 := (if (x0 &&& (3 : Int32)) = (0 : Int32) then (1 : Int32) else (0 : Int32))
def own_j0_109_s0 (x0 : Int32) : Int32 := (if (own_f8 (0 : Int32) (x0 &&& (3 : Int32))) = (own_j0_101_s0 x0) then (1 : Int32) else (0 : Int32))
theorem own_k171 : parseMethodDescriptor "()J" = some ⟨[], some .long⟩ := by decide +kernel
theorem own_k172 : parseMethodDescriptor "([BI)I" = some ⟨[(.array .byte), .int], some .int⟩ := by decide +kernel
def own_j0_158_s0 (x0 : Int32) (x1 : Int32) (x2 : Int32) (x3 : Int32) : Int32 := (if (own_f11 (0 : Int32) (x0 &&& (3 : Int32)) (own_h0_48_Ab1 x0 x1 x2 x3)) = (x0 &&& (3 : Int32)) then (1 : Int32) else (0 : Int32))
def own_h0_146_s0 (x0 : Int32) (x1 : Int32) (x2 : Int32) (x3 : Int32) : Int32 := (if (own_j0_109_s0 x0) = (0 : Int32) then (0 : Int32) else (if (own_f8 (own_f11 (0 : Int32) (x0 &&& (3 : Int32)) (own_h0_48_Ab1 x0 x1 x2 x3)) (x0 &&& (3 : Int32))) = (own_j0_158_s0 x0 x1 x2 x3) then (1 : Int32) else (0 : Int32)))
def own_h0_126_l9 (x0 : Int32) (x1 : Int32) (x2 : Int32) (x3 : Int32) : Int32 := (if (0 : Int32) < (x0 &&& (3 : Int32)) then (own_h0_146_s0 x0 x1 x2 x3) else (own_j0_109_s0 x0))
def own_h0_126_l10 (x0 : Int32) (x1 : Int32) (x2 : Int32) (x3 : Int32) : Int32 := (if (0 : Int32) < (x0 &&& (3 : Int32)) then (own_f11 (0 : Int32) (x0 &&& (3 : Int32)) (own_h0_48_Ab1 x0 x1 x2 x3)) else (0 : Int32))
def own_j0_212_s0 (x0 : Int32) (x1 : Int32) (x2 : Int32) (x3 : Int32) : Int32 := (if (own_f11 (own_h0_126_l10 x0 x1 x2 x3) (x0 &&& (3 : Int32)) (own_h0_48_Ab1 x0 x1 x2 x3)) = (x0 &&& (3 : Int32)) then (1 : Int32) else (0 : Int32))
def own_h0_200_s0 (x0 : Int32) (x1 : Int32) (x2 : Int32) (x3 : Int32) : Int32 := (if (own_h0_126_l9 x0 x1 x2 x3) = (0 : Int32) then (0 : Int32) else (if (own_f8 (own_f11 (own_h0_126_l10 x0 x1 x2 x3) (x0 &&& (3 : Int32)) (own_h0_48_Ab1 x0 x1 x2 x3)) (x0 &&& (3 : Int32))) = (own_j0_212_s0 x0 x1 x2 x3) then (1 : Int32) else (0 : Int32)))
def own_h0_180_l9 (x0 : Int32) (x1 : Int32) (x2 : Int32) (x3 : Int32) : Int32 := (if (own_h0_126_l10 x0 x1 x2 x3) < (x0 &&& (3 : Int32)) then (own_h0_200_s0 x0 x1 x2 x3) else (own_h0_126_l9 x0 x1 x2 x3))
def own_h0_180_l10 (x0 : Int32) (x1 : Int32) (x2 : Int32) (x3 : Int32) : Int32 := (if (own_h0_126_l10 x0 x1 x2 x3) < (x0 &&& (3 : Int32)) then (own_f11 (own_h0_126_l10 x0 x1 x2 x3) (x0 &&& (3 : Int32)) (own_h0_48_Ab1 x0 x1 x2 x3)) else (own_h0_126_l10 x0 x1 x2 x3))
def own_j0_266_s0 (x0 : Int32) (x1 : Int32) (x2 : Int32) (x3 : Int32) : Int32 := (if (own_f11 (own_h0_180_l10 x0 x1 x2 x3) (x0 &&& (3 : Int32)) (own_h0_48_Ab1 x0 x1 x2 x3)) = (x0 &&& (3 : Int32)) then (1 : Int32) else (0 : Int32))
def own_h0_254_s0 (x0 : Int32) (x1 : Int32) (x2 : Int32) (x3 : Int32) : Int32 := (if (own_h0_180_l9 x0 x1 x2 x3) = (0 : Int32) then (0 : Int32) else (if (own_f8 (own_f11 (own_h0_180_l10 x0 x1 x2 x3) (x0 &&& (3 : Int32)) (own_h0_48_Ab1 x0 x1 x2 x3)) (x0 &&& (3 : Int32))) = (own_j0_266_s0 x0 x1 x2 x3) then (1 : Int32) else (0 : Int32)))
def own_h0_234_l9 (x0 : Int32) (x1 : Int32) (x2 : Int32) (x3 : Int32) : Int32 := (if (own_h0_180_l10 x0 x1 x2 x3) < (x0 &&& (3 : Int32)) then (own_h0_254_s0 x0 x1 x2 x3) else (own_h0_180_l9 x0 x1 x2 x3))
def own_h0_234_l10 (x0 : Int32) (x1 : Int32) (x2 : Int32) (x3 : Int32) : Int32 := (if (own_h0_180_l10 x0 x1 x2 x3) < (x0 &&& (3 : Int32)) then (own_f11 (own_h0_180_l10 x0 x1 x2 x3) (x0 &&& (3 : Int32)) (own_h0_48_Ab1 x0 x1 x2 x3)) else (own_h0_180_l10 x0 x1 x2 x3))
def own_f0 (x0 : Int32) (x1 : Int32) (x2 : Int32) (x3 : Int32) (x4 : Int32) : Int32 := (nar .boolean (own_h0_234_l9 x0 x1 x2 x3))
theorem own_last (x0 x1 x2 x3 : Int32) (h : (0 : Int32) < (x0 &&& (3 : Int32))) : ¬ own_h0_48_Ab1 x0 x1 x2 x3 ((x0 &&& (3 : Int32)) - (1 : Int32)).toNatClampNeg < 0 := by
  unfold own_h0_48_Ab1
  rw [if_pos h]
  unfold own_w0_3 own_upd
  rw [if_pos rfl]
  generalize own_h0_37_Ab1 x0 x1 x2 x3 ((x0 &&& (3 : Int32)) - (1 : Int32)).toNatClampNeg = v
  have m := c_mask v 127 7 (by decide) (by decide)
  have a := c_i2b (v &&& 127)
  have b := c_i2b ((v &&& 127).toInt8.toInt32)
  show ¬ ((v &&& 127).toInt8.toInt32).toInt8.toInt32 < 0
  rw [Int32.lt_iff_toInt_lt, show (0 : Int32).toInt = 0 from rfl]
  omega
theorem own_HF (x0 x1 x2 x3 : Int32) {p : Int32} (h0 : ¬ p < 0) (h : p < (x0 &&& (3 : Int32))) : own_H (own_h0_48_Ab1 x0 x1 x2 x3) p (x0 &&& (3 : Int32)) := by
  have r := own_nr x0
  have z0 : (0 : Int32).toInt = 0 := rfl
  have z1 : (1 : Int32).toInt = 1 := rfl
  have g0 := h0
  have g := h
  rw [Int32.lt_iff_toInt_lt, z0] at g0
  rw [Int32.lt_iff_toInt_lt] at g
  have L := own_last x0 x1 x2 x3 (by rw [Int32.lt_iff_toInt_lt, z0]; omega)
  have s := c_isub (x0 &&& (3 : Int32)) 1
  have gs := rng32 ((x0 &&& (3 : Int32)) - 1)
  have a := c_iadd p 1
  have ga := rng32 (p + 1)
  have b := c_iadd (p + 1) 1
  have gb := rng32 (p + 1 + 1)
  generalize own_h0_48_Ab1 x0 x1 x2 x3 = F at *
  generalize hn : x0 &&& (3 : Int32) = n at *
  have key : ∀ q : Int32, q.toInt = n.toInt - 1 → ¬ F q.toNatClampNeg < 0 := by
    intro q hq
    have : q = n - 1 := Int32.toInt_inj.mp (by omega)
    rw [this]; exact L
  refine ⟨h0, h, by omega, fun k => ?_⟩
  have c1 : p.toInt ≠ n.toInt - 1 := fun e => key p e k
  have d1 : p + 1 < n := by rw [Int32.lt_iff_toInt_lt]; omega
  refine ⟨d1, fun k2 => ?_⟩
  have c2 : (p + 1).toInt ≠ n.toInt - 1 := fun e => key (p + 1) e k2
  refine ⟨by rw [Int32.lt_iff_toInt_lt]; omega, key (p + 1 + 1) (by omega)⟩
theorem own_nnf {f : Nat → Int32} {u z : Int32} (H : own_H f u z) : ¬ own_f11 u z f < 0 := by
  have r := own_rg1 H
  have z0 : (0 : Int32).toInt = 0 := rfl
  have e1 : (1 : Int32).toInt = 1 := rfl
  have e2 : (2 : Int32).toInt = 2 := rfl
  have e3 : (3 : Int32).toInt = 3 := rfl
  have a2 := c_iadd u 2
  have g2 := rng32 (u + 2)
  have a3 := c_iadd u 3
  have g3 := rng32 (u + 3)
  have k1 : ¬ u + 1 < 0 := by rw [Int32.lt_iff_toInt_lt, z0]; omega
  have k2 : ¬ u + 2 < 0 := by rw [Int32.lt_iff_toInt_lt, z0]; omega
  have k3 : ¬ u + 3 < 0 := by rw [Int32.lt_iff_toInt_lt, z0]; omega
  unfold own_f11
  repeat' split
  all_goals assumption
theorem own_nn1 (x0 x1 x2 x3 : Int32) : ¬ own_h0_126_l10 x0 x1 x2 x3 < 0 := by
  unfold own_h0_126_l10
  by_cases h : (0 : Int32) < (x0 &&& (3 : Int32))
  · rw [if_pos h]; exact own_nnf (own_HF x0 x1 x2 x3 (by decide) h)
  · rw [if_neg h]; decide
theorem own_nn2 (x0 x1 x2 x3 : Int32) : ¬ own_h0_180_l10 x0 x1 x2 x3 < 0 := by
  unfold own_h0_180_l10
  by_cases h : own_h0_126_l10 x0 x1 x2 x3 < (x0 &&& (3 : Int32))
  · rw [if_pos h]; exact own_nnf (own_HF x0 x1 x2 x3 (own_nn1 x0 x1 x2 x3) h)
  · rw [if_neg h]; exact own_nn1 x0 x1 x2 x3
set_option maxRecDepth 65536 in
set_option maxHeartbeats 40000000 in
theorem own_rm0 (l : Launch) (Z : State) (a0 : Array Value) (hw : ∀ d ∈ tables_1, d.before a0 Z = true) (ws : List Jvm.Cond) (x0 : Int32) (x1 : Int32) (x2 : Int32) (x3 : Int32) (x4 : Int32) (cz : Int32) (h0 : Heap) (n0 : Nat) (hn0 : n0 ≤ h0.size) (S_COMPACT_STRINGS : Sta Z h0 "java/lang/String" "COMPACT_STRINGS" "Z" (.int cz)) (hcz : ¬ (cz = (0 : Int32))) : Meets l Z x code maxLocals ret ws room_1 #[(.int x0), (.int x1), (.int x2), (.int x3), (.int x4)] h0 (fun v h L => v = some (.int (own_f0 x0 x1 x2 x3 x4)) ∧ Fr n0 L ∧ Keep h0 h []) := by
  refine meets_of (plainFor_of_name own_k167) ?_
  intro p e s m below meth c s₁ X0 hx hZ hby hml hret hlk hown hnm e0
  replace hml : c.maxLocals = 11 := hml
  replace hown : s.vm.findClass "com/example/stokehold/stokehold/wire/ProtoReaderAtEndPinLaw" = some m.cls := hown
  refine Go.cast (own_k168 m x0 x1 x2 x3 x4) ?_
  have N0 := Fr.nil n0
  have K0 : Keep h0 h0 [] := Keep.refl h0 _
  refine Go.via (U' := s₁.setTop (mkF m 1 #[.val (.int x0), .val (.int x1), .val (.int x2), .val (.int x3), .val (.int x4), .unset, .unset, .unset, .unset, .unset, .unset] [(.int x0)])) (fun tG kG => XS.iloadN X0.here hx rfl (hb hby at_0) rfl kG) ?_
  refine Go.via (U' := s₁.setTop (mkF m 2 #[.val (.int x0), .val (.int x1), .val (.int x2), .val (.int x3), .val (.int x4), .unset, .unset, .unset, .unset, .unset, .unset] [(.int (3 : Int32)), (.int x0)])) (fun tG kG => XS.iconst X0.here hx rfl (hb hby at_1) kG) ?_
  refine Go.via (U' := s₁.setTop (mkF m 3 #[.val (.int x0), .val (.int x1), .val (.int x2), .val (.int x3), .val (.int x4), .unset, .unset, .unset, .unset, .unset, .unset] [(.int (x0 &&& (3 : Int32)))])) (fun tG kG => XS.iand X0.here hx rfl (hb hby at_2) rfl kG) ?_
  refine Go.via (U' := s₁.setTop (mkF m 5 #[.val (.int x0), .val (.int x1), .val (.int x2), .val (.int x3), .val (.int x4), .val (.int (x0 &&& (3 : Int32))), .unset, .unset, .unset, .unset, .unset] [])) (fun tG kG => XS.istore X0.here hx rfl (hb hby at_3) rfl (l' := #[.val (.int x0), .val (.int x1), .val (.int x2), .val (.int x3), .val (.int x4), .val (.int (x0 &&& (3 : Int32))), .unset, .unset, .unset, .unset, .unset]) rfl kG) ?_
  refine Go.via (U' := s₁.setTop (mkF m 7 #[.val (.int x0), .val (.int x1), .val (.int x2), .val (.int x3), .val (.int x4), .val (.int (x0 &&& (3 : Int32))), .unset, .unset, .unset, .unset, .unset] [(.int (x0 &&& (3 : Int32)))])) (fun tG kG => XS.iload X0.here hx rfl (hb hby at_5) rfl kG) ?_
  obtain ⟨T1, h1, k1, X1, e1, E1, A1, B1, st1⟩ := newPE X0 hx hZ (hw _ (List.mem_of_getElem? (i := 0) rfl)) e0 (g := (mkF m 7 #[.val (.int x0), .val (.int x1), .val (.int x2), .val (.int x3), .val (.int x4), .val (.int (x0 &&& (3 : Int32))), .unset, .unset, .unset, .unset, .unset] [(.int (x0 &&& (3 : Int32)))])) rfl (hb hby at_7) rfl (own_n x0).1 (cap := 3) (own_n x0).2 (by decide) (by decide) (by decide) (ad := "[B") (by decide)
  obtain ⟨b1, g1⟩ : ∃ z, z = h0.size := ⟨_, rfl⟩
  rw [← g1] at A1 B1 st1
  have g_b1 : n0 ≤ b1 := Nat.le_trans hn0 (Nat.le_of_eq g1.symm)
  have sz_b1 : h0.size ≤ b1 := Nat.le_trans K0.1 (Nat.le_of_eq g1.symm)
  have f2 := S_COMPACT_STRINGS.ext E1
  have K1 := K0.ext E1
  have Z1 := Nat.le_trans hn0 E1.1
  have V1 : Arf Z h1 b1 k1 .byte (x0 &&& (3 : Int32)) (fun _ => 0) := Arf.new A1 (own_n x0).1 rfl rfl
  refine Go.via (U' := T1.setTop (mkF m 9 #[.val (.int x0), .val (.int x1), .val (.int x2), .val (.int x3), .val (.int x4), .val (.int (x0 &&& (3 : Int32))), .unset, .unset, .unset, .unset, .unset] [(.ref b1)])) (fun tG kG => st1 tG kG) ?_
  refine Go.via (U' := T1.setTop (mkF m 11 #[.val (.int x0), .val (.int x1), .val (.int x2), .val (.int x3), .val (.int x4), .val (.int (x0 &&& (3 : Int32))), .val (.ref b1), .unset, .unset, .unset, .unset] [])) (fun tG kG => XS.astore X1.here hx rfl (hb hby at_9) rfl rfl (l' := #[.val (.int x0), .val (.int x1), .val (.int x2), .val (.int x3), .val (.int x4), .val (.int (x0 &&& (3 : Int32))), .val (.ref b1), .unset, .unset, .unset, .unset]) rfl kG) ?_
  refine Go.via (U' := T1.setTop (mkF m 13 #[.val (.int x0), .val (.int x1), .val (.int x2), .val (.int x3), .val (.int x4), .val (.int (x0 &&& (3 : Int32))), .val (.ref b1), .unset, .unset, .unset, .unset] [(.int (x0 &&& (3 : Int32)))])) (fun tG kG => XS.iload X1.here hx rfl (hb hby at_11) rfl kG) ?_
  have J3 : ∀ T' h' L', Stand p l e room_1 s m #[(.int x0), (.int x1), (.int x2), (.int x3), (.int x4)] below meth c T' L' 1 3 → T'.heap = h' → Fr n0 L' → n0 ≤ h'.size → Keep h0 h' [] → Sta Z h' "java/lang/String" "COMPACT_STRINGS" "Z" (.int cz) → Exa Z h' b1 "[B" → Arf Z h' b1 k1 .byte (x0 &&& (3 : Int32)) (own_h0_13_Ab1 x0 x1) → Go p e below s room_1.cells room_1.slots (fun v h L => v = some (.int (own_f0 x0 x1 x2 x3 x4)) ∧ Fr n0 L ∧ Keep h0 h []) (T'.setTop (mkF m 22 #[.val (.int x0), .val (.int x1), .val (.int x2), .val (.int x3), .val (.int x4), .val (.int (x0 &&& (3 : Int32))), .val (.ref b1), .unset, .unset, .unset, .unset] [])) := by
    intro T4 h5 L6 X7 e8 N9 Z10 K11 f12 f13 f14
    refine Go.via (U' := T4.setTop (mkF m 24 #[.val (.int x0), .val (.int x1), .val (.int x2), .val (.int x3), .val (.int x4), .val (.int (x0 &&& (3 : Int32))), .val (.ref b1), .unset, .unset, .unset, .unset] [(.int (x0 &&& (3 : Int32)))])) (fun tG kG => XS.iload X7.here hx rfl (hb hby at_22) rfl kG) ?_
    refine Go.via (U' := T4.setTop (mkF m 25 #[.val (.int x0), .val (.int x1), .val (.int x2), .val (.int x3), .val (.int x4), .val (.int (x0 &&& (3 : Int32))), .val (.ref b1), .unset, .unset, .unset, .unset] [(.int (1 : Int32)), (.int (x0 &&& (3 : Int32)))])) (fun tG kG => XS.iconst X7.here hx rfl (hb hby at_24) kG) ?_
    have J15 : ∀ T' h' L', Stand p l e room_1 s m #[(.int x0), (.int x1), (.int x2), (.int x3), (.int x4)] below meth c T' L' 1 3 → T'.heap = h' → Fr n0 L' → n0 ≤ h'.size → Keep h0 h' [] → Sta Z h' "java/lang/String" "COMPACT_STRINGS" "Z" (.int cz) → Exa Z h' b1 "[B" → Arf Z h' b1 k1 .byte (x0 &&& (3 : Int32)) (own_h0_25_Ab1 x0 x1 x2) → Go p e below s room_1.cells room_1.slots (fun v h L => v = some (.int (own_f0 x0 x1 x2 x3 x4)) ∧ Fr n0 L ∧ Keep h0 h []) (T'.setTop (mkF m 34 #[.val (.int x0), .val (.int x1), .val (.int x2), .val (.int x3), .val (.int x4), .val (.int (x0 &&& (3 : Int32))), .val (.ref b1), .unset, .unset, .unset, .unset] [])) := by
      intro T16 h17 L18 X19 e20 N21 Z22 K23 f24 f25 f26
      refine Go.via (U' := T16.setTop (mkF m 36 #[.val (.int x0), .val (.int x1), .val (.int x2), .val (.int x3), .val (.int x4), .val (.int (x0 &&& (3 : Int32))), .val (.ref b1), .unset, .unset, .unset, .unset] [(.int (x0 &&& (3 : Int32)))])) (fun tG kG => XS.iload X19.here hx rfl (hb hby at_34) rfl kG) ?_
      refine Go.via (U' := T16.setTop (mkF m 37 #[.val (.int x0), .val (.int x1), .val (.int x2), .val (.int x3), .val (.int x4), .val (.int (x0 &&& (3 : Int32))), .val (.ref b1), .unset, .unset, .unset, .unset] [(.int (2 : Int32)), (.int (x0 &&& (3 : Int32)))])) (fun tG kG => XS.iconst X19.here hx rfl (hb hby at_36) kG) ?_
      have J27 : ∀ T' h' L', Stand p l e room_1 s m #[(.int x0), (.int x1), (.int x2), (.int x3), (.int x4)] below meth c T' L' 1 3 → T'.heap = h' → Fr n0 L' → n0 ≤ h'.size → Keep h0 h' [] → Sta Z h' "java/lang/String" "COMPACT_STRINGS" "Z" (.int cz) → Exa Z h' b1 "[B" → Arf Z h' b1 k1 .byte (x0 &&& (3 : Int32)) (own_h0_37_Ab1 x0 x1 x2 x3) → Go p e below s room_1.cells room_1.slots (fun v h L => v = some (.int (own_f0 x0 x1 x2 x3 x4)) ∧ Fr n0 L ∧ Keep h0 h []) (T'.setTop (mkF m 46 #[.val (.int x0), .val (.int x1), .val (.int x2), .val (.int x3), .val (.int x4), .val (.int (x0 &&& (3 : Int32))), .val (.ref b1), .unset, .unset, .unset, .unset] [])) := by
        intro T28 h29 L30 X31 e32 N33 Z34 K35 f36 f37 f38
        refine Go.via (U' := T28.setTop (mkF m 48 #[.val (.int x0), .val (.int x1), .val (.int x2), .val (.int x3), .val (.int x4), .val (.int (x0 &&& (3 : Int32))), .val (.ref b1), .unset, .unset, .unset, .unset] [(.int (x0 &&& (3 : Int32)))])) (fun tG kG => XS.iload X31.here hx rfl (hb hby at_46) rfl kG) ?_
        have J39 : ∀ T' h' L', Stand p l e room_1 s m #[(.int x0), (.int x1), (.int x2), (.int x3), (.int x4)] below meth c T' L' 1 3 → T'.heap = h' → Fr n0 L' → n0 ≤ h'.size → Keep h0 h' [] → Sta Z h' "java/lang/String" "COMPACT_STRINGS" "Z" (.int cz) → Exa Z h' b1 "[B" → Arf Z h' b1 k1 .byte (x0 &&& (3 : Int32)) (own_h0_48_Ab1 x0 x1 x2 x3) → Go p e below s room_1.cells room_1.slots (fun v h L => v = some (.int (own_f0 x0 x1 x2 x3 x4)) ∧ Fr n0 L ∧ Keep h0 h []) (T'.setTop (mkF m 69 #[.val (.int x0), .val (.int x1), .val (.int x2), .val (.int x3), .val (.int x4), .val (.int (x0 &&& (3 : Int32))), .val (.ref b1), .unset, .unset, .unset, .unset] [])) := by
          intro T40 h41 L42 X43 e44 N45 Z46 K47 f48 f49 f50
          refine Go.via (U' := T40.setTop (mkF m 71 #[.val (.int x0), .val (.int x1), .val (.int x2), .val (.int x3), .val (.int x4), .val (.int (x0 &&& (3 : Int32))), .val (.ref b1), .unset, .unset, .unset, .unset] [(.int x4)])) (fun tG kG => XS.iload X43.here hx rfl (hb hby at_69) rfl kG) ?_
          refine Go.via (U' := T40.setTop (mkF m 74 #[.val (.int x0), .val (.int x1), .val (.int x2), .val (.int x3), .val (.int x4), .val (.int (x0 &&& (3 : Int32))), .val (.ref b1), .unset, .unset, .unset, .unset] [(.int (255 : Int32)), (.int x4)])) (fun tG kG => XS.sipush X43.here hx rfl (hb hby at_71) kG) ?_
          refine Go.via (U' := T40.setTop (mkF m 75 #[.val (.int x0), .val (.int x1), .val (.int x2), .val (.int x3), .val (.int x4), .val (.int (x0 &&& (3 : Int32))), .val (.ref b1), .unset, .unset, .unset, .unset] [(.int (x4 &&& (255 : Int32)))])) (fun tG kG => XS.iand X43.here hx rfl (hb hby at_74) rfl kG) ?_
          refine Go.via (U' := T40.setTop (mkF m 76 #[.val (.int x0), .val (.int x1), .val (.int x2), .val (.int x3), .val (.int x4), .val (.int (x0 &&& (3 : Int32))), .val (.ref b1), .unset, .unset, .unset, .unset] [(.int ((x4 &&& (255 : Int32)).toUInt32.toUInt16.toUInt32.toInt32))])) (fun tG kG => XS.i2c X43.here hx rfl (hb hby at_75) rfl kG) ?_
          obtain ⟨_, T51, L51, X51, ⟨b52, gb52, zb52, b53, gb53, zb53, k54, rfl, N51q, K51q, f55, f56, f57, f58, f59⟩, st51⟩ := callSQ X43 hx hZ hown (hw _ (List.mem_of_getElem? (i := 1) rfl)) (hw _ (List.mem_of_getElem? (i := 2) rfl)) (hw _ (List.mem_of_getElem? (i := 3) rfl)) (hw _ (List.mem_of_getElem? (i := 4) rfl)) (by decide) (av := [(.int ((x4 &&& (255 : Int32)).toUInt32.toUInt16.toUInt32.toInt32))]) (own_rm1 l Z a0 hw [] ((x4 &&& (255 : Int32)).toUInt32.toUInt16.toUInt32.toInt32) cz h41 n0 Z46 f48 hcz (own_ce _)) e44 (pc := 76) (Ls := #[.val (.int x0), .val (.int x1), .val (.int x2), .val (.int x3), .val (.int x4), .val (.int (x0 &&& (3 : Int32))), .val (.ref b1), .unset, .unset, .unset, .unset]) (rest := []) (by rw [hml]; rfl) own_k169 rfl 0 (Nat.le_of_eq rfl) (by decide) (by decide) (by decide) (by decide) (hb hby at_76)
          have f60 := own_staKeep f48 K51q all0
          have f61 := f49.keep K51q
          have f62 := f50.keep K51q nin0
          have N51 := Fr.app N45 N51q
          have Z51 := Nat.le_trans Z46 K51q.1
          have K51 := K47.trans K51q all0
          have sb52 : h0.size ≤ b52 := Nat.le_trans K47.1 zb52
          have ne_b1_b52 : b1 ≠ b52 := Nat.ne_of_lt (Nat.lt_of_lt_of_le f49.lt zb52)
          have sb53 : h0.size ≤ b53 := Nat.le_trans K47.1 zb53
          have ne_b1_b53 : b1 ≠ b53 := Nat.ne_of_lt (Nat.lt_of_lt_of_le f49.lt zb53)
          refine Go.via (U' := T51.setTop (mkF m 79 #[.val (.int x0), .val (.int x1), .val (.int x2), .val (.int x3), .val (.int x4), .val (.int (x0 &&& (3 : Int32))), .val (.ref b1), .unset, .unset, .unset, .unset] [(.ref b52)])) (fun tG kG => st51 tG kG) ?_
          refine Go.via (U' := T51.setTop (mkF m 81 #[.val (.int x0), .val (.int x1), .val (.int x2), .val (.int x3), .val (.int x4), .val (.int (x0 &&& (3 : Int32))), .val (.ref b1), .val (.ref b52), .unset, .unset, .unset] [])) (fun tG kG => XS.astore X51.here hx rfl (hb hby at_79) rfl rfl (l' := #[.val (.int x0), .val (.int x1), .val (.int x2), .val (.int x3), .val (.int x4), .val (.int (x0 &&& (3 : Int32))), .val (.ref b1), .val (.ref b52), .unset, .unset, .unset]) rfl kG) ?_
          obtain ⟨T63, h63, X63, e63, E63, A63, D63, -, st63⟩ := newO X51 hx hZ hown (hw _ (List.mem_of_getElem? (i := 26) rfl)) (hw _ (List.mem_of_getElem? (i := 27) rfl)) (hw _ (List.mem_of_getElem? (i := 28) rfl)) rfl (g := (mkF m 81 #[.val (.int x0), .val (.int x1), .val (.int x2), .val (.int x3), .val (.int x4), .val (.int (x0 &&& (3 : Int32))), .val (.ref b1), .val (.ref b52), .unset, .unset, .unset] [])) rfl (hb hby at_81) (by decide) (by decide)
          obtain ⟨b63, g63⟩ : ∃ z, z = T51.heap.size := ⟨_, rfl⟩
          rw [← g63] at A63 D63 st63
          have g_b63 : n0 ≤ b63 := Nat.le_trans Z51 (Nat.le_of_eq g63.symm)
          have sz_b63 : h0.size ≤ b63 := Nat.le_trans K51.1 (Nat.le_of_eq g63.symm)
          have ne_b1_b63 : b1 ≠ b63 := Nat.ne_of_lt (Nat.lt_of_lt_of_le f61.lt (Nat.le_of_eq g63.symm))
          have ne_b52_b63 : b52 ≠ b63 := Nat.ne_of_lt (Nat.lt_of_lt_of_le f55.lt (Nat.le_of_eq g63.symm))
          have ne_b53_b63 : b53 ≠ b63 := Nat.ne_of_lt (Nat.lt_of_lt_of_le f56.lt (Nat.le_of_eq g63.symm))
          have f64 := f60.ext E63
          have f65 := f61.ext E63
          have f66 := f62.ext E63
          have f67 := f55.ext E63
          have f68 := f56.ext E63
          have f69 := f57.ext E63
          have f70 := f58.ext E63
          have f71 := f59.ext E63
          have K63 := K51.ext E63
          have Z63 := Nat.le_trans Z51 E63.1
          have f72 : Fld Z h63 b63 "com/example/stokehold/stokehold/wire/ProtoReader" "bytes" "[B" .null := D63 (Or.inr (hw _ (List.mem_of_getElem? (i := 37) rfl))) (ty := (.array .byte)) (by decide)
          have f73 : Fld Z h63 b63 "com/example/stokehold/stokehold/wire/ProtoReader" "available" "I" (.int (0 : Int32)) := D63 (Or.inr (hw _ (List.mem_of_getElem? (i := 39) rfl))) (ty := .int) (by decide)
          have f74 : Fld Z h63 b63 "com/example/stokehold/stokehold/wire/ProtoReader" "end" "I" (.int (0 : Int32)) := D63 (Or.inr (hw _ (List.mem_of_getElem? (i := 41) rfl))) (ty := .int) (by decide)
          have f75 : Fld Z h63 b63 "com/example/stokehold/stokehold/wire/ProtoReader" "name" "Ljava/lang/String;" .null := D63 (Or.inr (hw _ (List.mem_of_getElem? (i := 43) rfl))) (ty := (.object "java/lang/String")) (by decide)
          have f76 : Fld Z h63 b63 "com/example/stokehold/stokehold/wire/ProtoReader" "position" "I" (.int (0 : Int32)) := D63 (Or.inl (hw _ (List.mem_of_getElem? (i := 50) rfl))) (ty := .int) (by decide)
          refine Go.via (U' := T63.setTop (mkF m 84 #[.val (.int x0), .val (.int x1), .val (.int x2), .val (.int x3), .val (.int x4), .val (.int (x0 &&& (3 : Int32))), .val (.ref b1), .val (.ref b52), .unset, .unset, .unset] [(.ref b63)])) (fun tG kG => st63 tG kG) ?_
          refine Go.via (U' := T63.setTop (mkF m 85 #[.val (.int x0), .val (.int x1), .val (.int x2), .val (.int x3), .val (.int x4), .val (.int (x0 &&& (3 : Int32))), .val (.ref b1), .val (.ref b52), .unset, .unset, .unset] [(.ref b63), (.ref b63)])) (fun tG kG => XS.dup X63.here hx rfl (hb hby at_84) rfl rfl kG) ?_
          refine Go.via (U' := T63.setTop (mkF m 87 #[.val (.int x0), .val (.int x1), .val (.int x2), .val (.int x3), .val (.int x4), .val (.int (x0 &&& (3 : Int32))), .val (.ref b1), .val (.ref b52), .unset, .unset, .unset] [(.ref b1), (.ref b63), (.ref b63)])) (fun tG kG => XS.aload X63.here hx rfl (hb hby at_85) rfl rfl kG) ?_
          refine Go.via (U' := T63.setTop (mkF m 89 #[.val (.int x0), .val (.int x1), .val (.int x2), .val (.int x3), .val (.int x4), .val (.int (x0 &&& (3 : Int32))), .val (.ref b1), .val (.ref b52), .unset, .unset, .unset] [(.ref b52), (.ref b1), (.ref b63), (.ref b63)])) (fun tG kG => XS.aload X63.here hx rfl (hb hby at_87) rfl rfl kG) ?_
          obtain ⟨_, T77, L77, X77, ⟨rfl, N77q, K77q, f78, f79, f80, f81, f82, f83⟩, st77⟩ := callIQ X63 hx hZ rfl hown (hw _ (List.mem_of_getElem? (i := 29) rfl)) (hw _ (List.mem_of_getElem? (i := 30) rfl)) (hw _ (List.mem_of_getElem? (i := 28) rfl)) (hw _ (List.mem_of_getElem? (i := 31) rfl)) (by decide) (b := b63) (av := [(.ref b1), (.ref b52)]) (own_rm6 l Z a0 hw [] b63 b1 b52 k1 (x0 &&& (3 : Int32)) (own_h0_48_Ab1 x0 x1 x2 x3) h63 n0 Z63 A63 f72 f73 f74 f75 f76 f66 g_b63 (Ne.symm ne_b1_b63)) e63 (pc := 89) (Ls := #[.val (.int x0), .val (.int x1), .val (.int x2), .val (.int x3), .val (.int x4), .val (.int (x0 &&& (3 : Int32))), .val (.ref b1), .val (.ref b52), .unset, .unset, .unset]) (rest := [(.ref b63)]) (by rw [hml]; rfl) own_k170 rfl 1 (Nat.le_of_eq rfl) (by decide) (by decide) (by decide) (by decide) (hb hby at_89)
          have f84 := own_staKeep f64 K77q ((allS (own_plainE A63) all0))
          have f85 := f65.keep K77q
          have f86 := f66.keep K77q (ninS ne_b1_b63 nin0)
          have f87 := f67.keep K77q
          have f88 := f68.keep K77q
          have f89 := f69.keep K77q (ninS ne_b53_b63 nin0)
          have f90 := f70.keep K77q (ninS ne_b52_b63 nin0)
          have f91 := f71.keep K77q (ninS ne_b52_b63 nin0)
          have f92 := A63.keep K77q
          have N77 := Fr.app N51 N77q
          have Z77 := Nat.le_trans Z63 K77q.1
          have K77 := K63.trans K77q (allS (Or.inr sz_b63) all0)
          refine Go.via (U' := T77.setTop (mkF m 92 #[.val (.int x0), .val (.int x1), .val (.int x2), .val (.int x3), .val (.int x4), .val (.int (x0 &&& (3 : Int32))), .val (.ref b1), .val (.ref b52), .unset, .unset, .unset] [(.ref b63)])) (fun tG kG => st77 tG kG) ?_
          refine Go.via (U' := T77.setTop (mkF m 94 #[.val (.int x0), .val (.int x1), .val (.int x2), .val (.int x3), .val (.int x4), .val (.int (x0 &&& (3 : Int32))), .val (.ref b1), .val (.ref b52), .val (.ref b63), .unset, .unset] [])) (fun tG kG => XS.astore X77.here hx rfl (hb hby at_92) rfl rfl (l' := #[.val (.int x0), .val (.int x1), .val (.int x2), .val (.int x3), .val (.int x4), .val (.int (x0 &&& (3 : Int32))), .val (.ref b1), .val (.ref b52), .val (.ref b63), .unset, .unset]) rfl kG) ?_
          refine Go.via (U' := T77.setTop (mkF m 96 #[.val (.int x0), .val (.int x1), .val (.int x2), .val (.int x3), .val (.int x4), .val (.int (x0 &&& (3 : Int32))), .val (.ref b1), .val (.ref b52), .val (.ref b63), .unset, .unset] [(.ref b63)])) (fun tG kG => XS.aload X77.here hx rfl (hb hby at_94) rfl rfl kG) ?_
          obtain ⟨T93, X93, e93, st93⟩ := callV0 X77 hx hZ hown (hw _ (List.mem_of_getElem? (i := 44) rfl)) (hw _ (List.mem_of_getElem? (i := 45) rfl)) (hw _ (List.mem_of_getElem? (i := 47) rfl)) (hw _ (List.mem_of_getElem? (i := 46) rfl)) (hw _ (List.mem_of_getElem? (i := 28) rfl)) (hw _ (List.mem_of_getElem? (i := 48) rfl)) (by decide) (b := b63) (av := []) f78 (own_rm8 l Z a0 hw [] b63 (0 : Int32) (x0 &&& (3 : Int32)) T77.heap f83 f81) rfl (pc := 96) (Ls := #[.val (.int x0), .val (.int x1), .val (.int x2), .val (.int x3), .val (.int x4), .val (.int (x0 &&& (3 : Int32))), .val (.ref b1), .val (.ref b52), .val (.ref b63), .unset, .unset]) (rest := []) (by rw [hml]; rfl) own_k101 rfl 0 (Nat.le_of_eq rfl) (by decide) (by decide) (by decide) (by decide) (hb hby at_96)
          refine Go.via (U' := T93.setTop (mkF m 99 #[.val (.int x0), .val (.int x1), .val (.int x2), .val (.int x3), .val (.int x4), .val (.int (x0 &&& (3 : Int32))), .val (.ref b1), .val (.ref b52), .val (.ref b63), .unset, .unset] [(.int (own_f8 (0 : Int32) (x0 &&& (3 : Int32))))])) (fun tG kG => st93 tG kG) ?_
          refine Go.via (U' := T93.setTop (mkF m 101 #[.val (.int x0), .val (.int x1), .val (.int x2), .val (.int x3), .val (.int x4), .val (.int (x0 &&& (3 : Int32))), .val (.ref b1), .val (.ref b52), .val (.ref b63), .unset, .unset] [(.int (x0 &&& (3 : Int32))), (.int (own_f8 (0 : Int32) (x0 &&& (3 : Int32))))])) (fun tG kG => XS.iload X93.here hx rfl (hb hby at_99) rfl kG) ?_
          have J94 : ∀ T' L', Stand p l e room_1 s m #[(.int x0), (.int x1), (.int x2), (.int x3), (.int x4)] below meth c T' L' 4 13 → T'.heap = T77.heap → Fr n0 L' → Go p e below s room_1.cells room_1.slots (fun v h L => v = some (.int (own_f0 x0 x1 x2 x3 x4)) ∧ Fr n0 L ∧ Keep h0 h []) (T'.setTop (mkF m 109 #[.val (.int x0), .val (.int x1), .val (.int x2), .val (.int x3), .val (.int x4), .val (.int (x0 &&& (3 : Int32))), .val (.ref b1), .val (.ref b52), .val (.ref b63), .unset, .unset] [(.int (own_j0_101_s0 x0)), (.int (own_f8 (0 : Int32) (x0 &&& (3 : Int32))))])) := by
            intro T95 L98 X96 e97 N99
            have J100 : ∀ T' L', Stand p l e room_1 s m #[(.int x0), (.int x1), (.int x2), (.int x3), (.int x4)] below meth c T' L' 4 13 → T'.heap = T77.heap → Fr n0 L' → Go p e below s room_1.cells room_1.slots (fun v h L => v = some (.int (own_f0 x0 x1 x2 x3 x4)) ∧ Fr n0 L ∧ Keep h0 h []) (T'.setTop (mkF m 117 #[.val (.int x0), .val (.int x1), .val (.int x2), .val (.int x3), .val (.int x4), .val (.int (x0 &&& (3 : Int32))), .val (.ref b1), .val (.ref b52), .val (.ref b63), .unset, .unset] [(.int (own_j0_109_s0 x0))])) := by
              intro T101 L104 X102 e103 N105
              refine Go.via (U' := T101.setTop (mkF m 119 #[.val (.int x0), .val (.int x1), .val (.int x2), .val (.int x3), .val (.int x4), .val (.int (x0 &&& (3 : Int32))), .val (.ref b1), .val (.ref b52), .val (.ref b63), .val (.int (own_j0_109_s0 x0)), .unset] [])) (fun tG kG => XS.istore X102.here hx rfl (hb hby at_117) rfl (l' := #[.val (.int x0), .val (.int x1), .val (.int x2), .val (.int x3), .val (.int x4), .val (.int (x0 &&& (3 : Int32))), .val (.ref b1), .val (.ref b52), .val (.ref b63), .val (.int (own_j0_109_s0 x0)), .unset]) rfl kG) ?_
              refine Go.via (U' := T101.setTop (mkF m 120 #[.val (.int x0), .val (.int x1), .val (.int x2), .val (.int x3), .val (.int x4), .val (.int (x0 &&& (3 : Int32))), .val (.ref b1), .val (.ref b52), .val (.ref b63), .val (.int (own_j0_109_s0 x0)), .unset] [(.int (0 : Int32))])) (fun tG kG => XS.iconst X102.here hx rfl (hb hby at_119) kG) ?_
              refine Go.via (U' := T101.setTop (mkF m 122 #[.val (.int x0), .val (.int x1), .val (.int x2), .val (.int x3), .val (.int x4), .val (.int (x0 &&& (3 : Int32))), .val (.ref b1), .val (.ref b52), .val (.ref b63), .val (.int (own_j0_109_s0 x0)), .val (.int (0 : Int32))] [])) (fun tG kG => XS.istore X102.here hx rfl (hb hby at_120) rfl (l' := #[.val (.int x0), .val (.int x1), .val (.int x2), .val (.int x3), .val (.int x4), .val (.int (x0 &&& (3 : Int32))), .val (.ref b1), .val (.ref b52), .val (.ref b63), .val (.int (own_j0_109_s0 x0)), .val (.int (0 : Int32))]) rfl kG) ?_
              refine Go.via (U' := T101.setTop (mkF m 124 #[.val (.int x0), .val (.int x1), .val (.int x2), .val (.int x3), .val (.int x4), .val (.int (x0 &&& (3 : Int32))), .val (.ref b1), .val (.ref b52), .val (.ref b63), .val (.int (own_j0_109_s0 x0)), .val (.int (0 : Int32))] [(.int (0 : Int32))])) (fun tG kG => XS.iload X102.here hx rfl (hb hby at_122) rfl kG) ?_
              refine Go.via (U' := T101.setTop (mkF m 126 #[.val (.int x0), .val (.int x1), .val (.int x2), .val (.int x3), .val (.int x4), .val (.int (x0 &&& (3 : Int32))), .val (.ref b1), .val (.ref b52), .val (.ref b63), .val (.int (own_j0_109_s0 x0)), .val (.int (0 : Int32))] [(.int (x0 &&& (3 : Int32))), (.int (0 : Int32))])) (fun tG kG => XS.iload X102.here hx rfl (hb hby at_124) rfl kG) ?_
              have J106 : ∀ T' h' L', Stand p l e room_1 s m #[(.int x0), (.int x1), (.int x2), (.int x3), (.int x4)] below meth c T' L' 4 13 → T'.heap = h' → Fr n0 L' → n0 ≤ h'.size → Keep h0 h' [] → Sta Z h' "java/lang/String" "COMPACT_STRINGS" "Z" (.int cz) → Exa Z h' b1 "[B" → Arf Z h' b1 k1 .byte (x0 &&& (3 : Int32)) (own_h0_48_Ab1 x0 x1 x2 x3) → Exa Z h' b52 "java/lang/String" → Exa Z h' b53 "[B" → Arf Z h' b53 k54 .byte (1 : Int32) (own_q3_b1 ((x4 &&& (255 : Int32)).toUInt32.toUInt16.toUInt32.toInt32)) → Fld Z h' b52 "java/lang/String" "value" "[B" (.ref b53) → Fld Z h' b52 "java/lang/String" "coder" "B" (.int (nar .byte (0 : Int32))) → Exa Z h' b63 "com/example/stokehold/stokehold/wire/ProtoReader" → Fld Z h' b63 "com/example/stokehold/stokehold/wire/ProtoReader" "bytes" "[B" (.ref b1) → Fld Z h' b63 "com/example/stokehold/stokehold/wire/ProtoReader" "available" "I" (.int (x0 &&& (3 : Int32))) → Fld Z h' b63 "com/example/stokehold/stokehold/wire/ProtoReader" "end" "I" (.int (x0 &&& (3 : Int32))) → Fld Z h' b63 "com/example/stokehold/stokehold/wire/ProtoReader" "position" "I" (.int (own_h0_126_l10 x0 x1 x2 x3)) → Go p e below s room_1.cells room_1.slots (fun v h L => v = some (.int (own_f0 x0 x1 x2 x3 x4)) ∧ Fr n0 L ∧ Keep h0 h []) (T'.setTop (mkF m 176 #[.val (.int x0), .val (.int x1), .val (.int x2), .val (.int x3), .val (.int x4), .val (.int (x0 &&& (3 : Int32))), .val (.ref b1), .val (.ref b52), .val (.ref b63), .val (.int (own_h0_126_l9 x0 x1 x2 x3)), .val (.int (own_h0_126_l10 x0 x1 x2 x3))] [])) := by
                intro T107 h108 L109 X110 e111 N112 Z113 K114 f115 f116 f117 f118 f119 f120 f121 f122 f123 f124 f125 f126 f127
                refine Go.via (U' := T107.setTop (mkF m 178 #[.val (.int x0), .val (.int x1), .val (.int x2), .val (.int x3), .val (.int x4), .val (.int (x0 &&& (3 : Int32))), .val (.ref b1), .val (.ref b52), .val (.ref b63), .val (.int (own_h0_126_l9 x0 x1 x2 x3)), .val (.int (own_h0_126_l10 x0 x1 x2 x3))] [(.int (own_h0_126_l10 x0 x1 x2 x3))])) (fun tG kG => XS.iload X110.here hx rfl (hb hby at_176) rfl kG) ?_
                refine Go.via (U' := T107.setTop (mkF m 180 #[.val (.int x0), .val (.int x1), .val (.int x2), .val (.int x3), .val (.int x4), .val (.int (x0 &&& (3 : Int32))), .val (.ref b1), .val (.ref b52), .val (.ref b63), .val (.int (own_h0_126_l9 x0 x1 x2 x3)), .val (.int (own_h0_126_l10 x0 x1 x2 x3))] [(.int (x0 &&& (3 : Int32))), (.int (own_h0_126_l10 x0 x1 x2 x3))])) (fun tG kG => XS.iload X110.here hx rfl (hb hby at_178) rfl kG) ?_
                have J128 : ∀ T' h' L', Stand p l e room_1 s m #[(.int x0), (.int x1), (.int x2), (.int x3), (.int x4)] below meth c T' L' 4 13 → T'.heap = h' → Fr n0 L' → n0 ≤ h'.size → Keep h0 h' [] → Sta Z h' "java/lang/String" "COMPACT_STRINGS" "Z" (.int cz) → Exa Z h' b1 "[B" → Arf Z h' b1 k1 .byte (x0 &&& (3 : Int32)) (own_h0_48_Ab1 x0 x1 x2 x3) → Exa Z h' b52 "java/lang/String" → Exa Z h' b53 "[B" → Arf Z h' b53 k54 .byte (1 : Int32) (own_q3_b1 ((x4 &&& (255 : Int32)).toUInt32.toUInt16.toUInt32.toInt32)) → Fld Z h' b52 "java/lang/String" "value" "[B" (.ref b53) → Fld Z h' b52 "java/lang/String" "coder" "B" (.int (nar .byte (0 : Int32))) → Exa Z h' b63 "com/example/stokehold/stokehold/wire/ProtoReader" → Fld Z h' b63 "com/example/stokehold/stokehold/wire/ProtoReader" "bytes" "[B" (.ref b1) → Fld Z h' b63 "com/example/stokehold/stokehold/wire/ProtoReader" "available" "I" (.int (x0 &&& (3 : Int32))) → Fld Z h' b63 "com/example/stokehold/stokehold/wire/ProtoReader" "end" "I" (.int (x0 &&& (3 : Int32))) → Fld Z h' b63 "com/example/stokehold/stokehold/wire/ProtoReader" "position" "I" (.int (own_h0_180_l10 x0 x1 x2 x3)) → Go p e below s room_1.cells room_1.slots (fun v h L => v = some (.int (own_f0 x0 x1 x2 x3 x4)) ∧ Fr n0 L ∧ Keep h0 h []) (T'.setTop (mkF m 230 #[.val (.int x0), .val (.int x1), .val (.int x2), .val (.int x3), .val (.int x4), .val (.int (x0 &&& (3 : Int32))), .val (.ref b1), .val (.ref b52), .val (.ref b63), .val (.int (own_h0_180_l9 x0 x1 x2 x3)), .val (.int (own_h0_180_l10 x0 x1 x2 x3))] [])) := by
                  intro T129 h130 L131 X132 e133 N134 Z135 K136 f137 f138 f139 f140 f141 f142 f143 f144 f145 f146 f147 f148 f149
                  refine Go.via (U' := T129.setTop (mkF m 232 #[.val (.int x0), .val (.int x1), .val (.int x2), .val (.int x3), .val (.int x4), .val (.int (x0 &&& (3 : Int32))), .val (.ref b1), .val (.ref b52), .val (.ref b63), .val (.int (own_h0_180_l9 x0 x1 x2 x3)), .val (.int (own_h0_180_l10 x0 x1 x2 x3))] [(.int (own_h0_180_l10 x0 x1 x2 x3))])) (fun tG kG => XS.iload X132.here hx rfl (hb hby at_230) rfl kG) ?_
                  refine Go.via (U' := T129.setTop (mkF m 234 #[.val (.int x0), .val (.int x1), .val (.int x2), .val (.int x3), .val (.int x4), .val (.int (x0 &&& (3 : Int32))), .val (.ref b1), .val (.ref b52), .val (.ref b63), .val (.int (own_h0_180_l9 x0 x1 x2 x3)), .val (.int (own_h0_180_l10 x0 x1 x2 x3))] [(.int (x0 &&& (3 : Int32))), (.int (own_h0_180_l10 x0 x1 x2 x3))])) (fun tG kG => XS.iload X132.here hx rfl (hb hby at_232) rfl kG) ?_
                  have J150 : ∀ T' h' L', Stand p l e room_1 s m #[(.int x0), (.int x1), (.int x2), (.int x3), (.int x4)] below meth c T' L' 4 13 → T'.heap = h' → Fr n0 L' → n0 ≤ h'.size → Keep h0 h' [] → Sta Z h' "java/lang/String" "COMPACT_STRINGS" "Z" (.int cz) → Exa Z h' b1 "[B" → Arf Z h' b1 k1 .byte (x0 &&& (3 : Int32)) (own_h0_48_Ab1 x0 x1 x2 x3) → Exa Z h' b52 "java/lang/String" → Exa Z h' b53 "[B" → Arf Z h' b53 k54 .byte (1 : Int32) (own_q3_b1 ((x4 &&& (255 : Int32)).toUInt32.toUInt16.toUInt32.toInt32)) → Fld Z h' b52 "java/lang/String" "value" "[B" (.ref b53) → Fld Z h' b52 "java/lang/String" "coder" "B" (.int (nar .byte (0 : Int32))) → Exa Z h' b63 "com/example/stokehold/stokehold/wire/ProtoReader" → Fld Z h' b63 "com/example/stokehold/stokehold/wire/ProtoReader" "bytes" "[B" (.ref b1) → Fld Z h' b63 "com/example/stokehold/stokehold/wire/ProtoReader" "available" "I" (.int (x0 &&& (3 : Int32))) → Fld Z h' b63 "com/example/stokehold/stokehold/wire/ProtoReader" "end" "I" (.int (x0 &&& (3 : Int32))) → Fld Z h' b63 "com/example/stokehold/stokehold/wire/ProtoReader" "position" "I" (.int (own_h0_234_l10 x0 x1 x2 x3)) → Go p e below s room_1.cells room_1.slots (fun v h L => v = some (.int (own_f0 x0 x1 x2 x3 x4)) ∧ Fr n0 L ∧ Keep h0 h []) (T'.setTop (mkF m 284 #[.val (.int x0), .val (.int x1), .val (.int x2), .val (.int x3), .val (.int x4), .val (.int (x0 &&& (3 : Int32))), .val (.ref b1), .val (.ref b52), .val (.ref b63), .val (.int (own_h0_234_l9 x0 x1 x2 x3)), .val (.int (own_h0_234_l10 x0 x1 x2 x3))] [])) := by
                    intro T151 h152 L153 X154 e155 N156 Z157 K158 f159 f160 f161 f162 f163 f164 f165 f166 f167 f168 f169 f170 f171
                    refine Go.via (U' := T151.setTop (mkF m 286 #[.val (.int x0), .val (.int x1), .val (.int x2), .val (.int x3), .val (.int x4), .val (.int (x0 &&& (3 : Int32))), .val (.ref b1), .val (.ref b52), .val (.ref b63), .val (.int (own_h0_234_l9 x0 x1 x2 x3)), .val (.int (own_h0_234_l10 x0 x1 x2 x3))] [(.int (own_h0_234_l9 x0 x1 x2 x3))])) (fun tG kG => XS.iload X154.here hx rfl (hb hby at_284) rfl kG) ?_
                    exact go_retN X154 hx hlk (t := .boolean) hret (by simp) (hb hby at_286) e155 ⟨(congrArg (fun z => some (Value.int z)) (show nar .boolean (own_h0_234_l9 x0 x1 x2 x3) = (own_f0 x0 x1 x2 x3 x4) from by rfl)), N156, K158⟩ (by decide) (by decide)
                  by_cases hc234 : (own_h0_180_l10 x0 x1 x2 x3) < (x0 &&& (3 : Int32))
                  · refine Go.via (U' := T129.setTop (mkF m 237 #[.val (.int x0), .val (.int x1), .val (.int x2), .val (.int x3), .val (.int x4), .val (.int (x0 &&& (3 : Int32))), .val (.ref b1), .val (.ref b52), .val (.ref b63), .val (.int (own_h0_180_l9 x0 x1 x2 x3)), .val (.int (own_h0_180_l10 x0 x1 x2 x3))] [])) (fun tG kG => XS.icmpNo X132.here hx rfl (hb hby at_234) rfl (tlt hc234).2.1 kG) ?_
                    have hH237 : own_H (own_h0_48_Ab1 x0 x1 x2 x3) (own_h0_180_l10 x0 x1 x2 x3) (x0 &&& (3 : Int32)) := own_HF x0 x1 x2 x3 (own_nn2 x0 x1 x2 x3) hc234
                    refine Go.via (U' := T129.setTop (mkF m 239 #[.val (.int x0), .val (.int x1), .val (.int x2), .val (.int x3), .val (.int x4), .val (.int (x0 &&& (3 : Int32))), .val (.ref b1), .val (.ref b52), .val (.ref b63), .val (.int (own_h0_180_l9 x0 x1 x2 x3)), .val (.int (own_h0_180_l10 x0 x1 x2 x3))] [(.ref b63)])) (fun tG kG => XS.aload X132.here hx rfl (hb hby at_237) rfl rfl kG) ?_
                    obtain ⟨_, T172, L172, X172, ⟨rfl, N172q, K172q, f173, f174, f175, f176, f177⟩, st172⟩ := callVQ X132 hx hZ hown (hw _ (List.mem_of_getElem? (i := 51) rfl)) (hw _ (List.mem_of_getElem? (i := 52) rfl)) (hw _ (List.mem_of_getElem? (i := 54) rfl)) (hw _ (List.mem_of_getElem? (i := 53) rfl)) (hw _ (List.mem_of_getElem? (i := 28) rfl)) (hw _ (List.mem_of_getElem? (i := 55) rfl)) (by decide) (b := b63) (av := []) f145 (own_rm9 l Z a0 hw [] b63 b1 (x0 &&& (3 : Int32)) (own_h0_180_l10 x0 x1 x2 x3) k1 (own_h0_48_Ab1 x0 x1 x2 x3) h130 n0 Z135 f145 f146 f147 f148 f149 f139 g_b63 (Ne.symm ne_b1_b63) hH237) e133 (pc := 239) (Ls := #[.val (.int x0), .val (.int x1), .val (.int x2), .val (.int x3), .val (.int x4), .val (.int (x0 &&& (3 : Int32))), .val (.ref b1), .val (.ref b52), .val (.ref b63), .val (.int (own_h0_180_l9 x0 x1 x2 x3)), .val (.int (own_h0_180_l10 x0 x1 x2 x3))]) (rest := []) (by rw [hml]; rfl) own_k171 rfl 0 (Nat.le_of_eq rfl) (by decide) (by decide) (by decide) (by decide) (hb hby at_239)
                    have f178 := own_staKeep f137 K172q ((allS (own_plainE f145) all0))
                    have f179 := f138.keep K172q
                    have f180 := f139.keep K172q (ninS ne_b1_b63 nin0)
                    have f181 := f140.keep K172q
                    have f182 := f141.keep K172q
                    have f183 := f142.keep K172q (ninS ne_b53_b63 nin0)
                    have f184 := f143.keep K172q (ninS ne_b52_b63 nin0)
                    have f185 := f144.keep K172q (ninS ne_b52_b63 nin0)
                    have f186 := f145.keep K172q
                    have N172 := Fr.app N134 N172q
                    have Z172 := Nat.le_trans Z135 K172q.1
                    have K172 := K136.trans K172q (allS (Or.inr sz_b63) all0)
                    refine Go.via (U' := T172.setTop (mkF m 242 #[.val (.int x0), .val (.int x1), .val (.int x2), .val (.int x3), .val (.int x4), .val (.int (x0 &&& (3 : Int32))), .val (.ref b1), .val (.ref b52), .val (.ref b63), .val (.int (own_h0_180_l9 x0 x1 x2 x3)), .val (.int (own_h0_180_l10 x0 x1 x2 x3))] [(.long (own_f9 (own_h0_180_l10 x0 x1 x2 x3) (own_h0_48_Ab1 x0 x1 x2 x3)))])) (fun tG kG => st172 tG kG) ?_
                    refine Go.via (U' := T172.setTop (mkF m 243 #[.val (.int x0), .val (.int x1), .val (.int x2), .val (.int x3), .val (.int x4), .val (.int (x0 &&& (3 : Int32))), .val (.ref b1), .val (.ref b52), .val (.ref b63), .val (.int (own_h0_180_l9 x0 x1 x2 x3)), .val (.int (own_h0_180_l10 x0 x1 x2 x3))] [])) (fun tG kG => by jvm_step X172.here [X172.here.top, hx, (hb hby at_242), Value.category]; exact kG) ?_
                    refine Go.via (U' := T172.setTop (mkF m 245 #[.val (.int x0), .val (.int x1), .val (.int x2), .val (.int x3), .val (.int x4), .val (.int (x0 &&& (3 : Int32))), .val (.ref b1), .val (.ref b52), .val (.ref b63), .val (.int (own_h0_180_l9 x0 x1 x2 x3)), .val (.int (own_h0_180_l10 x0 x1 x2 x3))] [(.ref b1)])) (fun tG kG => XS.aload X172.here hx rfl (hb hby at_243) rfl rfl kG) ?_
                    refine Go.via (U' := T172.setTop (mkF m 247 #[.val (.int x0), .val (.int x1), .val (.int x2), .val (.int x3), .val (.int x4), .val (.int (x0 &&& (3 : Int32))), .val (.ref b1), .val (.ref b52), .val (.ref b63), .val (.int (own_h0_180_l9 x0 x1 x2 x3)), .val (.int (own_h0_180_l10 x0 x1 x2 x3))] [(.int (own_h0_180_l10 x0 x1 x2 x3)), (.ref b1)])) (fun tG kG => XS.iload X172.here hx rfl (hb hby at_245) rfl kG) ?_
                    obtain ⟨T187, X187, e187, st187⟩ := callS0 X172 hx hZ hown (hw _ (List.mem_of_getElem? (i := 61) rfl)) (hw _ (List.mem_of_getElem? (i := 62) rfl)) (hw _ (List.mem_of_getElem? (i := 63) rfl)) (hw _ (List.mem_of_getElem? (i := 64) rfl)) (by decide) (av := [(.ref b1), (.int (own_h0_180_l10 x0 x1 x2 x3))]) (own_rm11 l Z a0 hw [] b1 (own_h0_180_l10 x0 x1 x2 x3) k1 (x0 &&& (3 : Int32)) (own_h0_48_Ab1 x0 x1 x2 x3) T172.heap f180 hH237) rfl (pc := 247) (Ls := #[.val (.int x0), .val (.int x1), .val (.int x2), .val (.int x3), .val (.int x4), .val (.int (x0 &&& (3 : Int32))), .val (.ref b1), .val (.ref b52), .val (.ref b63), .val (.int (own_h0_180_l9 x0 x1 x2 x3)), .val (.int (own_h0_180_l10 x0 x1 x2 x3))]) (rest := []) (by rw [hml]; rfl) own_k172 rfl 0 (Nat.le_of_eq rfl) (by decide) (by decide) (by decide) (by decide) (hb hby at_247)
                    refine Go.via (U' := T187.setTop (mkF m 250 #[.val (.int x0), .val (.int x1), .val (.int x2), .val (.int x3), .val (.int x4), .val (.int (x0 &&& (3 : Int32))), .val (.ref b1), .val (.ref b52), .val (.ref b63), .val (.int (own_h0_180_l9 x0 x1 x2 x3)), .val (.int (own_h0_180_l10 x0 x1 x2 x3))] [(.int (own_f11 (own_h0_180_l10 x0 x1 x2 x3) (x0 &&& (3 : Int32)) (own_h0_48_Ab1 x0 x1 x2 x3)))])) (fun tG kG => st187 tG kG) ?_
                    refine Go.via (U' := T187.setTop (mkF m 252 #[.val (.int x0), .val (.int x1), .val (.int x2), .val (.int x3), .val (.int x4), .val (.int (x0 &&& (3 : Int32))), .val (.ref b1), .val (.ref b52), .val (.ref b63), .val (.int (own_h0_180_l9 x0 x1 x2 x3)), .val (.int (own_f11 (own_h0_180_l10 x0 x1 x2 x3) (x0 &&& (3 : Int32)) (own_h0_48_Ab1 x0 x1 x2 x3)))] [])) (fun tG kG => XS.istore X187.here hx rfl (hb hby at_250) rfl (l' := #[.val (.int x0), .val (.int x1), .val (.int x2), .val (.int x3), .val (.int x4), .val (.int (x0 &&& (3 : Int32))), .val (.ref b1), .val (.ref b52), .val (.ref b63), .val (.int (own_h0_180_l9 x0 x1 x2 x3)), .val (.int (own_f11 (own_h0_180_l10 x0 x1 x2 x3) (x0 &&& (3 : Int32)) (own_h0_48_Ab1 x0 x1 x2 x3)))]) rfl kG) ?_
                    have f188 : Fld Z T172.heap b63 "com/example/stokehold/stokehold/wire/ProtoReader" "position" "I" (.int (own_f11 (own_h0_180_l10 x0 x1 x2 x3) (x0 &&& (3 : Int32)) (own_h0_48_Ab1 x0 x1 x2 x3))) := by rw [← own_pq hH237]; exact f177
                    refine Go.via (U' := T187.setTop (mkF m 254 #[.val (.int x0), .val (.int x1), .val (.int x2), .val (.int x3), .val (.int x4), .val (.int (x0 &&& (3 : Int32))), .val (.ref b1), .val (.ref b52), .val (.ref b63), .val (.int (own_h0_180_l9 x0 x1 x2 x3)), .val (.int (own_f11 (own_h0_180_l10 x0 x1 x2 x3) (x0 &&& (3 : Int32)) (own_h0_48_Ab1 x0 x1 x2 x3)))] [(.int (own_h0_180_l9 x0 x1 x2 x3))])) (fun tG kG => XS.iload X187.here hx rfl (hb hby at_252) rfl kG) ?_
                    have J189 : ∀ T' h' L', Stand p l e room_1 s m #[(.int x0), (.int x1), (.int x2), (.int x3), (.int x4)] below meth c T' L' 4 13 → T'.heap = h' → Fr n0 L' → n0 ≤ h'.size → Keep h0 h' [] → Sta Z h' "java/lang/String" "COMPACT_STRINGS" "Z" (.int cz) → Exa Z h' b1 "[B" → Arf Z h' b1 k1 .byte (x0 &&& (3 : Int32)) (own_h0_48_Ab1 x0 x1 x2 x3) → Exa Z h' b52 "java/lang/String" → Exa Z h' b53 "[B" → Arf Z h' b53 k54 .byte (1 : Int32) (own_q3_b1 ((x4 &&& (255 : Int32)).toUInt32.toUInt16.toUInt32.toInt32)) → Fld Z h' b52 "java/lang/String" "value" "[B" (.ref b53) → Fld Z h' b52 "java/lang/String" "coder" "B" (.int (nar .byte (0 : Int32))) → Exa Z h' b63 "com/example/stokehold/stokehold/wire/ProtoReader" → Fld Z h' b63 "com/example/stokehold/stokehold/wire/ProtoReader" "bytes" "[B" (.ref b1) → Fld Z h' b63 "com/example/stokehold/stokehold/wire/ProtoReader" "available" "I" (.int (x0 &&& (3 : Int32))) → Fld Z h' b63 "com/example/stokehold/stokehold/wire/ProtoReader" "end" "I" (.int (x0 &&& (3 : Int32))) → Fld Z h' b63 "com/example/stokehold/stokehold/wire/ProtoReader" "position" "I" (.int (own_f11 (own_h0_180_l10 x0 x1 x2 x3) (x0 &&& (3 : Int32)) (own_h0_48_Ab1 x0 x1 x2 x3))) → Go p e below s room_1.cells room_1.slots (fun v h L => v = some (.int (own_f0 x0 x1 x2 x3 x4)) ∧ Fr n0 L ∧ Keep h0 h []) (T'.setTop (mkF m 282 #[.val (.int x0), .val (.int x1), .val (.int x2), .val (.int x3), .val (.int x4), .val (.int (x0 &&& (3 : Int32))), .val (.ref b1), .val (.ref b52), .val (.ref b63), .val (.int (own_h0_180_l9 x0 x1 x2 x3)), .val (.int (own_f11 (own_h0_180_l10 x0 x1 x2 x3) (x0 &&& (3 : Int32)) (own_h0_48_Ab1 x0 x1 x2 x3)))] [(.int (own_h0_254_s0 x0 x1 x2 x3))])) := by
                      intro T190 h191 L192 X193 e194 N195 Z196 K197 f198 f199 f200 f201 f202 f203 f204 f205 f206 f207 f208 f209 f210
                      refine Go.via (U' := T190.setTop (mkF m 284 #[.val (.int x0), .val (.int x1), .val (.int x2), .val (.int x3), .val (.int x4), .val (.int (x0 &&& (3 : Int32))), .val (.ref b1), .val (.ref b52), .val (.ref b63), .val (.int (own_h0_254_s0 x0 x1 x2 x3)), .val (.int (own_f11 (own_h0_180_l10 x0 x1 x2 x3) (x0 &&& (3 : Int32)) (own_h0_48_Ab1 x0 x1 x2 x3)))] [])) (fun tG kG => XS.istore X193.here hx rfl (hb hby at_282) rfl (l' := #[.val (.int x0), .val (.int x1), .val (.int x2), .val (.int x3), .val (.int x4), .val (.int (x0 &&& (3 : Int32))), .val (.ref b1), .val (.ref b52), .val (.ref b63), .val (.int (own_h0_254_s0 x0 x1 x2 x3)), .val (.int (own_f11 (own_h0_180_l10 x0 x1 x2 x3) (x0 &&& (3 : Int32)) (own_h0_48_Ab1 x0 x1 x2 x3)))]) rfl kG) ?_
                      have q_own_h0_234_l9 : (own_h0_234_l9 x0 x1 x2 x3) = (own_h0_254_s0 x0 x1 x2 x3) := by unfold own_h0_234_l9; simp only [if_pos hc234]
                      have q_own_h0_234_l10 : (own_h0_234_l10 x0 x1 x2 x3) = (own_f11 (own_h0_180_l10 x0 x1 x2 x3) (x0 &&& (3 : Int32)) (own_h0_48_Ab1 x0 x1 x2 x3)) := by unfold own_h0_234_l10; simp only [if_pos hc234]
                      have q_own_h0_234_l10 : (own_h0_234_l10 x0 x1 x2 x3) = (own_f11 (own_h0_180_l10 x0 x1 x2 x3) (x0 &&& (3 : Int32)) (own_h0_48_Ab1 x0 x1 x2 x3)) := by unfold own_h0_234_l10; simp only [if_pos hc234]
                      have q_J := J150 T190 _ _ X193 e194 N195 Z196 K197 f198 f199 f200 f201 f202 f203 f204 f205 f206 f207 f208 f209 (by rw [q_own_h0_234_l10]; exact f210)
                      rw [q_own_h0_234_l9, q_own_h0_234_l10] at q_J
                      exact q_J
                    by_cases hc254 : (own_h0_180_l9 x0 x1 x2 x3) = (0 : Int32)
                    · refine Go.via (U' := T187.setTop (mkF m 281 #[.val (.int x0), .val (.int x1), .val (.int x2), .val (.int x3), .val (.int x4), .val (.int (x0 &&& (3 : Int32))), .val (.ref b1), .val (.ref b52), .val (.ref b63), .val (.int (own_h0_180_l9 x0 x1 x2 x3)), .val (.int (own_f11 (own_h0_180_l10 x0 x1 x2 x3) (x0 &&& (3 : Int32)) (own_h0_48_Ab1 x0 x1 x2 x3)))] [])) (fun tG kG => XS.ifYes X187.here hx rfl (pc0 := 254) (pc' := 281) rfl (hb hby at_254) rfl ((if0 _ _).trans (teq hc254).1) (by decide) (by decide) kG) ?_
                      refine Go.via (U' := T187.setTop (mkF m 282 #[.val (.int x0), .val (.int x1), .val (.int x2), .val (.int x3), .val (.int x4), .val (.int (x0 &&& (3 : Int32))), .val (.ref b1), .val (.ref b52), .val (.ref b63), .val (.int (own_h0_180_l9 x0 x1 x2 x3)), .val (.int (own_f11 (own_h0_180_l10 x0 x1 x2 x3) (x0 &&& (3 : Int32)) (own_h0_48_Ab1 x0 x1 x2 x3)))] [(.int (0 : Int32))])) (fun tG kG => XS.iconst X187.here hx rfl (hb hby at_281) kG) ?_
                      have q_own_h0_254_s0 : (own_h0_254_s0 x0 x1 x2 x3) = (0 : Int32) := by unfold own_h0_254_s0; simp only [if_pos hc254]
                      have q_J := J189 T187 _ _ X187 e187 N172 Z172 K172 f178 f179 f180 f181 f182 f183 f184 f185 f173 f174 f175 f176 f188
                      rw [q_own_h0_254_s0] at q_J
                      exact q_J
                    · refine Go.via (U' := T187.setTop (mkF m 257 #[.val (.int x0), .val (.int x1), .val (.int x2), .val (.int x3), .val (.int x4), .val (.int (x0 &&& (3 : Int32))), .val (.ref b1), .val (.ref b52), .val (.ref b63), .val (.int (own_h0_180_l9 x0 x1 x2 x3)), .val (.int (own_f11 (own_h0_180_l10 x0 x1 x2 x3) (x0 &&& (3 : Int32)) (own_h0_48_Ab1 x0 x1 x2 x3)))] [])) (fun tG kG => XS.ifNo X187.here hx rfl (hb hby at_254) rfl ((if0 _ _).trans (feq hc254).1) kG) ?_
                      refine Go.via (U' := T187.setTop (mkF m 259 #[.val (.int x0), .val (.int x1), .val (.int x2), .val (.int x3), .val (.int x4), .val (.int (x0 &&& (3 : Int32))), .val (.ref b1), .val (.ref b52), .val (.ref b63), .val (.int (own_h0_180_l9 x0 x1 x2 x3)), .val (.int (own_f11 (own_h0_180_l10 x0 x1 x2 x3) (x0 &&& (3 : Int32)) (own_h0_48_Ab1 x0 x1 x2 x3)))] [(.ref b63)])) (fun tG kG => XS.aload X187.here hx rfl (hb hby at_257) rfl rfl kG) ?_
                      obtain ⟨T211, X211, e211, st211⟩ := callV0 X187 hx hZ hown (hw _ (List.mem_of_getElem? (i := 44) rfl)) (hw _ (List.mem_of_getElem? (i := 45) rfl)) (hw _ (List.mem_of_getElem? (i := 47) rfl)) (hw _ (List.mem_of_getElem? (i := 46) rfl)) (hw _ (List.mem_of_getElem? (i := 28) rfl)) (hw _ (List.mem_of_getElem? (i := 48) rfl)) (by decide) (b := b63) (av := []) f173 (own_rm8 l Z a0 hw [] b63 (own_f11 (own_h0_180_l10 x0 x1 x2 x3) (x0 &&& (3 : Int32)) (own_h0_48_Ab1 x0 x1 x2 x3)) (x0 &&& (3 : Int32)) T172.heap f188 f176) e187 (pc := 259) (Ls := #[.val (.int x0), .val (.int x1), .val (.int x2), .val (.int x3), .val (.int x4), .val (.int (x0 &&& (3 : Int32))), .val (.ref b1), .val (.ref b52), .val (.ref b63), .val (.int (own_h0_180_l9 x0 x1 x2 x3)), .val (.int (own_f11 (own_h0_180_l10 x0 x1 x2 x3) (x0 &&& (3 : Int32)) (own_h0_48_Ab1 x0 x1 x2 x3)))]) (rest := []) (by rw [hml]; rfl) own_k101 rfl 0 (Nat.le_of_eq rfl) (by decide) (by decide) (by decide) (by decide) (hb hby at_259)
                      refine Go.via (U' := T211.setTop (mkF m 262 #[.val (.int x0), .val (.int x1), .val (.int x2), .val (.int x3), .val (.int x4), .val (.int (x0 &&& (3 : Int32))), .val (.ref b1), .val (.ref b52), .val (.ref b63), .val (.int (own_h0_180_l9 x0 x1 x2 x3)), .val (.int (own_f11 (own_h0_180_l10 x0 x1 x2 x3) (x0 &&& (3 : Int32)) (own_h0_48_Ab1 x0 x1 x2 x3)))] [(.int (own_f8 (own_f11 (own_h0_180_l10 x0 x1 x2 x3) (x0 &&& (3 : Int32)) (own_h0_48_Ab1 x0 x1 x2 x3)) (x0 &&& (3 : Int32))))])) (fun tG kG => st211 tG kG) ?_
                      refine Go.via (U' := T211.setTop (mkF m 264 #[.val (.int x0), .val (.int x1), .val (.int x2), .val (.int x3), .val (.int x4), .val (.int (x0 &&& (3 : Int32))), .val (.ref b1), .val (.ref b52), .val (.ref b63), .val (.int (own_h0_180_l9 x0 x1 x2 x3)), .val (.int (own_f11 (own_h0_180_l10 x0 x1 x2 x3) (x0 &&& (3 : Int32)) (own_h0_48_Ab1 x0 x1 x2 x3)))] [(.int (own_f11 (own_h0_180_l10 x0 x1 x2 x3) (x0 &&& (3 : Int32)) (own_h0_48_Ab1 x0 x1 x2 x3))), (.int (own_f8 (own_f11 (own_h0_180_l10 x0 x1 x2 x3) (x0 &&& (3 : Int32)) (own_h0_48_Ab1 x0 x1 x2 x3)) (x0 &&& (3 : Int32))))])) (fun tG kG => XS.iload X211.here hx rfl (hb hby at_262) rfl kG) ?_
                      refine Go.via (U' := T211.setTop (mkF m 266 #[.val (.int x0), .val (.int x1), .val (.int x2), .val (.int x3), .val (.int x4), .val (.int (x0 &&& (3 : Int32))), .val (.ref b1), .val (.ref b52), .val (.ref b63), .val (.int (own_h0_180_l9 x0 x1 x2 x3)), .val (.int (own_f11 (own_h0_180_l10 x0 x1 x2 x3) (x0 &&& (3 : Int32)) (own_h0_48_Ab1 x0 x1 x2 x3)))] [(.int (x0 &&& (3 : Int32))), (.int (own_f11 (own_h0_180_l10 x0 x1 x2 x3) (x0 &&& (3 : Int32)) (own_h0_48_Ab1 x0 x1 x2 x3))), (.int (own_f8 (own_f11 (own_h0_180_l10 x0 x1 x2 x3) (x0 &&& (3 : Int32)) (own_h0_48_Ab1 x0 x1 x2 x3)) (x0 &&& (3 : Int32))))])) (fun tG kG => XS.iload X211.here hx rfl (hb hby at_264) rfl kG) ?_
                      have J212 : ∀ T' L', Stand p l e room_1 s m #[(.int x0), (.int x1), (.int x2), (.int x3), (.int x4)] below meth c T' L' 4 13 → T'.heap = T172.heap → Fr n0 L' → Go p e below s room_1.cells room_1.slots (fun v h L => v = some (.int (own_f0 x0 x1 x2 x3 x4)) ∧ Fr n0 L ∧ Keep h0 h []) (T'.setTop (mkF m 274 #[.val (.int x0), .val (.int x1), .val (.int x2), .val (.int x3), .val (.int x4), .val (.int (x0 &&& (3 : Int32))), .val (.ref b1), .val (.ref b52), .val (.ref b63), .val (.int (own_h0_180_l9 x0 x1 x2 x3)), .val (.int (own_f11 (own_h0_180_l10 x0 x1 x2 x3) (x0 &&& (3 : Int32)) (own_h0_48_Ab1 x0 x1 x2 x3)))] [(.int (own_j0_266_s0 x0 x1 x2 x3)), (.int (own_f8 (own_f11 (own_h0_180_l10 x0 x1 x2 x3) (x0 &&& (3 : Int32)) (own_h0_48_Ab1 x0 x1 x2 x3)) (x0 &&& (3 : Int32))))])) := by
                        intro T213 L216 X214 e215 N217
                        by_cases hc274 : (own_f8 (own_f11 (own_h0_180_l10 x0 x1 x2 x3) (x0 &&& (3 : Int32)) (own_h0_48_Ab1 x0 x1 x2 x3)) (x0 &&& (3 : Int32))) = (own_j0_266_s0 x0 x1 x2 x3)
                        · refine Go.via (U' := T213.setTop (mkF m 277 #[.val (.int x0), .val (.int x1), .val (.int x2), .val (.int x3), .val (.int x4), .val (.int (x0 &&& (3 : Int32))), .val (.ref b1), .val (.ref b52), .val (.ref b63), .val (.int (own_h0_180_l9 x0 x1 x2 x3)), .val (.int (own_f11 (own_h0_180_l10 x0 x1 x2 x3) (x0 &&& (3 : Int32)) (own_h0_48_Ab1 x0 x1 x2 x3)))] [])) (fun tG kG => XS.icmpNo X214.here hx rfl (hb hby at_274) rfl (teq hc274).2 kG) ?_
                          refine Go.via (U' := T213.setTop (mkF m 278 #[.val (.int x0), .val (.int x1), .val (.int x2), .val (.int x3), .val (.int x4), .val (.int (x0 &&& (3 : Int32))), .val (.ref b1), .val (.ref b52), .val (.ref b63), .val (.int (own_h0_180_l9 x0 x1 x2 x3)), .val (.int (own_f11 (own_h0_180_l10 x0 x1 x2 x3) (x0 &&& (3 : Int32)) (own_h0_48_Ab1 x0 x1 x2 x3)))] [(.int (1 : Int32))])) (fun tG kG => XS.iconst X214.here hx rfl (hb hby at_277) kG) ?_
                          refine Go.via (U' := T213.setTop (mkF m 282 #[.val (.int x0), .val (.int x1), .val (.int x2), .val (.int x3), .val (.int x4), .val (.int (x0 &&& (3 : Int32))), .val (.ref b1), .val (.ref b52), .val (.ref b63), .val (.int (own_h0_180_l9 x0 x1 x2 x3)), .val (.int (own_f11 (own_h0_180_l10 x0 x1 x2 x3) (x0 &&& (3 : Int32)) (own_h0_48_Ab1 x0 x1 x2 x3)))] [(.int (1 : Int32))])) (fun tG kG => XS.goto X214.here hx rfl (pc0 := 278) (pc' := 282) rfl (hb hby at_278) (by decide) (by decide) kG) ?_
                          have q_own_h0_254_s0 : (own_h0_254_s0 x0 x1 x2 x3) = (1 : Int32) := by unfold own_h0_254_s0; simp only [if_neg hc254, if_pos hc274]
                          have q_J := J189 T213 _ _ X214 e215 N217 Z172 K172 f178 f179 f180 f181 f182 f183 f184 f185 f173 f174 f175 f176 f188
                          rw [q_own_h0_254_s0] at q_J
                          exact q_J
                        · refine Go.via (U' := T213.setTop (mkF m 281 #[.val (.int x0), .val (.int x1), .val (.int x2), .val (.int x3), .val (.int x4), .val (.int (x0 &&& (3 : Int32))), .val (.ref b1), .val (.ref b52), .val (.ref b63), .val (.int (own_h0_180_l9 x0 x1 x2 x3)), .val (.int (own_f11 (own_h0_180_l10 x0 x1 x2 x3) (x0 &&& (3 : Int32)) (own_h0_48_Ab1 x0 x1 x2 x3)))] [])) (fun tG kG => XS.icmpYes X214.here hx rfl (pc0 := 274) (pc' := 281) rfl (hb hby at_274) rfl (feq hc274).2 (by decide) (by decide) kG) ?_
                          refine Go.via (U' := T213.setTop (mkF m 282 #[.val (.int x0), .val (.int x1), .val (.int x2), .val (.int x3), .val (.int x4), .val (.int (x0 &&& (3 : Int32))), .val (.ref b1), .val (.ref b52), .val (.ref b63), .val (.int (own_h0_180_l9 x0 x1 x2 x3)), .val (.int (own_f11 (own_h0_180_l10 x0 x1 x2 x3) (x0 &&& (3 : Int32)) (own_h0_48_Ab1 x0 x1 x2 x3)))] [(.int (0 : Int32))])) (fun tG kG => XS.iconst X214.here hx rfl (hb hby at_281) kG) ?_
                          have q_own_h0_254_s0 : (own_h0_254_s0 x0 x1 x2 x3) = (0 : Int32) := by unfold own_h0_254_s0; simp only [if_neg hc254, if_neg hc274]
                          have q_J := J189 T213 _ _ X214 e215 N217 Z172 K172 f178 f179 f180 f181 f182 f183 f184 f185 f173 f174 f175 f176 f188
                          rw [q_own_h0_254_s0] at q_J
                          exact q_J
                      by_cases hc266 : (own_f11 (own_h0_180_l10 x0 x1 x2 x3) (x0 &&& (3 : Int32)) (own_h0_48_Ab1 x0 x1 x2 x3)) = (x0 &&& (3 : Int32))
                      · refine Go.via (U' := T211.setTop (mkF m 269 #[.val (.int x0), .val (.int x1), .val (.int x2), .val (.int x3), .val (.int x4), .val (.int (x0 &&& (3 : Int32))), .val (.ref b1), .val (.ref b52), .val (.ref b63), .val (.int (own_h0_180_l9 x0 x1 x2 x3)), .val (.int (own_f11 (own_h0_180_l10 x0 x1 x2 x3) (x0 &&& (3 : Int32)) (own_h0_48_Ab1 x0 x1 x2 x3)))] [(.int (own_f8 (own_f11 (own_h0_180_l10 x0 x1 x2 x3) (x0 &&& (3 : Int32)) (own_h0_48_Ab1 x0 x1 x2 x3)) (x0 &&& (3 : Int32))))])) (fun tG kG => XS.icmpNo X211.here hx rfl (hb hby at_266) rfl (teq hc266).2 kG) ?_
                        refine Go.via (U' := T211.setTop (mkF m 270 #[.val (.int x0), .val (.int x1), .val (.int x2), .val (.int x3), .val (.int x4), .val (.int (x0 &&& (3 : Int32))), .val (.ref b1), .val (.ref b52), .val (.ref b63), .val (.int (own_h0_180_l9 x0 x1 x2 x3)), .val (.int (own_f11 (own_h0_180_l10 x0 x1 x2 x3) (x0 &&& (3 : Int32)) (own_h0_48_Ab1 x0 x1 x2 x3)))] [(.int (1 : Int32)), (.int (own_f8 (own_f11 (own_h0_180_l10 x0 x1 x2 x3) (x0 &&& (3 : Int32)) (own_h0_48_Ab1 x0 x1 x2 x3)) (x0 &&& (3 : Int32))))])) (fun tG kG => XS.iconst X211.here hx rfl (hb hby at_269) kG) ?_
                        refine Go.via (U' := T211.setTop (mkF m 274 #[.val (.int x0), .val (.int x1), .val (.int x2), .val (.int x3), .val (.int x4), .val (.int (x0 &&& (3 : Int32))), .val (.ref b1), .val (.ref b52), .val (.ref b63), .val (.int (own_h0_180_l9 x0 x1 x2 x3)), .val (.int (own_f11 (own_h0_180_l10 x0 x1 x2 x3) (x0 &&& (3 : Int32)) (own_h0_48_Ab1 x0 x1 x2 x3)))] [(.int (1 : Int32)), (.int (own_f8 (own_f11 (own_h0_180_l10 x0 x1 x2 x3) (x0 &&& (3 : Int32)) (own_h0_48_Ab1 x0 x1 x2 x3)) (x0 &&& (3 : Int32))))])) (fun tG kG => XS.goto X211.here hx rfl (pc0 := 270) (pc' := 274) rfl (hb hby at_270) (by decide) (by decide) kG) ?_
                        have q_own_j0_266_s0 : (own_j0_266_s0 x0 x1 x2 x3) = (1 : Int32) := by unfold own_j0_266_s0; simp only [if_pos hc266]
                        have q_J := J212 T211 _ X211 e211 N172
                        rw [q_own_j0_266_s0] at q_J
                        exact q_J
                      · refine Go.via (U' := T211.setTop (mkF m 273 #[.val (.int x0), .val (.int x1), .val (.int x2), .val (.int x3), .val (.int x4), .val (.int (x0 &&& (3 : Int32))), .val (.ref b1), .val (.ref b52), .val (.ref b63), .val (.int (own_h0_180_l9 x0 x1 x2 x3)), .val (.int (own_f11 (own_h0_180_l10 x0 x1 x2 x3) (x0 &&& (3 : Int32)) (own_h0_48_Ab1 x0 x1 x2 x3)))] [(.int (own_f8 (own_f11 (own_h0_180_l10 x0 x1 x2 x3) (x0 &&& (3 : Int32)) (own_h0_48_Ab1 x0 x1 x2 x3)) (x0 &&& (3 : Int32))))])) (fun tG kG => XS.icmpYes X211.here hx rfl (pc0 := 266) (pc' := 273) rfl (hb hby at_266) rfl (feq hc266).2 (by decide) (by decide) kG) ?_
                        refine Go.via (U' := T211.setTop (mkF m 274 #[.val (.int x0), .val (.int x1), .val (.int x2), .val (.int x3), .val (.int x4), .val (.int (x0 &&& (3 : Int32))), .val (.ref b1), .val (.ref b52), .val (.ref b63), .val (.int (own_h0_180_l9 x0 x1 x2 x3)), .val (.int (own_f11 (own_h0_180_l10 x0 x1 x2 x3) (x0 &&& (3 : Int32)) (own_h0_48_Ab1 x0 x1 x2 x3)))] [(.int (0 : Int32)), (.int (own_f8 (own_f11 (own_h0_180_l10 x0 x1 x2 x3) (x0 &&& (3 : Int32)) (own_h0_48_Ab1 x0 x1 x2 x3)) (x0 &&& (3 : Int32))))])) (fun tG kG => XS.iconst X211.here hx rfl (hb hby at_273) kG) ?_
                        have q_own_j0_266_s0 : (own_j0_266_s0 x0 x1 x2 x3) = (0 : Int32) := by unfold own_j0_266_s0; simp only [if_neg hc266]
                        have q_J := J212 T211 _ X211 e211 N172
                        rw [q_own_j0_266_s0] at q_J
                        exact q_J
                  · refine Go.via (U' := T129.setTop (mkF m 284 #[.val (.int x0), .val (.int x1), .val (.int x2), .val (.int x3), .val (.int x4), .val (.int (x0 &&& (3 : Int32))), .val (.ref b1), .val (.ref b52), .val (.ref b63), .val (.int (own_h0_180_l9 x0 x1 x2 x3)), .val (.int (own_h0_180_l10 x0 x1 x2 x3))] [])) (fun tG kG => XS.icmpYes X132.here hx rfl (pc0 := 234) (pc' := 284) rfl (hb hby at_234) rfl (flt hc234).2.1 (by decide) (by decide) kG) ?_
                    have q_own_h0_234_l9 : (own_h0_234_l9 x0 x1 x2 x3) = (own_h0_180_l9 x0 x1 x2 x3) := by unfold own_h0_234_l9; simp only [if_neg hc234]
                    have q_own_h0_234_l10 : (own_h0_234_l10 x0 x1 x2 x3) = (own_h0_180_l10 x0 x1 x2 x3) := by unfold own_h0_234_l10; simp only [if_neg hc234]
                    have q_own_h0_234_l10 : (own_h0_234_l10 x0 x1 x2 x3) = (own_h0_180_l10 x0 x1 x2 x3) := by unfold own_h0_234_l10; simp only [if_neg hc234]
                    have q_J := J150 T129 _ _ X132 e133 N134 Z135 K136 f137 f138 f139 f140 f141 f142 f143 f144 f145 f146 f147 f148 (by rw [q_own_h0_234_l10]; exact f149)
                    rw [q_own_h0_234_l9, q_own_h0_234_l10] at q_J
                    exact q_J
                by_cases hc180 : (own_h0_126_l10 x0 x1 x2 x3) < (x0 &&& (3 : Int32))
                · refine Go.via (U' := T107.setTop (mkF m 183 #[.val (.int x0), .val (.int x1), .val (.int x2), .val (.int x3), .val (.int x4), .val (.int (x0 &&& (3 : Int32))), .val (.ref b1), .val (.ref b52), .val (.ref b63), .val (.int (own_h0_126_l9 x0 x1 x2 x3)), .val (.int (own_h0_126_l10 x0 x1 x2 x3))] [])) (fun tG kG => XS.icmpNo X110.here hx rfl (hb hby at_180) rfl (tlt hc180).2.1 kG) ?_
                  have hH183 : own_H (own_h0_48_Ab1 x0 x1 x2 x3) (own_h0_126_l10 x0 x1 x2 x3) (x0 &&& (3 : Int32)) := own_HF x0 x1 x2 x3 (own_nn1 x0 x1 x2 x3) hc180
                  refine Go.via (U' := T107.setTop (mkF m 185 #[.val (.int x0), .val (.int x1), .val (.int x2), .val (.int x3), .val (.int x4), .val (.int (x0 &&& (3 : Int32))), .val (.ref b1), .val (.ref b52), .val (.ref b63), .val (.int (own_h0_126_l9 x0 x1 x2 x3)), .val (.int (own_h0_126_l10 x0 x1 x2 x3))] [(.ref b63)])) (fun tG kG => XS.aload X110.here hx rfl (hb hby at_183) rfl rfl kG) ?_
                  obtain ⟨_, T218, L218, X218, ⟨rfl, N218q, K218q, f219, f220, f221, f222, f223⟩, st218⟩ := callVQ X110 hx hZ hown (hw _ (List.mem_of_getElem? (i := 51) rfl)) (hw _ (List.mem_of_getElem? (i := 52) rfl)) (hw _ (List.mem_of_getElem? (i := 54) rfl)) (hw _ (List.mem_of_getElem? (i := 53) rfl)) (hw _ (List.mem_of_getElem? (i := 28) rfl)) (hw _ (List.mem_of_getElem? (i := 55) rfl)) (by decide) (b := b63) (av := []) f123 (own_rm9 l Z a0 hw [] b63 b1 (x0 &&& (3 : Int32)) (own_h0_126_l10 x0 x1 x2 x3) k1 (own_h0_48_Ab1 x0 x1 x2 x3) h108 n0 Z113 f123 f124 f125 f126 f127 f117 g_b63 (Ne.symm ne_b1_b63) hH183) e111 (pc := 185) (Ls := #[.val (.int x0), .val (.int x1), .val (.int x2), .val (.int x3), .val (.int x4), .val (.int (x0 &&& (3 : Int32))), .val (.ref b1), .val (.ref b52), .val (.ref b63), .val (.int (own_h0_126_l9 x0 x1 x2 x3)), .val (.int (own_h0_126_l10 x0 x1 x2 x3))]) (rest := []) (by rw [hml]; rfl) own_k171 rfl 0 (Nat.le_of_eq rfl) (by decide) (by decide) (by decide) (by decide) (hb hby at_185)
                  have f224 := own_staKeep f115 K218q ((allS (own_plainE f123) all0))
                  have f225 := f116.keep K218q
                  have f226 := f117.keep K218q (ninS ne_b1_b63 nin0)
                  have f227 := f118.keep K218q
                  have f228 := f119.keep K218q
                  have f229 := f120.keep K218q (ninS ne_b53_b63 nin0)
                  have f230 := f121.keep K218q (ninS ne_b52_b63 nin0)
                  have f231 := f122.keep K218q (ninS ne_b52_b63 nin0)
                  have f232 := f123.keep K218q
                  have N218 := Fr.app N112 N218q
                  have Z218 := Nat.le_trans Z113 K218q.1
                  have K218 := K114.trans K218q (allS (Or.inr sz_b63) all0)
                  refine Go.via (U' := T218.setTop (mkF m 188 #[.val (.int x0), .val (.int x1), .val (.int x2), .val (.int x3), .val (.int x4), .val (.int (x0 &&& (3 : Int32))), .val (.ref b1), .val (.ref b52), .val (.ref b63), .val (.int (own_h0_126_l9 x0 x1 x2 x3)), .val (.int (own_h0_126_l10 x0 x1 x2 x3))] [(.long (own_f9 (own_h0_126_l10 x0 x1 x2 x3) (own_h0_48_Ab1 x0 x1 x2 x3)))])) (fun tG kG => st218 tG kG) ?_
                  refine Go.via (U' := T218.setTop (mkF m 189 #[.val (.int x0), .val (.int x1), .val (.int x2), .val (.int x3), .val (.int x4), .val (.int (x0 &&& (3 : Int32))), .val (.ref b1), .val (.ref b52), .val (.ref b63), .val (.int (own_h0_126_l9 x0 x1 x2 x3)), .val (.int (own_h0_126_l10 x0 x1 x2 x3))] [])) (fun tG kG => by jvm_step X218.here [X218.here.top, hx, (hb hby at_188), Value.category]; exact kG) ?_
                  refine Go.via (U' := T218.setTop (mkF m 191 #[.val (.int x0), .val (.int x1), .val (.int x2), .val (.int x3), .val (.int x4), .val (.int (x0 &&& (3 : Int32))), .val (.ref b1), .val (.ref b52), .val (.ref b63), .val (.int (own_h0_126_l9 x0 x1 x2 x3)), .val (.int (own_h0_126_l10 x0 x1 x2 x3))] [(.ref b1)])) (fun tG kG => XS.aload X218.here hx rfl (hb hby at_189) rfl rfl kG) ?_
                  refine Go.via (U' := T218.setTop (mkF m 193 #[.val (.int x0), .val (.int x1), .val (.int x2), .val (.int x3), .val (.int x4), .val (.int (x0 &&& (3 : Int32))), .val (.ref b1), .val (.ref b52), .val (.ref b63), .val (.int (own_h0_126_l9 x0 x1 x2 x3)), .val (.int (own_h0_126_l10 x0 x1 x2 x3))] [(.int (own_h0_126_l10 x0 x1 x2 x3)), (.ref b1)])) (fun tG kG => XS.iload X218.here hx rfl (hb hby at_191) rfl kG) ?_
                  obtain ⟨T233, X233, e233, st233⟩ := callS0 X218 hx hZ hown (hw _ (List.mem_of_getElem? (i := 61) rfl)) (hw _ (List.mem_of_getElem? (i := 62) rfl)) (hw _ (List.mem_of_getElem? (i := 63) rfl)) (hw _ (List.mem_of_getElem? (i := 64) rfl)) (by decide) (av := [(.ref b1), (.int (own_h0_126_l10 x0 x1 x2 x3))]) (own_rm11 l Z a0 hw [] b1 (own_h0_126_l10 x0 x1 x2 x3) k1 (x0 &&& (3 : Int32)) (own_h0_48_Ab1 x0 x1 x2 x3) T218.heap f226 hH183) rfl (pc := 193) (Ls := #[.val (.int x0), .val (.int x1), .val (.int x2), .val (.int x3), .val (.int x4), .val (.int (x0 &&& (3 : Int32))), .val (.ref b1), .val (.ref b52), .val (.ref b63), .val (.int (own_h0_126_l9 x0 x1 x2 x3)), .val (.int (own_h0_126_l10 x0 x1 x2 x3))]) (rest := []) (by rw [hml]; rfl) own_k172 rfl 0 (Nat.le_of_eq rfl) (by decide) (by decide) (by decide) (by decide) (hb hby at_193)
                  refine Go.via (U' := T233.setTop (mkF m 196 #[.val (.int x0), .val (.int x1), .val (.int x2), .val (.int x3), .val (.int x4), .val (.int (x0 &&& (3 : Int32))), .val (.ref b1), .val (.ref b52), .val (.ref b63), .val (.int (own_h0_126_l9 x0 x1 x2 x3)), .val (.int (own_h0_126_l10 x0 x1 x2 x3))] [(.int (own_f11 (own_h0_126_l10 x0 x1 x2 x3) (x0 &&& (3 : Int32)) (own_h0_48_Ab1 x0 x1 x2 x3)))])) (fun tG kG => st233 tG kG) ?_
                  refine Go.via (U' := T233.setTop (mkF m 198 #[.val (.int x0), .val (.int x1), .val (.int x2), .val (.int x3), .val (.int x4), .val (.int (x0 &&& (3 : Int32))), .val (.ref b1), .val (.ref b52), .val (.ref b63), .val (.int (own_h0_126_l9 x0 x1 x2 x3)), .val (.int (own_f11 (own_h0_126_l10 x0 x1 x2 x3) (x0 &&& (3 : Int32)) (own_h0_48_Ab1 x0 x1 x2 x3)))] [])) (fun tG kG => XS.istore X233.here hx rfl (hb hby at_196) rfl (l' := #[.val (.int x0), .val (.int x1), .val (.int x2), .val (.int x3), .val (.int x4), .val (.int (x0 &&& (3 : Int32))), .val (.ref b1), .val (.ref b52), .val (.ref b63), .val (.int (own_h0_126_l9 x0 x1 x2 x3)), .val (.int (own_f11 (own_h0_126_l10 x0 x1 x2 x3) (x0 &&& (3 : Int32)) (own_h0_48_Ab1 x0 x1 x2 x3)))]) rfl kG) ?_
                  have f234 : Fld Z T218.heap b63 "com/example/stokehold/stokehold/wire/ProtoReader" "position" "I" (.int (own_f11 (own_h0_126_l10 x0 x1 x2 x3) (x0 &&& (3 : Int32)) (own_h0_48_Ab1 x0 x1 x2 x3))) := by rw [← own_pq hH183]; exact f223
                  refine Go.via (U' := T233.setTop (mkF m 200 #[.val (.int x0), .val (.int x1), .val (.int x2), .val (.int x3), .val (.int x4), .val (.int (x0 &&& (3 : Int32))), .val (.ref b1), .val (.ref b52), .val (.ref b63), .val (.int (own_h0_126_l9 x0 x1 x2 x3)), .val (.int (own_f11 (own_h0_126_l10 x0 x1 x2 x3) (x0 &&& (3 : Int32)) (own_h0_48_Ab1 x0 x1 x2 x3)))] [(.int (own_h0_126_l9 x0 x1 x2 x3))])) (fun tG kG => XS.iload X233.here hx rfl (hb hby at_198) rfl kG) ?_
                  have J235 : ∀ T' h' L', Stand p l e room_1 s m #[(.int x0), (.int x1), (.int x2), (.int x3), (.int x4)] below meth c T' L' 4 13 → T'.heap = h' → Fr n0 L' → n0 ≤ h'.size → Keep h0 h' [] → Sta Z h' "java/lang/String" "COMPACT_STRINGS" "Z" (.int cz) → Exa Z h' b1 "[B" → Arf Z h' b1 k1 .byte (x0 &&& (3 : Int32)) (own_h0_48_Ab1 x0 x1 x2 x3) → Exa Z h' b52 "java/lang/String" → Exa Z h' b53 "[B" → Arf Z h' b53 k54 .byte (1 : Int32) (own_q3_b1 ((x4 &&& (255 : Int32)).toUInt32.toUInt16.toUInt32.toInt32)) → Fld Z h' b52 "java/lang/String" "value" "[B" (.ref b53) → Fld Z h' b52 "java/lang/String" "coder" "B" (.int (nar .byte (0 : Int32))) → Exa Z h' b63 "com/example/stokehold/stokehold/wire/ProtoReader" → Fld Z h' b63 "com/example/stokehold/stokehold/wire/ProtoReader" "bytes" "[B" (.ref b1) → Fld Z h' b63 "com/example/stokehold/stokehold/wire/ProtoReader" "available" "I" (.int (x0 &&& (3 : Int32))) → Fld Z h' b63 "com/example/stokehold/stokehold/wire/ProtoReader" "end" "I" (.int (x0 &&& (3 : Int32))) → Fld Z h' b63 "com/example/stokehold/stokehold/wire/ProtoReader" "position" "I" (.int (own_f11 (own_h0_126_l10 x0 x1 x2 x3) (x0 &&& (3 : Int32)) (own_h0_48_Ab1 x0 x1 x2 x3))) → Go p e below s room_1.cells room_1.slots (fun v h L => v = some (.int (own_f0 x0 x1 x2 x3 x4)) ∧ Fr n0 L ∧ Keep h0 h []) (T'.setTop (mkF m 228 #[.val (.int x0), .val (.int x1), .val (.int x2), .val (.int x3), .val (.int x4), .val (.int (x0 &&& (3 : Int32))), .val (.ref b1), .val (.ref b52), .val (.ref b63), .val (.int (own_h0_126_l9 x0 x1 x2 x3)), .val (.int (own_f11 (own_h0_126_l10 x0 x1 x2 x3) (x0 &&& (3 : Int32)) (own_h0_48_Ab1 x0 x1 x2 x3)))] [(.int (own_h0_200_s0 x0 x1 x2 x3))])) := by
                    intro T236 h237 L238 X239 e240 N241 Z242 K243 f244 f245 f246 f247 f248 f249 f250 f251 f252 f253 f254 f255 f256
                    refine Go.via (U' := T236.setTop (mkF m 230 #[.val (.int x0), .val (.int x1), .val (.int x2), .val (.int x3), .val (.int x4), .val (.int (x0 &&& (3 : Int32))), .val (.ref b1), .val (.ref b52), .val (.ref b63), .val (.int (own_h0_200_s0 x0 x1 x2 x3)), .val (.int (own_f11 (own_h0_126_l10 x0 x1 x2 x3) (x0 &&& (3 : Int32)) (own_h0_48_Ab1 x0 x1 x2 x3)))] [])) (fun tG kG => XS.istore X239.here hx rfl (hb hby at_228) rfl (l' := #[.val (.int x0), .val (.int x1), .val (.int x2), .val (.int x3), .val (.int x4), .val (.int (x0 &&& (3 : Int32))), .val (.ref b1), .val (.ref b52), .val (.ref b63), .val (.int (own_h0_200_s0 x0 x1 x2 x3)), .val (.int (own_f11 (own_h0_126_l10 x0 x1 x2 x3) (x0 &&& (3 : Int32)) (own_h0_48_Ab1 x0 x1 x2 x3)))]) rfl kG) ?_
                    have q_own_h0_180_l9 : (own_h0_180_l9 x0 x1 x2 x3) = (own_h0_200_s0 x0 x1 x2 x3) := by unfold own_h0_180_l9; simp only [if_pos hc180]
                    have q_own_h0_180_l10 : (own_h0_180_l10 x0 x1 x2 x3) = (own_f11 (own_h0_126_l10 x0 x1 x2 x3) (x0 &&& (3 : Int32)) (own_h0_48_Ab1 x0 x1 x2 x3)) := by unfold own_h0_180_l10; simp only [if_pos hc180]
                    have q_own_h0_180_l10 : (own_h0_180_l10 x0 x1 x2 x3) = (own_f11 (own_h0_126_l10 x0 x1 x2 x3) (x0 &&& (3 : Int32)) (own_h0_48_Ab1 x0 x1 x2 x3)) := by unfold own_h0_180_l10; simp only [if_pos hc180]
                    have q_J := J128 T236 _ _ X239 e240 N241 Z242 K243 f244 f245 f246 f247 f248 f249 f250 f251 f252 f253 f254 f255 (by rw [q_own_h0_180_l10]; exact f256)
                    rw [q_own_h0_180_l9, q_own_h0_180_l10] at q_J
                    exact q_J
                  by_cases hc200 : (own_h0_126_l9 x0 x1 x2 x3) = (0 : Int32)
                  · refine Go.via (U' := T233.setTop (mkF m 227 #[.val (.int x0), .val (.int x1), .val (.int x2), .val (.int x3), .val (.int x4), .val (.int (x0 &&& (3 : Int32))), .val (.ref b1), .val (.ref b52), .val (.ref b63), .val (.int (own_h0_126_l9 x0 x1 x2 x3)), .val (.int (own_f11 (own_h0_126_l10 x0 x1 x2 x3) (x0 &&& (3 : Int32)) (own_h0_48_Ab1 x0 x1 x2 x3)))] [])) (fun tG kG => XS.ifYes X233.here hx rfl (pc0 := 200) (pc' := 227) rfl (hb hby at_200) rfl ((if0 _ _).trans (teq hc200).1) (by decide) (by decide) kG) ?_
                    refine Go.via (U' := T233.setTop (mkF m 228 #[.val (.int x0), .val (.int x1), .val (.int x2), .val (.int x3), .val (.int x4), .val (.int (x0 &&& (3 : Int32))), .val (.ref b1), .val (.ref b52), .val (.ref b63), .val (.int (own_h0_126_l9 x0 x1 x2 x3)), .val (.int (own_f11 (own_h0_126_l10 x0 x1 x2 x3) (x0 &&& (3 : Int32)) (own_h0_48_Ab1 x0 x1 x2 x3)))] [(.int (0 : Int32))])) (fun tG kG => XS.iconst X233.here hx rfl (hb hby at_227) kG) ?_
                    have q_own_h0_200_s0 : (own_h0_200_s0 x0 x1 x2 x3) = (0 : Int32) := by unfold own_h0_200_s0; simp only [if_pos hc200]
                    have q_J := J235 T233 _ _ X233 e233 N218 Z218 K218 f224 f225 f226 f227 f228 f229 f230 f231 f219 f220 f221 f222 f234
                    rw [q_own_h0_200_s0] at q_J
                    exact q_J
                  · refine Go.via (U' := T233.setTop (mkF m 203 #[.val (.int x0), .val (.int x1), .val (.int x2), .val (.int x3), .val (.int x4), .val (.int (x0 &&& (3 : Int32))), .val (.ref b1), .val (.ref b52), .val (.ref b63), .val (.int (own_h0_126_l9 x0 x1 x2 x3)), .val (.int (own_f11 (own_h0_126_l10 x0 x1 x2 x3) (x0 &&& (3 : Int32)) (own_h0_48_Ab1 x0 x1 x2 x3)))] [])) (fun tG kG => XS.ifNo X233.here hx rfl (hb hby at_200) rfl ((if0 _ _).trans (feq hc200).1) kG) ?_
                    refine Go.via (U' := T233.setTop (mkF m 205 #[.val (.int x0), .val (.int x1), .val (.int x2), .val (.int x3), .val (.int x4), .val (.int (x0 &&& (3 : Int32))), .val (.ref b1), .val (.ref b52), .val (.ref b63), .val (.int (own_h0_126_l9 x0 x1 x2 x3)), .val (.int (own_f11 (own_h0_126_l10 x0 x1 x2 x3) (x0 &&& (3 : Int32)) (own_h0_48_Ab1 x0 x1 x2 x3)))] [(.ref b63)])) (fun tG kG => XS.aload X233.here hx rfl (hb hby at_203) rfl rfl kG) ?_
                    obtain ⟨T257, X257, e257, st257⟩ := callV0 X233 hx hZ hown (hw _ (List.mem_of_getElem? (i := 44) rfl)) (hw _ (List.mem_of_getElem? (i := 45) rfl)) (hw _ (List.mem_of_getElem? (i := 47) rfl)) (hw _ (List.mem_of_getElem? (i := 46) rfl)) (hw _ (List.mem_of_getElem? (i := 28) rfl)) (hw _ (List.mem_of_getElem? (i := 48) rfl)) (by decide) (b := b63) (av := []) f219 (own_rm8 l Z a0 hw [] b63 (own_f11 (own_h0_126_l10 x0 x1 x2 x3) (x0 &&& (3 : Int32)) (own_h0_48_Ab1 x0 x1 x2 x3)) (x0 &&& (3 : Int32)) T218.heap f234 f222) e233 (pc := 205) (Ls := #[.val (.int x0), .val (.int x1), .val (.int x2), .val (.int x3), .val (.int x4), .val (.int (x0 &&& (3 : Int32))), .val (.ref b1), .val (.ref b52), .val (.ref b63), .val (.int (own_h0_126_l9 x0 x1 x2 x3)), .val (.int (own_f11 (own_h0_126_l10 x0 x1 x2 x3) (x0 &&& (3 : Int32)) (own_h0_48_Ab1 x0 x1 x2 x3)))]) (rest := []) (by rw [hml]; rfl) own_k101 rfl 0 (Nat.le_of_eq rfl) (by decide) (by decide) (by decide) (by decide) (hb hby at_205)
                    refine Go.via (U' := T257.setTop (mkF m 208 #[.val (.int x0), .val (.int x1), .val (.int x2), .val (.int x3), .val (.int x4), .val (.int (x0 &&& (3 : Int32))), .val (.ref b1), .val (.ref b52), .val (.ref b63), .val (.int (own_h0_126_l9 x0 x1 x2 x3)), .val (.int (own_f11 (own_h0_126_l10 x0 x1 x2 x3) (x0 &&& (3 : Int32)) (own_h0_48_Ab1 x0 x1 x2 x3)))] [(.int (own_f8 (own_f11 (own_h0_126_l10 x0 x1 x2 x3) (x0 &&& (3 : Int32)) (own_h0_48_Ab1 x0 x1 x2 x3)) (x0 &&& (3 : Int32))))])) (fun tG kG => st257 tG kG) ?_
                    refine Go.via (U' := T257.setTop (mkF m 210 #[.val (.int x0), .val (.int x1), .val (.int x2), .val (.int x3), .val (.int x4), .val (.int (x0 &&& (3 : Int32))), .val (.ref b1), .val (.ref b52), .val (.ref b63), .val (.int (own_h0_126_l9 x0 x1 x2 x3)), .val (.int (own_f11 (own_h0_126_l10 x0 x1 x2 x3) (x0 &&& (3 : Int32)) (own_h0_48_Ab1 x0 x1 x2 x3)))] [(.int (own_f11 (own_h0_126_l10 x0 x1 x2 x3) (x0 &&& (3 : Int32)) (own_h0_48_Ab1 x0 x1 x2 x3))), (.int (own_f8 (own_f11 (own_h0_126_l10 x0 x1 x2 x3) (x0 &&& (3 : Int32)) (own_h0_48_Ab1 x0 x1 x2 x3)) (x0 &&& (3 : Int32))))])) (fun tG kG => XS.iload X257.here hx rfl (hb hby at_208) rfl kG) ?_
                    refine Go.via (U' := T257.setTop (mkF m 212 #[.val (.int x0), .val (.int x1), .val (.int x2), .val (.int x3), .val (.int x4), .val (.int (x0 &&& (3 : Int32))), .val (.ref b1), .val (.ref b52), .val (.ref b63), .val (.int (own_h0_126_l9 x0 x1 x2 x3)), .val (.int (own_f11 (own_h0_126_l10 x0 x1 x2 x3) (x0 &&& (3 : Int32)) (own_h0_48_Ab1 x0 x1 x2 x3)))] [(.int (x0 &&& (3 : Int32))), (.int (own_f11 (own_h0_126_l10 x0 x1 x2 x3) (x0 &&& (3 : Int32)) (own_h0_48_Ab1 x0 x1 x2 x3))), (.int (own_f8 (own_f11 (own_h0_126_l10 x0 x1 x2 x3) (x0 &&& (3 : Int32)) (own_h0_48_Ab1 x0 x1 x2 x3)) (x0 &&& (3 : Int32))))])) (fun tG kG => XS.iload X257.here hx rfl (hb hby at_210) rfl kG) ?_
                    have J258 : ∀ T' L', Stand p l e room_1 s m #[(.int x0), (.int x1), (.int x2), (.int x3), (.int x4)] below meth c T' L' 4 13 → T'.heap = T218.heap → Fr n0 L' → Go p e below s room_1.cells room_1.slots (fun v h L => v = some (.int (own_f0 x0 x1 x2 x3 x4)) ∧ Fr n0 L ∧ Keep h0 h []) (T'.setTop (mkF m 220 #[.val (.int x0), .val (.int x1), .val (.int x2), .val (.int x3), .val (.int x4), .val (.int (x0 &&& (3 : Int32))), .val (.ref b1), .val (.ref b52), .val (.ref b63), .val (.int (own_h0_126_l9 x0 x1 x2 x3)), .val (.int (own_f11 (own_h0_126_l10 x0 x1 x2 x3) (x0 &&& (3 : Int32)) (own_h0_48_Ab1 x0 x1 x2 x3)))] [(.int (own_j0_212_s0 x0 x1 x2 x3)), (.int (own_f8 (own_f11 (own_h0_126_l10 x0 x1 x2 x3) (x0 &&& (3 : Int32)) (own_h0_48_Ab1 x0 x1 x2 x3)) (x0 &&& (3 : Int32))))])) := by
                      intro T259 L262 X260 e261 N263
                      by_cases hc220 : (own_f8 (own_f11 (own_h0_126_l10 x0 x1 x2 x3) (x0 &&& (3 : Int32)) (own_h0_48_Ab1 x0 x1 x2 x3)) (x0 &&& (3 : Int32))) = (own_j0_212_s0 x0 x1 x2 x3)
                      · refine Go.via (U' := T259.setTop (mkF m 223 #[.val (.int x0), .val (.int x1), .val (.int x2), .val (.int x3), .val (.int x4), .val (.int (x0 &&& (3 : Int32))), .val (.ref b1), .val (.ref b52), .val (.ref b63), .val (.int (own_h0_126_l9 x0 x1 x2 x3)), .val (.int (own_f11 (own_h0_126_l10 x0 x1 x2 x3) (x0 &&& (3 : Int32)) (own_h0_48_Ab1 x0 x1 x2 x3)))] [])) (fun tG kG => XS.icmpNo X260.here hx rfl (hb hby at_220) rfl (teq hc220).2 kG) ?_
                        refine Go.via (U' := T259.setTop (mkF m 224 #[.val (.int x0), .val (.int x1), .val (.int x2), .val (.int x3), .val (.int x4), .val (.int (x0 &&& (3 : Int32))), .val (.ref b1), .val (.ref b52), .val (.ref b63), .val (.int (own_h0_126_l9 x0 x1 x2 x3)), .val (.int (own_f11 (own_h0_126_l10 x0 x1 x2 x3) (x0 &&& (3 : Int32)) (own_h0_48_Ab1 x0 x1 x2 x3)))] [(.int (1 : Int32))])) (fun tG kG => XS.iconst X260.here hx rfl (hb hby at_223) kG) ?_
                        refine Go.via (U' := T259.setTop (mkF m 228 #[.val (.int x0), .val (.int x1), .val (.int x2), .val (.int x3), .val (.int x4), .val (.int (x0 &&& (3 : Int32))), .val (.ref b1), .val (.ref b52), .val (.ref b63), .val (.int (own_h0_126_l9 x0 x1 x2 x3)), .val (.int (own_f11 (own_h0_126_l10 x0 x1 x2 x3) (x0 &&& (3 : Int32)) (own_h0_48_Ab1 x0 x1 x2 x3)))] [(.int (1 : Int32))])) (fun tG kG => XS.goto X260.here hx rfl (pc0 := 224) (pc' := 228) rfl (hb hby at_224) (by decide) (by decide) kG) ?_
                        have q_own_h0_200_s0 : (own_h0_200_s0 x0 x1 x2 x3) = (1 : Int32) := by unfold own_h0_200_s0; simp only [if_neg hc200, if_pos hc220]
                        have q_J := J235 T259 _ _ X260 e261 N263 Z218 K218 f224 f225 f226 f227 f228 f229 f230 f231 f219 f220 f221 f222 f234
                        rw [q_own_h0_200_s0] at q_J
                        exact q_J
                      · refine Go.via (U' := T259.setTop (mkF m 227 #[.val (.int x0), .val (.int x1), .val (.int x2), .val (.int x3), .val (.int x4), .val (.int (x0 &&& (3 : Int32))), .val (.ref b1), .val (.ref b52), .val (.ref b63), .val (.int (own_h0_126_l9 x0 x1 x2 x3)), .val (.int (own_f11 (own_h0_126_l10 x0 x1 x2 x3) (x0 &&& (3 : Int32)) (own_h0_48_Ab1 x0 x1 x2 x3)))] [])) (fun tG kG => XS.icmpYes X260.here hx rfl (pc0 := 220) (pc' := 227) rfl (hb hby at_220) rfl (feq hc220).2 (by decide) (by decide) kG) ?_
                        refine Go.via (U' := T259.setTop (mkF m 228 #[.val (.int x0), .val (.int x1), .val (.int x2), .val (.int x3), .val (.int x4), .val (.int (x0 &&& (3 : Int32))), .val (.ref b1), .val (.ref b52), .val (.ref b63), .val (.int (own_h0_126_l9 x0 x1 x2 x3)), .val (.int (own_f11 (own_h0_126_l10 x0 x1 x2 x3) (x0 &&& (3 : Int32)) (own_h0_48_Ab1 x0 x1 x2 x3)))] [(.int (0 : Int32))])) (fun tG kG => XS.iconst X260.here hx rfl (hb hby at_227) kG) ?_
                        have q_own_h0_200_s0 : (own_h0_200_s0 x0 x1 x2 x3) = (0 : Int32) := by unfold own_h0_200_s0; simp only [if_neg hc200, if_neg hc220]
                        have q_J := J235 T259 _ _ X260 e261 N263 Z218 K218 f224 f225 f226 f227 f228 f229 f230 f231 f219 f220 f221 f222 f234
                        rw [q_own_h0_200_s0] at q_J
                        exact q_J
                    by_cases hc212 : (own_f11 (own_h0_126_l10 x0 x1 x2 x3) (x0 &&& (3 : Int32)) (own_h0_48_Ab1 x0 x1 x2 x3)) = (x0 &&& (3 : Int32))
                    · refine Go.via (U' := T257.setTop (mkF m 215 #[.val (.int x0), .val (.int x1), .val (.int x2), .val (.int x3), .val (.int x4), .val (.int (x0 &&& (3 : Int32))), .val (.ref b1), .val (.ref b52), .val (.ref b63), .val (.int (own_h0_126_l9 x0 x1 x2 x3)), .val (.int (own_f11 (own_h0_126_l10 x0 x1 x2 x3) (x0 &&& (3 : Int32)) (own_h0_48_Ab1 x0 x1 x2 x3)))] [(.int (own_f8 (own_f11 (own_h0_126_l10 x0 x1 x2 x3) (x0 &&& (3 : Int32)) (own_h0_48_Ab1 x0 x1 x2 x3)) (x0 &&& (3 : Int32))))])) (fun tG kG => XS.icmpNo X257.here hx rfl (hb hby at_212) rfl (teq hc212).2 kG) ?_
                      refine Go.via (U' := T257.setTop (mkF m 216 #[.val (.int x0), .val (.int x1), .val (.int x2), .val (.int x3), .val (.int x4), .val (.int (x0 &&& (3 : Int32))), .val (.ref b1), .val (.ref b52), .val (.ref b63), .val (.int (own_h0_126_l9 x0 x1 x2 x3)), .val (.int (own_f11 (own_h0_126_l10 x0 x1 x2 x3) (x0 &&& (3 : Int32)) (own_h0_48_Ab1 x0 x1 x2 x3)))] [(.int (1 : Int32)), (.int (own_f8 (own_f11 (own_h0_126_l10 x0 x1 x2 x3) (x0 &&& (3 : Int32)) (own_h0_48_Ab1 x0 x1 x2 x3)) (x0 &&& (3 : Int32))))])) (fun tG kG => XS.iconst X257.here hx rfl (hb hby at_215) kG) ?_
                      refine Go.via (U' := T257.setTop (mkF m 220 #[.val (.int x0), .val (.int x1), .val (.int x2), .val (.int x3), .val (.int x4), .val (.int (x0 &&& (3 : Int32))), .val (.ref b1), .val (.ref b52), .val (.ref b63), .val (.int (own_h0_126_l9 x0 x1 x2 x3)), .val (.int (own_f11 (own_h0_126_l10 x0 x1 x2 x3) (x0 &&& (3 : Int32)) (own_h0_48_Ab1 x0 x1 x2 x3)))] [(.int (1 : Int32)), (.int (own_f8 (own_f11 (own_h0_126_l10 x0 x1 x2 x3) (x0 &&& (3 : Int32)) (own_h0_48_Ab1 x0 x1 x2 x3)) (x0 &&& (3 : Int32))))])) (fun tG kG => XS.goto X257.here hx rfl (pc0 := 216) (pc' := 220) rfl (hb hby at_216) (by decide) (by decide) kG) ?_
                      have q_own_j0_212_s0 : (own_j0_212_s0 x0 x1 x2 x3) = (1 : Int32) := by unfold own_j0_212_s0; simp only [if_pos hc212]
                      have q_J := J258 T257 _ X257 e257 N218
                      rw [q_own_j0_212_s0] at q_J
                      exact q_J
                    · refine Go.via (U' := T257.setTop (mkF m 219 #[.val (.int x0), .val (.int x1), .val (.int x2), .val (.int x3), .val (.int x4), .val (.int (x0 &&& (3 : Int32))), .val (.ref b1), .val (.ref b52), .val (.ref b63), .val (.int (own_h0_126_l9 x0 x1 x2 x3)), .val (.int (own_f11 (own_h0_126_l10 x0 x1 x2 x3) (x0 &&& (3 : Int32)) (own_h0_48_Ab1 x0 x1 x2 x3)))] [(.int (own_f8 (own_f11 (own_h0_126_l10 x0 x1 x2 x3) (x0 &&& (3 : Int32)) (own_h0_48_Ab1 x0 x1 x2 x3)) (x0 &&& (3 : Int32))))])) (fun tG kG => XS.icmpYes X257.here hx rfl (pc0 := 212) (pc' := 219) rfl (hb hby at_212) rfl (feq hc212).2 (by decide) (by decide) kG) ?_
                      refine Go.via (U' := T257.setTop (mkF m 220 #[.val (.int x0), .val (.int x1), .val (.int x2), .val (.int x3), .val (.int x4), .val (.int (x0 &&& (3 : Int32))), .val (.ref b1), .val (.ref b52), .val (.ref b63), .val (.int (own_h0_126_l9 x0 x1 x2 x3)), .val (.int (own_f11 (own_h0_126_l10 x0 x1 x2 x3) (x0 &&& (3 : Int32)) (own_h0_48_Ab1 x0 x1 x2 x3)))] [(.int (0 : Int32)), (.int (own_f8 (own_f11 (own_h0_126_l10 x0 x1 x2 x3) (x0 &&& (3 : Int32)) (own_h0_48_Ab1 x0 x1 x2 x3)) (x0 &&& (3 : Int32))))])) (fun tG kG => XS.iconst X257.here hx rfl (hb hby at_219) kG) ?_
                      have q_own_j0_212_s0 : (own_j0_212_s0 x0 x1 x2 x3) = (0 : Int32) := by unfold own_j0_212_s0; simp only [if_neg hc212]
                      have q_J := J258 T257 _ X257 e257 N218
                      rw [q_own_j0_212_s0] at q_J
                      exact q_J
                · refine Go.via (U' := T107.setTop (mkF m 230 #[.val (.int x0), .val (.int x1), .val (.int x2), .val (.int x3), .val (.int x4), .val (.int (x0 &&& (3 : Int32))), .val (.ref b1), .val (.ref b52), .val (.ref b63), .val (.int (own_h0_126_l9 x0 x1 x2 x3)), .val (.int (own_h0_126_l10 x0 x1 x2 x3))] [])) (fun tG kG => XS.icmpYes X110.here hx rfl (pc0 := 180) (pc' := 230) rfl (hb hby at_180) rfl (flt hc180).2.1 (by decide) (by decide) kG) ?_
                  have q_own_h0_180_l9 : (own_h0_180_l9 x0 x1 x2 x3) = (own_h0_126_l9 x0 x1 x2 x3) := by unfold own_h0_180_l9; simp only [if_neg hc180]
                  have q_own_h0_180_l10 : (own_h0_180_l10 x0 x1 x2 x3) = (own_h0_126_l10 x0 x1 x2 x3) := by unfold own_h0_180_l10; simp only [if_neg hc180]
                  have q_own_h0_180_l10 : (own_h0_180_l10 x0 x1 x2 x3) = (own_h0_126_l10 x0 x1 x2 x3) := by unfold own_h0_180_l10; simp only [if_neg hc180]
                  have q_J := J128 T107 _ _ X110 e111 N112 Z113 K114 f115 f116 f117 f118 f119 f120 f121 f122 f123 f124 f125 f126 (by rw [q_own_h0_180_l10]; exact f127)
                  rw [q_own_h0_180_l9, q_own_h0_180_l10] at q_J
                  exact q_J
              by_cases hc126 : (0 : Int32) < (x0 &&& (3 : Int32))
              · refine Go.via (U' := T101.setTop (mkF m 129 #[.val (.int x0), .val (.int x1), .val (.int x2), .val (.int x3), .val (.int x4), .val (.int (x0 &&& (3 : Int32))), .val (.ref b1), .val (.ref b52), .val (.ref b63), .val (.int (own_j0_109_s0 x0)), .val (.int (0 : Int32))] [])) (fun tG kG => XS.icmpNo X102.here hx rfl (hb hby at_126) rfl (tlt hc126).2.1 kG) ?_
                have hH129 : own_H (own_h0_48_Ab1 x0 x1 x2 x3) (0 : Int32) (x0 &&& (3 : Int32)) := own_HF x0 x1 x2 x3 (by decide) hc126
                refine Go.via (U' := T101.setTop (mkF m 131 #[.val (.int x0), .val (.int x1), .val (.int x2), .val (.int x3), .val (.int x4), .val (.int (x0 &&& (3 : Int32))), .val (.ref b1), .val (.ref b52), .val (.ref b63), .val (.int (own_j0_109_s0 x0)), .val (.int (0 : Int32))] [(.ref b63)])) (fun tG kG => XS.aload X102.here hx rfl (hb hby at_129) rfl rfl kG) ?_
                obtain ⟨_, T264, L264, X264, ⟨rfl, N264q, K264q, f265, f266, f267, f268, f269⟩, st264⟩ := callVQ X102 hx hZ hown (hw _ (List.mem_of_getElem? (i := 51) rfl)) (hw _ (List.mem_of_getElem? (i := 52) rfl)) (hw _ (List.mem_of_getElem? (i := 54) rfl)) (hw _ (List.mem_of_getElem? (i := 53) rfl)) (hw _ (List.mem_of_getElem? (i := 28) rfl)) (hw _ (List.mem_of_getElem? (i := 55) rfl)) (by decide) (b := b63) (av := []) f78 (own_rm9 l Z a0 hw [] b63 b1 (x0 &&& (3 : Int32)) (0 : Int32) k1 (own_h0_48_Ab1 x0 x1 x2 x3) T77.heap n0 Z77 f78 f79 f80 f81 f83 f86 g_b63 (Ne.symm ne_b1_b63) hH129) e103 (pc := 131) (Ls := #[.val (.int x0), .val (.int x1), .val (.int x2), .val (.int x3), .val (.int x4), .val (.int (x0 &&& (3 : Int32))), .val (.ref b1), .val (.ref b52), .val (.ref b63), .val (.int (own_j0_109_s0 x0)), .val (.int (0 : Int32))]) (rest := []) (by rw [hml]; rfl) own_k171 rfl 0 (Nat.le_of_eq rfl) (by decide) (by decide) (by decide) (by decide) (hb hby at_131)
                have f270 := own_staKeep f84 K264q ((allS (own_plainE f78) all0))
                have f271 := f85.keep K264q
                have f272 := f86.keep K264q (ninS ne_b1_b63 nin0)
                have f273 := f87.keep K264q
                have f274 := f88.keep K264q
                have f275 := f89.keep K264q (ninS ne_b53_b63 nin0)
                have f276 := f90.keep K264q (ninS ne_b52_b63 nin0)
                have f277 := f91.keep K264q (ninS ne_b52_b63 nin0)
                have f278 := f78.keep K264q
                have N264 := Fr.app N105 N264q
                have Z264 := Nat.le_trans Z77 K264q.1
                have K264 := K77.trans K264q (allS (Or.inr sz_b63) all0)
                refine Go.via (U' := T264.setTop (mkF m 134 #[.val (.int x0), .val (.int x1), .val (.int x2), .val (.int x3), .val (.int x4), .val (.int (x0 &&& (3 : Int32))), .val (.ref b1), .val (.ref b52), .val (.ref b63), .val (.int (own_j0_109_s0 x0)), .val (.int (0 : Int32))] [(.long (own_f9 (0 : Int32) (own_h0_48_Ab1 x0 x1 x2 x3)))])) (fun tG kG => st264 tG kG) ?_
                refine Go.via (U' := T264.setTop (mkF m 135 #[.val (.int x0), .val (.int x1), .val (.int x2), .val (.int x3), .val (.int x4), .val (.int (x0 &&& (3 : Int32))), .val (.ref b1), .val (.ref b52), .val (.ref b63), .val (.int (own_j0_109_s0 x0)), .val (.int (0 : Int32))] [])) (fun tG kG => by jvm_step X264.here [X264.here.top, hx, (hb hby at_134), Value.category]; exact kG) ?_
                refine Go.via (U' := T264.setTop (mkF m 137 #[.val (.int x0), .val (.int x1), .val (.int x2), .val (.int x3), .val (.int x4), .val (.int (x0 &&& (3 : Int32))), .val (.ref b1), .val (.ref b52), .val (.ref b63), .val (.int (own_j0_109_s0 x0)), .val (.int (0 : Int32))] [(.ref b1)])) (fun tG kG => XS.aload X264.here hx rfl (hb hby at_135) rfl rfl kG) ?_
                refine Go.via (U' := T264.setTop (mkF m 139 #[.val (.int x0), .val (.int x1), .val (.int x2), .val (.int x3), .val (.int x4), .val (.int (x0 &&& (3 : Int32))), .val (.ref b1), .val (.ref b52), .val (.ref b63), .val (.int (own_j0_109_s0 x0)), .val (.int (0 : Int32))] [(.int (0 : Int32)), (.ref b1)])) (fun tG kG => XS.iload X264.here hx rfl (hb hby at_137) rfl kG) ?_
                obtain ⟨T279, X279, e279, st279⟩ := callS0 X264 hx hZ hown (hw _ (List.mem_of_getElem? (i := 61) rfl)) (hw _ (List.mem_of_getElem? (i := 62) rfl)) (hw _ (List.mem_of_getElem? (i := 63) rfl)) (hw _ (List.mem_of_getElem? (i := 64) rfl)) (by decide) (av := [(.ref b1), (.int (0 : Int32))]) (own_rm11 l Z a0 hw [] b1 (0 : Int32) k1 (x0 &&& (3 : Int32)) (own_h0_48_Ab1 x0 x1 x2 x3) T264.heap f272 hH129) rfl (pc := 139) (Ls := #[.val (.int x0), .val (.int x1), .val (.int x2), .val (.int x3), .val (.int x4), .val (.int (x0 &&& (3 : Int32))), .val (.ref b1), .val (.ref b52), .val (.ref b63), .val (.int (own_j0_109_s0 x0)), .val (.int (0 : Int32))]) (rest := []) (by rw [hml]; rfl) own_k172 rfl 0 (Nat.le_of_eq rfl) (by decide) (by decide) (by decide) (by decide) (hb hby at_139)
                refine Go.via (U' := T279.setTop (mkF m 142 #[.val (.int x0), .val (.int x1), .val (.int x2), .val (.int x3), .val (.int x4), .val (.int (x0 &&& (3 : Int32))), .val (.ref b1), .val (.ref b52), .val (.ref b63), .val (.int (own_j0_109_s0 x0)), .val (.int (0 : Int32))] [(.int (own_f11 (0 : Int32) (x0 &&& (3 : Int32)) (own_h0_48_Ab1 x0 x1 x2 x3)))])) (fun tG kG => st279 tG kG) ?_
                refine Go.via (U' := T279.setTop (mkF m 144 #[.val (.int x0), .val (.int x1), .val (.int x2), .val (.int x3), .val (.int x4), .val (.int (x0 &&& (3 : Int32))), .val (.ref b1), .val (.ref b52), .val (.ref b63), .val (.int (own_j0_109_s0 x0)), .val (.int (own_f11 (0 : Int32) (x0 &&& (3 : Int32)) (own_h0_48_Ab1 x0 x1 x2 x3)))] [])) (fun tG kG => XS.istore X279.here hx rfl (hb hby at_142) rfl (l' := #[.val (.int x0), .val (.int x1), .val (.int x2), .val (.int x3), .val (.int x4), .val (.int (x0 &&& (3 : Int32))), .val (.ref b1), .val (.ref b52), .val (.ref b63), .val (.int (own_j0_109_s0 x0)), .val (.int (own_f11 (0 : Int32) (x0 &&& (3 : Int32)) (own_h0_48_Ab1 x0 x1 x2 x3)))]) rfl kG) ?_
                have f280 : Fld Z T264.heap b63 "com/example/stokehold/stokehold/wire/ProtoReader" "position" "I" (.int (own_f11 (0 : Int32) (x0 &&& (3 : Int32)) (own_h0_48_Ab1 x0 x1 x2 x3))) := by rw [← own_pq hH129]; exact f269
                refine Go.via (U' := T279.setTop (mkF m 146 #[.val (.int x0), .val (.int x1), .val (.int x2), .val (.int x3), .val (.int x4), .val (.int (x0 &&& (3 : Int32))), .val (.ref b1), .val (.ref b52), .val (.ref b63), .val (.int (own_j0_109_s0 x0)), .val (.int (own_f11 (0 : Int32) (x0 &&& (3 : Int32)) (own_h0_48_Ab1 x0 x1 x2 x3)))] [(.int (own_j0_109_s0 x0))])) (fun tG kG => XS.iload X279.here hx rfl (hb hby at_144) rfl kG) ?_
                have J281 : ∀ T' h' L', Stand p l e room_1 s m #[(.int x0), (.int x1), (.int x2), (.int x3), (.int x4)] below meth c T' L' 4 13 → T'.heap = h' → Fr n0 L' → n0 ≤ h'.size → Keep h0 h' [] → Sta Z h' "java/lang/String" "COMPACT_STRINGS" "Z" (.int cz) → Exa Z h' b1 "[B" → Arf Z h' b1 k1 .byte (x0 &&& (3 : Int32)) (own_h0_48_Ab1 x0 x1 x2 x3) → Exa Z h' b52 "java/lang/String" → Exa Z h' b53 "[B" → Arf Z h' b53 k54 .byte (1 : Int32) (own_q3_b1 ((x4 &&& (255 : Int32)).toUInt32.toUInt16.toUInt32.toInt32)) → Fld Z h' b52 "java/lang/String" "value" "[B" (.ref b53) → Fld Z h' b52 "java/lang/String" "coder" "B" (.int (nar .byte (0 : Int32))) → Exa Z h' b63 "com/example/stokehold/stokehold/wire/ProtoReader" → Fld Z h' b63 "com/example/stokehold/stokehold/wire/ProtoReader" "bytes" "[B" (.ref b1) → Fld Z h' b63 "com/example/stokehold/stokehold/wire/ProtoReader" "available" "I" (.int (x0 &&& (3 : Int32))) → Fld Z h' b63 "com/example/stokehold/stokehold/wire/ProtoReader" "end" "I" (.int (x0 &&& (3 : Int32))) → Fld Z h' b63 "com/example/stokehold/stokehold/wire/ProtoReader" "position" "I" (.int (own_f11 (0 : Int32) (x0 &&& (3 : Int32)) (own_h0_48_Ab1 x0 x1 x2 x3))) → Go p e below s room_1.cells room_1.slots (fun v h L => v = some (.int (own_f0 x0 x1 x2 x3 x4)) ∧ Fr n0 L ∧ Keep h0 h []) (T'.setTop (mkF m 174 #[.val (.int x0), .val (.int x1), .val (.int x2), .val (.int x3), .val (.int x4), .val (.int (x0 &&& (3 : Int32))), .val (.ref b1), .val (.ref b52), .val (.ref b63), .val (.int (own_j0_109_s0 x0)), .val (.int (own_f11 (0 : Int32) (x0 &&& (3 : Int32)) (own_h0_48_Ab1 x0 x1 x2 x3)))] [(.int (own_h0_146_s0 x0 x1 x2 x3))])) := by
                  intro T282 h283 L284 X285 e286 N287 Z288 K289 f290 f291 f292 f293 f294 f295 f296 f297 f298 f299 f300 f301 f302
                  refine Go.via (U' := T282.setTop (mkF m 176 #[.val (.int x0), .val (.int x1), .val (.int x2), .val (.int x3), .val (.int x4), .val (.int (x0 &&& (3 : Int32))), .val (.ref b1), .val (.ref b52), .val (.ref b63), .val (.int (own_h0_146_s0 x0 x1 x2 x3)), .val (.int (own_f11 (0 : Int32) (x0 &&& (3 : Int32)) (own_h0_48_Ab1 x0 x1 x2 x3)))] [])) (fun tG kG => XS.istore X285.here hx rfl (hb hby at_174) rfl (l' := #[.val (.int x0), .val (.int x1), .val (.int x2), .val (.int x3), .val (.int x4), .val (.int (x0 &&& (3 : Int32))), .val (.ref b1), .val (.ref b52), .val (.ref b63), .val (.int (own_h0_146_s0 x0 x1 x2 x3)), .val (.int (own_f11 (0 : Int32) (x0 &&& (3 : Int32)) (own_h0_48_Ab1 x0 x1 x2 x3)))]) rfl kG) ?_
                  have q_own_h0_126_l9 : (own_h0_126_l9 x0 x1 x2 x3) = (own_h0_146_s0 x0 x1 x2 x3) := by unfold own_h0_126_l9; simp only [if_pos hc126]
                  have q_own_h0_126_l10 : (own_h0_126_l10 x0 x1 x2 x3) = (own_f11 (0 : Int32) (x0 &&& (3 : Int32)) (own_h0_48_Ab1 x0 x1 x2 x3)) := by unfold own_h0_126_l10; simp only [if_pos hc126]
                  have q_own_h0_126_l10 : (own_h0_126_l10 x0 x1 x2 x3) = (own_f11 (0 : Int32) (x0 &&& (3 : Int32)) (own_h0_48_Ab1 x0 x1 x2 x3)) := by unfold own_h0_126_l10; simp only [if_pos hc126]
                  have q_J := J106 T282 _ _ X285 e286 N287 Z288 K289 f290 f291 f292 f293 f294 f295 f296 f297 f298 f299 f300 f301 (by rw [q_own_h0_126_l10]; exact f302)
                  rw [q_own_h0_126_l9, q_own_h0_126_l10] at q_J
                  exact q_J
                by_cases hc146 : (own_j0_109_s0 x0) = (0 : Int32)
                · refine Go.via (U' := T279.setTop (mkF m 173 #[.val (.int x0), .val (.int x1), .val (.int x2), .val (.int x3), .val (.int x4), .val (.int (x0 &&& (3 : Int32))), .val (.ref b1), .val (.ref b52), .val (.ref b63), .val (.int (own_j0_109_s0 x0)), .val (.int (own_f11 (0 : Int32) (x0 &&& (3 : Int32)) (own_h0_48_Ab1 x0 x1 x2 x3)))] [])) (fun tG kG => XS.ifYes X279.here hx rfl (pc0 := 146) (pc' := 173) rfl (hb hby at_146) rfl ((if0 _ _).trans (teq hc146).1) (by decide) (by decide) kG) ?_
                  refine Go.via (U' := T279.setTop (mkF m 174 #[.val (.int x0), .val (.int x1), .val (.int x2), .val (.int x3), .val (.int x4), .val (.int (x0 &&& (3 : Int32))), .val (.ref b1), .val (.ref b52), .val (.ref b63), .val (.int (own_j0_109_s0 x0)), .val (.int (own_f11 (0 : Int32) (x0 &&& (3 : Int32)) (own_h0_48_Ab1 x0 x1 x2 x3)))] [(.int (0 : Int32))])) (fun tG kG => XS.iconst X279.here hx rfl (hb hby at_173) kG) ?_
                  have q_own_h0_146_s0 : (own_h0_146_s0 x0 x1 x2 x3) = (0 : Int32) := by unfold own_h0_146_s0; simp only [if_pos hc146]
                  have q_J := J281 T279 _ _ X279 e279 N264 Z264 K264 f270 f271 f272 f273 f274 f275 f276 f277 f265 f266 f267 f268 f280
                  rw [q_own_h0_146_s0] at q_J
                  exact q_J
                · refine Go.via (U' := T279.setTop (mkF m 149 #[.val (.int x0), .val (.int x1), .val (.int x2), .val (.int x3), .val (.int x4), .val (.int (x0 &&& (3 : Int32))), .val (.ref b1), .val (.ref b52), .val (.ref b63), .val (.int (own_j0_109_s0 x0)), .val (.int (own_f11 (0 : Int32) (x0 &&& (3 : Int32)) (own_h0_48_Ab1 x0 x1 x2 x3)))] [])) (fun tG kG => XS.ifNo X279.here hx rfl (hb hby at_146) rfl ((if0 _ _).trans (feq hc146).1) kG) ?_
                  refine Go.via (U' := T279.setTop (mkF m 151 #[.val (.int x0), .val (.int x1), .val (.int x2), .val (.int x3), .val (.int x4), .val (.int (x0 &&& (3 : Int32))), .val (.ref b1), .val (.ref b52), .val (.ref b63), .val (.int (own_j0_109_s0 x0)), .val (.int (own_f11 (0 : Int32) (x0 &&& (3 : Int32)) (own_h0_48_Ab1 x0 x1 x2 x3)))] [(.ref b63)])) (fun tG kG => XS.aload X279.here hx rfl (hb hby at_149) rfl rfl kG) ?_
                  obtain ⟨T303, X303, e303, st303⟩ := callV0 X279 hx hZ hown (hw _ (List.mem_of_getElem? (i := 44) rfl)) (hw _ (List.mem_of_getElem? (i := 45) rfl)) (hw _ (List.mem_of_getElem? (i := 47) rfl)) (hw _ (List.mem_of_getElem? (i := 46) rfl)) (hw _ (List.mem_of_getElem? (i := 28) rfl)) (hw _ (List.mem_of_getElem? (i := 48) rfl)) (by decide) (b := b63) (av := []) f265 (own_rm8 l Z a0 hw [] b63 (own_f11 (0 : Int32) (x0 &&& (3 : Int32)) (own_h0_48_Ab1 x0 x1 x2 x3)) (x0 &&& (3 : Int32)) T264.heap f280 f268) e279 (pc := 151) (Ls := #[.val (.int x0), .val (.int x1), .val (.int x2), .val (.int x3), .val (.int x4), .val (.int (x0 &&& (3 : Int32))), .val (.ref b1), .val (.ref b52), .val (.ref b63), .val (.int (own_j0_109_s0 x0)), .val (.int (own_f11 (0 : Int32) (x0 &&& (3 : Int32)) (own_h0_48_Ab1 x0 x1 x2 x3)))]) (rest := []) (by rw [hml]; rfl) own_k101 rfl 0 (Nat.le_of_eq rfl) (by decide) (by decide) (by decide) (by decide) (hb hby at_151)
                  refine Go.via (U' := T303.setTop (mkF m 154 #[.val (.int x0), .val (.int x1), .val (.int x2), .val (.int x3), .val (.int x4), .val (.int (x0 &&& (3 : Int32))), .val (.ref b1), .val (.ref b52), .val (.ref b63), .val (.int (own_j0_109_s0 x0)), .val (.int (own_f11 (0 : Int32) (x0 &&& (3 : Int32)) (own_h0_48_Ab1 x0 x1 x2 x3)))] [(.int (own_f8 (own_f11 (0 : Int32) (x0 &&& (3 : Int32)) (own_h0_48_Ab1 x0 x1 x2 x3)) (x0 &&& (3 : Int32))))])) (fun tG kG => st303 tG kG) ?_
                  refine Go.via (U' := T303.setTop (mkF m 156 #[.val (.int x0), .val (.int x1), .val (.int x2), .val (.int x3), .val (.int x4), .val (.int (x0 &&& (3 : Int32))), .val (.ref b1), .val (.ref b52), .val (.ref b63), .val (.int (own_j0_109_s0 x0)), .val (.int (own_f11 (0 : Int32) (x0 &&& (3 : Int32)) (own_h0_48_Ab1 x0 x1 x2 x3)))] [(.int (own_f11 (0 : Int32) (x0 &&& (3 : Int32)) (own_h0_48_Ab1 x0 x1 x2 x3))), (.int (own_f8 (own_f11 (0 : Int32) (x0 &&& (3 : Int32)) (own_h0_48_Ab1 x0 x1 x2 x3)) (x0 &&& (3 : Int32))))])) (fun tG kG => XS.iload X303.here hx rfl (hb hby at_154) rfl kG) ?_
                  refine Go.via (U' := T303.setTop (mkF m 158 #[.val (.int x0), .val (.int x1), .val (.int x2), .val (.int x3), .val (.int x4), .val (.int (x0 &&& (3 : Int32))), .val (.ref b1), .val (.ref b52), .val (.ref b63), .val (.int (own_j0_109_s0 x0)), .val (.int (own_f11 (0 : Int32) (x0 &&& (3 : Int32)) (own_h0_48_Ab1 x0 x1 x2 x3)))] [(.int (x0 &&& (3 : Int32))), (.int (own_f11 (0 : Int32) (x0 &&& (3 : Int32)) (own_h0_48_Ab1 x0 x1 x2 x3))), (.int (own_f8 (own_f11 (0 : Int32) (x0 &&& (3 : Int32)) (own_h0_48_Ab1 x0 x1 x2 x3)) (x0 &&& (3 : Int32))))])) (fun tG kG => XS.iload X303.here hx rfl (hb hby at_156) rfl kG) ?_
                  have J304 : ∀ T' L', Stand p l e room_1 s m #[(.int x0), (.int x1), (.int x2), (.int x3), (.int x4)] below meth c T' L' 4 13 → T'.heap = T264.heap → Fr n0 L' → Go p e below s room_1.cells room_1.slots (fun v h L => v = some (.int (own_f0 x0 x1 x2 x3 x4)) ∧ Fr n0 L ∧ Keep h0 h []) (T'.setTop (mkF m 166 #[.val (.int x0), .val (.int x1), .val (.int x2), .val (.int x3), .val (.int x4), .val (.int (x0 &&& (3 : Int32))), .val (.ref b1), .val (.ref b52), .val (.ref b63), .val (.int (own_j0_109_s0 x0)), .val (.int (own_f11 (0 : Int32) (x0 &&& (3 : Int32)) (own_h0_48_Ab1 x0 x1 x2 x3)))] [(.int (own_j0_158_s0 x0 x1 x2 x3)), (.int (own_f8 (own_f11 (0 : Int32) (x0 &&& (3 : Int32)) (own_h0_48_Ab1 x0 x1 x2 x3)) (x0 &&& (3 : Int32))))])) := by
                    intro T305 L308 X306 e307 N309
                    by_cases hc166 : (own_f8 (own_f11 (0 : Int32) (x0 &&& (3 : Int32)) (own_h0_48_Ab1 x0 x1 x2 x3)) (x0 &&& (3 : Int32))) = (own_j0_158_s0 x0 x1 x2 x3)
                    · refine Go.via (U' := T305.setTop (mkF m 169 #[.val (.int x0), .val (.int x1), .val (.int x2), .val (.int x3), .val (.int x4), .val (.int (x0 &&& (3 : Int32))), .val (.ref b1), .val (.ref b52), .val (.ref b63), .val (.int (own_j0_109_s0 x0)), .val (.int (own_f11 (0 : Int32) (x0 &&& (3 : Int32)) (own_h0_48_Ab1 x0 x1 x2 x3)))] [])) (fun tG kG => XS.icmpNo X306.here hx rfl (hb hby at_166) rfl (teq hc166).2 kG) ?_
                      refine Go.via (U' := T305.setTop (mkF m 170 #[.val (.int x0), .val (.int x1), .val (.int x2), .val (.int x3), .val (.int x4), .val (.int (x0 &&& (3 : Int32))), .val (.ref b1), .val (.ref b52), .val (.ref b63), .val (.int (own_j0_109_s0 x0)), .val (.int (own_f11 (0 : Int32) (x0 &&& (3 : Int32)) (own_h0_48_Ab1 x0 x1 x2 x3)))] [(.int (1 : Int32))])) (fun tG kG => XS.iconst X306.here hx rfl (hb hby at_169) kG) ?_
                      refine Go.via (U' := T305.setTop (mkF m 174 #[.val (.int x0), .val (.int x1), .val (.int x2), .val (.int x3), .val (.int x4), .val (.int (x0 &&& (3 : Int32))), .val (.ref b1), .val (.ref b52), .val (.ref b63), .val (.int (own_j0_109_s0 x0)), .val (.int (own_f11 (0 : Int32) (x0 &&& (3 : Int32)) (own_h0_48_Ab1 x0 x1 x2 x3)))] [(.int (1 : Int32))])) (fun tG kG => XS.goto X306.here hx rfl (pc0 := 170) (pc' := 174) rfl (hb hby at_170) (by decide) (by decide) kG) ?_
                      have q_own_h0_146_s0 : (own_h0_146_s0 x0 x1 x2 x3) = (1 : Int32) := by unfold own_h0_146_s0; simp only [if_neg hc146, if_pos hc166]
                      have q_J := J281 T305 _ _ X306 e307 N309 Z264 K264 f270 f271 f272 f273 f274 f275 f276 f277 f265 f266 f267 f268 f280
                      rw [q_own_h0_146_s0] at q_J
                      exact q_J
                    · refine Go.via (U' := T305.setTop (mkF m 173 #[.val (.int x0), .val (.int x1), .val (.int x2), .val (.int x3), .val (.int x4), .val (.int (x0 &&& (3 : Int32))), .val (.ref b1), .val (.ref b52), .val (.ref b63), .val (.int (own_j0_109_s0 x0)), .val (.int (own_f11 (0 : Int32) (x0 &&& (3 : Int32)) (own_h0_48_Ab1 x0 x1 x2 x3)))] [])) (fun tG kG => XS.icmpYes X306.here hx rfl (pc0 := 166) (pc' := 173) rfl (hb hby at_166) rfl (feq hc166).2 (by decide) (by decide) kG) ?_
                      refine Go.via (U' := T305.setTop (mkF m 174 #[.val (.int x0), .val (.int x1), .val (.int x2), .val (.int x3), .val (.int x4), .val (.int (x0 &&& (3 : Int32))), .val (.ref b1), .val (.ref b52), .val (.ref b63), .val (.int (own_j0_109_s0 x0)), .val (.int (own_f11 (0 : Int32) (x0 &&& (3 : Int32)) (own_h0_48_Ab1 x0 x1 x2 x3)))] [(.int (0 : Int32))])) (fun tG kG => XS.iconst X306.here hx rfl (hb hby at_173) kG) ?_
                      have q_own_h0_146_s0 : (own_h0_146_s0 x0 x1 x2 x3) = (0 : Int32) := by unfold own_h0_146_s0; simp only [if_neg hc146, if_neg hc166]
                      have q_J := J281 T305 _ _ X306 e307 N309 Z264 K264 f270 f271 f272 f273 f274 f275 f276 f277 f265 f266 f267 f268 f280
                      rw [q_own_h0_146_s0] at q_J
                      exact q_J
                  by_cases hc158 : (own_f11 (0 : Int32) (x0 &&& (3 : Int32)) (own_h0_48_Ab1 x0 x1 x2 x3)) = (x0 &&& (3 : Int32))
                  · refine Go.via (U' := T303.setTop (mkF m 161 #[.val (.int x0), .val (.int x1), .val (.int x2), .val (.int x3), .val (.int x4), .val (.int (x0 &&& (3 : Int32))), .val (.ref b1), .val (.ref b52), .val (.ref b63), .val (.int (own_j0_109_s0 x0)), .val (.int (own_f11 (0 : Int32) (x0 &&& (3 : Int32)) (own_h0_48_Ab1 x0 x1 x2 x3)))] [(.int (own_f8 (own_f11 (0 : Int32) (x0 &&& (3 : Int32)) (own_h0_48_Ab1 x0 x1 x2 x3)) (x0 &&& (3 : Int32))))])) (fun tG kG => XS.icmpNo X303.here hx rfl (hb hby at_158) rfl (teq hc158).2 kG) ?_
                    refine Go.via (U' := T303.setTop (mkF m 162 #[.val (.int x0), .val (.int x1), .val (.int x2), .val (.int x3), .val (.int x4), .val (.int (x0 &&& (3 : Int32))), .val (.ref b1), .val (.ref b52), .val (.ref b63), .val (.int (own_j0_109_s0 x0)), .val (.int (own_f11 (0 : Int32) (x0 &&& (3 : Int32)) (own_h0_48_Ab1 x0 x1 x2 x3)))] [(.int (1 : Int32)), (.int (own_f8 (own_f11 (0 : Int32) (x0 &&& (3 : Int32)) (own_h0_48_Ab1 x0 x1 x2 x3)) (x0 &&& (3 : Int32))))])) (fun tG kG => XS.iconst X303.here hx rfl (hb hby at_161) kG) ?_
                    refine Go.via (U' := T303.setTop (mkF m 166 #[.val (.int x0), .val (.int x1), .val (.int x2), .val (.int x3), .val (.int x4), .val (.int (x0 &&& (3 : Int32))), .val (.ref b1), .val (.ref b52), .val (.ref b63), .val (.int (own_j0_109_s0 x0)), .val (.int (own_f11 (0 : Int32) (x0 &&& (3 : Int32)) (own_h0_48_Ab1 x0 x1 x2 x3)))] [(.int (1 : Int32)), (.int (own_f8 (own_f11 (0 : Int32) (x0 &&& (3 : Int32)) (own_h0_48_Ab1 x0 x1 x2 x3)) (x0 &&& (3 : Int32))))])) (fun tG kG => XS.goto X303.here hx rfl (pc0 := 162) (pc' := 166) rfl (hb hby at_162) (by decide) (by decide) kG) ?_
                    have q_own_j0_158_s0 : (own_j0_158_s0 x0 x1 x2 x3) = (1 : Int32) := by unfold own_j0_158_s0; simp only [if_pos hc158]
                    have q_J := J304 T303 _ X303 e303 N264
                    rw [q_own_j0_158_s0] at q_J
                    exact q_J
                  · refine Go.via (U' := T303.setTop (mkF m 165 #[.val (.int x0), .val (.int x1), .val (.int x2), .val (.int x3), .val (.int x4), .val (.int (x0 &&& (3 : Int32))), .val (.ref b1), .val (.ref b52), .val (.ref b63), .val (.int (own_j0_109_s0 x0)), .val (.int (own_f11 (0 : Int32) (x0 &&& (3 : Int32)) (own_h0_48_Ab1 x0 x1 x2 x3)))] [(.int (own_f8 (own_f11 (0 : Int32) (x0 &&& (3 : Int32)) (own_h0_48_Ab1 x0 x1 x2 x3)) (x0 &&& (3 : Int32))))])) (fun tG kG => XS.icmpYes X303.here hx rfl (pc0 := 158) (pc' := 165) rfl (hb hby at_158) rfl (feq hc158).2 (by decide) (by decide) kG) ?_
                    refine Go.via (U' := T303.setTop (mkF m 166 #[.val (.int x0), .val (.int x1), .val (.int x2), .val (.int x3), .val (.int x4), .val (.int (x0 &&& (3 : Int32))), .val (.ref b1), .val (.ref b52), .val (.ref b63), .val (.int (own_j0_109_s0 x0)), .val (.int (own_f11 (0 : Int32) (x0 &&& (3 : Int32)) (own_h0_48_Ab1 x0 x1 x2 x3)))] [(.int (0 : Int32)), (.int (own_f8 (own_f11 (0 : Int32) (x0 &&& (3 : Int32)) (own_h0_48_Ab1 x0 x1 x2 x3)) (x0 &&& (3 : Int32))))])) (fun tG kG => XS.iconst X303.here hx rfl (hb hby at_165) kG) ?_
                    have q_own_j0_158_s0 : (own_j0_158_s0 x0 x1 x2 x3) = (0 : Int32) := by unfold own_j0_158_s0; simp only [if_neg hc158]
                    have q_J := J304 T303 _ X303 e303 N264
                    rw [q_own_j0_158_s0] at q_J
                    exact q_J
              · refine Go.via (U' := T101.setTop (mkF m 176 #[.val (.int x0), .val (.int x1), .val (.int x2), .val (.int x3), .val (.int x4), .val (.int (x0 &&& (3 : Int32))), .val (.ref b1), .val (.ref b52), .val (.ref b63), .val (.int (own_j0_109_s0 x0)), .val (.int (0 : Int32))] [])) (fun tG kG => XS.icmpYes X102.here hx rfl (pc0 := 126) (pc' := 176) rfl (hb hby at_126) rfl (flt hc126).2.1 (by decide) (by decide) kG) ?_
                have q_own_h0_126_l9 : (own_h0_126_l9 x0 x1 x2 x3) = (own_j0_109_s0 x0) := by unfold own_h0_126_l9; simp only [if_neg hc126]
                have q_own_h0_126_l10 : (own_h0_126_l10 x0 x1 x2 x3) = (0 : Int32) := by unfold own_h0_126_l10; simp only [if_neg hc126]
                have q_own_h0_126_l10 : (own_h0_126_l10 x0 x1 x2 x3) = (0 : Int32) := by unfold own_h0_126_l10; simp only [if_neg hc126]
                have q_J := J106 T101 _ _ X102 e103 N105 Z77 K77 f84 f85 f86 f87 f88 f89 f90 f91 f78 f79 f80 f81 (by rw [q_own_h0_126_l10]; exact f83)
                rw [q_own_h0_126_l9, q_own_h0_126_l10] at q_J
                exact q_J
            by_cases hc109 : (own_f8 (0 : Int32) (x0 &&& (3 : Int32))) = (own_j0_101_s0 x0)
            · refine Go.via (U' := T95.setTop (mkF m 112 #[.val (.int x0), .val (.int x1), .val (.int x2), .val (.int x3), .val (.int x4), .val (.int (x0 &&& (3 : Int32))), .val (.ref b1), .val (.ref b52), .val (.ref b63), .unset, .unset] [])) (fun tG kG => XS.icmpNo X96.here hx rfl (hb hby at_109) rfl (teq hc109).2 kG) ?_
              refine Go.via (U' := T95.setTop (mkF m 113 #[.val (.int x0), .val (.int x1), .val (.int x2), .val (.int x3), .val (.int x4), .val (.int (x0 &&& (3 : Int32))), .val (.ref b1), .val (.ref b52), .val (.ref b63), .unset, .unset] [(.int (1 : Int32))])) (fun tG kG => XS.iconst X96.here hx rfl (hb hby at_112) kG) ?_
              refine Go.via (U' := T95.setTop (mkF m 117 #[.val (.int x0), .val (.int x1), .val (.int x2), .val (.int x3), .val (.int x4), .val (.int (x0 &&& (3 : Int32))), .val (.ref b1), .val (.ref b52), .val (.ref b63), .unset, .unset] [(.int (1 : Int32))])) (fun tG kG => XS.goto X96.here hx rfl (pc0 := 113) (pc' := 117) rfl (hb hby at_113) (by decide) (by decide) kG) ?_
              have q_own_j0_109_s0 : (own_j0_109_s0 x0) = (1 : Int32) := by unfold own_j0_109_s0; simp only [if_pos hc109]
              have q_J := J100 T95 _ X96 e97 N99
              rw [q_own_j0_109_s0] at q_J
              exact q_J
            · refine Go.via (U' := T95.setTop (mkF m 116 #[.val (.int x0), .val (.int x1), .val (.int x2), .val (.int x3), .val (.int x4), .val (.int (x0 &&& (3 : Int32))), .val (.ref b1), .val (.ref b52), .val (.ref b63), .unset, .unset] [])) (fun tG kG => XS.icmpYes X96.here hx rfl (pc0 := 109) (pc' := 116) rfl (hb hby at_109) rfl (feq hc109).2 (by decide) (by decide) kG) ?_
              refine Go.via (U' := T95.setTop (mkF m 117 #[.val (.int x0), .val (.int x1), .val (.int x2), .val (.int x3), .val (.int x4), .val (.int (x0 &&& (3 : Int32))), .val (.ref b1), .val (.ref b52), .val (.ref b63), .unset, .unset] [(.int (0 : Int32))])) (fun tG kG => XS.iconst X96.here hx rfl (hb hby at_116) kG) ?_
              have q_own_j0_109_s0 : (own_j0_109_s0 x0) = (0 : Int32) := by unfold own_j0_109_s0; simp only [if_neg hc109]
              have q_J := J100 T95 _ X96 e97 N99
              rw [q_own_j0_109_s0] at q_J
              exact q_J
          by_cases hc101 : (x0 &&& (3 : Int32)) = (0 : Int32)
          · refine Go.via (U' := T93.setTop (mkF m 104 #[.val (.int x0), .val (.int x1), .val (.int x2), .val (.int x3), .val (.int x4), .val (.int (x0 &&& (3 : Int32))), .val (.ref b1), .val (.ref b52), .val (.ref b63), .unset, .unset] [(.int (own_f8 (0 : Int32) (x0 &&& (3 : Int32))))])) (fun tG kG => XS.ifNo X93.here hx rfl (hb hby at_101) rfl ((if0 _ _).trans (teq hc101).2) kG) ?_
            refine Go.via (U' := T93.setTop (mkF m 105 #[.val (.int x0), .val (.int x1), .val (.int x2), .val (.int x3), .val (.int x4), .val (.int (x0 &&& (3 : Int32))), .val (.ref b1), .val (.ref b52), .val (.ref b63), .unset, .unset] [(.int (1 : Int32)), (.int (own_f8 (0 : Int32) (x0 &&& (3 : Int32))))])) (fun tG kG => XS.iconst X93.here hx rfl (hb hby at_104) kG) ?_
            refine Go.via (U' := T93.setTop (mkF m 109 #[.val (.int x0), .val (.int x1), .val (.int x2), .val (.int x3), .val (.int x4), .val (.int (x0 &&& (3 : Int32))), .val (.ref b1), .val (.ref b52), .val (.ref b63), .unset, .unset] [(.int (1 : Int32)), (.int (own_f8 (0 : Int32) (x0 &&& (3 : Int32))))])) (fun tG kG => XS.goto X93.here hx rfl (pc0 := 105) (pc' := 109) rfl (hb hby at_105) (by decide) (by decide) kG) ?_
            have q_own_j0_101_s0 : (own_j0_101_s0 x0) = (1 : Int32) := by unfold own_j0_101_s0; simp only [if_pos hc101]
            have q_J := J94 T93 _ X93 e93 N77
            rw [q_own_j0_101_s0] at q_J
            exact q_J
          · refine Go.via (U' := T93.setTop (mkF m 108 #[.val (.int x0), .val (.int x1), .val (.int x2), .val (.int x3), .val (.int x4), .val (.int (x0 &&& (3 : Int32))), .val (.ref b1), .val (.ref b52), .val (.ref b63), .unset, .unset] [(.int (own_f8 (0 : Int32) (x0 &&& (3 : Int32))))])) (fun tG kG => XS.ifYes X93.here hx rfl (pc0 := 101) (pc' := 108) rfl (hb hby at_101) rfl ((if0 _ _).trans (feq hc101).2) (by decide) (by decide) kG) ?_
            refine Go.via (U' := T93.setTop (mkF m 109 #[.val (.int x0), .val (.int x1), .val (.int x2), .val (.int x3), .val (.int x4), .val (.int (x0 &&& (3 : Int32))), .val (.ref b1), .val (.ref b52), .val (.ref b63), .unset, .unset] [(.int (0 : Int32)), (.int (own_f8 (0 : Int32) (x0 &&& (3 : Int32))))])) (fun tG kG => XS.iconst X93.here hx rfl (hb hby at_108) kG) ?_
            have q_own_j0_101_s0 : (own_j0_101_s0 x0) = (0 : Int32) := by unfold own_j0_101_s0; simp only [if_neg hc101]
            have q_J := J94 T93 _ X93 e93 N77
            rw [q_own_j0_101_s0] at q_J
            exact q_J
        by_cases hc48 : (0 : Int32) < (x0 &&& (3 : Int32))
        · refine Go.via (U' := T28.setTop (mkF m 51 #[.val (.int x0), .val (.int x1), .val (.int x2), .val (.int x3), .val (.int x4), .val (.int (x0 &&& (3 : Int32))), .val (.ref b1), .unset, .unset, .unset, .unset] [])) (fun tG kG => XS.ifNo X31.here hx rfl (hb hby at_48) rfl ((if0 _ _).trans (tlt hc48).2.2.2) kG) ?_
          refine Go.via (U' := T28.setTop (mkF m 53 #[.val (.int x0), .val (.int x1), .val (.int x2), .val (.int x3), .val (.int x4), .val (.int (x0 &&& (3 : Int32))), .val (.ref b1), .unset, .unset, .unset, .unset] [(.ref b1)])) (fun tG kG => XS.aload X31.here hx rfl (hb hby at_51) rfl rfl kG) ?_
          refine Go.via (U' := T28.setTop (mkF m 55 #[.val (.int x0), .val (.int x1), .val (.int x2), .val (.int x3), .val (.int x4), .val (.int (x0 &&& (3 : Int32))), .val (.ref b1), .unset, .unset, .unset, .unset] [(.int (x0 &&& (3 : Int32))), (.ref b1)])) (fun tG kG => XS.iload X31.here hx rfl (hb hby at_53) rfl kG) ?_
          refine Go.via (U' := T28.setTop (mkF m 56 #[.val (.int x0), .val (.int x1), .val (.int x2), .val (.int x3), .val (.int x4), .val (.int (x0 &&& (3 : Int32))), .val (.ref b1), .unset, .unset, .unset, .unset] [(.int (1 : Int32)), (.int (x0 &&& (3 : Int32))), (.ref b1)])) (fun tG kG => XS.iconst X31.here hx rfl (hb hby at_55) kG) ?_
          refine Go.via (U' := T28.setTop (mkF m 57 #[.val (.int x0), .val (.int x1), .val (.int x2), .val (.int x3), .val (.int x4), .val (.int (x0 &&& (3 : Int32))), .val (.ref b1), .unset, .unset, .unset, .unset] [(.int ((x0 &&& (3 : Int32)) - (1 : Int32))), (.ref b1)])) (fun tG kG => XS.isub X31.here hx rfl (hb hby at_56) rfl kG) ?_
          refine Go.via (U' := T28.setTop (mkF m 59 #[.val (.int x0), .val (.int x1), .val (.int x2), .val (.int x3), .val (.int x4), .val (.int (x0 &&& (3 : Int32))), .val (.ref b1), .unset, .unset, .unset, .unset] [(.ref b1), (.int ((x0 &&& (3 : Int32)) - (1 : Int32))), (.ref b1)])) (fun tG kG => XS.aload X31.here hx rfl (hb hby at_57) rfl rfl kG) ?_
          refine Go.via (U' := T28.setTop (mkF m 61 #[.val (.int x0), .val (.int x1), .val (.int x2), .val (.int x3), .val (.int x4), .val (.int (x0 &&& (3 : Int32))), .val (.ref b1), .unset, .unset, .unset, .unset] [(.int (x0 &&& (3 : Int32))), (.ref b1), (.int ((x0 &&& (3 : Int32)) - (1 : Int32))), (.ref b1)])) (fun tG kG => XS.iload X31.here hx rfl (hb hby at_59) rfl kG) ?_
          refine Go.via (U' := T28.setTop (mkF m 62 #[.val (.int x0), .val (.int x1), .val (.int x2), .val (.int x3), .val (.int x4), .val (.int (x0 &&& (3 : Int32))), .val (.ref b1), .unset, .unset, .unset, .unset] [(.int (1 : Int32)), (.int (x0 &&& (3 : Int32))), (.ref b1), (.int ((x0 &&& (3 : Int32)) - (1 : Int32))), (.ref b1)])) (fun tG kG => XS.iconst X31.here hx rfl (hb hby at_61) kG) ?_
          refine Go.via (U' := T28.setTop (mkF m 63 #[.val (.int x0), .val (.int x1), .val (.int x2), .val (.int x3), .val (.int x4), .val (.int (x0 &&& (3 : Int32))), .val (.ref b1), .unset, .unset, .unset, .unset] [(.int ((x0 &&& (3 : Int32)) - (1 : Int32))), (.ref b1), (.int ((x0 &&& (3 : Int32)) - (1 : Int32))), (.ref b1)])) (fun tG kG => XS.isub X31.here hx rfl (hb hby at_62) rfl kG) ?_
          refine Go.via (U' := T28.setTop (mkF m 64 #[.val (.int x0), .val (.int x1), .val (.int x2), .val (.int x3), .val (.int x4), .val (.int (x0 &&& (3 : Int32))), .val (.ref b1), .unset, .unset, .unset, .unset] [(.int ((own_h0_37_Ab1 x0 x1 x2 x3) ((x0 &&& (3 : Int32)) - (1 : Int32)).toNatClampNeg)), (.int ((x0 &&& (3 : Int32)) - (1 : Int32))), (.ref b1)])) (fun tG kG => own_ldB X31 hx hZ e32 f38 (j := ((x0 &&& (3 : Int32)) - (1 : Int32))) (own_nm1 x0 hc48) (hb hby at_63) tG kG) ?_
          refine Go.via (U' := T28.setTop (mkF m 66 #[.val (.int x0), .val (.int x1), .val (.int x2), .val (.int x3), .val (.int x4), .val (.int (x0 &&& (3 : Int32))), .val (.ref b1), .unset, .unset, .unset, .unset] [(.int (127 : Int32)), (.int ((own_h0_37_Ab1 x0 x1 x2 x3) ((x0 &&& (3 : Int32)) - (1 : Int32)).toNatClampNeg)), (.int ((x0 &&& (3 : Int32)) - (1 : Int32))), (.ref b1)])) (fun tG kG => XS.bipush X31.here hx rfl (hb hby at_64) kG) ?_
          refine Go.via (U' := T28.setTop (mkF m 67 #[.val (.int x0), .val (.int x1), .val (.int x2), .val (.int x3), .val (.int x4), .val (.int (x0 &&& (3 : Int32))), .val (.ref b1), .unset, .unset, .unset, .unset] [(.int (((own_h0_37_Ab1 x0 x1 x2 x3) ((x0 &&& (3 : Int32)) - (1 : Int32)).toNatClampNeg) &&& (127 : Int32))), (.int ((x0 &&& (3 : Int32)) - (1 : Int32))), (.ref b1)])) (fun tG kG => XS.iand X31.here hx rfl (hb hby at_66) rfl kG) ?_
          refine Go.via (U' := T28.setTop (mkF m 68 #[.val (.int x0), .val (.int x1), .val (.int x2), .val (.int x3), .val (.int x4), .val (.int (x0 &&& (3 : Int32))), .val (.ref b1), .unset, .unset, .unset, .unset] [(.int ((((own_h0_37_Ab1 x0 x1 x2 x3) ((x0 &&& (3 : Int32)) - (1 : Int32)).toNatClampNeg) &&& (127 : Int32)).toInt8.toInt32)), (.int ((x0 &&& (3 : Int32)) - (1 : Int32))), (.ref b1)])) (fun tG kG => XS.i2b X31.here hx rfl (hb hby at_67) rfl kG) ?_
          obtain ⟨T310, h310, X310, e310, W310, A310, st310⟩ := own_stB X31 hx hZ e32 f38 (j := ((x0 &&& (3 : Int32)) - (1 : Int32))) (x := ((((own_h0_37_Ab1 x0 x1 x2 x3) ((x0 &&& (3 : Int32)) - (1 : Int32)).toNatClampNeg) &&& (127 : Int32)).toInt8.toInt32)) (own_nm1 x0 hc48) (pc := 68) (Ls := #[.val (.int x0), .val (.int x1), .val (.int x2), .val (.int x3), .val (.int x4), .val (.int (x0 &&& (3 : Int32))), .val (.ref b1), .unset, .unset, .unset, .unset]) (rest := []) (hb hby at_68)
          have f311 := f36.wr W310
          have f312 := f37.wr W310
          replace A310 : Arf Z h310 b1 k1 .byte (x0 &&& (3 : Int32)) (own_w0_3 x0 x1 x2 x3) := A310
          have K310 := K35.wr W310 (Or.inr sz_b1)
          have N310 := Fr.snoc X310 N33 g_b1
          have Z310 := Nat.le_trans Z34 (Keep.of_wr W310).1
          refine Go.via (U' := T310.setTop (mkF m 69 #[.val (.int x0), .val (.int x1), .val (.int x2), .val (.int x3), .val (.int x4), .val (.int (x0 &&& (3 : Int32))), .val (.ref b1), .unset, .unset, .unset, .unset] [])) (fun tG kG => st310 tG kG) ?_
          have q_own_h0_48_Ab1 : (own_h0_48_Ab1 x0 x1 x2 x3) = (own_w0_3 x0 x1 x2 x3) := by unfold own_h0_48_Ab1; simp only [if_pos hc48]
          have q_J := J39 T310 _ _ X310 e310 N310 Z310 K310 f311 f312 (by rw [q_own_h0_48_Ab1]; exact A310)
          exact q_J
        · refine Go.via (U' := T28.setTop (mkF m 69 #[.val (.int x0), .val (.int x1), .val (.int x2), .val (.int x3), .val (.int x4), .val (.int (x0 &&& (3 : Int32))), .val (.ref b1), .unset, .unset, .unset, .unset] [])) (fun tG kG => XS.ifYes X31.here hx rfl (pc0 := 48) (pc' := 69) rfl (hb hby at_48) rfl ((if0 _ _).trans (flt hc48).2.2.2) (by decide) (by decide) kG) ?_
          have q_own_h0_48_Ab1 : (own_h0_48_Ab1 x0 x1 x2 x3) = (own_h0_37_Ab1 x0 x1 x2 x3) := by unfold own_h0_48_Ab1; simp only [if_neg hc48]
          have q_J := J39 T28 _ _ X31 e32 N33 Z34 K35 f36 f37 (by rw [q_own_h0_48_Ab1]; exact f38)
          exact q_J
      by_cases hc37 : (2 : Int32) < (x0 &&& (3 : Int32))
      · refine Go.via (U' := T16.setTop (mkF m 40 #[.val (.int x0), .val (.int x1), .val (.int x2), .val (.int x3), .val (.int x4), .val (.int (x0 &&& (3 : Int32))), .val (.ref b1), .unset, .unset, .unset, .unset] [])) (fun tG kG => XS.icmpNo X19.here hx rfl (hb hby at_37) rfl (tlt hc37).2.2.2 kG) ?_
        refine Go.via (U' := T16.setTop (mkF m 42 #[.val (.int x0), .val (.int x1), .val (.int x2), .val (.int x3), .val (.int x4), .val (.int (x0 &&& (3 : Int32))), .val (.ref b1), .unset, .unset, .unset, .unset] [(.ref b1)])) (fun tG kG => XS.aload X19.here hx rfl (hb hby at_40) rfl rfl kG) ?_
        refine Go.via (U' := T16.setTop (mkF m 43 #[.val (.int x0), .val (.int x1), .val (.int x2), .val (.int x3), .val (.int x4), .val (.int (x0 &&& (3 : Int32))), .val (.ref b1), .unset, .unset, .unset, .unset] [(.int (2 : Int32)), (.ref b1)])) (fun tG kG => XS.iconst X19.here hx rfl (hb hby at_42) kG) ?_
        refine Go.via (U' := T16.setTop (mkF m 44 #[.val (.int x0), .val (.int x1), .val (.int x2), .val (.int x3), .val (.int x4), .val (.int (x0 &&& (3 : Int32))), .val (.ref b1), .unset, .unset, .unset, .unset] [(.int x3), (.int (2 : Int32)), (.ref b1)])) (fun tG kG => XS.iloadN X19.here hx rfl (hb hby at_43) rfl kG) ?_
        refine Go.via (U' := T16.setTop (mkF m 45 #[.val (.int x0), .val (.int x1), .val (.int x2), .val (.int x3), .val (.int x4), .val (.int (x0 &&& (3 : Int32))), .val (.ref b1), .unset, .unset, .unset, .unset] [(.int (x3.toInt8.toInt32)), (.int (2 : Int32)), (.ref b1)])) (fun tG kG => XS.i2b X19.here hx rfl (hb hby at_44) rfl kG) ?_
        obtain ⟨T313, h313, X313, e313, W313, A313, st313⟩ := own_stB X19 hx hZ e20 f26 (j := (2 : Int32)) (x := (x3.toInt8.toInt32)) ⟨by decide, hc37⟩ (pc := 45) (Ls := #[.val (.int x0), .val (.int x1), .val (.int x2), .val (.int x3), .val (.int x4), .val (.int (x0 &&& (3 : Int32))), .val (.ref b1), .unset, .unset, .unset, .unset]) (rest := []) (hb hby at_45)
        have f314 := f24.wr W313
        have f315 := f25.wr W313
        replace A313 : Arf Z h313 b1 k1 .byte (x0 &&& (3 : Int32)) (own_upd (own_h0_25_Ab1 x0 x1 x2) 2 (nar .byte (x3.toInt8.toInt32))) := A313
        have K313 := K23.wr W313 (Or.inr sz_b1)
        have N313 := Fr.snoc X313 N21 g_b1
        have Z313 := Nat.le_trans Z22 (Keep.of_wr W313).1
        refine Go.via (U' := T313.setTop (mkF m 46 #[.val (.int x0), .val (.int x1), .val (.int x2), .val (.int x3), .val (.int x4), .val (.int (x0 &&& (3 : Int32))), .val (.ref b1), .unset, .unset, .unset, .unset] [])) (fun tG kG => st313 tG kG) ?_
        have q_own_h0_37_Ab1 : (own_h0_37_Ab1 x0 x1 x2 x3) = (own_upd (own_h0_25_Ab1 x0 x1 x2) 2 (nar .byte (x3.toInt8.toInt32))) := by unfold own_h0_37_Ab1; simp only [if_pos hc37]
        have q_J := J27 T313 _ _ X313 e313 N313 Z313 K313 f314 f315 (by rw [q_own_h0_37_Ab1]; exact A313)
        exact q_J
      · refine Go.via (U' := T16.setTop (mkF m 46 #[.val (.int x0), .val (.int x1), .val (.int x2), .val (.int x3), .val (.int x4), .val (.int (x0 &&& (3 : Int32))), .val (.ref b1), .unset, .unset, .unset, .unset] [])) (fun tG kG => XS.icmpYes X19.here hx rfl (pc0 := 37) (pc' := 46) rfl (hb hby at_37) rfl (flt hc37).2.2.2 (by decide) (by decide) kG) ?_
        have q_own_h0_37_Ab1 : (own_h0_37_Ab1 x0 x1 x2 x3) = (own_h0_25_Ab1 x0 x1 x2) := by unfold own_h0_37_Ab1; simp only [if_neg hc37]
        have q_J := J27 T16 _ _ X19 e20 N21 Z22 K23 f24 f25 (by rw [q_own_h0_37_Ab1]; exact f26)
        exact q_J
    by_cases hc25 : (1 : Int32) < (x0 &&& (3 : Int32))
    · refine Go.via (U' := T4.setTop (mkF m 28 #[.val (.int x0), .val (.int x1), .val (.int x2), .val (.int x3), .val (.int x4), .val (.int (x0 &&& (3 : Int32))), .val (.ref b1), .unset, .unset, .unset, .unset] [])) (fun tG kG => XS.icmpNo X7.here hx rfl (hb hby at_25) rfl (tlt hc25).2.2.2 kG) ?_
      refine Go.via (U' := T4.setTop (mkF m 30 #[.val (.int x0), .val (.int x1), .val (.int x2), .val (.int x3), .val (.int x4), .val (.int (x0 &&& (3 : Int32))), .val (.ref b1), .unset, .unset, .unset, .unset] [(.ref b1)])) (fun tG kG => XS.aload X7.here hx rfl (hb hby at_28) rfl rfl kG) ?_
      refine Go.via (U' := T4.setTop (mkF m 31 #[.val (.int x0), .val (.int x1), .val (.int x2), .val (.int x3), .val (.int x4), .val (.int (x0 &&& (3 : Int32))), .val (.ref b1), .unset, .unset, .unset, .unset] [(.int (1 : Int32)), (.ref b1)])) (fun tG kG => XS.iconst X7.here hx rfl (hb hby at_30) kG) ?_
      refine Go.via (U' := T4.setTop (mkF m 32 #[.val (.int x0), .val (.int x1), .val (.int x2), .val (.int x3), .val (.int x4), .val (.int (x0 &&& (3 : Int32))), .val (.ref b1), .unset, .unset, .unset, .unset] [(.int x2), (.int (1 : Int32)), (.ref b1)])) (fun tG kG => XS.iloadN X7.here hx rfl (hb hby at_31) rfl kG) ?_
      refine Go.via (U' := T4.setTop (mkF m 33 #[.val (.int x0), .val (.int x1), .val (.int x2), .val (.int x3), .val (.int x4), .val (.int (x0 &&& (3 : Int32))), .val (.ref b1), .unset, .unset, .unset, .unset] [(.int (x2.toInt8.toInt32)), (.int (1 : Int32)), (.ref b1)])) (fun tG kG => XS.i2b X7.here hx rfl (hb hby at_32) rfl kG) ?_
      obtain ⟨T316, h316, X316, e316, W316, A316, st316⟩ := own_stB X7 hx hZ e8 f14 (j := (1 : Int32)) (x := (x2.toInt8.toInt32)) ⟨by decide, hc25⟩ (pc := 33) (Ls := #[.val (.int x0), .val (.int x1), .val (.int x2), .val (.int x3), .val (.int x4), .val (.int (x0 &&& (3 : Int32))), .val (.ref b1), .unset, .unset, .unset, .unset]) (rest := []) (hb hby at_33)
      have f317 := f12.wr W316
      have f318 := f13.wr W316
      replace A316 : Arf Z h316 b1 k1 .byte (x0 &&& (3 : Int32)) (own_upd (own_h0_13_Ab1 x0 x1) 1 (nar .byte (x2.toInt8.toInt32))) := A316
      have K316 := K11.wr W316 (Or.inr sz_b1)
      have N316 := Fr.snoc X316 N9 g_b1
      have Z316 := Nat.le_trans Z10 (Keep.of_wr W316).1
      refine Go.via (U' := T316.setTop (mkF m 34 #[.val (.int x0), .val (.int x1), .val (.int x2), .val (.int x3), .val (.int x4), .val (.int (x0 &&& (3 : Int32))), .val (.ref b1), .unset, .unset, .unset, .unset] [])) (fun tG kG => st316 tG kG) ?_
      have q_own_h0_25_Ab1 : (own_h0_25_Ab1 x0 x1 x2) = (own_upd (own_h0_13_Ab1 x0 x1) 1 (nar .byte (x2.toInt8.toInt32))) := by unfold own_h0_25_Ab1; simp only [if_pos hc25]
      have q_J := J15 T316 _ _ X316 e316 N316 Z316 K316 f317 f318 (by rw [q_own_h0_25_Ab1]; exact A316)
      exact q_J
    · refine Go.via (U' := T4.setTop (mkF m 34 #[.val (.int x0), .val (.int x1), .val (.int x2), .val (.int x3), .val (.int x4), .val (.int (x0 &&& (3 : Int32))), .val (.ref b1), .unset, .unset, .unset, .unset] [])) (fun tG kG => XS.icmpYes X7.here hx rfl (pc0 := 25) (pc' := 34) rfl (hb hby at_25) rfl (flt hc25).2.2.2 (by decide) (by decide) kG) ?_
      have q_own_h0_25_Ab1 : (own_h0_25_Ab1 x0 x1 x2) = (own_h0_13_Ab1 x0 x1) := by unfold own_h0_25_Ab1; simp only [if_neg hc25]
      have q_J := J15 T4 _ _ X7 e8 N9 Z10 K11 f12 f13 (by rw [q_own_h0_25_Ab1]; exact f14)
      exact q_J
  by_cases hc13 : (0 : Int32) < (x0 &&& (3 : Int32))
  · refine Go.via (U' := T1.setTop (mkF m 16 #[.val (.int x0), .val (.int x1), .val (.int x2), .val (.int x3), .val (.int x4), .val (.int (x0 &&& (3 : Int32))), .val (.ref b1), .unset, .unset, .unset, .unset] [])) (fun tG kG => XS.ifNo X1.here hx rfl (hb hby at_13) rfl ((if0 _ _).trans (tlt hc13).2.2.2) kG) ?_
    refine Go.via (U' := T1.setTop (mkF m 18 #[.val (.int x0), .val (.int x1), .val (.int x2), .val (.int x3), .val (.int x4), .val (.int (x0 &&& (3 : Int32))), .val (.ref b1), .unset, .unset, .unset, .unset] [(.ref b1)])) (fun tG kG => XS.aload X1.here hx rfl (hb hby at_16) rfl rfl kG) ?_
    refine Go.via (U' := T1.setTop (mkF m 19 #[.val (.int x0), .val (.int x1), .val (.int x2), .val (.int x3), .val (.int x4), .val (.int (x0 &&& (3 : Int32))), .val (.ref b1), .unset, .unset, .unset, .unset] [(.int (0 : Int32)), (.ref b1)])) (fun tG kG => XS.iconst X1.here hx rfl (hb hby at_18) kG) ?_
    refine Go.via (U' := T1.setTop (mkF m 20 #[.val (.int x0), .val (.int x1), .val (.int x2), .val (.int x3), .val (.int x4), .val (.int (x0 &&& (3 : Int32))), .val (.ref b1), .unset, .unset, .unset, .unset] [(.int x1), (.int (0 : Int32)), (.ref b1)])) (fun tG kG => XS.iloadN X1.here hx rfl (hb hby at_19) rfl kG) ?_
    refine Go.via (U' := T1.setTop (mkF m 21 #[.val (.int x0), .val (.int x1), .val (.int x2), .val (.int x3), .val (.int x4), .val (.int (x0 &&& (3 : Int32))), .val (.ref b1), .unset, .unset, .unset, .unset] [(.int (x1.toInt8.toInt32)), (.int (0 : Int32)), (.ref b1)])) (fun tG kG => XS.i2b X1.here hx rfl (hb hby at_20) rfl kG) ?_
    obtain ⟨T319, h319, X319, e319, W319, A319, st319⟩ := own_stB X1 hx hZ e1 V1 (j := (0 : Int32)) (x := (x1.toInt8.toInt32)) ⟨by decide, hc13⟩ (pc := 21) (Ls := #[.val (.int x0), .val (.int x1), .val (.int x2), .val (.int x3), .val (.int x4), .val (.int (x0 &&& (3 : Int32))), .val (.ref b1), .unset, .unset, .unset, .unset]) (rest := []) (hb hby at_21)
    have f320 := f2.wr W319
    have f321 := B1.wr W319
    replace A319 : Arf Z h319 b1 k1 .byte (x0 &&& (3 : Int32)) (own_upd (fun _ => (0 : Int32)) 0 (nar .byte (x1.toInt8.toInt32))) := A319
    have K319 := K1.wr W319 (Or.inr sz_b1)
    have N319 := Fr.snoc X319 N0 g_b1
    have Z319 := Nat.le_trans Z1 (Keep.of_wr W319).1
    refine Go.via (U' := T319.setTop (mkF m 22 #[.val (.int x0), .val (.int x1), .val (.int x2), .val (.int x3), .val (.int x4), .val (.int (x0 &&& (3 : Int32))), .val (.ref b1), .unset, .unset, .unset, .unset] [])) (fun tG kG => st319 tG kG) ?_
    have q_own_h0_13_Ab1 : (own_h0_13_Ab1 x0 x1) = (own_upd (fun _ => (0 : Int32)) 0 (nar .byte (x1.toInt8.toInt32))) := by unfold own_h0_13_Ab1; simp only [if_pos hc13]
    have q_J := J3 T319 _ _ X319 e319 N319 Z319 K319 f320 f321 (by rw [q_own_h0_13_Ab1]; exact A319)
    exact q_J
  · refine Go.via (U' := T1.setTop (mkF m 22 #[.val (.int x0), .val (.int x1), .val (.int x2), .val (.int x3), .val (.int x4), .val (.int (x0 &&& (3 : Int32))), .val (.ref b1), .unset, .unset, .unset, .unset] [])) (fun tG kG => XS.ifYes X1.here hx rfl (pc0 := 13) (pc' := 22) rfl (hb hby at_13) rfl ((if0 _ _).trans (flt hc13).2.2.2) (by decide) (by decide) kG) ?_
    have q_own_h0_13_Ab1 : (own_h0_13_Ab1 x0 x1) = (fun _ => (0 : Int32)) := by unfold own_h0_13_Ab1; simp only [if_neg hc13]
    have q_J := J3 T1 _ _ X1 e1 N0 Z1 K1 f2 B1 (by rw [q_own_h0_13_Ab1]; exact V1)
    exact q_J
theorem own_plain (x0 x1 x2 x3 x4 : Int32) : own_f0 x0 x1 x2 x3 x4 = 1 := by
  have a0 : own_j0_109_s0 x0 = 1 := by
    unfold own_j0_109_s0 own_f8 own_j0_101_s0
    by_cases h : (x0 &&& (3 : Int32)) = 0
    · rw [if_pos h, if_pos h.symm]; rfl
    · rw [if_neg h, if_neg (show ¬ (0 : Int32) = (x0 &&& (3 : Int32)) from fun e => h e.symm)]; rfl
  have a1 : own_h0_126_l9 x0 x1 x2 x3 = 1 := by
    unfold own_h0_126_l9 own_h0_146_s0
    rw [a0, if_neg (by decide : ¬ (1 : Int32) = 0), if_pos (show own_f8 _ _ = own_j0_158_s0 x0 x1 x2 x3 from rfl)]
    split <;> rfl
  have a2 : own_h0_180_l9 x0 x1 x2 x3 = 1 := by
    unfold own_h0_180_l9 own_h0_200_s0
    rw [a1, if_neg (by decide : ¬ (1 : Int32) = 0), if_pos (show own_f8 _ _ = own_j0_212_s0 x0 x1 x2 x3 from rfl)]
    split <;> rfl
  have a3 : own_h0_234_l9 x0 x1 x2 x3 = 1 := by
    unfold own_h0_234_l9 own_h0_254_s0
    rw [a2, if_neg (by decide : ¬ (1 : Int32) = 0), if_pos (show own_f8 _ _ = own_j0_266_s0 x0 x1 x2 x3 from rfl)]
    split <;> rfl
  unfold own_f0
  rw [a3]
  decide
set_option maxRecDepth 65536 in
set_option maxHeartbeats 40000000 in
theorem own_comes {Post : Tables → Env → Array Value → State → Outcome → State → Prop} (hpost : ∀ tb e args s v u, (limb_1_1.after args s (.returned v) u = true ∧ limb_1_2.after args s (.returned v) u = true) → FrameEnd s (.returned v) u (Jvm.fieldLocs frame_1_writes args s ++ Jvm.arrayLocs frame_1_arrays args s ++ Jvm.staticLocs frame_1_statics s) 16 128 → Post tb e args s (.returned v) u) :
    ArmFor flags0 classFile x code maxLocals ret World_1 tables_1 room_1 Calls_1 rest_1 Pre_1 Post := by
  intro l hfl _ _ p e ha hc hk s m args below hf hA hF happ hP
  obtain ⟨hcalls, hrest, hpre⟩ := hP
  obtain ⟨-, -, -, hnamed, -, -, -, hat⟩ := (Spec.applies_iff hf).mp happ
  obtain ⟨hg, hn⟩ := and_e (Cond.before_iff.mp (show (Jvm.Cond.and given_1 narrow_1).before args s = true from hpre))
  obtain ⟨hcnt, hg⟩ := and_e hg
  obtain ⟨w0, w1, w2, w3, w4, rfl⟩ : ∃ w0 w1 w2 w3 w4 : Value, args = #[w0, w1, w2, w3, w4] := by
    have hs : args.size = 5 := by simpa [Cond.value, given_1] using hcnt
    obtain ⟨L⟩ := args
    match L, hs with
    | [w0, w1, w2, w3, w4], _ => exact ⟨w0, w1, w2, w3, w4, rfl⟩
  have hw := fun d (hd : d ∈ tables_1) => atoms_spec (ws := Jvm.Cond.code x code maxLocals ret :: tables_1) hat d (List.mem_cons_of_mem _ hd)
  have hfit : Fit s := fun {y c} hc i hi => by
    obtain ⟨ha, rfl⟩ := Array.getElem?_eq_some_iff.mp hc
    have q := List.all_eq_true.mp ((Array.all_eq_true_iff_forall_mem.mp hF) _ (Array.getElem_mem ha)) i (List.mem_range.mpr hi)
    simpa [Array.getElem?_eq_getElem hi] using q
  obtain ⟨hsets, hown0⟩ := atoms_of _ (rest_1_c_eq ▸ (show rest_1_c.before _ s = true from hrest))
  have hr0 := Cond.before_iff.mp hown0
  obtain ⟨hg0, hg⟩ := and_e hg
  obtain ⟨i0, ei0⟩ := is_v hg0
  obtain rfl : w0 = (.int i0) := Option.some.inj ei0
  obtain ⟨hg1, hg⟩ := and_e hg
  obtain ⟨i1, ei1⟩ := is_v hg1
  obtain rfl : w1 = (.int i1) := Option.some.inj ei1
  obtain ⟨hg2, hg⟩ := and_e hg
  obtain ⟨i2, ei2⟩ := is_v hg2
  obtain rfl : w2 = (.int i2) := Option.some.inj ei2
  obtain ⟨hg3, hg⟩ := and_e hg
  obtain ⟨i3, ei3⟩ := is_v hg3
  obtain rfl : w3 = (.int i3) := Option.some.inj ei3
  obtain ⟨i4, ei4⟩ := is_v hg
  obtain rfl : w4 = (.int i4) := Option.some.inj ei4
  obtain ⟨cz, ecz⟩ := is_v (Cond.before_iff.mp (hsets _ (List.mem_of_getElem? (i := 1) rfl)))
  have S_cz := Sta.start ecz (Or.inl (hsets _ (List.mem_of_getElem? (i := 0) rfl)))
  have hcz : ¬ (cz = (0 : Int32)) := gotF (Cond.eq_ints ecz (Term.int_eval 0)) (not_v (Cond.before_iff.mp (hsets _ (List.mem_of_getElem? (i := 2) rfl))))
  obtain ⟨n, o, h1, h2, h3, _, L, rfl, ⟨rfl, N, -⟩, hq⟩ := own_rm0 l s _ hw tables_1 i0 i1 i2 i3 i4 cz s.heap s.heap.size (Nat.le_refl _) S_cz hcz p e ha hc hk s m _ below hf ((Spec.applies_iff_loose hf).mp happ).1 ⟨rfl, State.Warmed39.refl s, rfl⟩ trivial
  refine ⟨n, _, h1, h2, h3, hpost _ _ _ _ _ _ ⟨Cond.after_iff.mpr rfl, Cond.after_iff.mpr (eq_i res_at (Term.int_eval (1)) (congrArg Value.int (own_plain i0 i1 i2 i3 i4)))⟩ ⟨hq.1, hq.2.1, (hq.2.2.sift fun y hy => Or.inr (N y hy)).mono (by decide) (by decide)⟩⟩
theorem main_1_1 : Claimed_1_1 := own_comes fun _ _ _ _ _ _ h hF => ⟨h.1, hF⟩
theorem main_1_2 : Claimed_1_2 := own_comes fun _ _ _ _ _ _ h hF => ⟨h.2, hF⟩
end Jvm.Pilot.@@N@@
namespace Jvm.Pilot.@@N@@
open Jvm Jvm.ClassFile Sem Op Lib Jvm.Free Jvm.Stand Jvm.Pilot.@@N@@.Jvm.D
/-! MADE BY PROGRAM (witnessworld.py) out of the Statement's table words and the real class files: 17 classes; the members and pool entries that the words name. The judged class is class 1, her method 2. -/
namespace start1
open Jvm.ClassFile
def u (s : String) : CpInfo := .utf8 (stringToUtf16 s)
/-- a pool by its gaps: so many unusable entries, then the entry; so many at the end -/
def gap : Nat → List CpInfo → List CpInfo
  | 0, r => r
  | n + 1, r => .unusable :: gap n r
def poolList (es : List (Nat × CpInfo)) (last : Nat) : List CpInfo := es.foldr (fun e r => gap e.1 (e.2 :: r)) (gap last [])
def pool (es : List (Nat × CpInfo)) (last : Nat) : Array CpInfo := ⟨poolList es last⟩
def fileOf (pool : Array CpInfo) (this : Nat) (attrs : Array Attribute := #[]) (ms : Array MethodInfo := #[]) (fl : Nat := 33) (sup : Nat := 0) (ifs : Array Nat := #[]) (fds : Array FieldInfo := #[]) : ClassFile where
  minorVersion := 0
  majorVersion := 65
  constantPool := pool
  accessFlags := fl
  thisClass := this
  superClass := sup
  interfaces := ifs
  fields := fds
  methods := ms
  attributes := attrs
def plain (name : String) (sup : Option ClassId) : Class where
  name := name
  kind := .ordinary
  loader := none
  accessFlags := 33
  super := sup
  interfaces := #[]
  cf := none
  fields := #[]
  methods := #[]
  instanceTypes := #[]
  staticTypes := #[]
  resolved := #[]
  callSites := []
  init := .initialized
  statics := none
  mirror := none

def pool0 : Array CpInfo := pool [(5, u "<init>"), (0, u "()V"), (1, .class_ 10), (1, u "java/lang/Object")] 113

def k0c0 : Code := { maxStack := 0, maxLocals := 1, code := object_method_1_code, exceptionTable := #[], attributes := #[] }
def k0m0 : Method := { name := "<init>", desc := "()V", sig := { parameters := [], returnType := none }, accessFlags := 1, code := some k0c0 }
/-- java/lang/Object -/
def k0 : Class := { plain "java/lang/Object" none with
  accessFlags := 33
  interfaces := #[]
  cf := some (fileOf pool0 8 #[] #[{ accessFlags := 1, nameIndex := 5, descriptorIndex := 6, attributes := #[] }] 33 0 #[] #[])
  fields := #[]
  methods := #[k0m0]
  instanceTypes := #[]
  staticTypes := #[]
  resolved := Array.replicate 124 none
  statics := none }

def pool1 : Array CpInfo := pool [(2, .class_ 4), (1, u "java/lang/Object"), (0, u "<init>"), (0, u "()V"), (0, .methodref 8 9), (0, .class_ 10), (0, .nameAndType 11 12), (0, u "java/lang/String"), (0, u "valueOf"), (0, u "(C)Ljava/lang/String;"), (0, .class_ 14), (0, u "com/example/stokehold/stokehold/wire/ProtoReader"), (0, .methodref 13 16), (0, .nameAndType 5 17), (0, u "([BLjava/lang/String;)V"), (0, .methodref 13 19), (0, .nameAndType 20 21), (0, u "atEnd"), (0, u "()Z"), (0, .methodref 13 23), (0, .nameAndType 24 25), (0, u "readVarint"), (0, u "()J"), (0, .methodref 27 28), (0, .class_ 29), (0, .nameAndType 30 31), (0, u "com/example/stokehold/stokehold/wire/ProtoReaderAtEndPinLaw"), (0, u "next"), (0, u "([BI)I"), (3, u "law"), (0, u "(IIIII)Z")] 7

def k1m0 : Method := { name := "<init>", desc := "()V", sig := { parameters := [], returnType := none }, accessFlags := 2, code := none }
def k1c1 : Code := { maxStack := 3, maxLocals := 3, code := method_2_code, exceptionTable := #[], attributes := #[] }
def k1m1 : Method := { name := "next", desc := "([BI)I", sig := { parameters := [(.array .byte), .int], returnType := some .int }, accessFlags := 10, code := some k1c1 }
def k1c2 : Code := { maxStack := 5, maxLocals := 11, code := code, exceptionTable := #[], attributes := #[] }
def k1m2 : Method := { name := "law", desc := "(IIIII)Z", sig := { parameters := [.int, .int, .int, .int, .int], returnType := some .boolean }, accessFlags := 9, code := some k1c2 }
/-- com/example/stokehold/stokehold/wire/ProtoReaderAtEndPinLaw -/
def k1 : Class := { plain "com/example/stokehold/stokehold/wire/ProtoReaderAtEndPinLaw" (some 0) with
  accessFlags := 49
  interfaces := #[]
  cf := some (fileOf pool1 27 #[] #[{ accessFlags := 2, nameIndex := 5, descriptorIndex := 6, attributes := #[] }, { accessFlags := 10, nameIndex := 30, descriptorIndex := 31, attributes := #[] }, { accessFlags := 9, nameIndex := 35, descriptorIndex := 36, attributes := #[] }] 49 2 #[] #[])
  fields := #[]
  methods := #[k1m0, k1m1, k1m2]
  instanceTypes := #[]
  staticTypes := #[]
  resolved := Array.replicate 44 none
  statics := none }

def pool2 : Array CpInfo := pool [(1, .class_ 2), (0, u "java/io/Serializable"), (0, .class_ 4), (0, u "java/lang/Object")] 2

/-- java/io/Serializable -/
def k2 : Class := { plain "java/io/Serializable" (some 0) with
  accessFlags := 1537
  interfaces := #[]
  cf := some (fileOf pool2 1 #[] #[] 1537 3 #[] #[])
  fields := #[]
  methods := #[]
  instanceTypes := #[]
  staticTypes := #[]
  resolved := Array.replicate 7 none
  statics := none }

def pool3 : Array CpInfo := pool [(1, .class_ 2), (0, u "java/lang/Comparable"), (0, .class_ 4), (0, u "java/lang/Object")] 7

/-- java/lang/Comparable -/
def k3 : Class := { plain "java/lang/Comparable" (some 0) with
  accessFlags := 1537
  interfaces := #[]
  cf := some (fileOf pool3 1 #[] #[] 1537 3 #[] #[])
  fields := #[]
  methods := #[]
  instanceTypes := #[]
  staticTypes := #[]
  resolved := Array.replicate 12 none
  statics := none }

def pool4 : Array CpInfo := pool [(2, .class_ 4), (1, u "java/lang/CharSequence"), (42, .class_ 48), (0, u "java/lang/CharSequence$1CodePointIterator"), (10, .class_ 60), (0, u "java/lang/CharSequence$1CharIterator"), (5, .class_ 67), (0, u "java/lang/Object")] 63

/-- java/lang/CharSequence -/
def k4 : Class := { plain "java/lang/CharSequence" (some 0) with
  accessFlags := 1537
  interfaces := #[]
  cf := some (fileOf pool4 2 #[.nestMembers #[47, 59]] #[] 1537 66 #[] #[])
  fields := #[]
  methods := #[]
  instanceTypes := #[]
  staticTypes := #[]
  resolved := Array.replicate 131 none
  statics := none }

def pool5 : Array CpInfo := pool [(1, .class_ 2), (0, u "java/lang/constant/Constable"), (0, .class_ 4), (0, u "java/lang/Object")] 6

/-- java/lang/constant/Constable -/
def k5 : Class := { plain "java/lang/constant/Constable" (some 0) with
  accessFlags := 1537
  interfaces := #[]
  cf := some (fileOf pool5 1 #[] #[] 1537 3 #[] #[])
  fields := #[]
  methods := #[]
  instanceTypes := #[]
  staticTypes := #[]
  resolved := Array.replicate 11 none
  statics := none }

def pool6 : Array CpInfo := pool [(1, .class_ 2), (0, u "java/lang/constant/ConstantDesc"), (0, .class_ 4), (0, u "java/lang/Object")] 32

/-- java/lang/constant/ConstantDesc -/
def k6 : Class := { plain "java/lang/constant/ConstantDesc" (some 0) with
  accessFlags := 1537
  interfaces := #[]
  cf := some (fileOf pool6 1 #[] #[] 1537 3 #[] #[])
  fields := #[]
  methods := #[]
  instanceTypes := #[]
  staticTypes := #[]
  resolved := Array.replicate 37 none
  statics := none }

def pool7 : Array CpInfo := pool [(1, .methodref 2 3), (0, .class_ 4), (0, .nameAndType 5 6), (0, u "java/lang/Object"), (0, u "<init>"), (0, u "()V"), (2, .fieldref 10 11), (0, .class_ 12), (0, .nameAndType 13 14), (0, u "java/lang/String"), (0, u "value"), (0, u "[B"), (0, .fieldref 10 16), (0, .nameAndType 17 18), (0, u "coder"), (0, u "B"), (2, u "hash"), (0, u "I"), (2, u "hashIsZero"), (0, u "Z"), (11, .fieldref 10 39), (0, .nameAndType 40 26), (0, u "COMPACT_STRINGS"), (12, u "toBytes"), (53, .class_ 109), (1, u "java/lang/StringLatin1"), (99, .methodref 10 210), (0, .nameAndType 5 211), (0, u "([BB)V"), (157, u "(C)Z"), (205, .class_ 576), (0, u "java/lang/CharSequence"), (22, u "CASE_INSENSITIVE_ORDER"), (0, u "Ljava/util/Comparator;"), (181, u "valueOf"), (0, u "(C)Ljava/lang/String;"), (231, .methodref 107 1016), (0, .nameAndType 1017 369), (0, u "canEncode"), (0, .methodref 107 1019), (0, .nameAndType 53 1020), (0, u "(C)[B"), (80, u "serialPersistentFields"), (0, u "[Ljava/io/ObjectStreamField;"), (0, .class_ 1104), (0, u "java/lang/String$CaseInsensitiveComparator"), (1, .class_ 1107), (0, u "java/io/Serializable"), (0, .class_ 1109), (0, u "java/lang/Comparable"), (0, .class_ 1111), (0, u "java/lang/constant/Constable"), (0, .class_ 1113), (0, u "java/lang/constant/ConstantDesc"), (2, u "serialVersionUID"), (0, u "J"), (3, u "REPL"), (0, u "C"), (2, u "LATIN1"), (1, u "UTF16")] 323

def k7m0 : Method := { name := "<init>", desc := "()V", sig := { parameters := [], returnType := none }, accessFlags := 1, code := none }
def k7c1 : Code := { maxStack := 4, maxLocals := 1, code := jdk_42_method_139_code, exceptionTable := #[], attributes := #[] }
def k7m1 : Method := { name := "valueOf", desc := "(C)Ljava/lang/String;", sig := { parameters := [.char], returnType := some (.object "java/lang/String") }, accessFlags := 9, code := some k7c1 }
def k7c2 : Code := { maxStack := 2, maxLocals := 3, code := jdk_42_method_151_code, exceptionTable := #[], attributes := #[] }
def k7m2 : Method := { name := "<init>", desc := "([BB)V", sig := { parameters := [(.array .byte), .byte], returnType := none }, accessFlags := 0, code := some k7c2 }
/-- java/lang/String -/
def k7 : Class := { plain "java/lang/String" (some 0) with
  accessFlags := 49
  interfaces := #[2, 3, 4, 5, 6]
  cf := some (fileOf pool7 10 #[.nestMembers #[1103]] #[{ accessFlags := 1, nameIndex := 5, descriptorIndex := 6, attributes := #[] }, { accessFlags := 9, nameIndex := 782, descriptorIndex := 783, attributes := #[] }, { accessFlags := 0, nameIndex := 5, descriptorIndex := 211, attributes := #[] }] 49 2 #[1106, 1108, 575, 1110, 1112] #[{ accessFlags := 18, nameIndex := 13, descriptorIndex := 14, attributes := #[] }, { accessFlags := 18, nameIndex := 17, descriptorIndex := 18, attributes := #[] }, { accessFlags := 2, nameIndex := 21, descriptorIndex := 22, attributes := #[] }, { accessFlags := 2, nameIndex := 25, descriptorIndex := 26, attributes := #[] }, { accessFlags := 26, nameIndex := 1116, descriptorIndex := 1117, attributes := #[] }, { accessFlags := 24, nameIndex := 40, descriptorIndex := 26, attributes := #[] }, { accessFlags := 26, nameIndex := 1101, descriptorIndex := 1102, attributes := #[] }, { accessFlags := 26, nameIndex := 1121, descriptorIndex := 1122, attributes := #[] }, { accessFlags := 25, nameIndex := 599, descriptorIndex := 600, attributes := #[] }, { accessFlags := 24, nameIndex := 1125, descriptorIndex := 18, attributes := #[] }, { accessFlags := 24, nameIndex := 1127, descriptorIndex := 18, attributes := #[] }])
  fields := #[{ name := "value", type := (.array .byte), accessFlags := 18, slot := 0, constantValue := 0 }, { name := "coder", type := .byte, accessFlags := 18, slot := 1, constantValue := 0 }, { name := "hash", type := .int, accessFlags := 2, slot := 2, constantValue := 0 }, { name := "hashIsZero", type := .boolean, accessFlags := 2, slot := 3, constantValue := 0 }, { name := "serialVersionUID", type := .long, accessFlags := 26, slot := 0, constantValue := 0 }, { name := "COMPACT_STRINGS", type := .boolean, accessFlags := 24, slot := 1, constantValue := 0 }, { name := "serialPersistentFields", type := (.array (.object "java/io/ObjectStreamField")), accessFlags := 26, slot := 2, constantValue := 0 }, { name := "REPL", type := .char, accessFlags := 26, slot := 3, constantValue := 0 }, { name := "CASE_INSENSITIVE_ORDER", type := (.object "java/util/Comparator"), accessFlags := 25, slot := 4, constantValue := 0 }, { name := "LATIN1", type := .byte, accessFlags := 24, slot := 5, constantValue := 0 }, { name := "UTF16", type := .byte, accessFlags := 24, slot := 6, constantValue := 0 }]
  methods := #[k7m0, k7m1, k7m2]
  instanceTypes := #[(.array .byte), .byte, .int, .boolean]
  staticTypes := #[.long, .boolean, (.array (.object "java/io/ObjectStreamField")), .char, (.object "java/util/Comparator"), .byte, .byte]
  resolved := Array.replicate 1451 none
  statics := some 0 }

def pool8 : Array CpInfo := pool [(4, .class_ 6), (1, u "java/lang/Object"), (0, u "<init>"), (0, u "()V"), (5, .class_ 16), (1, u "java/lang/StringLatin1"), (73, u "canEncode"), (14, u "(C)Z"), (15, u "$assertionsDisabled"), (0, u "Z"), (98, .class_ 223), (1, u "java/lang/StringLatin1$LinesSpliterator"), (156, u "toBytes"), (1, u "(C)[B"), (7, .class_ 391), (0, u "java/lang/StringLatin1$CharsSpliterator")] 3

def k8m0 : Method := { name := "<init>", desc := "()V", sig := { parameters := [], returnType := none }, accessFlags := 0, code := none }
def k8c1 : Code := { maxStack := 2, maxLocals := 1, code := jdk_43_method_3_code, exceptionTable := #[], attributes := #[] }
def k8m1 : Method := { name := "canEncode", desc := "(C)Z", sig := { parameters := [.char], returnType := some .boolean }, accessFlags := 9, code := some k8c1 }
def k8c2 : Code := { maxStack := 4, maxLocals := 1, code := jdk_43_method_46_code, exceptionTable := #[], attributes := #[] }
def k8m2 : Method := { name := "toBytes", desc := "(C)[B", sig := { parameters := [.char], returnType := some (.array .byte) }, accessFlags := 9, code := some k8c2 }
/-- java/lang/StringLatin1 -/
def k8 : Class := { plain "java/lang/StringLatin1" (some 0) with
  accessFlags := 48
  interfaces := #[]
  cf := some (fileOf pool8 14 #[.nestMembers #[390, 221]] #[{ accessFlags := 0, nameIndex := 7, descriptorIndex := 8, attributes := #[] }, { accessFlags := 9, nameIndex := 90, descriptorIndex := 105, attributes := #[] }, { accessFlags := 9, nameIndex := 380, descriptorIndex := 382, attributes := #[] }] 48 4 #[] #[{ accessFlags := 4120, nameIndex := 121, descriptorIndex := 122, attributes := #[] }])
  fields := #[{ name := "$assertionsDisabled", type := .boolean, accessFlags := 4120, slot := 0, constantValue := 0 }]
  methods := #[k8m0, k8m1, k8m2]
  instanceTypes := #[]
  staticTypes := #[.boolean]
  resolved := Array.replicate 395 none
  statics := none }

def pool9 : Array CpInfo := pool [(1, .methodref 2 3), (0, .class_ 4), (0, .nameAndType 5 6), (0, u "com/example/stokehold/stokehold/wire/ProtoReader"), (0, u "<init>"), (0, u "([BIILjava/lang/String;)V"), (0, .methodref 8 9), (0, .class_ 10), (0, .nameAndType 5 11), (0, u "java/lang/Object"), (0, u "()V"), (0, .fieldref 2 13), (0, .nameAndType 14 15), (0, u "bytes"), (0, u "[B"), (0, .fieldref 2 17), (0, .nameAndType 18 19), (0, u "available"), (0, u "I"), (0, .fieldref 2 21), (0, .nameAndType 22 19), (0, u "end"), (0, .fieldref 2 24), (0, .nameAndType 25 26), (0, u "name"), (0, u "Ljava/lang/String;"), (12, u "(I)V"), (19, u "([BLjava/lang/String;)V"), (2, u "readVarint"), (0, u "()J"), (39, .class_ 105), (1, u "com/example/stokehold/stokehold/wire/ProtoReader$Decoder"), (2, .class_ 109), (0, u "com/example/stokehold/stokehold/wire/ProtoReader$MoreBytesNeeded"), (0, .fieldref 2 111), (0, .nameAndType 112 19), (0, u "position"), (6, .methodref 2 120), (0, .nameAndType 121 122), (0, u "atEnd"), (0, u "()Z"), (2, .methodref 2 126), (0, .nameAndType 127 39), (0, u "needBytes"), (56, u "VARINT"), (2, u "FIXED64"), (1, u "LENGTH_DELIMITED"), (1, u "FIXED32"), (1, u "MAX_VARINT_BYTES"), (1, u "MAX_FIELD_NUMBER"), (0, u "J"), (0, u "FIRST_BUFFER_BYTES")] 47

def k9c0 : Code := { maxStack := 5, maxLocals := 3, code := prog_14_method_1_code, exceptionTable := #[], attributes := #[] }
def k9m0 : Method := { name := "<init>", desc := "([BLjava/lang/String;)V", sig := { parameters := [(.array .byte), (.object "java/lang/String")], returnType := none }, accessFlags := 1, code := some k9c0 }
def k9c1 : Code := { maxStack := 2, maxLocals := 5, code := prog_14_method_2_code, exceptionTable := #[], attributes := #[] }
def k9m1 : Method := { name := "<init>", desc := "([BIILjava/lang/String;)V", sig := { parameters := [(.array .byte), .int, .int, (.object "java/lang/String")], returnType := none }, accessFlags := 2, code := some k9c1 }
def k9c2 : Code := { maxStack := 2, maxLocals := 1, code := prog_14_method_4_code, exceptionTable := #[], attributes := #[] }
def k9m2 : Method := { name := "atEnd", desc := "()Z", sig := { parameters := [], returnType := some .boolean }, accessFlags := 1, code := some k9c2 }
def k9c3 : Code := { maxStack := 6, maxLocals := 5, code := prog_14_method_6_code, exceptionTable := #[], attributes := #[] }
def k9m3 : Method := { name := "readVarint", desc := "()J", sig := { parameters := [], returnType := some .long }, accessFlags := 1, code := some k9c3 }
def k9c4 : Code := { maxStack := 3, maxLocals := 2, code := prog_14_method_11_code, exceptionTable := #[], attributes := #[] }
def k9m4 : Method := { name := "needBytes", desc := "(I)V", sig := { parameters := [.int], returnType := none }, accessFlags := 2, code := some k9c4 }
/-- com/example/stokehold/stokehold/wire/ProtoReader -/
def k9 : Class := { plain "com/example/stokehold/stokehold/wire/ProtoReader" (some 0) with
  accessFlags := 49
  interfaces := #[]
  cf := some (fileOf pool9 2 #[.nestMembers #[108, 103]] #[{ accessFlags := 1, nameIndex := 5, descriptorIndex := 59, attributes := #[] }, { accessFlags := 2, nameIndex := 5, descriptorIndex := 6, attributes := #[] }, { accessFlags := 1, nameIndex := 121, descriptorIndex := 122, attributes := #[] }, { accessFlags := 1, nameIndex := 62, descriptorIndex := 63, attributes := #[] }, { accessFlags := 2, nameIndex := 127, descriptorIndex := 39, attributes := #[] }] 49 8 #[] #[{ accessFlags := 25, nameIndex := 184, descriptorIndex := 19, attributes := #[] }, { accessFlags := 25, nameIndex := 187, descriptorIndex := 19, attributes := #[] }, { accessFlags := 25, nameIndex := 189, descriptorIndex := 19, attributes := #[] }, { accessFlags := 25, nameIndex := 191, descriptorIndex := 19, attributes := #[] }, { accessFlags := 26, nameIndex := 193, descriptorIndex := 19, attributes := #[] }, { accessFlags := 26, nameIndex := 195, descriptorIndex := 196, attributes := #[] }, { accessFlags := 26, nameIndex := 197, descriptorIndex := 19, attributes := #[] }, { accessFlags := 18, nameIndex := 14, descriptorIndex := 15, attributes := #[] }, { accessFlags := 18, nameIndex := 18, descriptorIndex := 19, attributes := #[] }, { accessFlags := 18, nameIndex := 22, descriptorIndex := 19, attributes := #[] }, { accessFlags := 18, nameIndex := 25, descriptorIndex := 26, attributes := #[] }, { accessFlags := 2, nameIndex := 112, descriptorIndex := 19, attributes := #[] }])
  fields := #[{ name := "VARINT", type := .int, accessFlags := 25, slot := 0, constantValue := 0 }, { name := "FIXED64", type := .int, accessFlags := 25, slot := 1, constantValue := 0 }, { name := "LENGTH_DELIMITED", type := .int, accessFlags := 25, slot := 2, constantValue := 0 }, { name := "FIXED32", type := .int, accessFlags := 25, slot := 3, constantValue := 0 }, { name := "MAX_VARINT_BYTES", type := .int, accessFlags := 26, slot := 4, constantValue := 0 }, { name := "MAX_FIELD_NUMBER", type := .long, accessFlags := 26, slot := 5, constantValue := 0 }, { name := "FIRST_BUFFER_BYTES", type := .int, accessFlags := 26, slot := 6, constantValue := 0 }, { name := "bytes", type := (.array .byte), accessFlags := 18, slot := 0, constantValue := 0 }, { name := "available", type := .int, accessFlags := 18, slot := 1, constantValue := 0 }, { name := "end", type := .int, accessFlags := 18, slot := 2, constantValue := 0 }, { name := "name", type := (.object "java/lang/String"), accessFlags := 18, slot := 3, constantValue := 0 }, { name := "position", type := .int, accessFlags := 2, slot := 4, constantValue := 0 }]
  methods := #[k9m0, k9m1, k9m2, k9m3, k9m4]
  instanceTypes := #[(.array .byte), .int, .int, (.object "java/lang/String"), .int]
  staticTypes := #[.int, .int, .int, .int, .int, .long, .int]
  resolved := Array.replicate 245 none
  statics := none }

def pool10 : Array CpInfo := pool [(2, .class_ 4), (1, u "java/lang/Object"), (0, u "<init>"), (0, u "()V"), (17, .class_ 26), (1, u "jdk/internal/util/Preconditions"), (28, .class_ 56), (0, u "jdk/internal/util/Preconditions$4"), (57, .class_ 115), (0, u "jdk/internal/util/Preconditions$1"), (7, u "SIOOBE_FORMATTER"), (0, u "Ljava/util/function/BiFunction;"), (0, .class_ 126), (0, u "jdk/internal/util/Preconditions$2"), (3, u "AIOOBE_FORMATTER"), (0, .class_ 132), (0, u "jdk/internal/util/Preconditions$3"), (3, u "IOOBE_FORMATTER")] 57

def k10m0 : Method := { name := "<init>", desc := "()V", sig := { parameters := [], returnType := none }, accessFlags := 1, code := none }
/-- jdk/internal/util/Preconditions -/
def k10 : Class := { plain "jdk/internal/util/Preconditions" (some 0) with
  accessFlags := 33
  interfaces := #[]
  cf := some (fileOf pool10 24 #[.nestMembers #[55, 131, 125, 114]] #[{ accessFlags := 1, nameIndex := 5, descriptorIndex := 6, attributes := #[] }] 33 2 #[] #[{ accessFlags := 25, nameIndex := 123, descriptorIndex := 124, attributes := #[] }, { accessFlags := 25, nameIndex := 130, descriptorIndex := 124, attributes := #[] }, { accessFlags := 25, nameIndex := 136, descriptorIndex := 124, attributes := #[] }])
  fields := #[{ name := "SIOOBE_FORMATTER", type := (.object "java/util/function/BiFunction"), accessFlags := 25, slot := 0, constantValue := 0 }, { name := "AIOOBE_FORMATTER", type := (.object "java/util/function/BiFunction"), accessFlags := 25, slot := 1, constantValue := 0 }, { name := "IOOBE_FORMATTER", type := (.object "java/util/function/BiFunction"), accessFlags := 25, slot := 2, constantValue := 0 }]
  methods := #[k10m0]
  instanceTypes := #[]
  staticTypes := #[(.object "java/util/function/BiFunction"), (.object "java/util/function/BiFunction"), (.object "java/util/function/BiFunction")]
  resolved := Array.replicate 194 none
  statics := some 1 }

def pool11 : Array CpInfo := pool [(9, u "<init>"), (6, .class_ 18), (1, u "java/lang/Object"), (0, u "()V"), (1, .class_ 23), (1, u "jdk/internal/util/ArraysSupport"), (0, u "LOG2_ARRAY_LONG_INDEX_SCALE"), (0, u "I"), (2, u "U"), (0, u "Ljdk/internal/misc/Unsafe;"), (8, u "BIG_ENDIAN"), (0, u "Z"), (8, u "LOG2_BYTE_BIT_SIZE"), (4, u "LOG2_ARRAY_INT_INDEX_SCALE"), (54, u "JLA"), (0, u "Ljdk/internal/access/JavaLangAccess;"), (11, u "LOG2_ARRAY_BOOLEAN_INDEX_SCALE"), (9, u "LOG2_ARRAY_BYTE_INDEX_SCALE"), (5, u "LOG2_ARRAY_CHAR_INDEX_SCALE"), (5, u "LOG2_ARRAY_SHORT_INDEX_SCALE"), (18, u "LOG2_ARRAY_FLOAT_INDEX_SCALE"), (24, u "LOG2_ARRAY_DOUBLE_INDEX_SCALE"), (89, u "T_BOOLEAN"), (2, u "T_CHAR"), (1, u "T_FLOAT"), (1, u "T_DOUBLE"), (1, u "T_BYTE"), (1, u "T_SHORT"), (1, u "T_INT"), (1, u "T_LONG"), (1, u "SOFT_MAX_ARRAY_LENGTH")] 83

def k11m0 : Method := { name := "<init>", desc := "()V", sig := { parameters := [], returnType := none }, accessFlags := 2, code := none }
/-- jdk/internal/util/ArraysSupport -/
def k11 : Class := { plain "jdk/internal/util/ArraysSupport" (some 0) with
  accessFlags := 33
  interfaces := #[]
  cf := some (fileOf pool11 21 #[] #[{ accessFlags := 2, nameIndex := 9, descriptorIndex := 19, attributes := #[] }] 33 16 #[] #[{ accessFlags := 24, nameIndex := 28, descriptorIndex := 29, attributes := #[] }, { accessFlags := 26, nameIndex := 38, descriptorIndex := 39, attributes := #[] }, { accessFlags := 25, nameIndex := 121, descriptorIndex := 25, attributes := #[] }, { accessFlags := 25, nameIndex := 131, descriptorIndex := 25, attributes := #[] }, { accessFlags := 25, nameIndex := 137, descriptorIndex := 25, attributes := #[] }, { accessFlags := 25, nameIndex := 143, descriptorIndex := 25, attributes := #[] }, { accessFlags := 25, nameIndex := 53, descriptorIndex := 25, attributes := #[] }, { accessFlags := 25, nameIndex := 24, descriptorIndex := 25, attributes := #[] }, { accessFlags := 25, nameIndex := 162, descriptorIndex := 25, attributes := #[] }, { accessFlags := 25, nameIndex := 187, descriptorIndex := 25, attributes := #[] }, { accessFlags := 26, nameIndex := 48, descriptorIndex := 25, attributes := #[] }, { accessFlags := 25, nameIndex := 277, descriptorIndex := 25, attributes := #[] }, { accessFlags := 25, nameIndex := 280, descriptorIndex := 25, attributes := #[] }, { accessFlags := 25, nameIndex := 282, descriptorIndex := 25, attributes := #[] }, { accessFlags := 25, nameIndex := 284, descriptorIndex := 25, attributes := #[] }, { accessFlags := 25, nameIndex := 286, descriptorIndex := 25, attributes := #[] }, { accessFlags := 25, nameIndex := 288, descriptorIndex := 25, attributes := #[] }, { accessFlags := 25, nameIndex := 290, descriptorIndex := 25, attributes := #[] }, { accessFlags := 25, nameIndex := 292, descriptorIndex := 25, attributes := #[] }, { accessFlags := 26, nameIndex := 108, descriptorIndex := 109, attributes := #[] }, { accessFlags := 25, nameIndex := 294, descriptorIndex := 25, attributes := #[] }])
  fields := #[{ name := "U", type := (.object "jdk/internal/misc/Unsafe"), accessFlags := 24, slot := 0, constantValue := 0 }, { name := "BIG_ENDIAN", type := .boolean, accessFlags := 26, slot := 1, constantValue := 0 }, { name := "LOG2_ARRAY_BOOLEAN_INDEX_SCALE", type := .int, accessFlags := 25, slot := 2, constantValue := 0 }, { name := "LOG2_ARRAY_BYTE_INDEX_SCALE", type := .int, accessFlags := 25, slot := 3, constantValue := 0 }, { name := "LOG2_ARRAY_CHAR_INDEX_SCALE", type := .int, accessFlags := 25, slot := 4, constantValue := 0 }, { name := "LOG2_ARRAY_SHORT_INDEX_SCALE", type := .int, accessFlags := 25, slot := 5, constantValue := 0 }, { name := "LOG2_ARRAY_INT_INDEX_SCALE", type := .int, accessFlags := 25, slot := 6, constantValue := 0 }, { name := "LOG2_ARRAY_LONG_INDEX_SCALE", type := .int, accessFlags := 25, slot := 7, constantValue := 0 }, { name := "LOG2_ARRAY_FLOAT_INDEX_SCALE", type := .int, accessFlags := 25, slot := 8, constantValue := 0 }, { name := "LOG2_ARRAY_DOUBLE_INDEX_SCALE", type := .int, accessFlags := 25, slot := 9, constantValue := 0 }, { name := "LOG2_BYTE_BIT_SIZE", type := .int, accessFlags := 26, slot := 10, constantValue := 0 }, { name := "T_BOOLEAN", type := .int, accessFlags := 25, slot := 11, constantValue := 0 }, { name := "T_CHAR", type := .int, accessFlags := 25, slot := 12, constantValue := 0 }, { name := "T_FLOAT", type := .int, accessFlags := 25, slot := 13, constantValue := 0 }, { name := "T_DOUBLE", type := .int, accessFlags := 25, slot := 14, constantValue := 0 }, { name := "T_BYTE", type := .int, accessFlags := 25, slot := 15, constantValue := 0 }, { name := "T_SHORT", type := .int, accessFlags := 25, slot := 16, constantValue := 0 }, { name := "T_INT", type := .int, accessFlags := 25, slot := 17, constantValue := 0 }, { name := "T_LONG", type := .int, accessFlags := 25, slot := 18, constantValue := 0 }, { name := "JLA", type := (.object "jdk/internal/access/JavaLangAccess"), accessFlags := 26, slot := 19, constantValue := 0 }, { name := "SOFT_MAX_ARRAY_LENGTH", type := .int, accessFlags := 25, slot := 20, constantValue := 0 }]
  methods := #[k11m0]
  instanceTypes := #[]
  staticTypes := #[(.object "jdk/internal/misc/Unsafe"), .boolean, .int, .int, .int, .int, .int, .int, .int, .int, .int, .int, .int, .int, .int, .int, .int, .int, .int, (.object "jdk/internal/access/JavaLangAccess"), .int]
  resolved := Array.replicate 378 none
  statics := none }

def pool12 : Array CpInfo := pool [(1, u "java/lang/Cloneable"), (0, .class_ 1), (0, u "java/lang/Object"), (0, .class_ 3)] 3

/-- java/lang/Cloneable -/
def k12 : Class := { plain "java/lang/Cloneable" (some 0) with
  accessFlags := 1537
  interfaces := #[]
  cf := some (fileOf pool12 2 #[] #[] 1537 4 #[] #[])
  fields := #[]
  methods := #[]
  instanceTypes := #[]
  staticTypes := #[]
  resolved := Array.replicate 8 none
  statics := none }

/-- the primitive byte -/
def k13 : Class := { plain "byte" none with kind := .primitive 'B', accessFlags := 0x411 }
/-- [B -/
def k14 : Class := { plain "[B" (some 0) with kind := .array 13 .byte, interfaces := #[12, 2], accessFlags := 1041 }

/-- the primitive int -/
def k15 : Class := { plain "int" none with kind := .primitive 'I', accessFlags := 0x411 }
/-- [I -/
def k16 : Class := { plain "[I" (some 0) with kind := .array 15 .int, interfaces := #[12, 2], accessFlags := 1041 }

def heap : Heap := #[{ cls := 7, slots := #[.long 0, .int 1, .null, .int 0, .null, .int 0, .int 0], vm := .statics 7 },
  { cls := 10, slots := #[.null, .null, .null], vm := .statics 10 }]
def classes : Array Class := #[k0, k1, k2, k3, k4, k5, k6, k7, k8, k9, k10, k11, k12, k13, k14, k15, k16]
def interned : List (Array UInt16 × Addr) := []
def slotsUsed : Nat := 10
def theMethod : MethodId := ⟨1, 2⟩
def args0 : Array Value := #[.int 3, .int 200, .int 2, .int 1, .int 65]
def aboutOver (below : List Frame) : State where
  vm := { classes := classes, interned := interned.toArray }
  heap := heap
  slotsUsed := slotsUsed
  threads := #[{ frames := .invoking theMethod args0 :: below }]
def below0 : List Frame := [.native { method := ⟨0, 0⟩, args := #[] }]
def about1 : State := aboutOver below0
def p0 : Program := .bare "" "" ""
def e0 : Env := launch0.env 0 0 0
theorem w_frames : about1.frames = Frame.invoking theMethod args0 :: below0 := rfl
set_option maxRecDepth 65536 in
theorem w_args : argsFit about1.vm theMethod args0 = true := by decide +kernel
set_option maxRecDepth 65536 in
theorem w_heap : heapFits about1 = true := by decide +kernel
set_option maxRecDepth 65536 in
theorem w_runnable : about1.curStatus? = some .runnable := by decide +kernel
set_option maxRecDepth 65536 in
theorem w_alone : about1.alone = true := by decide +kernel
set_option maxRecDepth 65536 in
theorem w_named : about1.methodNamed? x = some theMethod := by decide +kernel
set_option maxRecDepth 65536 in
theorem w_hears : about1.hears theMethod below0 = true := by decide +kernel
set_option maxRecDepth 65536 in
theorem w_ripe : about1.ripe theMethod args0 below0 = true := by decide +kernel
theorem w_running : about1.status = .running := rfl
set_option maxRecDepth 65536 in
theorem w_room : about1.hasRoom e0.platform room_1 = true :=
  launch0.hasRoom_least _ room_1 (by decide +kernel) (by decide +kernel) (by decide +kernel) (by decide +kernel) (by decide +kernel) (by decide +kernel)
theorem allAtoms_all (ts : List Jvm.Cond) (a : Array Jvm.Value) (st : Jvm.State) : (allAtoms ts).before a st = ts.all (fun c => c.before a st) := by
  induction ts with
  | nil => rfl
  | cons c t ih =>
    show (Jvm.Cond.and c (allAtoms t)).before a st = _
    rw [Jvm.Cond.before_and, ih, List.all_cons]
def words1 : List Jvm.Cond := Jvm.Cond.code x code maxLocals ret :: tables_1
/-- a 'code' word, met by the world's own term for the bytes: nothing is compared byte by byte -/
theorem code_word {y : MethodName} {bytes : ByteArray} {mx : Nat} {rt : Option FieldType} {a : Array Value} {s : State} {m : MethodId} {meth : Method} {c : Code} (h1 : s.methodNamed? y = some m) (h2 : s.vm.method? m = some meth) (h3 : meth.code = some c) (h4 : c.code = bytes)
    (h5 : (c.maxLocals == mx && c.exceptionTable.isEmpty && decide (c.maxStack ≤ mostOperands) && decide (meth.sig.returnType = rt) && !meth.locks && decide (parseMethodDescriptor y.desc = some meth.sig)) = true) : (Jvm.Cond.code y bytes mx rt).before a s = true := by
  simp only [Bool.and_eq_true, beq_iff_eq, Bool.not_eq_true', decide_eq_true_eq] at h5
  obtain ⟨⟨⟨⟨⟨g1, g2⟩, g3⟩, g4⟩, g5⟩, g6⟩ := h5
  simp [Cond.before, Cond.holds, Cond.value, h1, h2, h3, h4, g1, g2, g3, g4, g5, g6]
def isCode : Jvm.Cond → Bool
  | .code _ _ _ _ => true
  | _ => false
theorem all_split {L : List Jvm.Cond} {P : Jvm.Cond → Bool} (h1 : L.all (fun c => isCode c || P c) = true) (h2 : ∀ c ∈ L.filter isCode, P c = true) : L.all P = true := by
  refine List.all_eq_true.mpr fun c hc => ?_
  have h := List.all_eq_true.mp h1 c hc
  rcases Bool.eq_false_or_eq_true (isCode c) with hi | hi
  · exact h2 c (List.mem_filter.mpr ⟨hc, hi⟩)
  · simpa [hi] using h
set_option maxRecDepth 65536 in
theorem w_c0 : (Jvm.Cond.code x code maxLocals ret).before args0 about1 = true := code_word (m := ⟨1, 2⟩) (meth := k1m2) (c := k1c2) (by decide +kernel) rfl rfl rfl (by decide +kernel)
set_option maxRecDepth 65536 in
theorem w_c1 : (Jvm.Cond.code ({ cls := "java/lang/String", name := "valueOf", desc := "(C)Ljava/lang/String;" } : Jvm.MethodName) jdk_42_method_139_code (1 : Nat) (Option.some (Jvm.ClassFile.FieldType.object "java/lang/String"))).before args0 about1 = true := code_word (m := ⟨7, 1⟩) (meth := k7m1) (c := k7c1) (by decide +kernel) rfl rfl rfl (by decide +kernel)
set_option maxRecDepth 65536 in
theorem w_c2 : (Jvm.Cond.code ({ cls := "java/lang/StringLatin1", name := "canEncode", desc := "(C)Z" } : Jvm.MethodName) jdk_43_method_3_code (1 : Nat) (Option.some Jvm.ClassFile.FieldType.boolean)).before args0 about1 = true := code_word (m := ⟨8, 1⟩) (meth := k8m1) (c := k8c1) (by decide +kernel) rfl rfl rfl (by decide +kernel)
set_option maxRecDepth 65536 in
theorem w_c3 : (Jvm.Cond.code ({ cls := "java/lang/StringLatin1", name := "toBytes", desc := "(C)[B" } : Jvm.MethodName) jdk_43_method_46_code (1 : Nat) (Option.some (Jvm.ClassFile.FieldType.array Jvm.ClassFile.FieldType.byte))).before args0 about1 = true := code_word (m := ⟨8, 2⟩) (meth := k8m2) (c := k8c2) (by decide +kernel) rfl rfl rfl (by decide +kernel)
set_option maxRecDepth 65536 in
theorem w_c4 : (Jvm.Cond.code ({ cls := "java/lang/String", name := "<init>", desc := "([BB)V" } : Jvm.MethodName) jdk_42_method_151_code (3 : Nat) (Option.none : Option Jvm.ClassFile.FieldType)).before args0 about1 = true := code_word (m := ⟨7, 2⟩) (meth := k7m2) (c := k7c2) (by decide +kernel) rfl rfl rfl (by decide +kernel)
set_option maxRecDepth 65536 in
theorem w_c5 : (Jvm.Cond.code ({ cls := "java/lang/Object", name := "<init>", desc := "()V" } : Jvm.MethodName) object_method_1_code (1 : Nat) (Option.none : Option Jvm.ClassFile.FieldType)).before args0 about1 = true := code_word (m := ⟨0, 0⟩) (meth := k0m0) (c := k0c0) (by decide +kernel) rfl rfl rfl (by decide +kernel)
set_option maxRecDepth 65536 in
theorem w_c6 : (Jvm.Cond.code ({ cls := "com/example/stokehold/stokehold/wire/ProtoReader", name := "<init>", desc := "([BLjava/lang/String;)V" } : Jvm.MethodName) prog_14_method_1_code (3 : Nat) (Option.none : Option Jvm.ClassFile.FieldType)).before args0 about1 = true := code_word (m := ⟨9, 0⟩) (meth := k9m0) (c := k9c0) (by decide +kernel) rfl rfl rfl (by decide +kernel)
set_option maxRecDepth 65536 in
theorem w_c7 : (Jvm.Cond.code ({ cls := "com/example/stokehold/stokehold/wire/ProtoReader", name := "<init>", desc := "([BIILjava/lang/String;)V" } : Jvm.MethodName) prog_14_method_2_code (5 : Nat) (Option.none : Option Jvm.ClassFile.FieldType)).before args0 about1 = true := code_word (m := ⟨9, 1⟩) (meth := k9m1) (c := k9c1) (by decide +kernel) rfl rfl rfl (by decide +kernel)
set_option maxRecDepth 65536 in
theorem w_c8 : (Jvm.Cond.code ({ cls := "com/example/stokehold/stokehold/wire/ProtoReader", name := "atEnd", desc := "()Z" } : Jvm.MethodName) prog_14_method_4_code (1 : Nat) (Option.some Jvm.ClassFile.FieldType.boolean)).before args0 about1 = true := code_word (m := ⟨9, 2⟩) (meth := k9m2) (c := k9c2) (by decide +kernel) rfl rfl rfl (by decide +kernel)
set_option maxRecDepth 65536 in
theorem w_c9 : (Jvm.Cond.code ({ cls := "com/example/stokehold/stokehold/wire/ProtoReader", name := "readVarint", desc := "()J" } : Jvm.MethodName) prog_14_method_6_code (5 : Nat) (Option.some Jvm.ClassFile.FieldType.long)).before args0 about1 = true := code_word (m := ⟨9, 3⟩) (meth := k9m3) (c := k9c3) (by decide +kernel) rfl rfl rfl (by decide +kernel)
set_option maxRecDepth 65536 in
theorem w_c10 : (Jvm.Cond.code ({ cls := "com/example/stokehold/stokehold/wire/ProtoReader", name := "needBytes", desc := "(I)V" } : Jvm.MethodName) prog_14_method_11_code (2 : Nat) (Option.none : Option Jvm.ClassFile.FieldType)).before args0 about1 = true := code_word (m := ⟨9, 4⟩) (meth := k9m4) (c := k9c4) (by decide +kernel) rfl rfl rfl (by decide +kernel)
set_option maxRecDepth 65536 in
theorem w_c11 : (Jvm.Cond.code ({ cls := "com/example/stokehold/stokehold/wire/ProtoReaderAtEndPinLaw", name := "next", desc := "([BI)I" } : Jvm.MethodName) method_2_code (3 : Nat) (Option.some Jvm.ClassFile.FieldType.int)).before args0 about1 = true := code_word (m := ⟨1, 1⟩) (meth := k1m1) (c := k1c1) (by decide +kernel) rfl rfl rfl (by decide +kernel)
def codes1 : List Jvm.Cond := [Jvm.Cond.code x code maxLocals ret, Jvm.Cond.code ({ cls := "java/lang/String", name := "valueOf", desc := "(C)Ljava/lang/String;" } : Jvm.MethodName) jdk_42_method_139_code (1 : Nat) (Option.some (Jvm.ClassFile.FieldType.object "java/lang/String")), Jvm.Cond.code ({ cls := "java/lang/StringLatin1", name := "canEncode", desc := "(C)Z" } : Jvm.MethodName) jdk_43_method_3_code (1 : Nat) (Option.some Jvm.ClassFile.FieldType.boolean), Jvm.Cond.code ({ cls := "java/lang/StringLatin1", name := "toBytes", desc := "(C)[B" } : Jvm.MethodName) jdk_43_method_46_code (1 : Nat) (Option.some (Jvm.ClassFile.FieldType.array Jvm.ClassFile.FieldType.byte)), Jvm.Cond.code ({ cls := "java/lang/String", name := "<init>", desc := "([BB)V" } : Jvm.MethodName) jdk_42_method_151_code (3 : Nat) (Option.none : Option Jvm.ClassFile.FieldType), Jvm.Cond.code ({ cls := "java/lang/Object", name := "<init>", desc := "()V" } : Jvm.MethodName) object_method_1_code (1 : Nat) (Option.none : Option Jvm.ClassFile.FieldType), Jvm.Cond.code ({ cls := "com/example/stokehold/stokehold/wire/ProtoReader", name := "<init>", desc := "([BLjava/lang/String;)V" } : Jvm.MethodName) prog_14_method_1_code (3 : Nat) (Option.none : Option Jvm.ClassFile.FieldType), Jvm.Cond.code ({ cls := "com/example/stokehold/stokehold/wire/ProtoReader", name := "<init>", desc := "([BIILjava/lang/String;)V" } : Jvm.MethodName) prog_14_method_2_code (5 : Nat) (Option.none : Option Jvm.ClassFile.FieldType), Jvm.Cond.code ({ cls := "com/example/stokehold/stokehold/wire/ProtoReader", name := "atEnd", desc := "()Z" } : Jvm.MethodName) prog_14_method_4_code (1 : Nat) (Option.some Jvm.ClassFile.FieldType.boolean), Jvm.Cond.code ({ cls := "com/example/stokehold/stokehold/wire/ProtoReader", name := "readVarint", desc := "()J" } : Jvm.MethodName) prog_14_method_6_code (5 : Nat) (Option.some Jvm.ClassFile.FieldType.long), Jvm.Cond.code ({ cls := "com/example/stokehold/stokehold/wire/ProtoReader", name := "needBytes", desc := "(I)V" } : Jvm.MethodName) prog_14_method_11_code (2 : Nat) (Option.none : Option Jvm.ClassFile.FieldType), Jvm.Cond.code ({ cls := "com/example/stokehold/stokehold/wire/ProtoReaderAtEndPinLaw", name := "next", desc := "([BI)I" } : Jvm.MethodName) method_2_code (3 : Nat) (Option.some Jvm.ClassFile.FieldType.int)]
set_option maxRecDepth 65536 in
theorem codes_eq : words1.filter isCode = codes1 := rfl
theorem w_codes : ∀ c ∈ words1.filter isCode, c.before args0 about1 = true := by
  rw [codes_eq]
  intro c hc
  simp only [codes1, List.mem_cons, List.not_mem_nil, or_false] at hc
  rcases hc with rfl | rfl | rfl | rfl | rfl | rfl | rfl | rfl | rfl | rfl | rfl | rfl
  · exact w_c0
  · exact w_c1
  · exact w_c2
  · exact w_c3
  · exact w_c4
  · exact w_c5
  · exact w_c6
  · exact w_c7
  · exact w_c8
  · exact w_c9
  · exact w_c10
  · exact w_c11
set_option maxRecDepth 65536 in
theorem w_t1 : (words1.take 24).all (fun c => isCode c || c.before args0 about1) = true := by decide +kernel
set_option maxRecDepth 65536 in
theorem w_t2 : ((words1.drop 24).take 24).all (fun c => isCode c || c.before args0 about1) = true := by decide +kernel
set_option maxRecDepth 65536 in
theorem w_t3 : ((words1.drop 24).drop 24).all (fun c => isCode c || c.before args0 about1) = true := by decide +kernel
theorem w_tables : (allAtoms (Jvm.Cond.code x code maxLocals ret :: tables_1)).before args0 about1 = true := by
  rw [allAtoms_all]
  show words1.all (fun c => c.before args0 about1) = true
  refine all_split ?_ w_codes
  rw [← List.take_append_drop 24 words1, List.all_append, w_t1, ← List.take_append_drop 24 (words1.drop 24), List.all_append, w_t2, w_t3]
  rfl
set_option maxRecDepth 65536 in
theorem w_rest : rest_1_c.before args0 about1 = true := by decide +kernel
set_option maxRecDepth 65536 in
theorem w_case : (Jvm.Cond.and given_1 narrow_1).before args0 about1 = true := by decide +kernel
theorem w_applies : (headSpec (Jvm.Cond.code x code maxLocals ret :: tables_1) room_1).applies x e0.platform about1 = true :=
  (Spec.applies_iff w_frames).mpr ⟨w_running, w_runnable, w_alone, w_named, w_hears, w_ripe, w_room, w_tables⟩
theorem atStart : AtStart classFile x code maxLocals ret World_1 tables_1 room_1 Calls_1 rest_1 Pre_1 launch0 p0 e0 about1 theMethod args0 below0 :=
  ⟨lists_1, trivial, launch0.admits_env _ _ _, launch0.least_env, fairChoices_fair.cas, fairChoices_fair.clock, w_frames, w_args, w_heap, w_applies, trivial, w_rest, w_case⟩
end start1
theorem witness_1 : WitnessClaimed_1 := ⟨start1.p0, start1.e0, start1.about1, start1.theMethod, start1.args0, start1.below0, start1.atStart⟩
end Jvm.Pilot.@@N@@

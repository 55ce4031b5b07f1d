import JvmDerived
import JvmDerived.Pilot.@@N@@Statement
import JvmDerived.Pilot.@@N@@Code
set_option linter.unusedVariables false
set_option linter.unusedSimpArgs false
namespace Jvm.Pilot.@@N@@
open Jvm Jvm.ClassFile Sem Op Lib Jvm.Free Jvm.Stand Jvm.LawKit Jvm.RoadKit Bundle Jvm.Pilot.@@N@@.Jvm.D
def own_ushr (x y : Int32) : Int32 := (x.toUInt32 >>> (y &&& 31).toUInt32).toInt32
def own_ushrL (x : Int64) (y : Int32) : Int64 := (x.toUInt64 >>> (y &&& 0x3f).toInt64.toUInt64).toInt64
section OwnKit
variable {p : Program} {l : Launch} {e : Env} {R : Room} {s : State} {m : MethodId} {args : Array Value} {below : List Frame} {meth : Method} {c : Code} {T : State} {locs : List Loc} {cells slots : Nat} {Z : State} {h h0 : Heap} {ce sl : Nat} {Q : Option Value → Heap → List Loc → Prop} {U U' : State} {a0 : Array Value}
/-- from U the walk comes to its return, and what it leaves is Q -/
def Go (p : Program) (e : Env) (below : List Frame) (s : State) (ce sl : Nat) (Q : Option Value → Heap → List Loc → Prop) (U : State) : Prop :=
  ∃ s₂ o, Steps p.tables e below U s₂ ∧ s₂.status = .running ∧ Ended s₂ below o ∧ ∃ v L, o = .returned v ∧ Q v s₂.heap L ∧ FrameEnd s o s₂ L ce sl
theorem Go.via (h : ∀ t, Steps p.tables e below U' t → Steps p.tables e below U t) (g : Go p e below s ce sl Q U') : Go p e below s ce sl Q U := by
  obtain ⟨s₂, o, h1, h2⟩ := g
  exact ⟨s₂, o, h _ h1, h2⟩
theorem Go.cast {g g' : JFrame} (q : g = g') (k : Go p e below s ce sl Q (T.setTop g')) : Go p e below s ce sl Q (T.setTop g) := q ▸ k
/-- the contract of a body: called with as', over the heap h0, it returns and leaves Q -/
def Meets (l : Launch) (Z : State) (y : MethodName) (bytes : ByteArray) (maxL : Nat) (rt : Option FieldType) (ws : List Jvm.Cond) (rm : Room) (as' : Array Value) (h0 : Heap) (Q : Option Value → Heap → List Loc → Prop) : Prop :=
  MetFree l y (head1 (Jvm.Cond.code y bytes maxL rt :: ws) rm) (fun a U => a = as' ∧ Z.Warmed39 U.vm ∧ U.heap = h0) (fun _ _ _ _ _ => True) (fun _ U o U' => ∃ v L, o = .returned v ∧ Q v U'.heap L ∧ FrameEnd U o U' L rm.cells rm.slots)
theorem meets_of {y : MethodName} {bytes : ByteArray} {maxL : Nat} {rt : Option FieldType} {ws : List Jvm.Cond} {rm : Room} {as' : Array Value} (hpl : plainFor y = true)
    (body : ∀ p e s m below meth c s₁, Stand p l e rm s m as' below meth c s₁ [] 0 0 → p.tables.exec = Jvm.exec → Z.Warmed39 s.vm → c.code = bytes → c.maxLocals = maxL → meth.sig.returnType = rt → meth.locks = false → s.vm.findClass y.cls = some m.cls → meth.name = y.name → s₁.heap = h0 →
      Go p e below s rm.cells rm.slots Q (s₁.setTop (entryFrame m as' maxL))) : Meets l Z y bytes maxL rt ws rm as' h0 Q := by
  refine MetFree.of_bodySF hpl hisR ?_
  intro p e s m args below meth c s₁ Bd hml hP hK
  obtain ⟨rfl, hZ, hh⟩ := hP
  exact body p e s m below meth c s₁ (Stand.of_body Bd) Bd.exec hZ Bd.bytes hml Bd.returns Bd.notSynchronized (findClass_of_methodNamed Bd.named) (name_of_methodNamed Bd.named Bd.method).1 (by rw [← hh, Bd.state]; rfl)
theorem go_ret (X : Stand p l e R s m args below meth c T locs cells slots) (hlk : meth.locks = false) {v : Option Value} (hv : meth.sig.returnType = none → v = none) (eT : T.heap = h) (hQ : Q v h locs) (hc : cells ≤ ce) (hs : slots ≤ sl)
    (st : ∀ fs, (∀ (f : JFrame) (acts : List Action), f.method = m → f.locked = none → f.entered = [] → (doReturn e (T.setTop f) acts v).1 = T.setFrames fs) → Steps p.tables e below U (T.setFrames fs)) : Go p e below s ce sl Q U := by
  obtain ⟨fs, hr, hrun, hended, hW, hsame⟩ := X.leave hv hlk
  exact ⟨_, _, st fs hr, hrun, hended, v, locs, rfl, (by show Q v T.heap locs; rw [eT]; exact hQ), ⟨_, rfl⟩, hW, hsame.mono hc hs⟩
theorem go_retN (X : Stand p l e R s m args below meth c T locs cells slots) (hx : p.tables.exec = Jvm.exec) (hlk : meth.locks = false) {t : FieldType} (hret : meth.sig.returnType = some t) (ht : t = .boolean ∨ t = .byte ∨ t = .char ∨ t = .short) {pc : Nat} {Ls : Array Slot} {z : Int32} {rest : List Value}
    (hd : decode c.code pc = .ok (.ireturn, 1)) (eT : T.heap = h) (hQ : Q (some (.int (nar t z))) h locs) (hc : cells ≤ ce) (hs : slots ≤ sl) : Go p e below s ce sl Q (T.setTop (mkF m pc Ls (.int z :: rest))) :=
  go_ret X hlk (fun h => by rw [hret] at h; cases h) eT hQ hc hs (fun fs hr => retN X hx hret ht hd hr)
theorem go_retI (X : Stand p l e R s m args below meth c T locs cells slots) (hx : p.tables.exec = Jvm.exec) (hlk : meth.locks = false) (hret : meth.sig.returnType = some .int) {pc : Nat} {Ls : Array Slot} {z : Int32} {rest : List Value}
    (hd : decode c.code pc = .ok (.ireturn, 1)) (eT : T.heap = h) (hQ : Q (some (.int z)) h locs) (hc : cells ≤ ce) (hs : slots ≤ sl) : Go p e below s ce sl Q (T.setTop (mkF m pc Ls (.int z :: rest))) :=
  go_ret X hlk (fun h => by rw [hret] at h; cases h) eT hQ hc hs (fun fs hr => retOut X hx hret rfl (Or.inl ⟨rfl, Or.inl rfl, z, rfl⟩) hd hr)
theorem go_retJ (X : Stand p l e R s m args below meth c T locs cells slots) (hx : p.tables.exec = Jvm.exec) (hlk : meth.locks = false) (hret : meth.sig.returnType = some .long) {pc : Nat} {Ls : Array Slot} {z : Int64} {rest : List Value}
    (hd : decode c.code pc = .ok (.lreturn, 1)) (eT : T.heap = h) (hQ : Q (some (.long z)) h locs) (hc : cells ≤ ce) (hs : slots ≤ sl) : Go p e below s ce sl Q (T.setTop (mkF m pc Ls (.long z :: rest))) :=
  go_ret X hlk (fun h => by rw [hret] at h; cases h) eT hQ hc hs (fun fs hr => retOut X hx hret rfl (Or.inr (Or.inl ⟨rfl, rfl, z, rfl⟩)) hd hr)
theorem go_retA (X : Stand p l e R s m args below meth c T locs cells slots) (hx : p.tables.exec = Jvm.exec) (hlk : meth.locks = false) {t : FieldType} (hret : meth.sig.returnType = some t) (ht : t.isReference = true) {pc : Nat} {Ls : Array Slot} {w : Value} (hw : w.isRef = true) (hn : narrow t w = w) {rest : List Value}
    (hd : decode c.code pc = .ok (.areturn, 1)) (eT : T.heap = h) (hQ : Q (some w) h locs) (hc : cells ≤ ce) (hs : slots ≤ sl) : Go p e below s ce sl Q (T.setTop (mkF m pc Ls (w :: rest))) :=
  go_ret X hlk (fun h => by rw [hret] at h; cases h) eT hQ hc hs (fun fs hr => retOut X hx hret hn (Or.inr (Or.inr (Or.inr (Or.inr ⟨rfl, ht, hw⟩)))) hd hr)
theorem go_retV (X : Stand p l e R s m args below meth c T locs cells slots) (hx : p.tables.exec = Jvm.exec) (hlk : meth.locks = false) (hret : meth.sig.returnType = none) {pc : Nat} {Ls : Array Slot}
    (hd : decode c.code pc = .ok (.return_, 1)) (eT : T.heap = h) (hQ : Q none h locs) (hc : cells ≤ ce) (hs : slots ≤ sl) : Go p e below s ce sl Q (T.setTop (mkF m pc Ls [])) :=
  go_ret X hlk (fun _ => rfl) eT hQ hc hs (fun fs hr => X.returnOut hx hret hd hr)
/-- it returned v, wrote nothing and made nothing -/
def PureR (v : Option Value) (h0 : Heap) : Option Value → Heap → List Loc → Prop := fun v' h L => v' = v ∧ h = h0 ∧ L = []
/-- a static method by its contract -/
theorem callSQ (X : Stand p l e R s m args below meth c T locs cells slots) (hx : p.tables.exec = Jvm.exec) (hZ : Z.Warmed39 s.vm) {own : String} {index : Nat} {y : MethodName} {bytes : ByteArray} {maxL : Nat} {rt : Option FieldType} {rm : Room}
    (hown : s.vm.findClass own = some m.cls) (w1 : (Jvm.Cond.methodLink own index y).before a0 Z = true) (w2 : (Jvm.Cond.static y).before a0 Z = true) (w3 : (Jvm.Cond.initialized y.cls).before a0 Z = true) (w4 : (Jvm.Cond.code y bytes maxL rt).before a0 Z = true)
    (hy : y.cls ≠ "java/lang/invoke/MethodHandle" ∧ y.cls ≠ "java/lang/invoke/VarHandle") {av : List Value} (hM : Meets l Z y bytes maxL rt [] rm av.toArray h Q) (eT : T.heap = h)
    {pc : Nat} {Ls : Array Slot} {rest : List Value} {ps : List FieldType} {r : Option FieldType} (hsize : Ls.size = c.maxLocals) (hp : parseMethodDescriptor y.desc = some ⟨ps, r⟩) (hlen : av.length = ps.length)
    (W : Nat) (hW : (rest.map fun v => v.category).sum ≤ W) (hf : rm.frames + 1 ≤ R.frames) (hl : W + (maxL + 11) + rm.locals ≤ R.locals) (hc : cells + rm.cells ≤ R.cells) (hs : slots + rm.slots ≤ R.slots) (hd : decode c.code pc = .ok (.invokestatic index, 3)) :
    ∃ v T' L, Stand p l e R s m args below meth c T' (locs ++ L) (cells + rm.cells) (slots + rm.slots) ∧ Q v T'.heap L ∧
      ∀ t, Steps p.tables e below (T'.setTop (mkF m (pc + 3) Ls (v.toList ++ rest))) t → Steps p.tables e below (T.setTop (mkF m pc Ls (av.reverse ++ rest))) t := by
  obtain ⟨v, _, ⟨T2, L2, k2, n2⟩, -, X2, ⟨Lc2, hQ2, l2, y2, z2⟩, st2⟩ := Jvm.LawKit.callS X hx (y := y) hown (mvT hZ w1) (mvT hZ w2) (mvT hZ w3) (mvT hZ w4) hy (backOf (W := W) hM hZ w4 w3 hf hl) (g := mkF m pc Ls (av.reverse ++ rest)) rfl hsize (argsL := av) (rest := rest) (lenOf hp hlen) rfl (by show 2 * 0 + _ ≤ _; rw [Nat.mul_zero, Nat.zero_add]; exact hW) hd (fun _ _ => ⟨rfl, eT, hc, hs⟩)
  dsimp only [Pt.U, Pt.locs, Pt.cells, Pt.slots] at X2 l2 y2 z2 st2 hQ2
  subst l2 y2 z2
  exact ⟨v, T2, Lc2, X2, hQ2, st2⟩
/-- a static method that writes and makes nothing -/
theorem callS0 (X : Stand p l e R s m args below meth c T locs cells slots) (hx : p.tables.exec = Jvm.exec) (hZ : Z.Warmed39 s.vm) {own : String} {index : Nat} {y : MethodName} {bytes : ByteArray} {maxL : Nat} {rt : Option FieldType} {fr lo : Nat} {v : Option Value}
    (hown : s.vm.findClass own = some m.cls) (w1 : (Jvm.Cond.methodLink own index y).before a0 Z = true) (w2 : (Jvm.Cond.static y).before a0 Z = true) (w3 : (Jvm.Cond.initialized y.cls).before a0 Z = true) (w4 : (Jvm.Cond.code y bytes maxL rt).before a0 Z = true)
    (hy : y.cls ≠ "java/lang/invoke/MethodHandle" ∧ y.cls ≠ "java/lang/invoke/VarHandle") {av : List Value} (hM : Meets l Z y bytes maxL rt [] ({ frames := fr, cells := 0, slots := 0, locals := lo } : Room) av.toArray h (PureR v h)) (eT : T.heap = h)
    {pc : Nat} {Ls : Array Slot} {rest : List Value} {ps : List FieldType} {r : Option FieldType} (hsize : Ls.size = c.maxLocals) (hp : parseMethodDescriptor y.desc = some ⟨ps, r⟩) (hlen : av.length = ps.length)
    (W : Nat) (hW : (rest.map fun v => v.category).sum ≤ W) (hf : fr + 1 ≤ R.frames) (hl : W + (maxL + 11) + lo ≤ R.locals) (hc : cells ≤ R.cells) (hs : slots ≤ R.slots) (hd : decode c.code pc = .ok (.invokestatic index, 3)) :
    ∃ T', Stand p l e R s m args below meth c T' locs cells slots ∧ T'.heap = h ∧
      ∀ t, Steps p.tables e below (T'.setTop (mkF m (pc + 3) Ls (v.toList ++ rest))) t → Steps p.tables e below (T.setTop (mkF m pc Ls (av.reverse ++ rest))) t := by
  obtain ⟨_, T2, _, X2, ⟨rfl, h2, rfl⟩, st2⟩ := callSQ X hx hZ hown w1 w2 w3 w4 hy hM eT hsize hp hlen W hW hf hl hc hs hd
  rw [List.append_nil] at X2
  exact ⟨T2, X2, h2, st2⟩
end OwnKit
section OwnKit2
variable {p : Program} {l : Launch} {e : Env} {R : Room} {s : State} {m : MethodId} {args : Array Value} {below : List Frame} {meth : Method} {c : Code} {T : State} {locs : List Loc} {cells slots : Nat} {Z : State} {h h0 : Heap} {ce sl : Nat} {Q : Option Value → Heap → List Loc → Prop} {U U' : State} {a0 : Array Value}
/-- an instance method by its contract, the resolved one being the selected one -/
theorem callVQ (X : Stand p l e R s m args below meth c T locs cells slots) (hx : p.tables.exec = Jvm.exec) (hZ : Z.Warmed39 s.vm) {own C : String} {index : Nat} {y : MethodName} {bytes : ByteArray} {maxL : Nat} {rt : Option FieldType} {rm : Room}
    (hown : s.vm.findClass own = some m.cls) (w1 : (Jvm.Cond.methodLink own index y).before a0 Z = true) (w2 : (Jvm.Cond.declares y).before a0 Z = true) (w3 : (Jvm.Cond.selects C y y).before a0 Z = true) (w5 : (Jvm.Cond.instanceMethod y).before a0 Z = true) (w6 : (Jvm.Cond.initialized y.cls).before a0 Z = true) (w4 : (Jvm.Cond.code y bytes maxL rt).before a0 Z = true)
    (hy : y.cls ≠ "java/lang/invoke/MethodHandle" ∧ y.cls ≠ "java/lang/invoke/VarHandle") {b : Addr} {av : List Value} (hE : Exa Z h b C) (hM : Meets l Z y bytes maxL rt [] rm (.ref b :: av).toArray h Q) (eT : T.heap = h)
    {pc : Nat} {Ls : Array Slot} {rest : List Value} {ps : List FieldType} {r : Option FieldType} (hsize : Ls.size = c.maxLocals) (hp : parseMethodDescriptor y.desc = some ⟨ps, r⟩) (hlen : av.length = ps.length)
    (W : Nat) (hW : (rest.map fun v => v.category).sum ≤ W) (hf : rm.frames + 1 ≤ R.frames) (hl : W + (maxL + 11) + rm.locals ≤ R.locals) (hc : cells + rm.cells ≤ R.cells) (hs : slots + rm.slots ≤ R.slots) (hd : decode c.code pc = .ok (.invokevirtual index, 3)) :
    ∃ v T' L, Stand p l e R s m args below meth c T' (locs ++ L) (cells + rm.cells) (slots + rm.slots) ∧ Q v T'.heap L ∧
      ∀ t, Steps p.tables e below (T'.setTop (mkF m (pc + 3) Ls (v.toList ++ rest))) t → Steps p.tables e below (T.setTop (mkF m pc Ls (av.reverse ++ .ref b :: rest))) t := by
  obtain ⟨cq, kq, qa, qb, qc⟩ := isOf hZ eT hE
  obtain ⟨v, _, ⟨T2, L2, k2, n2⟩, -, X2, ⟨Lc2, hQ2, l2, y2, z2⟩, st2⟩ := X.virtualBack hx (y := y) (z := y) hown (mvT hZ w1) (mvT hZ w2) (notFace_of_selects (args := #[]) (mvT hZ w3)) (mvT hZ w3) (mvT hZ w5) hy (backOf (W := W) hM hZ w4 w6 hf hl) qa qc (g := mkF m pc Ls (av.reverse ++ .ref b :: rest)) rfl hsize (Steps.refl _) (argsL := av) (rest := rest) (lenOf hp hlen) rfl (by show 2 * 0 + _ ≤ _; rw [Nat.mul_zero, Nat.zero_add]; exact hW) hd (fun _ _ => ⟨rfl, eT, hc, hs⟩)
  dsimp only [Pt.U, Pt.locs, Pt.cells, Pt.slots] at X2 l2 y2 z2 st2 hQ2
  subst l2 y2 z2
  exact ⟨v, T2, Lc2, X2, hQ2, fun t k => st2.trans k⟩
theorem callV0 (X : Stand p l e R s m args below meth c T locs cells slots) (hx : p.tables.exec = Jvm.exec) (hZ : Z.Warmed39 s.vm) {own C : String} {index : Nat} {y : MethodName} {bytes : ByteArray} {maxL : Nat} {rt : Option FieldType} {fr lo : Nat} {v : Option Value}
    (hown : s.vm.findClass own = some m.cls) (w1 : (Jvm.Cond.methodLink own index y).before a0 Z = true) (w2 : (Jvm.Cond.declares y).before a0 Z = true) (w3 : (Jvm.Cond.selects C y y).before a0 Z = true) (w5 : (Jvm.Cond.instanceMethod y).before a0 Z = true) (w6 : (Jvm.Cond.initialized y.cls).before a0 Z = true) (w4 : (Jvm.Cond.code y bytes maxL rt).before a0 Z = true)
    (hy : y.cls ≠ "java/lang/invoke/MethodHandle" ∧ y.cls ≠ "java/lang/invoke/VarHandle") {b : Addr} {av : List Value} (hE : Exa Z h b C) (hM : Meets l Z y bytes maxL rt [] ({ frames := fr, cells := 0, slots := 0, locals := lo } : Room) (.ref b :: av).toArray h (PureR v h)) (eT : T.heap = h)
    {pc : Nat} {Ls : Array Slot} {rest : List Value} {ps : List FieldType} {r : Option FieldType} (hsize : Ls.size = c.maxLocals) (hp : parseMethodDescriptor y.desc = some ⟨ps, r⟩) (hlen : av.length = ps.length)
    (W : Nat) (hW : (rest.map fun v => v.category).sum ≤ W) (hf : fr + 1 ≤ R.frames) (hl : W + (maxL + 11) + lo ≤ R.locals) (hc : cells ≤ R.cells) (hs : slots ≤ R.slots) (hd : decode c.code pc = .ok (.invokevirtual index, 3)) :
    ∃ T', Stand p l e R s m args below meth c T' locs cells slots ∧ T'.heap = h ∧
      ∀ t, Steps p.tables e below (T'.setTop (mkF m (pc + 3) Ls (v.toList ++ rest))) t → Steps p.tables e below (T.setTop (mkF m pc Ls (av.reverse ++ .ref b :: rest))) t := by
  obtain ⟨_, T2, _, X2, ⟨rfl, h2, rfl⟩, st2⟩ := callVQ X hx hZ hown w1 w2 w3 w5 w6 w4 hy hE hM eT hsize hp hlen W hW hf hl hc hs hd
  rw [List.append_nil] at X2
  exact ⟨T2, X2, h2, st2⟩
/-- a constructor by its contract -/
theorem callIQ (X : Stand p l e R s m args below meth c T locs cells slots) (hx : p.tables.exec = Jvm.exec) (hZ : Z.Warmed39 s.vm) {own : String} {index : Nat} {y : MethodName} {bytes : ByteArray} {maxL : Nat} {rm : Room} (hy1 : y.name = "<init>")
    (hown : s.vm.findClass own = some m.cls) (w1 : (Jvm.Cond.methodLink own index y).before a0 Z = true) (w5 : (Jvm.Cond.instanceMethod y).before a0 Z = true) (w6 : (Jvm.Cond.initialized y.cls).before a0 Z = true) (w4 : (Jvm.Cond.code y bytes maxL none).before a0 Z = true)
    (hy : y.cls ≠ "java/lang/invoke/MethodHandle" ∧ y.cls ≠ "java/lang/invoke/VarHandle") {b : Addr} {av : List Value} (hM : Meets l Z y bytes maxL none [] rm (.ref b :: av).toArray h Q) (eT : T.heap = h)
    {pc : Nat} {Ls : Array Slot} {rest : List Value} {ps : List FieldType} {r : Option FieldType} (hsize : Ls.size = c.maxLocals) (hp : parseMethodDescriptor y.desc = some ⟨ps, r⟩) (hlen : av.length = ps.length)
    (W : Nat) (hW : (rest.map fun v => v.category).sum ≤ W) (hf : rm.frames + 1 ≤ R.frames) (hl : W + (maxL + 11) + rm.locals ≤ R.locals) (hc : cells + rm.cells ≤ R.cells) (hs : slots + rm.slots ≤ R.slots) (hd : decode c.code pc = .ok (.invokespecial index, 3)) :
    ∃ v T' L, Stand p l e R s m args below meth c T' (locs ++ L) (cells + rm.cells) (slots + rm.slots) ∧ Q v T'.heap L ∧
      ∀ t, Steps p.tables e below (T'.setTop (mkF m (pc + 3) Ls (v.toList ++ rest))) t → Steps p.tables e below (T.setTop (mkF m pc Ls (av.reverse ++ .ref b :: rest))) t := by
  obtain ⟨v, _, ⟨T2, L2, k2, n2⟩, -, X2, ⟨Lc2, hQ2, l2, y2, z2⟩, st2⟩ := X.specialBack hx (y := y) hy1 hown (mvT hZ w1) (mvT hZ w5) (mvT hZ w4) hy (backOf (W := W) hM hZ w4 w6 hf hl) (g := mkF m pc Ls (av.reverse ++ .ref b :: rest)) rfl hsize (Steps.refl _) (a := b) (argsL := av) (rest := rest) (lenOf hp hlen) rfl (by show 2 * 0 + _ ≤ _; rw [Nat.mul_zero, Nat.zero_add]; exact hW) hd (fun _ _ => ⟨rfl, eT, hc, hs⟩)
  dsimp only [Pt.U, Pt.locs, Pt.cells, Pt.slots] at X2 l2 y2 z2 st2 hQ2
  subst l2 y2 z2
  exact ⟨v, T2, Lc2, X2, hQ2, fun t k => st2.trans k⟩
/-- a private method by its contract; that its class is no interface is told by another word of it -/
theorem callPQ (X : Stand p l e R s m args below meth c T locs cells slots) (hx : p.tables.exec = Jvm.exec) (hZ : Z.Warmed39 s.vm) {own C : String} {index : Nat} {y y2 : MethodName} {bytes : ByteArray} {maxL : Nat} {rt : Option FieldType} {rm : Room}
    (hown : s.vm.findClass own = some m.cls) (w1 : (Jvm.Cond.methodLink own index y).before a0 Z = true) (w5 : (Jvm.Cond.instanceMethod y).before a0 Z = true) (wp : (Jvm.Cond.privateMethod y).before a0 Z = true) (w3 : (Jvm.Cond.selects y2.cls y2 y2).before a0 Z = true) (hc2 : y2.cls = y.cls) (w6 : (Jvm.Cond.initialized y.cls).before a0 Z = true) (w4 : (Jvm.Cond.code y bytes maxL rt).before a0 Z = true)
    (hy : y.cls ≠ "java/lang/invoke/MethodHandle" ∧ y.cls ≠ "java/lang/invoke/VarHandle") {b : Addr} {av : List Value} (hE : Exa Z h b C) (hM : Meets l Z y bytes maxL rt [] rm (.ref b :: av).toArray h Q) (eT : T.heap = h)
    {pc : Nat} {Ls : Array Slot} {rest : List Value} {ps : List FieldType} {r : Option FieldType} (hsize : Ls.size = c.maxLocals) (hp : parseMethodDescriptor y.desc = some ⟨ps, r⟩) (hlen : av.length = ps.length)
    (W : Nat) (hW : (rest.map fun v => v.category).sum ≤ W) (hf : rm.frames + 1 ≤ R.frames) (hl : W + (maxL + 11) + rm.locals ≤ R.locals) (hc : cells + rm.cells ≤ R.cells) (hs : slots + rm.slots ≤ R.slots) (hd : decode c.code pc = .ok (.invokevirtual index, 3)) :
    ∃ v T' L, Stand p l e R s m args below meth c T' (locs ++ L) (cells + rm.cells) (slots + rm.slots) ∧ Q v T'.heap L ∧
      ∀ t, Steps p.tables e below (T'.setTop (mkF m (pc + 3) Ls (v.toList ++ rest))) t → Steps p.tables e below (T.setTop (mkF m pc Ls (av.reverse ++ .ref b :: rest))) t := by
  obtain ⟨cell, q1, q2⟩ := hE.cell
  have hpriv := Cond.privateMethod_at (mvP hZ wp (args := args))
  have w3' : (Jvm.Cond.selects y2.cls y2 y2).before args s = true := mvT hZ w3
  obtain ⟨c2, r2, m2, -, -, q3, -, kP, hkP, hkPi⟩ := Cond.selects_spec w3'
  have hsel : (Jvm.Cond.selects y.cls y y).before args s = true := selects_self_of_private (hc2 ▸ findClass_of_methodNamed q3) hkP hkPi hpriv (mvT hZ w5) hy
  obtain ⟨v, _, ⟨T2, L2, k2, n2⟩, -, X2, ⟨Lc2, hQ2, l2, y2', z2⟩, st2⟩ := X.privateBack hx (y := y) hown (mvT hZ w1) (mvT hZ w5) hsel hpriv (mvT hZ w4) hy (backOf (W := W) hM hZ w4 w6 hf hl) (g := mkF m pc Ls (av.reverse ++ .ref b :: rest)) rfl hsize (Steps.refl _) (a := b) (by rw [eT]; exact q1) q2 (argsL := av) (rest := rest) (lenOf hp hlen) rfl (by show 2 * 0 + _ ≤ _; rw [Nat.mul_zero, Nat.zero_add]; exact hW) hd (fun _ _ => ⟨rfl, eT, hc, hs⟩)
  dsimp only [Pt.U, Pt.locs, Pt.cells, Pt.slots] at X2 l2 y2' z2 st2 hQ2
  subst l2 y2' z2
  exact ⟨v, T2, Lc2, X2, hQ2, fun t k => st2.trans k⟩
theorem callP0 (X : Stand p l e R s m args below meth c T locs cells slots) (hx : p.tables.exec = Jvm.exec) (hZ : Z.Warmed39 s.vm) {own C : String} {index : Nat} {y y2 : MethodName} {bytes : ByteArray} {maxL : Nat} {rt : Option FieldType} {fr lo : Nat} {v : Option Value}
    (hown : s.vm.findClass own = some m.cls) (w1 : (Jvm.Cond.methodLink own index y).before a0 Z = true) (w5 : (Jvm.Cond.instanceMethod y).before a0 Z = true) (wp : (Jvm.Cond.privateMethod y).before a0 Z = true) (w3 : (Jvm.Cond.selects y2.cls y2 y2).before a0 Z = true) (hc2 : y2.cls = y.cls) (w6 : (Jvm.Cond.initialized y.cls).before a0 Z = true) (w4 : (Jvm.Cond.code y bytes maxL rt).before a0 Z = true)
    (hy : y.cls ≠ "java/lang/invoke/MethodHandle" ∧ y.cls ≠ "java/lang/invoke/VarHandle") {b : Addr} {av : List Value} (hE : Exa Z h b C) (hM : Meets l Z y bytes maxL rt [] ({ frames := fr, cells := 0, slots := 0, locals := lo } : Room) (.ref b :: av).toArray h (PureR v h)) (eT : T.heap = h)
    {pc : Nat} {Ls : Array Slot} {rest : List Value} {ps : List FieldType} {r : Option FieldType} (hsize : Ls.size = c.maxLocals) (hp : parseMethodDescriptor y.desc = some ⟨ps, r⟩) (hlen : av.length = ps.length)
    (W : Nat) (hW : (rest.map fun v => v.category).sum ≤ W) (hf : fr + 1 ≤ R.frames) (hl : W + (maxL + 11) + lo ≤ R.locals) (hc : cells ≤ R.cells) (hs : slots ≤ R.slots) (hd : decode c.code pc = .ok (.invokevirtual index, 3)) :
    ∃ T', Stand p l e R s m args below meth c T' locs cells slots ∧ T'.heap = h ∧
      ∀ t, Steps p.tables e below (T'.setTop (mkF m (pc + 3) Ls (v.toList ++ rest))) t → Steps p.tables e below (T.setTop (mkF m pc Ls (av.reverse ++ .ref b :: rest))) t := by
  obtain ⟨_, T2, _, X2, ⟨rfl, h2, rfl⟩, st2⟩ := callPQ X hx hZ hown w1 w5 wp w3 hc2 w6 w4 hy hE hM eT hsize hp hlen W hW hf hl hc hs hd
  rw [List.append_nil] at X2
  exact ⟨T2, X2, h2, st2⟩
end OwnKit2
section OwnKit3
variable {args : Array Value} {first s : State} {o : Option Outcome} {idx : List Nat} {a b : Term}
theorem own_eqI {k : Int32} (h : (Jvm.Cond.eq a (.int k)).value args first o s idx = some true) : a.eval args first o idx s = some (.int k) := by
  obtain ⟨x, y, hx, hy, -, hk⟩ := cmp_v (Or.inl h)
  rw [Term.int_eval] at hy
  cases hy
  obtain ⟨z, rfl⟩ := hk
  have q := gotT (Cond.eq_ints hx (Term.int_eval k)) h
  rw [hx, q]
theorem own_eqR {b' : Addr} (h : (Jvm.Cond.eq a b).value args first o s idx = some true) (hb : b.eval args first o idx s = some (.ref b')) : a.eval args first o idx s = some (.ref b') := by
  obtain ⟨x, y, hx, hy, -, hk⟩ := cmp_v (Or.inl h)
  rw [hb] at hy
  cases hy
  have hk' : x.isRef = true := hk.2
  have q := gotT (eq_R hx hb hk' rfl) h
  rw [hx, q]
theorem own_lenEq {Z : State} {x : Addr} {cl : Cell} {ty : FieldType} {t : Term} {n : Int32} (ev : t.eval args Z none [] Z = some (.ref x)) (A : Arr Z Z.heap x cl ty) (h : (Jvm.Cond.eq (.length t) (.int n)).value args Z none Z [] = some true) : cl.slots.size = n.toNatClampNeg := by
  have q := own_eqI h
  have ha : Z.arrayAt? x = some cl := Arr.fin (Vm.Alike.refl _) A
  by_cases c : cl.slots.size < 2 ^ 31
  · rw [len_f ev ha c] at q
    have e : cl.slots.size.toInt32 = n := Value.int.inj (Option.some.inj q)
    rw [← e]
    have e2 : (cl.slots.size.toInt32).toInt = cl.slots.size := len_toInt c
    show cl.slots.size = (cl.slots.size.toInt32).toInt.toNat
    omega
  · exfalso
    have q2 : (Term.length t).eval args Z none [] Z = none := by simp [Term.eval, ev, ha, c]
    rw [q2] at q
    cases q
end OwnKit3
section OwnKit4
variable {p : Program} {l : Launch} {e : Env} {R : Room} {s : State} {m : MethodId} {args : Array Value} {below : List Frame} {meth : Method} {c : Code} {T : State} {locs : List Loc} {cells slots : Nat} {Z : State} {h h0 h' : Heap} {a b : Addr} {a0 : Array Value} {k : ClassId} {ty : FieldType} {z j x : Int32} {f : Nat → Int32} {ws : List Addr} {sl : Nat} {v : Value}
/-- an array of ints (or of a narrower kind), its length z, its elements by a function -/
def Arf (Z : State) (h : Heap) (a : Addr) (k : ClassId) (ty : FieldType) (z : Int32) (f : Nat → Int32) : Prop := ∃ c : Cell, Arr Z h a c ty ∧ c.cls = k ∧ c.slots.size = z.toNatClampNeg ∧ ¬ z < 0 ∧ (∀ i, i < c.slots.size → c.slots[i]? = some (.int (f i))) ∧ ∀ i, i < c.slots.size → fits ty (.int (f i)) = true
def own_upd (f : Nat → Int32) (j : Nat) (v : Int32) : Nat → Int32 := fun i => if i = j then v else f i
theorem Arf.lt (F : Arf Z h a k ty z f) : a < h.size := by obtain ⟨c, A, -⟩ := F; exact A.lt
theorem Arf.ext (F : Arf Z h a k ty z f) (E : Ext h h') : Arf Z h' a k ty z f := by obtain ⟨c, A, r⟩ := F; exact ⟨c, A.ext E, r⟩
theorem Arf.other (F : Arf Z h b k ty z f) (W : Wr h h' a sl v) (q : b ≠ a) : Arf Z h' b k ty z f := by obtain ⟨c, A, r⟩ := F; exact ⟨c, A.other W q, r⟩
theorem Arf.keep (F : Arf Z h a k ty z f) (K : Keep h h' ws) (q : a ∉ ws) : Arf Z h' a k ty z f := by obtain ⟨c, A, r⟩ := F; exact ⟨c, ⟨K.2.1 a c A.1 q, A.2⟩, r⟩
theorem Arf.congr {f' : Nat → Int32} (F : Arf Z h a k ty z f) (q : ∀ i, i < z.toNatClampNeg → f i = f' i) : Arf Z h a k ty z f' := by
  obtain ⟨c, A, q1, S, q3, H, G⟩ := F
  exact ⟨c, A, q1, S, q3, fun i hi => by rw [H i hi, q i (S ▸ hi)], fun i hi => by rw [← q i (S ▸ hi)]; exact G i hi⟩
theorem Arf.new (A : Arr Z h a (newA k ty z) ty) (q : ¬ z < 0) (hd : defaultValue ty = .int 0) (hf : fits ty (.int 0) = true) : Arf Z h a k ty z (fun _ => 0) :=
  ⟨_, A, rfl, sz_new _ _ _, q, fun i hi => by rw [sz_new] at hi; simp [newA, hd, hi], fun _ _ => hf⟩
theorem Arf.set {c : Cell} (A : Arr Z h a c ty) (q1 : c.cls = k) (S : c.slots.size = z.toNatClampNeg) (q3 : ¬ z < 0) (H : ∀ i, i < c.slots.size → c.slots[i]? = some (.int (f i))) (G : ∀ i, i < c.slots.size → fits ty (.int (f i)) = true) (hv : fits ty (.int x) = true) (W : Wr h h' a j.toNatClampNeg (.int x)) : Arf Z h' a k ty z (own_upd f j.toNatClampNeg x) := by
  refine ⟨c.setSlot j.toNatClampNeg (.int x), A.same W, q1, (sz_set _ _ _).trans S, q3, fun i hi => ?_, fun i hi => ?_⟩
  · rw [sz_set] at hi
    by_cases e : i = j.toNatClampNeg
    · subst e; simp [Cell.setSlot, own_upd, hi]
    · have e' : ¬ j.toNatClampNeg = i := fun q => e q.symm
      have := H i hi
      simp [Cell.setSlot, own_upd, e, e', this]
  · rw [sz_set] at hi
    by_cases e : i = j.toNatClampNeg
    · subst e; simp only [own_upd, if_pos rfl]; exact hv
    · simp only [own_upd, if_neg e]; exact G i hi
theorem Arf.arv (F : Arf Z h a k ty z f) : Arv Z h a k ty z ((List.range z.toNatClampNeg).map fun i => Value.int (f i)) (.int 0) := by
  obtain ⟨c, A, q1, S, q3, H, G⟩ := F
  have q : ∀ i, i < c.slots.size → ((List.range z.toNatClampNeg).map fun i => Value.int (f i)).getD i (.int 0) = .int (f i) := fun i hi => by rw [S] at hi; simp [List.getD, hi]
  exact ⟨c, A, q1, S, q3, fun i hi => by rw [q i hi]; exact H i hi, fun i hi => by rw [q i hi]; exact G i hi⟩
theorem Arf.of_arv {vs : List Value} {d : Value} (F : Arv Z h a k ty z vs d) (q : ∀ i, i < z.toNatClampNeg → vs.getD i d = .int (f i)) : Arf Z h a k ty z f := by
  obtain ⟨c, A, q1, S, q3, H, G⟩ := F
  exact ⟨c, A, q1, S, q3, fun i hi => by rw [H i hi, q i (S ▸ hi)], fun i hi => by rw [← q i (S ▸ hi)]; exact G i hi⟩
theorem own_inb (F : Arf Z h a k ty z f) (q : ¬ j < 0 ∧ j < z) : ∃ c : Cell, Arr Z h a c ty ∧ ¬ (j < 0 ∨ c.slots.size ≤ j.toNatClampNeg) ∧ c.slots[j.toNatClampNeg]? = some (.int (f j.toNatClampNeg)) ∧ fits ty (.int (f j.toNatClampNeg)) = true := by
  obtain ⟨c, A, q1, S, q3, H, G⟩ := F
  have hin := inb_of S q
  have hlt : j.toNatClampNeg < c.slots.size := Nat.lt_of_not_le fun y => hin (Or.inr y)
  exact ⟨c, A, hin, H _ hlt, G _ hlt⟩
theorem own_len (X : Stand p l e R s m args below meth c T locs cells slots) (hx : p.tables.exec = Jvm.exec) (hZ : Z.Warmed39 s.vm) (eT : T.heap = h) (F : Arf Z h a k ty z f) {pc : Nat} {Ls : Array Slot} {rest : List Value} (hd : decode c.code pc = .ok (.arraylength, 1)) :
    ∀ t, Steps p.tables e below (T.setTop (mkF m (pc + 1) Ls (.int z :: rest))) t → Steps p.tables e below (T.setTop (mkF m pc Ls (.ref a :: rest))) t := by
  obtain ⟨cl, A, q1, S, q3, H, G⟩ := F
  intro t k
  refine X.arraylength hx (by rw [eT]; exact A.1) (State.isArrayOf_alike hZ.alike A.2.1) (g := mkF m pc Ls (.ref a :: rest)) rfl rfl hd _ ?_
  rw [len_of S q3]
  exact k
theorem own_ldI (X : Stand p l e R s m args below meth c T locs cells slots) (hx : p.tables.exec = Jvm.exec) (hZ : Z.Warmed39 s.vm) (eT : T.heap = h) (F : Arf Z h a k .int z f) (q : ¬ j < 0 ∧ j < z) {pc : Nat} {Ls : Array Slot} {rest : List Value} (hd : decode c.code pc = .ok (.iaload, 1)) :
    ∀ t, Steps p.tables e below (T.setTop (mkF m (pc + 1) Ls (.int (f j.toNatClampNeg) :: rest))) t → Steps p.tables e below (T.setTop (mkF m pc Ls (.int j :: .ref a :: rest))) t := by
  obtain ⟨cl, A, hin, hat, -⟩ := own_inb F q
  exact fun t k => X.iaload hx (by rw [eT]; exact A.1) (State.isArrayOf_alike hZ.alike A.2.1) A.2.2 hin hat (g := mkF m pc Ls (.int j :: .ref a :: rest)) rfl rfl hd _ k
theorem own_ldB (X : Stand p l e R s m args below meth c T locs cells slots) (hx : p.tables.exec = Jvm.exec) (hZ : Z.Warmed39 s.vm) (eT : T.heap = h) (F : Arf Z h a k .byte z f) (q : ¬ j < 0 ∧ j < z) {pc : Nat} {Ls : Array Slot} {rest : List Value} (hd : decode c.code pc = .ok (.baload, 1)) :
    ∀ t, Steps p.tables e below (T.setTop (mkF m (pc + 1) Ls (.int (f j.toNatClampNeg) :: rest))) t → Steps p.tables e below (T.setTop (mkF m pc Ls (.int j :: .ref a :: rest))) t := by
  obtain ⟨cl, A, hin, hat, -⟩ := own_inb F q
  exact fun t k => X.baloadBytes hx (by rw [eT]; exact A.1) (State.isArrayOf_alike hZ.alike A.2.1) A.2.2 hin hat (g := mkF m pc Ls (.int j :: .ref a :: rest)) rfl rfl hd _ k
theorem own_ldZ (X : Stand p l e R s m args below meth c T locs cells slots) (hx : p.tables.exec = Jvm.exec) (hZ : Z.Warmed39 s.vm) (eT : T.heap = h) (F : Arf Z h a k .boolean z f) (q : ¬ j < 0 ∧ j < z) {pc : Nat} {Ls : Array Slot} {rest : List Value} (hd : decode c.code pc = .ok (.baload, 1)) :
    ∀ t, Steps p.tables e below (T.setTop (mkF m (pc + 1) Ls (.int (f j.toNatClampNeg) :: rest))) t → Steps p.tables e below (T.setTop (mkF m pc Ls (.int j :: .ref a :: rest))) t := by
  obtain ⟨cl, A, hin, hat, -⟩ := own_inb F q
  exact fun t k => X.baloadBooleans hx (by rw [eT]; exact A.1) (State.isArrayOf_alike hZ.alike A.2.1) A.2.2 hin hat (g := mkF m pc Ls (.int j :: .ref a :: rest)) rfl rfl hd _ k
theorem own_stI (X : Stand p l e R s m args below meth c T locs cells slots) (hx : p.tables.exec = Jvm.exec) (hZ : Z.Warmed39 s.vm) (eT : T.heap = h) (F : Arf Z h a k .int z f) (q : ¬ j < 0 ∧ j < z) {pc : Nat} {Ls : Array Slot} {rest : List Value} (hd : decode c.code pc = .ok (.iastore, 1)) :
    ∃ T' h', Stand p l e R s m args below meth c T' (locs ++ [⟨a, j.toNatClampNeg⟩]) cells slots ∧ T'.heap = h' ∧ Wr h h' a j.toNatClampNeg (.int x) ∧ Arf Z h' a k .int z (own_upd f j.toNatClampNeg x) ∧ ∀ t, Steps p.tables e below (T'.setTop (mkF m (pc + 1) Ls rest)) t → Steps p.tables e below (T.setTop (mkF m pc Ls (.int x :: .int j :: .ref a :: rest))) t := by
  obtain ⟨cl, A, q1, S, q3, H, G⟩ := F
  obtain ⟨T', h', X', e', W, st⟩ := stI X hx hZ eT A (j := j) (inb_of S q) (g := mkF m pc Ls (.int x :: .int j :: .ref a :: rest)) rfl rfl hd
  exact ⟨T', h', X', e', W, Arf.set A q1 S q3 H G rfl W, st⟩
theorem own_stB (X : Stand p l e R s m args below meth c T locs cells slots) (hx : p.tables.exec = Jvm.exec) (hZ : Z.Warmed39 s.vm) (eT : T.heap = h) (F : Arf Z h a k .byte z f) (q : ¬ j < 0 ∧ j < z) {pc : Nat} {Ls : Array Slot} {rest : List Value} (hd : decode c.code pc = .ok (.bastore, 1)) :
    ∃ T' h', Stand p l e R s m args below meth c T' (locs ++ [⟨a, j.toNatClampNeg⟩]) cells slots ∧ T'.heap = h' ∧ Wr h h' a j.toNatClampNeg (.int (nar .byte x)) ∧ Arf Z h' a k .byte z (own_upd f j.toNatClampNeg (nar .byte x)) ∧ ∀ t, Steps p.tables e below (T'.setTop (mkF m (pc + 1) Ls rest)) t → Steps p.tables e below (T.setTop (mkF m pc Ls (.int x :: .int j :: .ref a :: rest))) t := by
  obtain ⟨cl, A, q1, S, q3, H, G⟩ := F
  obtain ⟨T', h', X', e', W, st⟩ := stB X hx hZ eT A (j := j) (inb_of S q) (g := mkF m pc Ls (.int x :: .int j :: .ref a :: rest)) rfl rfl hd
  exact ⟨T', h', X', e', W, Arf.set A q1 S q3 H G (fits_nar_byte _) W, st⟩
theorem own_stZ (X : Stand p l e R s m args below meth c T locs cells slots) (hx : p.tables.exec = Jvm.exec) (hZ : Z.Warmed39 s.vm) (eT : T.heap = h) (F : Arf Z h a k .boolean z f) (q : ¬ j < 0 ∧ j < z) {pc : Nat} {Ls : Array Slot} {rest : List Value} (hd : decode c.code pc = .ok (.bastore, 1)) :
    ∃ T' h', Stand p l e R s m args below meth c T' (locs ++ [⟨a, j.toNatClampNeg⟩]) cells slots ∧ T'.heap = h' ∧ Wr h h' a j.toNatClampNeg (.int (nar .boolean x)) ∧ Arf Z h' a k .boolean z (own_upd f j.toNatClampNeg (nar .boolean x)) ∧ ∀ t, Steps p.tables e below (T'.setTop (mkF m (pc + 1) Ls rest)) t → Steps p.tables e below (T.setTop (mkF m pc Ls (.int x :: .int j :: .ref a :: rest))) t := by
  obtain ⟨cl, A, q1, S, q3, H, G⟩ := F
  obtain ⟨T', h', X', e', W, st⟩ := stZ X hx hZ eT A (j := j) (inb_of S q) (g := mkF m pc Ls (.int x :: .int j :: .ref a :: rest)) rfl rfl hd
  exact ⟨T', h', X', e', W, Arf.set A q1 S q3 H G (fits_nar_bool _) W, st⟩
end OwnKit4
section OwnKit5
variable {Z : State} {h : Heap} {a : Addr} {k : ClassId} {ty : FieldType} {z : Int32} {f : Nat → Int32}
theorem own_ofArh (F : Arh Z h a k ty z [] ((List.range z.toNatClampNeg).map fun i => Value.int (f i)) (.int 0)) : Arf Z h a k ty z f :=
  Arf.of_arv (vs := (List.range z.toNatClampNeg).map fun i => Value.int (f i)) (d := .int 0) F fun i hi => by simp [List.getD, hi]
end OwnKit5
section OwnKit6
variable {Z : State} {h h' : Heap} {a : Addr} {k : ClassId} {ty : FieldType} {z : Int32} {f : Nat → Int32} {ws : List Addr} {C n d : String} {w : Value}
theorem own_staKeep (F : Sta Z h C n d w) (K : Keep h h' ws) (q : ∀ x ∈ ws, ∀ c : Cell, h[x]? = some c → c.vm.isStatics = false) : Sta Z h' C n d w := by
  obtain ⟨cf, i, k, f, st, cell, h1, h2, h3, h4, h5, h6, h7⟩ := F
  exact ⟨cf, i, k, f, st, cell, h1, h2, h3, h4, K.2.1 st cell h5 (fun m => by have := q st m cell h5; rw [this] at h6; cases h6), h6, h7⟩
theorem own_plainA (F : Arf Z h a k ty z f) : ∀ c : Cell, h[a]? = some c → c.vm.isStatics = false := by
  obtain ⟨cl, A, -⟩ := F
  intro c hc
  rw [A.1] at hc
  cases hc
  exact A.plain
theorem own_plainE (F : Exa Z h a C) : ∀ c : Cell, h[a]? = some c → c.vm.isStatics = false := by
  obtain ⟨cl, k, h1, -, -, h4, -⟩ := F
  intro c hc
  rw [h1] at hc
  cases hc
  exact h4
theorem own_plainF (F : Fld Z h a C n d w) : ∀ c : Cell, h[a]? = some c → c.vm.isStatics = false := old_plain F
end OwnKit6
section OwnKitW
variable {p : Program} {l : Launch} {e : Env} {R : Room} {s : State} {m : MethodId} {args : Array Value} {below : List Frame} {meth : Method} {c : Code} {T : State} {locs : List Loc} {cells slots : Nat} {Z : State} {h h0 : Heap} {ce sl : Nat} {Q : Option Value → Heap → List Loc → Prop} {U U' : State} {a0 : Array Value}
/-- as Go, the end under the wide frame (a String constant may have been made) -/
def GoW (p : Program) (e : Env) (below : List Frame) (s : State) (ce sl : Nat) (Q : Option Value → Heap → List Loc → Prop) (U : State) : Prop :=
  ∃ s₂ o, Steps p.tables e below U s₂ ∧ s₂.status = .running ∧ Ended s₂ below o ∧ ∃ v L, o = .returned v ∧ Q v s₂.heap L ∧ ReturnedEndW s o s₂ L ce sl
theorem GoW.via (h : ∀ t, Steps p.tables e below U' t → Steps p.tables e below U t) (g : GoW p e below s ce sl Q U') : GoW p e below s ce sl Q U := by
  obtain ⟨s₂, o, h1, h2⟩ := g
  exact ⟨s₂, o, h _ h1, h2⟩
theorem GoW.cast {g g' : JFrame} (q : g = g') (k : GoW p e below s ce sl Q (T.setTop g')) : GoW p e below s ce sl Q (T.setTop g) := q ▸ k
theorem GoW.ofGo {vm₁ : Vm} {n : Nat} (hS : s.Since vm₁ n) (g : Go p e below (s.setVm vm₁) ce sl (fun v h L => Q v h L ∧ n ≤ h.size) U) : GoW p e below s ce sl Q U := by
  obtain ⟨s₂, o, h1, h2, h3, v, L, h4, ⟨h5, h6⟩, h7, hW, hs⟩ := g
  obtain ⟨a, b, c⟩ := hS.ended hW h6 hs
  exact ⟨s₂, o, h1, h2, h3, v, L, h4, h5, h7, a, b, c⟩
def MeetsW (l : Launch) (Z : State) (y : MethodName) (bytes : ByteArray) (maxL : Nat) (rt : Option FieldType) (ws : List Jvm.Cond) (rm : Room) (as' : Array Value) (h0 : Heap) (Q : Option Value → Heap → List Loc → Prop) : Prop :=
  MetFree l y (head1 (Jvm.Cond.code y bytes maxL rt :: ws) rm) (fun a U => a = as' ∧ Z.Warmed39 U.vm ∧ U.heap = h0) (fun _ _ _ _ _ => True) (fun _ U o U' => ∃ v L, o = .returned v ∧ Q v U'.heap L ∧ ReturnedEndW U o U' L rm.cells rm.slots)
theorem meetsW_of {y : MethodName} {bytes : ByteArray} {maxL : Nat} {rt : Option FieldType} {ws : List Jvm.Cond} {rm : Room} {as' : Array Value} (hpl : plainFor y = true)
    (body : ∀ p e s m below meth c s₁, Stand p l e rm s m as' below meth c s₁ [] 0 0 → p.tables.exec = Jvm.exec → Z.Warmed39 s.vm → c.code = bytes → c.maxLocals = maxL → meth.sig.returnType = rt → meth.locks = false → s.vm.findClass y.cls = some m.cls → meth.name = y.name → s₁.heap = h0 →
      GoW p e below s rm.cells rm.slots Q (s₁.setTop (entryFrame m as' maxL))) : MeetsW l Z y bytes maxL rt ws rm as' h0 Q := by
  refine MetFree.of_bodySF hpl hisR ?_
  intro p e s m args below meth c s₁ Bd hml hP hK
  obtain ⟨rfl, hZ, hh⟩ := hP
  exact body p e s m below meth c s₁ (Stand.of_body Bd) Bd.exec hZ Bd.bytes hml Bd.returns Bd.notSynchronized (findClass_of_methodNamed Bd.named) (name_of_methodNamed Bd.named Bd.method).1 (by rw [← hh, Bd.state]; rfl)
theorem own_ldcS (X : Stand p l e R s m args below meth c T locs cells slots) (hx : p.tables.exec = Jvm.exec) (hZ : Z.Warmed39 s.vm) {own text : String} {index : Nat} (hown : s.vm.findClass own = some m.cls) (w : (Jvm.Cond.stringLink own index text).before a0 Z = true) (wS : ∀ a ∈ Bundle.stringAtoms, a.before a0 Z = true)
    (eT : T.heap = h) {pc : Nat} {Ls : Array Slot} {rest : List Value} (hd : decode c.code pc = .ok (.ldc index, 2)) (n : Nat) (hn : 4 * text.toList.length ≤ n) (hbig : n ≤ 536870912) (hc : cells + 2 ≤ R.cells) (hl : slots + (n + 4) ≤ R.slots) :
    ∃ (a : Addr) (T' : State) (h' : Heap) (k1 : Nat), Stand p l e R (s.setVm T'.vm) m args below meth c T' locs (cells + 2) (slots + (n + 4)) ∧ T'.heap = h' ∧ Ext h h' ∧ s.Since T'.vm k1 ∧ k1 ≤ h'.size ∧ Z.Warmed39 (s.setVm T'.vm).vm ∧ (s.setVm T'.vm).vm.findClass own = some m.cls ∧
      ∀ t, Steps p.tables e below (T'.setTop (mkF m (pc + 2) Ls (.ref a :: rest))) t → Steps p.tables e below (T.setTop (mkF m pc Ls rest)) t :=
  ldcS (s := s) (vm0 := s.vm) X hx hZ hown w wS eT (k0 := h.size) ((State.WarmedH.refl s).since h.size) (Nat.le_refl _) (g := mkF m pc Ls rest) rfl hd hn hbig hc hl
theorem own_nilC : ∀ a ∈ ([] : List Jvm.Cond), a.before a0 Z = true := fun _ q => nomatch q
theorem own_consC {d : Jvm.Cond} {L : List Jvm.Cond} (h1 : d.before a0 Z = true) (h2 : ∀ a ∈ L, a.before a0 Z = true) : ∀ a ∈ d :: L, a.before a0 Z = true := fun a q => (List.mem_cons.mp q).elim (fun u => u ▸ h1) (h2 a)
end OwnKitW
theorem own_k0 (m : MethodId) (x0 : Int32) (x1 : Int32) (x2 : Int64) (x3 : Int64) (x4 : Int32) : entryFrame m #[(.int x0), (.int x1), (.long x2), (.long x3), (.int x4)] 8 = mkF m 0 #[.val (.int x0), .val (.int x1), .val (.long x2), .second, .val (.long x3), .second, .val (.int x4), .unset] [] := by first | (simp [entryFrame, mkF, argsToLocals, Value.category]; done) | rfl
theorem own_k1 : decode method_2_code 0 = .ok (.iload_n 0, 1) := by decide +kernel
theorem own_k2 : decode method_2_code 1 = .ok (.iload_n 1, 1) := by decide +kernel
theorem own_k3 : decode method_2_code 2 = .ok (.if_icmp .le 5, 3) := by decide +kernel
theorem own_k4 : decode method_2_code 5 = .ok (.iconst 0, 1) := by decide +kernel
theorem own_k5 : decode method_2_code 6 = .ok (.ireturn, 1) := by decide +kernel
theorem own_k6 : decode method_2_code 7 = .ok (.iload_n 0, 1) := by decide +kernel
theorem own_k7 : decode method_2_code 8 = .ok (.iload_n 1, 1) := by decide +kernel
theorem own_k8 : decode method_2_code 9 = .ok (.if_icmp .ne 10, 3) := by decide +kernel
theorem own_k9 : decode method_2_code 12 = .ok (.iload 6, 2) := by decide +kernel
theorem own_k10 : decode method_2_code 14 = .ok (.bipush 127, 2) := by decide +kernel
theorem own_k11 : decode method_2_code 16 = .ok (.iand, 1) := by decide +kernel
theorem own_k12 : decode method_2_code 17 = .ok (.i2b, 1) := by decide +kernel
theorem own_k13 : decode method_2_code 18 = .ok (.ireturn, 1) := by decide +kernel
theorem own_k14 : decode method_2_code 19 = .ok (.iload_n 0, 1) := by decide +kernel
theorem own_k15 : decode method_2_code 20 = .ok (.bipush 9, 2) := by decide +kernel
theorem own_k16 : decode method_2_code 22 = .ok (.if_icmp .ge 17, 3) := by decide +kernel
theorem own_k17 : decode method_2_code 25 = .ok (.lload_n 2, 1) := by decide +kernel
theorem own_k18 : decode method_2_code 26 = .ok (.bipush 7, 2) := by decide +kernel
theorem own_k19 : decode method_2_code 28 = .ok (.iload_n 0, 1) := by decide +kernel
theorem own_k20 : decode method_2_code 29 = .ok (.imul, 1) := by decide +kernel
theorem own_k21 : decode method_2_code 30 = .ok (.lushr, 1) := by decide +kernel
theorem own_k22 : decode method_2_code 31 = .ok (.ldc2_w 7, 3) := by decide +kernel
theorem own_k23 : decode method_2_code 34 = .ok (.land, 1) := by decide +kernel
theorem own_k24 : decode method_2_code 35 = .ok (.l2i, 1) := by decide +kernel
theorem own_k25 : decode method_2_code 36 = .ok (.goto 10, 3) := by decide +kernel
theorem own_k26 : decode method_2_code 39 = .ok (.lload 4, 2) := by decide +kernel
theorem own_k27 : decode method_2_code 41 = .ok (.ldc2_w 7, 3) := by decide +kernel
theorem own_k28 : decode method_2_code 44 = .ok (.land, 1) := by decide +kernel
theorem own_k29 : decode method_2_code 45 = .ok (.l2i, 1) := by decide +kernel
def own_j1_22_s0 (x0 : Int32) (x2 : Int64) (x3 : Int64) : Int32 := (if x0 < (9 : Int32) then (((own_ushrL x2 ((7 : Int32) * x0)) &&& (127 : Int64)).toInt32) else ((x3 &&& (127 : Int64)).toInt32))
theorem own_k30 : decode method_2_code 46 = .ok (.istore 7, 2) := by decide +kernel
theorem own_k31 : decode method_2_code 48 = .ok (.iload_n 0, 1) := by decide +kernel
theorem own_k32 : decode method_2_code 49 = .ok (.iload_n 1, 1) := by decide +kernel
theorem own_k33 : decode method_2_code 50 = .ok (.iconst 1, 1) := by decide +kernel
theorem own_k34 : decode method_2_code 51 = .ok (.isub, 1) := by decide +kernel
theorem own_k35 : decode method_2_code 52 = .ok (.if_icmp .ge 12, 3) := by decide +kernel
theorem own_k36 : decode method_2_code 55 = .ok (.iload 7, 2) := by decide +kernel
theorem own_k37 : decode method_2_code 57 = .ok (.sipush 128, 3) := by decide +kernel
theorem own_k38 : decode method_2_code 60 = .ok (.ior, 1) := by decide +kernel
theorem own_k39 : decode method_2_code 61 = .ok (.goto 5, 3) := by decide +kernel
theorem own_k40 : decode method_2_code 64 = .ok (.iload 7, 2) := by decide +kernel
def own_j1_52_s0 (x0 : Int32) (x1 : Int32) (x2 : Int64) (x3 : Int64) : Int32 := (if x0 < (x1 - (1 : Int32)) then ((own_j1_22_s0 x0 x2 x3) ||| (128 : Int32)) else (own_j1_22_s0 x0 x2 x3))
theorem own_k41 : decode method_2_code 66 = .ok (.i2b, 1) := by decide +kernel
theorem own_k42 : decode method_2_code 67 = .ok (.ireturn, 1) := by decide +kernel
theorem own_k43 : plainName "com/example/stokehold/stokehold/wire/ProtoReaderReadVarintPinLaw" = true := by first | (simp [plainName, overriddenIn]; done) | decide +kernel
def own_f1 (x0 : Int32) (x1 : Int32) (x2 : Int64) (x3 : Int64) (x4 : Int32) : Int32 := (if x1 < x0 then (0 : Int32) else (if x0 = x1 then (nar .byte ((x4 &&& (127 : Int32)).toInt8.toInt32)) else (nar .byte ((own_j1_52_s0 x0 x1 x2 x3).toInt8.toInt32))))
set_option maxRecDepth 65536 in
set_option maxHeartbeats 40000000 in
theorem own_rm1 (l : Launch) (Z : State) (a0 : Array Value) (hw : ∀ d ∈ tables_1, d.before a0 Z = true) (ws : List Jvm.Cond) (x0 : Int32) (x1 : Int32) (x2 : Int64) (x3 : Int64) (x4 : Int32) (h0 : Heap) : Meets l Z (⟨"com/example/stokehold/stokehold/wire/ProtoReaderReadVarintPinLaw", "cell", "(IIJJI)B"⟩ : MethodName) method_2_code 8 (some .byte) ws ({ frames := 0, cells := 0, slots := 0, locals := 0 } : Room) #[(.int x0), (.int x1), (.long x2), (.long x3), (.int x4)] h0 (PureR (some (.int (own_f1 x0 x1 x2 x3 x4))) h0) := by
  refine meets_of (plainFor_of_name own_k43) ?_
  intro p e s m below meth c s₁ X0 hx hZ hby hml hret hlk hown hnm e0
  replace hml : c.maxLocals = 8 := hml
  replace hown : s.vm.findClass "com/example/stokehold/stokehold/wire/ProtoReaderReadVarintPinLaw" = some m.cls := hown
  refine Go.cast (own_k0 m x0 x1 x2 x3 x4) ?_
  refine Go.via (U' := s₁.setTop (mkF m 1 #[.val (.int x0), .val (.int x1), .val (.long x2), .second, .val (.long x3), .second, .val (.int x4), .unset] [(.int x0)])) (fun tG kG => XS.iloadN X0.here hx rfl (hb hby own_k1) rfl kG) ?_
  refine Go.via (U' := s₁.setTop (mkF m 2 #[.val (.int x0), .val (.int x1), .val (.long x2), .second, .val (.long x3), .second, .val (.int x4), .unset] [(.int x1), (.int x0)])) (fun tG kG => XS.iloadN X0.here hx rfl (hb hby own_k2) rfl kG) ?_
  by_cases hc2 : x1 < x0
  · refine Go.via (U' := s₁.setTop (mkF m 5 #[.val (.int x0), .val (.int x1), .val (.long x2), .second, .val (.long x3), .second, .val (.int x4), .unset] [])) (fun tG kG => XS.icmpNo X0.here hx rfl (hb hby own_k3) rfl (tlt hc2).2.2.2 kG) ?_
    refine Go.via (U' := s₁.setTop (mkF m 6 #[.val (.int x0), .val (.int x1), .val (.long x2), .second, .val (.long x3), .second, .val (.int x4), .unset] [(.int (0 : Int32))])) (fun tG kG => XS.iconst X0.here hx rfl (hb hby own_k4) kG) ?_
    exact go_retN X0 hx hlk (t := .byte) hret (by simp) (hb hby own_k5) e0 ⟨(congrArg (fun z => some (Value.int z)) (show nar .byte (0 : Int32) = (own_f1 x0 x1 x2 x3 x4) from by unfold own_f1; simp only [if_pos hc2] <;> rfl)), rfl, rfl⟩ (by decide) (by decide)
  · refine Go.via (U' := s₁.setTop (mkF m 7 #[.val (.int x0), .val (.int x1), .val (.long x2), .second, .val (.long x3), .second, .val (.int x4), .unset] [])) (fun tG kG => XS.icmpYes X0.here hx rfl (pc0 := 2) (pc' := 7) rfl (hb hby own_k3) rfl (flt hc2).2.2.2 (by decide) (by decide) kG) ?_
    refine Go.via (U' := s₁.setTop (mkF m 8 #[.val (.int x0), .val (.int x1), .val (.long x2), .second, .val (.long x3), .second, .val (.int x4), .unset] [(.int x0)])) (fun tG kG => XS.iloadN X0.here hx rfl (hb hby own_k6) rfl kG) ?_
    refine Go.via (U' := s₁.setTop (mkF m 9 #[.val (.int x0), .val (.int x1), .val (.long x2), .second, .val (.long x3), .second, .val (.int x4), .unset] [(.int x1), (.int x0)])) (fun tG kG => XS.iloadN X0.here hx rfl (hb hby own_k7) rfl kG) ?_
    by_cases hc9 : x0 = x1
    · refine Go.via (U' := s₁.setTop (mkF m 12 #[.val (.int x0), .val (.int x1), .val (.long x2), .second, .val (.long x3), .second, .val (.int x4), .unset] [])) (fun tG kG => XS.icmpNo X0.here hx rfl (hb hby own_k8) rfl (teq hc9).2 kG) ?_
      refine Go.via (U' := s₁.setTop (mkF m 14 #[.val (.int x0), .val (.int x1), .val (.long x2), .second, .val (.long x3), .second, .val (.int x4), .unset] [(.int x4)])) (fun tG kG => XS.iload X0.here hx rfl (hb hby own_k9) rfl kG) ?_
      refine Go.via (U' := s₁.setTop (mkF m 16 #[.val (.int x0), .val (.int x1), .val (.long x2), .second, .val (.long x3), .second, .val (.int x4), .unset] [(.int (127 : Int32)), (.int x4)])) (fun tG kG => XS.bipush X0.here hx rfl (hb hby own_k10) kG) ?_
      refine Go.via (U' := s₁.setTop (mkF m 17 #[.val (.int x0), .val (.int x1), .val (.long x2), .second, .val (.long x3), .second, .val (.int x4), .unset] [(.int (x4 &&& (127 : Int32)))])) (fun tG kG => XS.iand X0.here hx rfl (hb hby own_k11) rfl kG) ?_
      refine Go.via (U' := s₁.setTop (mkF m 18 #[.val (.int x0), .val (.int x1), .val (.long x2), .second, .val (.long x3), .second, .val (.int x4), .unset] [(.int ((x4 &&& (127 : Int32)).toInt8.toInt32))])) (fun tG kG => XS.i2b X0.here hx rfl (hb hby own_k12) rfl kG) ?_
      exact go_retN X0 hx hlk (t := .byte) hret (by simp) (hb hby own_k13) e0 ⟨(congrArg (fun z => some (Value.int z)) (show nar .byte ((x4 &&& (127 : Int32)).toInt8.toInt32) = (own_f1 x0 x1 x2 x3 x4) from by unfold own_f1; simp only [if_neg hc2, if_pos hc9] <;> rfl)), rfl, rfl⟩ (by decide) (by decide)
    · refine Go.via (U' := s₁.setTop (mkF m 19 #[.val (.int x0), .val (.int x1), .val (.long x2), .second, .val (.long x3), .second, .val (.int x4), .unset] [])) (fun tG kG => XS.icmpYes X0.here hx rfl (pc0 := 9) (pc' := 19) rfl (hb hby own_k8) rfl (feq hc9).2 (by decide) (by decide) kG) ?_
      refine Go.via (U' := s₁.setTop (mkF m 20 #[.val (.int x0), .val (.int x1), .val (.long x2), .second, .val (.long x3), .second, .val (.int x4), .unset] [(.int x0)])) (fun tG kG => XS.iloadN X0.here hx rfl (hb hby own_k14) rfl kG) ?_
      refine Go.via (U' := s₁.setTop (mkF m 22 #[.val (.int x0), .val (.int x1), .val (.long x2), .second, .val (.long x3), .second, .val (.int x4), .unset] [(.int (9 : Int32)), (.int x0)])) (fun tG kG => XS.bipush X0.here hx rfl (hb hby own_k15) kG) ?_
      have J1 : ∀ T', Stand p l e ({ frames := 0, cells := 0, slots := 0, locals := 0 } : Room) s m #[(.int x0), (.int x1), (.long x2), (.long x3), (.int x4)] below meth c T' [] 0 0 → T'.heap = h0 → Go p e below s ({ frames := 0, cells := 0, slots := 0, locals := 0 } : Room).cells ({ frames := 0, cells := 0, slots := 0, locals := 0 } : Room).slots (PureR (some (.int (own_f1 x0 x1 x2 x3 x4))) h0) (T'.setTop (mkF m 46 #[.val (.int x0), .val (.int x1), .val (.long x2), .second, .val (.long x3), .second, .val (.int x4), .unset] [(.int (own_j1_22_s0 x0 x2 x3))])) := by
        intro T2 X3 e4
        refine Go.via (U' := T2.setTop (mkF m 48 #[.val (.int x0), .val (.int x1), .val (.long x2), .second, .val (.long x3), .second, .val (.int x4), .val (.int (own_j1_22_s0 x0 x2 x3))] [])) (fun tG kG => XS.istore X3.here hx rfl (hb hby own_k30) rfl (l' := #[.val (.int x0), .val (.int x1), .val (.long x2), .second, .val (.long x3), .second, .val (.int x4), .val (.int (own_j1_22_s0 x0 x2 x3))]) rfl kG) ?_
        refine Go.via (U' := T2.setTop (mkF m 49 #[.val (.int x0), .val (.int x1), .val (.long x2), .second, .val (.long x3), .second, .val (.int x4), .val (.int (own_j1_22_s0 x0 x2 x3))] [(.int x0)])) (fun tG kG => XS.iloadN X3.here hx rfl (hb hby own_k31) rfl kG) ?_
        refine Go.via (U' := T2.setTop (mkF m 50 #[.val (.int x0), .val (.int x1), .val (.long x2), .second, .val (.long x3), .second, .val (.int x4), .val (.int (own_j1_22_s0 x0 x2 x3))] [(.int x1), (.int x0)])) (fun tG kG => XS.iloadN X3.here hx rfl (hb hby own_k32) rfl kG) ?_
        refine Go.via (U' := T2.setTop (mkF m 51 #[.val (.int x0), .val (.int x1), .val (.long x2), .second, .val (.long x3), .second, .val (.int x4), .val (.int (own_j1_22_s0 x0 x2 x3))] [(.int (1 : Int32)), (.int x1), (.int x0)])) (fun tG kG => XS.iconst X3.here hx rfl (hb hby own_k33) kG) ?_
        refine Go.via (U' := T2.setTop (mkF m 52 #[.val (.int x0), .val (.int x1), .val (.long x2), .second, .val (.long x3), .second, .val (.int x4), .val (.int (own_j1_22_s0 x0 x2 x3))] [(.int (x1 - (1 : Int32))), (.int x0)])) (fun tG kG => XS.isub X3.here hx rfl (hb hby own_k34) rfl kG) ?_
        have J5 : ∀ T', Stand p l e ({ frames := 0, cells := 0, slots := 0, locals := 0 } : Room) s m #[(.int x0), (.int x1), (.long x2), (.long x3), (.int x4)] below meth c T' [] 0 0 → T'.heap = h0 → Go p e below s ({ frames := 0, cells := 0, slots := 0, locals := 0 } : Room).cells ({ frames := 0, cells := 0, slots := 0, locals := 0 } : Room).slots (PureR (some (.int (own_f1 x0 x1 x2 x3 x4))) h0) (T'.setTop (mkF m 66 #[.val (.int x0), .val (.int x1), .val (.long x2), .second, .val (.long x3), .second, .val (.int x4), .val (.int (own_j1_22_s0 x0 x2 x3))] [(.int (own_j1_52_s0 x0 x1 x2 x3))])) := by
          intro T6 X7 e8
          refine Go.via (U' := T6.setTop (mkF m 67 #[.val (.int x0), .val (.int x1), .val (.long x2), .second, .val (.long x3), .second, .val (.int x4), .val (.int (own_j1_22_s0 x0 x2 x3))] [(.int ((own_j1_52_s0 x0 x1 x2 x3).toInt8.toInt32))])) (fun tG kG => XS.i2b X7.here hx rfl (hb hby own_k41) rfl kG) ?_
          exact go_retN X7 hx hlk (t := .byte) hret (by simp) (hb hby own_k42) e8 ⟨(congrArg (fun z => some (Value.int z)) (show nar .byte ((own_j1_52_s0 x0 x1 x2 x3).toInt8.toInt32) = (own_f1 x0 x1 x2 x3 x4) from by unfold own_f1; simp only [if_neg hc2, if_neg hc9] <;> rfl)), rfl, rfl⟩ (by decide) (by decide)
        by_cases hc52 : x0 < (x1 - (1 : Int32))
        · refine Go.via (U' := T2.setTop (mkF m 55 #[.val (.int x0), .val (.int x1), .val (.long x2), .second, .val (.long x3), .second, .val (.int x4), .val (.int (own_j1_22_s0 x0 x2 x3))] [])) (fun tG kG => XS.icmpNo X3.here hx rfl (hb hby own_k35) rfl (tlt hc52).2.1 kG) ?_
          refine Go.via (U' := T2.setTop (mkF m 57 #[.val (.int x0), .val (.int x1), .val (.long x2), .second, .val (.long x3), .second, .val (.int x4), .val (.int (own_j1_22_s0 x0 x2 x3))] [(.int (own_j1_22_s0 x0 x2 x3))])) (fun tG kG => XS.iload X3.here hx rfl (hb hby own_k36) rfl kG) ?_
          refine Go.via (U' := T2.setTop (mkF m 60 #[.val (.int x0), .val (.int x1), .val (.long x2), .second, .val (.long x3), .second, .val (.int x4), .val (.int (own_j1_22_s0 x0 x2 x3))] [(.int (128 : Int32)), (.int (own_j1_22_s0 x0 x2 x3))])) (fun tG kG => XS.sipush X3.here hx rfl (hb hby own_k37) kG) ?_
          refine Go.via (U' := T2.setTop (mkF m 61 #[.val (.int x0), .val (.int x1), .val (.long x2), .second, .val (.long x3), .second, .val (.int x4), .val (.int (own_j1_22_s0 x0 x2 x3))] [(.int ((own_j1_22_s0 x0 x2 x3) ||| (128 : Int32)))])) (fun tG kG => XS.ior X3.here hx rfl (hb hby own_k38) rfl kG) ?_
          refine Go.via (U' := T2.setTop (mkF m 66 #[.val (.int x0), .val (.int x1), .val (.long x2), .second, .val (.long x3), .second, .val (.int x4), .val (.int (own_j1_22_s0 x0 x2 x3))] [(.int ((own_j1_22_s0 x0 x2 x3) ||| (128 : Int32)))])) (fun tG kG => XS.goto X3.here hx rfl (pc0 := 61) (pc' := 66) rfl (hb hby own_k39) (by decide) (by decide) kG) ?_
          have q_own_j1_52_s0 : (own_j1_52_s0 x0 x1 x2 x3) = ((own_j1_22_s0 x0 x2 x3) ||| (128 : Int32)) := by unfold own_j1_52_s0; simp only [if_pos hc52]
          have q_J := J5 T2 X3 e4
          rw [q_own_j1_52_s0] at q_J
          exact q_J
        · refine Go.via (U' := T2.setTop (mkF m 64 #[.val (.int x0), .val (.int x1), .val (.long x2), .second, .val (.long x3), .second, .val (.int x4), .val (.int (own_j1_22_s0 x0 x2 x3))] [])) (fun tG kG => XS.icmpYes X3.here hx rfl (pc0 := 52) (pc' := 64) rfl (hb hby own_k35) rfl (flt hc52).2.1 (by decide) (by decide) kG) ?_
          refine Go.via (U' := T2.setTop (mkF m 66 #[.val (.int x0), .val (.int x1), .val (.long x2), .second, .val (.long x3), .second, .val (.int x4), .val (.int (own_j1_22_s0 x0 x2 x3))] [(.int (own_j1_22_s0 x0 x2 x3))])) (fun tG kG => XS.iload X3.here hx rfl (hb hby own_k40) rfl kG) ?_
          have q_own_j1_52_s0 : (own_j1_52_s0 x0 x1 x2 x3) = (own_j1_22_s0 x0 x2 x3) := by unfold own_j1_52_s0; simp only [if_neg hc52]
          have q_J := J5 T2 X3 e4
          rw [q_own_j1_52_s0] at q_J
          exact q_J
      by_cases hc22 : x0 < (9 : Int32)
      · refine Go.via (U' := s₁.setTop (mkF m 25 #[.val (.int x0), .val (.int x1), .val (.long x2), .second, .val (.long x3), .second, .val (.int x4), .unset] [])) (fun tG kG => XS.icmpNo X0.here hx rfl (hb hby own_k16) rfl (tlt hc22).2.1 kG) ?_
        refine Go.via (U' := s₁.setTop (mkF m 26 #[.val (.int x0), .val (.int x1), .val (.long x2), .second, .val (.long x3), .second, .val (.int x4), .unset] [(.long x2)])) (fun tG kG => XS.lloadN X0.here hx rfl (hb hby own_k17) rfl kG) ?_
        refine Go.via (U' := s₁.setTop (mkF m 28 #[.val (.int x0), .val (.int x1), .val (.long x2), .second, .val (.long x3), .second, .val (.int x4), .unset] [(.int (7 : Int32)), (.long x2)])) (fun tG kG => XS.bipush X0.here hx rfl (hb hby own_k18) kG) ?_
        refine Go.via (U' := s₁.setTop (mkF m 29 #[.val (.int x0), .val (.int x1), .val (.long x2), .second, .val (.long x3), .second, .val (.int x4), .unset] [(.int x0), (.int (7 : Int32)), (.long x2)])) (fun tG kG => XS.iloadN X0.here hx rfl (hb hby own_k19) rfl kG) ?_
        refine Go.via (U' := s₁.setTop (mkF m 30 #[.val (.int x0), .val (.int x1), .val (.long x2), .second, .val (.long x3), .second, .val (.int x4), .unset] [(.int ((7 : Int32) * x0)), (.long x2)])) (fun tG kG => XS.imul X0.here hx rfl (hb hby own_k20) rfl kG) ?_
        refine Go.via (U' := s₁.setTop (mkF m 31 #[.val (.int x0), .val (.int x1), .val (.long x2), .second, .val (.long x3), .second, .val (.int x4), .unset] [(.long (own_ushrL x2 ((7 : Int32) * x0)))])) (fun tG kG => XS.lushr X0.here hx rfl (hb hby own_k21) rfl kG) ?_
        refine Go.via (U' := s₁.setTop (mkF m 34 #[.val (.int x0), .val (.int x1), .val (.long x2), .second, .val (.long x3), .second, .val (.int x4), .unset] [(.long (127 : Int64)), (.long (own_ushrL x2 ((7 : Int32) * x0)))])) (fun tG kG => X0.ldc2Long hx hown (mvT hZ (hw _ (List.mem_of_getElem? (i := 6) rfl))) (g := (mkF m 31 #[.val (.int x0), .val (.int x1), .val (.long x2), .second, .val (.long x3), .second, .val (.int x4), .unset] [(.long (own_ushrL x2 ((7 : Int32) * x0)))])) rfl (hb hby own_k22) tG kG) ?_
        refine Go.via (U' := s₁.setTop (mkF m 35 #[.val (.int x0), .val (.int x1), .val (.long x2), .second, .val (.long x3), .second, .val (.int x4), .unset] [(.long ((own_ushrL x2 ((7 : Int32) * x0)) &&& (127 : Int64)))])) (fun tG kG => XS.land X0.here hx rfl (hb hby own_k23) rfl kG) ?_
        refine Go.via (U' := s₁.setTop (mkF m 36 #[.val (.int x0), .val (.int x1), .val (.long x2), .second, .val (.long x3), .second, .val (.int x4), .unset] [(.int (((own_ushrL x2 ((7 : Int32) * x0)) &&& (127 : Int64)).toInt32))])) (fun tG kG => XS.l2i X0.here hx rfl (hb hby own_k24) rfl kG) ?_
        refine Go.via (U' := s₁.setTop (mkF m 46 #[.val (.int x0), .val (.int x1), .val (.long x2), .second, .val (.long x3), .second, .val (.int x4), .unset] [(.int (((own_ushrL x2 ((7 : Int32) * x0)) &&& (127 : Int64)).toInt32))])) (fun tG kG => XS.goto X0.here hx rfl (pc0 := 36) (pc' := 46) rfl (hb hby own_k25) (by decide) (by decide) kG) ?_
        have q_own_j1_22_s0 : (own_j1_22_s0 x0 x2 x3) = (((own_ushrL x2 ((7 : Int32) * x0)) &&& (127 : Int64)).toInt32) := by unfold own_j1_22_s0; simp only [if_pos hc22]
        have q_J := J1 s₁ X0 e0
        rw [q_own_j1_22_s0] at q_J
        exact q_J
      · refine Go.via (U' := s₁.setTop (mkF m 39 #[.val (.int x0), .val (.int x1), .val (.long x2), .second, .val (.long x3), .second, .val (.int x4), .unset] [])) (fun tG kG => XS.icmpYes X0.here hx rfl (pc0 := 22) (pc' := 39) rfl (hb hby own_k16) rfl (flt hc22).2.1 (by decide) (by decide) kG) ?_
        refine Go.via (U' := s₁.setTop (mkF m 41 #[.val (.int x0), .val (.int x1), .val (.long x2), .second, .val (.long x3), .second, .val (.int x4), .unset] [(.long x3)])) (fun tG kG => XS.lload X0.here hx rfl (hb hby own_k26) rfl kG) ?_
        refine Go.via (U' := s₁.setTop (mkF m 44 #[.val (.int x0), .val (.int x1), .val (.long x2), .second, .val (.long x3), .second, .val (.int x4), .unset] [(.long (127 : Int64)), (.long x3)])) (fun tG kG => X0.ldc2Long hx hown (mvT hZ (hw _ (List.mem_of_getElem? (i := 6) rfl))) (g := (mkF m 41 #[.val (.int x0), .val (.int x1), .val (.long x2), .second, .val (.long x3), .second, .val (.int x4), .unset] [(.long x3)])) rfl (hb hby own_k27) tG kG) ?_
        refine Go.via (U' := s₁.setTop (mkF m 45 #[.val (.int x0), .val (.int x1), .val (.long x2), .second, .val (.long x3), .second, .val (.int x4), .unset] [(.long (x3 &&& (127 : Int64)))])) (fun tG kG => XS.land X0.here hx rfl (hb hby own_k28) rfl kG) ?_
        refine Go.via (U' := s₁.setTop (mkF m 46 #[.val (.int x0), .val (.int x1), .val (.long x2), .second, .val (.long x3), .second, .val (.int x4), .unset] [(.int ((x3 &&& (127 : Int64)).toInt32))])) (fun tG kG => XS.l2i X0.here hx rfl (hb hby own_k29) rfl kG) ?_
        have q_own_j1_22_s0 : (own_j1_22_s0 x0 x2 x3) = ((x3 &&& (127 : Int64)).toInt32) := by unfold own_j1_22_s0; simp only [if_neg hc22]
        have q_J := J1 s₁ X0 e0
        rw [q_own_j1_22_s0] at q_J
        exact q_J
theorem own_k44 (m : MethodId) (a : Addr) (b : Addr) (x0 : Int32) (x1 : Int32) (cc : Addr) : entryFrame m #[(.ref a), (.ref b), (.int x0), (.int x1), (.ref cc)] 5 = mkF m 0 #[.val (.ref a), .val (.ref b), .val (.int x0), .val (.int x1), .val (.ref cc)] [] := by first | (simp [entryFrame, mkF, argsToLocals, Value.category]; done) | rfl
theorem own_k45 : decode prog_14_method_2_code 0 = .ok (.aload_n 0, 1) := by decide +kernel
theorem own_k46 : decode prog_14_method_2_code 1 = .ok (.invokespecial 7, 3) := by decide +kernel
theorem own_k47 : decode prog_14_method_2_code 4 = .ok (.aload_n 0, 1) := by decide +kernel
theorem own_k48 : decode prog_14_method_2_code 5 = .ok (.aload_n 1, 1) := by decide +kernel
theorem own_k49 : decode prog_14_method_2_code 6 = .ok (.putfield 12, 3) := by decide +kernel
theorem own_k50 : decode prog_14_method_2_code 9 = .ok (.aload_n 0, 1) := by decide +kernel
theorem own_k51 : decode prog_14_method_2_code 10 = .ok (.iload_n 2, 1) := by decide +kernel
theorem own_k52 : decode prog_14_method_2_code 11 = .ok (.putfield 16, 3) := by decide +kernel
theorem own_k53 : decode prog_14_method_2_code 14 = .ok (.aload_n 0, 1) := by decide +kernel
theorem own_k54 : decode prog_14_method_2_code 15 = .ok (.iload_n 3, 1) := by decide +kernel
theorem own_k55 : decode prog_14_method_2_code 16 = .ok (.putfield 20, 3) := by decide +kernel
theorem own_k56 : decode prog_14_method_2_code 19 = .ok (.aload_n 0, 1) := by decide +kernel
theorem own_k57 : decode prog_14_method_2_code 20 = .ok (.aload 4, 2) := by decide +kernel
theorem own_k58 : decode prog_14_method_2_code 22 = .ok (.putfield 23, 3) := by decide +kernel
theorem own_k59 : decode prog_14_method_2_code 25 = .ok (.return_, 1) := by decide +kernel
theorem own_k60 : plainName "com/example/stokehold/stokehold/wire/ProtoReader" = true := by first | (simp [plainName, overriddenIn]; done) | decide +kernel
set_option maxRecDepth 65536 in
set_option maxHeartbeats 40000000 in
theorem own_rm3 (l : Launch) (Z : State) (a0 : Array Value) (hw : ∀ d ∈ tables_1, d.before a0 Z = true) (ws : List Jvm.Cond) (a : Addr) (b : Addr) (x0 : Int32) (x1 : Int32) (cc : Addr) (h0 : Heap) (n0 : Nat) (hn0 : n0 ≤ h0.size) (E_a : Exa Z h0 a "com/example/stokehold/stokehold/wire/ProtoReader") (F_a_bytes : Fld Z h0 a "com/example/stokehold/stokehold/wire/ProtoReader" "bytes" "[B" .null) (F_a_available : Fld Z h0 a "com/example/stokehold/stokehold/wire/ProtoReader" "available" "I" (.int (0 : Int32))) (F_a_end : Fld Z h0 a "com/example/stokehold/stokehold/wire/ProtoReader" "end" "I" (.int (0 : Int32))) (F_a_name : Fld Z h0 a "com/example/stokehold/stokehold/wire/ProtoReader" "name" "Ljava/lang/String;" .null) (F_a_position : Fld Z h0 a "com/example/stokehold/stokehold/wire/ProtoReader" "position" "I" (.int (0 : Int32))) (g_a : n0 ≤ a) : Meets l Z (⟨"com/example/stokehold/stokehold/wire/ProtoReader", "<init>", "([BIILjava/lang/String;)V"⟩ : MethodName) prog_14_method_2_code 5 none ws ({ frames := 1, cells := 0, slots := 0, locals := 12 } : Room) #[(.ref a), (.ref b), (.int x0), (.int x1), (.ref cc)] h0 (fun v h L => v = none ∧ Fr n0 L ∧ Keep h0 h [a] ∧ Exa Z h a "com/example/stokehold/stokehold/wire/ProtoReader" ∧ Fld Z h a "com/example/stokehold/stokehold/wire/ProtoReader" "bytes" "[B" (.ref b) ∧ Fld Z h a "com/example/stokehold/stokehold/wire/ProtoReader" "available" "I" (.int x0) ∧ Fld Z h a "com/example/stokehold/stokehold/wire/ProtoReader" "end" "I" (.int x1) ∧ Fld Z h a "com/example/stokehold/stokehold/wire/ProtoReader" "name" "Ljava/lang/String;" (.ref cc) ∧ Fld Z h a "com/example/stokehold/stokehold/wire/ProtoReader" "position" "I" (.int (0 : Int32))) := by
  refine meets_of (plainFor_of_name own_k60) ?_
  intro p e s m below meth c s₁ X0 hx hZ hby hml hret hlk hown hnm e0
  replace hml : c.maxLocals = 5 := hml
  replace hown : s.vm.findClass "com/example/stokehold/stokehold/wire/ProtoReader" = some m.cls := hown
  refine Go.cast (own_k44 m a b x0 x1 cc) ?_
  have N0 := Fr.nil n0
  have K0 : Keep h0 h0 [a] := Keep.refl h0 _
  refine Go.via (U' := s₁.setTop (mkF m 1 #[.val (.ref a), .val (.ref b), .val (.int x0), .val (.int x1), .val (.ref cc)] [(.ref a)])) (fun tG kG => XS.aloadN X0.here hx rfl (hb hby own_k45) rfl rfl kG) ?_
  obtain ⟨T1, X1, e1, st1⟩ := initO X0 hx hZ hown (hw _ (List.mem_of_getElem? (i := 23) rfl)) (hw _ (List.mem_of_getElem? (i := 24) rfl)) (hw _ (List.mem_of_getElem? (i := 25) rfl)) e0 (g := (mkF m 1 #[.val (.ref a), .val (.ref b), .val (.int x0), .val (.int x1), .val (.ref cc)] [(.ref a)])) rfl (by rw [hml]; rfl) rfl (hb hby own_k46) (by decide) (W := 0) (by show 2 * 0 + _ ≤ _; exact Nat.le_of_eq rfl) (by decide)
  refine Go.via (U' := T1.setTop (mkF m 4 #[.val (.ref a), .val (.ref b), .val (.int x0), .val (.int x1), .val (.ref cc)] [])) (fun tG kG => st1 tG kG) ?_
  refine Go.via (U' := T1.setTop (mkF m 5 #[.val (.ref a), .val (.ref b), .val (.int x0), .val (.int x1), .val (.ref cc)] [(.ref a)])) (fun tG kG => XS.aloadN X1.here hx rfl (hb hby own_k47) rfl rfl kG) ?_
  refine Go.via (U' := T1.setTop (mkF m 6 #[.val (.ref a), .val (.ref b), .val (.int x0), .val (.int x1), .val (.ref cc)] [(.ref b), (.ref a)])) (fun tG kG => XS.aloadN X1.here hx rfl (hb hby own_k48) rfl rfl kG) ?_
  obtain ⟨T2, h2, X2, e2, W2, st2⟩ := putF X1 hx hZ hown (host := "") (Or.inl (hw _ (List.mem_of_getElem? (i := 26) rfl))) Via.refl e1 F_a_bytes E_a (Or.inr ⟨(hw _ (List.mem_of_getElem? (i := 27) rfl)), rfl, hnm⟩) (hw _ (List.mem_of_getElem? (i := 8) rfl)) (ty := (.array .byte)) (by decide) rfl rfl (g := (mkF m 6 #[.val (.ref a), .val (.ref b), .val (.int x0), .val (.int x1), .val (.ref cc)] [(.ref b), (.ref a)])) rfl rfl (hb hby own_k49)
  have f3 := E_a.wr W2
  have f4 := F_a_bytes.same W2
  have f5 := F_a_available.other W2 (Or.inr (slot_ne (Or.inr (hw _ (List.mem_of_getElem? (i := 29) rfl))) (Or.inr (hw _ (List.mem_of_getElem? (i := 27) rfl))) (by decide) (t := .int) (t' := (.array .byte)) (by decide) (by decide)))
  have f6 := F_a_end.other W2 (Or.inr (slot_ne (Or.inr (hw _ (List.mem_of_getElem? (i := 31) rfl))) (Or.inr (hw _ (List.mem_of_getElem? (i := 27) rfl))) (by decide) (t := .int) (t' := (.array .byte)) (by decide) (by decide)))
  have f7 := F_a_name.other W2 (Or.inr (slot_ne (Or.inr (hw _ (List.mem_of_getElem? (i := 33) rfl))) (Or.inr (hw _ (List.mem_of_getElem? (i := 27) rfl))) (by decide) (t := (.object "java/lang/String")) (t' := (.array .byte)) (by decide) (by decide)))
  have f8 := F_a_position.other W2 (Or.inr (slot_ne (Or.inl (hw _ (List.mem_of_getElem? (i := 45) rfl))) (Or.inr (hw _ (List.mem_of_getElem? (i := 27) rfl))) (by decide) (t := .int) (t' := (.array .byte)) (by decide) (by decide)))
  have K2 := K0.wr W2 (Or.inl (List.mem_of_getElem? (i := 0) rfl))
  have N2 := Fr.snoc X2 N0 g_a
  have Z2 := Nat.le_trans hn0 (Keep.of_wr W2).1
  refine Go.via (U' := T2.setTop (mkF m 9 #[.val (.ref a), .val (.ref b), .val (.int x0), .val (.int x1), .val (.ref cc)] [])) (fun tG kG => st2 tG kG) ?_
  refine Go.via (U' := T2.setTop (mkF m 10 #[.val (.ref a), .val (.ref b), .val (.int x0), .val (.int x1), .val (.ref cc)] [(.ref a)])) (fun tG kG => XS.aloadN X2.here hx rfl (hb hby own_k50) rfl rfl kG) ?_
  refine Go.via (U' := T2.setTop (mkF m 11 #[.val (.ref a), .val (.ref b), .val (.int x0), .val (.int x1), .val (.ref cc)] [(.int x0), (.ref a)])) (fun tG kG => XS.iloadN X2.here hx rfl (hb hby own_k51) rfl kG) ?_
  obtain ⟨T9, h9, X9, e9, W9, st9⟩ := putF X2 hx hZ hown (host := "") (Or.inl (hw _ (List.mem_of_getElem? (i := 28) rfl))) Via.refl e2 f5 f3 (Or.inr ⟨(hw _ (List.mem_of_getElem? (i := 29) rfl)), rfl, hnm⟩) (hw _ (List.mem_of_getElem? (i := 8) rfl)) (ty := .int) (by decide) rfl rfl (g := (mkF m 11 #[.val (.ref a), .val (.ref b), .val (.int x0), .val (.int x1), .val (.ref cc)] [(.int x0), (.ref a)])) rfl rfl (hb hby own_k52)
  have f10 := f3.wr W9
  have f11 := f4.other W9 (Or.inr (slot_ne (Or.inr (hw _ (List.mem_of_getElem? (i := 27) rfl))) (Or.inr (hw _ (List.mem_of_getElem? (i := 29) rfl))) (by decide) (t := (.array .byte)) (t' := .int) (by decide) (by decide)))
  have f12 := f5.same W9
  have f13 := f6.other W9 (Or.inr (slot_ne (Or.inr (hw _ (List.mem_of_getElem? (i := 31) rfl))) (Or.inr (hw _ (List.mem_of_getElem? (i := 29) rfl))) (by decide) (t := .int) (t' := .int) (by decide) (by decide)))
  have f14 := f7.other W9 (Or.inr (slot_ne (Or.inr (hw _ (List.mem_of_getElem? (i := 33) rfl))) (Or.inr (hw _ (List.mem_of_getElem? (i := 29) rfl))) (by decide) (t := (.object "java/lang/String")) (t' := .int) (by decide) (by decide)))
  have f15 := f8.other W9 (Or.inr (slot_ne (Or.inl (hw _ (List.mem_of_getElem? (i := 45) rfl))) (Or.inr (hw _ (List.mem_of_getElem? (i := 29) rfl))) (by decide) (t := .int) (t' := .int) (by decide) (by decide)))
  have K9 := K2.wr W9 (Or.inl (List.mem_of_getElem? (i := 0) rfl))
  have N9 := Fr.snoc X9 N2 g_a
  have Z9 := Nat.le_trans Z2 (Keep.of_wr W9).1
  refine Go.via (U' := T9.setTop (mkF m 14 #[.val (.ref a), .val (.ref b), .val (.int x0), .val (.int x1), .val (.ref cc)] [])) (fun tG kG => st9 tG kG) ?_
  refine Go.via (U' := T9.setTop (mkF m 15 #[.val (.ref a), .val (.ref b), .val (.int x0), .val (.int x1), .val (.ref cc)] [(.ref a)])) (fun tG kG => XS.aloadN X9.here hx rfl (hb hby own_k53) rfl rfl kG) ?_
  refine Go.via (U' := T9.setTop (mkF m 16 #[.val (.ref a), .val (.ref b), .val (.int x0), .val (.int x1), .val (.ref cc)] [(.int x1), (.ref a)])) (fun tG kG => XS.iloadN X9.here hx rfl (hb hby own_k54) rfl kG) ?_
  obtain ⟨T16, h16, X16, e16, W16, st16⟩ := putF X9 hx hZ hown (host := "") (Or.inl (hw _ (List.mem_of_getElem? (i := 30) rfl))) Via.refl e9 f13 f10 (Or.inr ⟨(hw _ (List.mem_of_getElem? (i := 31) rfl)), rfl, hnm⟩) (hw _ (List.mem_of_getElem? (i := 8) rfl)) (ty := .int) (by decide) rfl rfl (g := (mkF m 16 #[.val (.ref a), .val (.ref b), .val (.int x0), .val (.int x1), .val (.ref cc)] [(.int x1), (.ref a)])) rfl rfl (hb hby own_k55)
  have f17 := f10.wr W16
  have f18 := f11.other W16 (Or.inr (slot_ne (Or.inr (hw _ (List.mem_of_getElem? (i := 27) rfl))) (Or.inr (hw _ (List.mem_of_getElem? (i := 31) rfl))) (by decide) (t := (.array .byte)) (t' := .int) (by decide) (by decide)))
  have f19 := f12.other W16 (Or.inr (slot_ne (Or.inr (hw _ (List.mem_of_getElem? (i := 29) rfl))) (Or.inr (hw _ (List.mem_of_getElem? (i := 31) rfl))) (by decide) (t := .int) (t' := .int) (by decide) (by decide)))
  have f20 := f13.same W16
  have f21 := f14.other W16 (Or.inr (slot_ne (Or.inr (hw _ (List.mem_of_getElem? (i := 33) rfl))) (Or.inr (hw _ (List.mem_of_getElem? (i := 31) rfl))) (by decide) (t := (.object "java/lang/String")) (t' := .int) (by decide) (by decide)))
  have f22 := f15.other W16 (Or.inr (slot_ne (Or.inl (hw _ (List.mem_of_getElem? (i := 45) rfl))) (Or.inr (hw _ (List.mem_of_getElem? (i := 31) rfl))) (by decide) (t := .int) (t' := .int) (by decide) (by decide)))
  have K16 := K9.wr W16 (Or.inl (List.mem_of_getElem? (i := 0) rfl))
  have N16 := Fr.snoc X16 N9 g_a
  have Z16 := Nat.le_trans Z9 (Keep.of_wr W16).1
  refine Go.via (U' := T16.setTop (mkF m 19 #[.val (.ref a), .val (.ref b), .val (.int x0), .val (.int x1), .val (.ref cc)] [])) (fun tG kG => st16 tG kG) ?_
  refine Go.via (U' := T16.setTop (mkF m 20 #[.val (.ref a), .val (.ref b), .val (.int x0), .val (.int x1), .val (.ref cc)] [(.ref a)])) (fun tG kG => XS.aloadN X16.here hx rfl (hb hby own_k56) rfl rfl kG) ?_
  refine Go.via (U' := T16.setTop (mkF m 22 #[.val (.ref a), .val (.ref b), .val (.int x0), .val (.int x1), .val (.ref cc)] [(.ref cc), (.ref a)])) (fun tG kG => XS.aload X16.here hx rfl (hb hby own_k57) rfl rfl kG) ?_
  obtain ⟨T23, h23, X23, e23, W23, st23⟩ := putF X16 hx hZ hown (host := "") (Or.inl (hw _ (List.mem_of_getElem? (i := 32) rfl))) Via.refl e16 f21 f17 (Or.inr ⟨(hw _ (List.mem_of_getElem? (i := 33) rfl)), rfl, hnm⟩) (hw _ (List.mem_of_getElem? (i := 8) rfl)) (ty := (.object "java/lang/String")) (by decide) rfl rfl (g := (mkF m 22 #[.val (.ref a), .val (.ref b), .val (.int x0), .val (.int x1), .val (.ref cc)] [(.ref cc), (.ref a)])) rfl rfl (hb hby own_k58)
  have f24 := f17.wr W23
  have f25 := f18.other W23 (Or.inr (slot_ne (Or.inr (hw _ (List.mem_of_getElem? (i := 27) rfl))) (Or.inr (hw _ (List.mem_of_getElem? (i := 33) rfl))) (by decide) (t := (.array .byte)) (t' := (.object "java/lang/String")) (by decide) (by decide)))
  have f26 := f19.other W23 (Or.inr (slot_ne (Or.inr (hw _ (List.mem_of_getElem? (i := 29) rfl))) (Or.inr (hw _ (List.mem_of_getElem? (i := 33) rfl))) (by decide) (t := .int) (t' := (.object "java/lang/String")) (by decide) (by decide)))
  have f27 := f20.other W23 (Or.inr (slot_ne (Or.inr (hw _ (List.mem_of_getElem? (i := 31) rfl))) (Or.inr (hw _ (List.mem_of_getElem? (i := 33) rfl))) (by decide) (t := .int) (t' := (.object "java/lang/String")) (by decide) (by decide)))
  have f28 := f21.same W23
  have f29 := f22.other W23 (Or.inr (slot_ne (Or.inl (hw _ (List.mem_of_getElem? (i := 45) rfl))) (Or.inr (hw _ (List.mem_of_getElem? (i := 33) rfl))) (by decide) (t := .int) (t' := (.object "java/lang/String")) (by decide) (by decide)))
  have K23 := K16.wr W23 (Or.inl (List.mem_of_getElem? (i := 0) rfl))
  have N23 := Fr.snoc X23 N16 g_a
  have Z23 := Nat.le_trans Z16 (Keep.of_wr W23).1
  refine Go.via (U' := T23.setTop (mkF m 25 #[.val (.ref a), .val (.ref b), .val (.int x0), .val (.int x1), .val (.ref cc)] [])) (fun tG kG => st23 tG kG) ?_
  exact go_retV X23 hx hlk hret (hb hby own_k59) e23 ⟨rfl, N23, K23, f24, f25, f26, f27, f28, f29⟩ (by decide) (by decide)
theorem own_k61 (m : MethodId) (a : Addr) (b : Addr) (cc : Addr) : entryFrame m #[(.ref a), (.ref b), (.ref cc)] 3 = mkF m 0 #[.val (.ref a), .val (.ref b), .val (.ref cc)] [] := by first | (simp [entryFrame, mkF, argsToLocals, Value.category]; done) | rfl
theorem own_k62 : decode prog_14_method_1_code 0 = .ok (.aload_n 0, 1) := by decide +kernel
theorem own_k63 : decode prog_14_method_1_code 1 = .ok (.aload_n 1, 1) := by decide +kernel
theorem own_k64 : decode prog_14_method_1_code 2 = .ok (.aload_n 1, 1) := by decide +kernel
theorem own_k65 : decode prog_14_method_1_code 3 = .ok (.arraylength, 1) := by decide +kernel
theorem own_k66 : decode prog_14_method_1_code 4 = .ok (.aload_n 1, 1) := by decide +kernel
theorem own_k67 : decode prog_14_method_1_code 5 = .ok (.arraylength, 1) := by decide +kernel
theorem own_k68 : decode prog_14_method_1_code 6 = .ok (.aload_n 2, 1) := by decide +kernel
theorem own_k69 : parseMethodDescriptor "([BIILjava/lang/String;)V" = some ⟨[(.array .byte), .int, .int, (.object "java/lang/String")], none⟩ := by decide +kernel
theorem own_k70 : decode prog_14_method_1_code 7 = .ok (.invokespecial 1, 3) := by decide +kernel
theorem own_k71 : decode prog_14_method_1_code 10 = .ok (.return_, 1) := by decide +kernel
set_option maxRecDepth 65536 in
set_option maxHeartbeats 40000000 in
theorem own_rm2 (l : Launch) (Z : State) (a0 : Array Value) (hw : ∀ d ∈ tables_1, d.before a0 Z = true) (ws : List Jvm.Cond) (a : Addr) (b : Addr) (cc : Addr) (k_b : ClassId) (z : Int32) (f : Nat → Int32) (h0 : Heap) (n0 : Nat) (hn0 : n0 ≤ h0.size) (E_a : Exa Z h0 a "com/example/stokehold/stokehold/wire/ProtoReader") (F_a_bytes : Fld Z h0 a "com/example/stokehold/stokehold/wire/ProtoReader" "bytes" "[B" .null) (F_a_available : Fld Z h0 a "com/example/stokehold/stokehold/wire/ProtoReader" "available" "I" (.int (0 : Int32))) (F_a_end : Fld Z h0 a "com/example/stokehold/stokehold/wire/ProtoReader" "end" "I" (.int (0 : Int32))) (F_a_name : Fld Z h0 a "com/example/stokehold/stokehold/wire/ProtoReader" "name" "Ljava/lang/String;" .null) (F_a_position : Fld Z h0 a "com/example/stokehold/stokehold/wire/ProtoReader" "position" "I" (.int (0 : Int32))) (V_b : Arf Z h0 b k_b .byte z f) (g_a : n0 ≤ a) (ne_a_b : a ≠ b) : Meets l Z (⟨"com/example/stokehold/stokehold/wire/ProtoReader", "<init>", "([BLjava/lang/String;)V"⟩ : MethodName) prog_14_method_1_code 3 none ws ({ frames := 2, cells := 0, slots := 0, locals := 28 } : Room) #[(.ref a), (.ref b), (.ref cc)] h0 (fun v h L => v = none ∧ Fr n0 L ∧ Keep h0 h [a] ∧ Exa Z h a "com/example/stokehold/stokehold/wire/ProtoReader" ∧ Fld Z h a "com/example/stokehold/stokehold/wire/ProtoReader" "bytes" "[B" (.ref b) ∧ Fld Z h a "com/example/stokehold/stokehold/wire/ProtoReader" "available" "I" (.int z) ∧ Fld Z h a "com/example/stokehold/stokehold/wire/ProtoReader" "end" "I" (.int z) ∧ Fld Z h a "com/example/stokehold/stokehold/wire/ProtoReader" "name" "Ljava/lang/String;" (.ref cc) ∧ Fld Z h a "com/example/stokehold/stokehold/wire/ProtoReader" "position" "I" (.int (0 : Int32))) := by
  refine meets_of (plainFor_of_name own_k60) ?_
  intro p e s m below meth c s₁ X0 hx hZ hby hml hret hlk hown hnm e0
  replace hml : c.maxLocals = 3 := hml
  replace hown : s.vm.findClass "com/example/stokehold/stokehold/wire/ProtoReader" = some m.cls := hown
  refine Go.cast (own_k61 m a b cc) ?_
  have N0 := Fr.nil n0
  have K0 : Keep h0 h0 [a] := Keep.refl h0 _
  refine Go.via (U' := s₁.setTop (mkF m 1 #[.val (.ref a), .val (.ref b), .val (.ref cc)] [(.ref a)])) (fun tG kG => XS.aloadN X0.here hx rfl (hb hby own_k62) rfl rfl kG) ?_
  refine Go.via (U' := s₁.setTop (mkF m 2 #[.val (.ref a), .val (.ref b), .val (.ref cc)] [(.ref b), (.ref a)])) (fun tG kG => XS.aloadN X0.here hx rfl (hb hby own_k63) rfl rfl kG) ?_
  refine Go.via (U' := s₁.setTop (mkF m 3 #[.val (.ref a), .val (.ref b), .val (.ref cc)] [(.ref b), (.ref b), (.ref a)])) (fun tG kG => XS.aloadN X0.here hx rfl (hb hby own_k64) rfl rfl kG) ?_
  refine Go.via (U' := s₁.setTop (mkF m 4 #[.val (.ref a), .val (.ref b), .val (.ref cc)] [(.int z), (.ref b), (.ref a)])) (fun tG kG => own_len X0 hx hZ e0 V_b (hb hby own_k65) tG kG) ?_
  refine Go.via (U' := s₁.setTop (mkF m 5 #[.val (.ref a), .val (.ref b), .val (.ref cc)] [(.ref b), (.int z), (.ref b), (.ref a)])) (fun tG kG => XS.aloadN X0.here hx rfl (hb hby own_k66) rfl rfl kG) ?_
  refine Go.via (U' := s₁.setTop (mkF m 6 #[.val (.ref a), .val (.ref b), .val (.ref cc)] [(.int z), (.int z), (.ref b), (.ref a)])) (fun tG kG => own_len X0 hx hZ e0 V_b (hb hby own_k67) tG kG) ?_
  refine Go.via (U' := s₁.setTop (mkF m 7 #[.val (.ref a), .val (.ref b), .val (.ref cc)] [(.ref cc), (.int z), (.int z), (.ref b), (.ref a)])) (fun tG kG => XS.aloadN X0.here hx rfl (hb hby own_k68) rfl rfl kG) ?_
  obtain ⟨_, T1, L1, X1, ⟨rfl, N1q, K1q, f2, f3, f4, f5, f6, f7⟩, st1⟩ := callIQ X0 hx hZ rfl hown (hw _ (List.mem_of_getElem? (i := 20) rfl)) (hw _ (List.mem_of_getElem? (i := 21) rfl)) (hw _ (List.mem_of_getElem? (i := 9) rfl)) (hw _ (List.mem_of_getElem? (i := 22) rfl)) (by decide) (b := a) (av := [(.ref b), (.int z), (.int z), (.ref cc)]) (own_rm3 l Z a0 hw [] a b z z cc  h0 n0 hn0 E_a F_a_bytes F_a_available F_a_end F_a_name F_a_position g_a) e0 (pc := 7) (Ls := #[.val (.ref a), .val (.ref b), .val (.ref cc)]) (rest := []) (by rw [hml]; rfl) own_k69 rfl 0 (Nat.le_of_eq rfl) (by decide) (by decide) (by decide) (by decide) (hb hby own_k70)
  have f8 := E_a.keep K1q
  have f9 := V_b.keep K1q (ninS (Ne.symm ne_a_b) nin0)
  have N1 := Fr.app N0 N1q
  have Z1 := Nat.le_trans hn0 K1q.1
  have K1 := K0.trans K1q (allS (Or.inl (List.mem_of_getElem? (i := 0) rfl)) all0)
  refine Go.via (U' := T1.setTop (mkF m 10 #[.val (.ref a), .val (.ref b), .val (.ref cc)] [])) (fun tG kG => st1 tG kG) ?_
  exact go_retV X1 hx hlk hret (hb hby own_k71) rfl ⟨rfl, N1, K1, f2, f3, f4, f5, f6, f7⟩ (by decide) (by decide)
theorem own_k72 (m : MethodId) (a : Addr) : entryFrame m #[(.ref a)] 1 = mkF m 0 #[.val (.ref a)] [] := by first | (simp [entryFrame, mkF, argsToLocals, Value.category]; done) | rfl
theorem own_k73 : decode prog_14_method_4_code 0 = .ok (.aload_n 0, 1) := by decide +kernel
theorem own_k74 : decode prog_14_method_4_code 1 = .ok (.getfield 110, 3) := by decide +kernel
theorem own_k75 : decode prog_14_method_4_code 4 = .ok (.aload_n 0, 1) := by decide +kernel
theorem own_k76 : decode prog_14_method_4_code 5 = .ok (.getfield 20, 3) := by decide +kernel
theorem own_k77 : decode prog_14_method_4_code 8 = .ok (.if_icmp .ne 7, 3) := by decide +kernel
theorem own_k78 : decode prog_14_method_4_code 11 = .ok (.iconst 1, 1) := by decide +kernel
theorem own_k79 : decode prog_14_method_4_code 12 = .ok (.goto 4, 3) := by decide +kernel
theorem own_k80 : decode prog_14_method_4_code 16 = .ok (.ireturn, 1) := by decide +kernel
theorem own_k81 : decode prog_14_method_4_code 15 = .ok (.iconst 0, 1) := by decide +kernel
def own_f6 (u : Int32) (w : Int32) : Int32 := (if u = w then (1 : Int32) else (0 : Int32))
set_option maxRecDepth 65536 in
set_option maxHeartbeats 40000000 in
theorem own_rm6 (l : Launch) (Z : State) (a0 : Array Value) (hw : ∀ d ∈ tables_1, d.before a0 Z = true) (ws : List Jvm.Cond) (a : Addr) (u : Int32) (w : Int32) (h0 : Heap) (F_a_position : Fld Z h0 a "com/example/stokehold/stokehold/wire/ProtoReader" "position" "I" (.int u)) (F_a_end : Fld Z h0 a "com/example/stokehold/stokehold/wire/ProtoReader" "end" "I" (.int w)) : Meets l Z (⟨"com/example/stokehold/stokehold/wire/ProtoReader", "atEnd", "()Z"⟩ : MethodName) prog_14_method_4_code 1 (some .boolean) ws ({ frames := 0, cells := 0, slots := 0, locals := 0 } : Room) #[(.ref a)] h0 (PureR (some (.int (own_f6 u w))) h0) := by
  refine meets_of (plainFor_of_name own_k60) ?_
  intro p e s m below meth c s₁ X0 hx hZ hby hml hret hlk hown hnm e0
  replace hml : c.maxLocals = 1 := hml
  replace hown : s.vm.findClass "com/example/stokehold/stokehold/wire/ProtoReader" = some m.cls := hown
  refine Go.cast (own_k72 m a) ?_
  refine Go.via (U' := s₁.setTop (mkF m 1 #[.val (.ref a)] [(.ref a)])) (fun tG kG => XS.aloadN X0.here hx rfl (hb hby own_k73) rfl rfl kG) ?_
  obtain ⟨T1, X1, e1, st1⟩ := getF X0 hx hZ hown (host := "") (Or.inl (hw _ (List.mem_of_getElem? (i := 44) rfl))) Via.refl e0 F_a_position (g := (mkF m 1 #[.val (.ref a)] [(.ref a)])) rfl rfl (hb hby own_k74)
  refine Go.via (U' := T1.setTop (mkF m 4 #[.val (.ref a)] [(.int u)])) (fun tG kG => st1 tG kG) ?_
  refine Go.via (U' := T1.setTop (mkF m 5 #[.val (.ref a)] [(.ref a), (.int u)])) (fun tG kG => XS.aloadN X1.here hx rfl (hb hby own_k75) rfl rfl kG) ?_
  obtain ⟨T2, X2, e2, st2⟩ := getF X1 hx hZ hown (host := "") (Or.inl (hw _ (List.mem_of_getElem? (i := 30) rfl))) Via.refl e1 F_a_end (g := (mkF m 5 #[.val (.ref a)] [(.ref a), (.int u)])) rfl rfl (hb hby own_k76)
  refine Go.via (U' := T2.setTop (mkF m 8 #[.val (.ref a)] [(.int w), (.int u)])) (fun tG kG => st2 tG kG) ?_
  by_cases hc8 : u = w
  · refine Go.via (U' := T2.setTop (mkF m 11 #[.val (.ref a)] [])) (fun tG kG => XS.icmpNo X2.here hx rfl (hb hby own_k77) rfl (teq hc8).2 kG) ?_
    refine Go.via (U' := T2.setTop (mkF m 12 #[.val (.ref a)] [(.int (1 : Int32))])) (fun tG kG => XS.iconst X2.here hx rfl (hb hby own_k78) kG) ?_
    refine Go.via (U' := T2.setTop (mkF m 16 #[.val (.ref a)] [(.int (1 : Int32))])) (fun tG kG => XS.goto X2.here hx rfl (pc0 := 12) (pc' := 16) rfl (hb hby own_k79) (by decide) (by decide) kG) ?_
    exact go_retN X2 hx hlk (t := .boolean) hret (by simp) (hb hby own_k80) e2 ⟨(congrArg (fun z => some (Value.int z)) (show nar .boolean (1 : Int32) = (own_f6 u w) from by unfold own_f6; simp only [if_pos hc8] <;> rfl)), rfl, rfl⟩ (by decide) (by decide)
  · refine Go.via (U' := T2.setTop (mkF m 15 #[.val (.ref a)] [])) (fun tG kG => XS.icmpYes X2.here hx rfl (pc0 := 8) (pc' := 15) rfl (hb hby own_k77) rfl (feq hc8).2 (by decide) (by decide) kG) ?_
    refine Go.via (U' := T2.setTop (mkF m 16 #[.val (.ref a)] [(.int (0 : Int32))])) (fun tG kG => XS.iconst X2.here hx rfl (hb hby own_k81) kG) ?_
    exact go_retN X2 hx hlk (t := .boolean) hret (by simp) (hb hby own_k80) e2 ⟨(congrArg (fun z => some (Value.int z)) (show nar .boolean (0 : Int32) = (own_f6 u w) from by unfold own_f6; simp only [if_neg hc8] <;> rfl)), rfl, rfl⟩ (by decide) (by decide)
theorem own_k82 (m : MethodId) (a : Addr) (x0 : Int32) : entryFrame m #[(.ref a), (.int x0)] 2 = mkF m 0 #[.val (.ref a), .val (.int x0)] [] := by first | (simp [entryFrame, mkF, argsToLocals, Value.category]; done) | rfl
theorem own_k83 : decode prog_14_method_11_code 0 = .ok (.iload_n 1, 1) := by decide +kernel
theorem own_k84 : decode prog_14_method_11_code 1 = .ok (.aload_n 0, 1) := by decide +kernel
theorem own_k85 : decode prog_14_method_11_code 2 = .ok (.getfield 16, 3) := by decide +kernel
theorem own_k86 : decode prog_14_method_11_code 5 = .ok (.aload_n 0, 1) := by decide +kernel
theorem own_k87 : decode prog_14_method_11_code 6 = .ok (.getfield 110, 3) := by decide +kernel
theorem own_k88 : decode prog_14_method_11_code 9 = .ok (.isub, 1) := by decide +kernel
theorem own_k89 : decode prog_14_method_11_code 10 = .ok (.if_icmp .le 7, 3) := by decide +kernel
theorem own_k90 : decode prog_14_method_11_code 17 = .ok (.return_, 1) := by decide +kernel
set_option maxRecDepth 65536 in
set_option maxHeartbeats 40000000 in
theorem own_rm7 (l : Launch) (Z : State) (a0 : Array Value) (hw : ∀ d ∈ tables_1, d.before a0 Z = true) (ws : List Jvm.Cond) (a : Addr) (x0 : Int32) (u : Int32) (w : Int32) (h0 : Heap) (F_a_available : Fld Z h0 a "com/example/stokehold/stokehold/wire/ProtoReader" "available" "I" (.int u)) (F_a_position : Fld Z h0 a "com/example/stokehold/stokehold/wire/ProtoReader" "position" "I" (.int w)) (hp : ¬ ((u - w) < x0)) : Meets l Z (⟨"com/example/stokehold/stokehold/wire/ProtoReader", "needBytes", "(I)V"⟩ : MethodName) prog_14_method_11_code 2 none ws ({ frames := 0, cells := 0, slots := 0, locals := 0 } : Room) #[(.ref a), (.int x0)] h0 (PureR (none) h0) := by
  refine meets_of (plainFor_of_name own_k60) ?_
  intro p e s m below meth c s₁ X0 hx hZ hby hml hret hlk hown hnm e0
  replace hml : c.maxLocals = 2 := hml
  replace hown : s.vm.findClass "com/example/stokehold/stokehold/wire/ProtoReader" = some m.cls := hown
  refine Go.cast (own_k82 m a x0) ?_
  refine Go.via (U' := s₁.setTop (mkF m 1 #[.val (.ref a), .val (.int x0)] [(.int x0)])) (fun tG kG => XS.iloadN X0.here hx rfl (hb hby own_k83) rfl kG) ?_
  refine Go.via (U' := s₁.setTop (mkF m 2 #[.val (.ref a), .val (.int x0)] [(.ref a), (.int x0)])) (fun tG kG => XS.aloadN X0.here hx rfl (hb hby own_k84) rfl rfl kG) ?_
  obtain ⟨T1, X1, e1, st1⟩ := getF X0 hx hZ hown (host := "") (Or.inl (hw _ (List.mem_of_getElem? (i := 28) rfl))) Via.refl e0 F_a_available (g := (mkF m 2 #[.val (.ref a), .val (.int x0)] [(.ref a), (.int x0)])) rfl rfl (hb hby own_k85)
  refine Go.via (U' := T1.setTop (mkF m 5 #[.val (.ref a), .val (.int x0)] [(.int u), (.int x0)])) (fun tG kG => st1 tG kG) ?_
  refine Go.via (U' := T1.setTop (mkF m 6 #[.val (.ref a), .val (.int x0)] [(.ref a), (.int u), (.int x0)])) (fun tG kG => XS.aloadN X1.here hx rfl (hb hby own_k86) rfl rfl kG) ?_
  obtain ⟨T2, X2, e2, st2⟩ := getF X1 hx hZ hown (host := "") (Or.inl (hw _ (List.mem_of_getElem? (i := 44) rfl))) Via.refl e1 F_a_position (g := (mkF m 6 #[.val (.ref a), .val (.int x0)] [(.ref a), (.int u), (.int x0)])) rfl rfl (hb hby own_k87)
  refine Go.via (U' := T2.setTop (mkF m 9 #[.val (.ref a), .val (.int x0)] [(.int w), (.int u), (.int x0)])) (fun tG kG => st2 tG kG) ?_
  refine Go.via (U' := T2.setTop (mkF m 10 #[.val (.ref a), .val (.int x0)] [(.int (u - w)), (.int x0)])) (fun tG kG => XS.isub X2.here hx rfl (hb hby own_k88) rfl kG) ?_
  have hc10 : ¬ ((u - w) < x0) := hp
  refine Go.via (U' := T2.setTop (mkF m 17 #[.val (.ref a), .val (.int x0)] [])) (fun tG kG => XS.icmpYes X2.here hx rfl (pc0 := 10) (pc' := 17) rfl (hb hby own_k89) rfl (flt hc10).2.2.2 (by decide) (by decide) kG) ?_
  exact go_retV X2 hx hlk hret (hb hby own_k90) e2 ⟨rfl, rfl, rfl⟩ (by decide) (by decide)
def own_acc (f : Nat → Int32) (u : Int32) : Nat → Int64
  | 0 => 0
  | t + 1 => (own_acc f u t) ||| ((((f (u + Int32.ofNat t).toNatClampNeg) &&& (127 : Int32)).toInt64) <<< (((7 : Int32) * (Int32.ofNat t)) &&& 0x3f).toInt64)
theorem own_accs (f : Nat → Int32) (u : Int32) (t : Nat) : (own_acc f u t) ||| ((((f (u + Int32.ofNat t).toNatClampNeg) &&& (127 : Int32)).toInt64) <<< (((7 : Int32) * (Int32.ofNat t)) &&& 0x3f).toInt64) = own_acc f u (t + 1) := rfl
def own_H (f : Nat → Int32) (u z : Int32) (M : Nat) : Prop := 0 ≤ u.toInt ∧ M ≤ 9 ∧ u.toInt + M < z.toInt ∧ z.toInt ≤ 100 ∧ (∀ t, t < M → f (u + Int32.ofNat t).toNatClampNeg < 0) ∧ ¬ f (u + Int32.ofNat M).toNatClampNeg < 0
theorem own_ofN {t : Nat} (h : t ≤ 100) : (Int32.ofNat t).toInt = t := Int32.toInt_ofNat_of_lt (by omega)
theorem own_ut {f : Nat → Int32} {u z : Int32} {M t : Nat} (H : own_H f u z M) (h : t ≤ M) : (u + Int32.ofNat t).toInt = u.toInt + t := by
  obtain ⟨h1, h2, h3, h4, -⟩ := H
  have q := own_ofN (t := t) (by omega)
  have a := c_iadd u (Int32.ofNat t)
  have r := rng32 (u + Int32.ofNat t)
  rw [q] at a
  omega
theorem own_lt10 {f : Nat → Int32} {u z : Int32} {M t : Nat} (H : own_H f u z M) (h : t ≤ M) : Int32.ofNat t < (10 : Int32) := by
  obtain ⟨h1, h2, h3, h4, -⟩ := H
  have q := own_ofN (t := t) (by omega)
  rw [Int32.lt_iff_toInt_lt, q, show (10 : Int32).toInt = 10 from rfl]
  omega
theorem own_inq {f : Nat → Int32} {u z : Int32} {M t : Nat} (H : own_H f u z M) (h : t ≤ M) : ¬ (u + Int32.ofNat t) < 0 ∧ (u + Int32.ofNat t) < z := by
  have q := own_ut H h
  obtain ⟨h1, h2, h3, h4, -⟩ := H
  rw [Int32.lt_iff_toInt_lt, Int32.lt_iff_toInt_lt, show (0 : Int32).toInt = 0 from rfl, q]
  omega
theorem own_neq {f : Nat → Int32} {u z : Int32} {M t : Nat} (H : own_H f u z M) (h : t ≤ M) : own_f6 (u + Int32.ofNat t) z = 0 := by
  have q := (own_inq H h).2
  unfold own_f6
  exact if_neg (fun e => by rw [e] at q; exact absurd q Int32.lt_irrefl)
theorem own_needq {f : Nat → Int32} {u z : Int32} {M t : Nat} (H : own_H f u z M) (h : t ≤ M) : ¬ ((z - (u + Int32.ofNat t)) < (1 : Int32)) := by
  have q := own_ut H h
  obtain ⟨h1, h2, h3, h4, -⟩ := H
  have s := c_isub z (u + Int32.ofNat t)
  have r := rng32 (z - (u + Int32.ofNat t))
  rw [Int32.lt_iff_toInt_lt, show (1 : Int32).toInt = 1 from rfl]
  omega
theorem own_more {f : Nat → Int32} {u z : Int32} {M t : Nat} (H : own_H f u z M) (hc : f (u + Int32.ofNat t).toNatClampNeg < 0) : t ≠ M := by
  intro e
  rw [e] at hc
  exact H.2.2.2.2.2 hc
theorem own_last {f : Nat → Int32} {u z : Int32} {M t : Nat} (H : own_H f u z M) (hc : ¬ f (u + Int32.ofNat t).toNatClampNeg < 0) (h : t ≤ M) : M = t := by
  by_cases k : t < M
  · exact absurd (H.2.2.2.2.1 t k) hc
  · omega
theorem own_u0 (u : Int32) : u + Int32.ofNat 0 = u := Int32.add_zero u
theorem own_us (u : Int32) (t : Nat) : (u + Int32.ofNat t) + (1 : Int32) = u + Int32.ofNat (t + 1) := by
  rw [Int32.add_assoc, show (Int32.ofNat t) + (1 : Int32) = Int32.ofNat (t + 1) from (Int32.ofNat_add t 1).symm]
def own_accN (x2 : Int32) : Nat := ((x2 &&& (2147483647 : Int32)) % (10 : Int32)).toNatClampNeg
theorem own_k91 (m : MethodId) (a : Addr) : entryFrame m #[(.ref a)] 5 = mkF m 0 #[.val (.ref a), .unset, .unset, .unset, .unset] [] := by first | (simp [entryFrame, mkF, argsToLocals, Value.category]; done) | rfl
theorem own_k92 : decode prog_14_method_6_code 0 = .ok (.lconst 0, 1) := by decide +kernel
theorem own_k93 : decode prog_14_method_6_code 1 = .ok (.lstore_n 1, 1) := by decide +kernel
theorem own_k94 : decode prog_14_method_6_code 2 = .ok (.iconst 0, 1) := by decide +kernel
theorem own_k95 : decode prog_14_method_6_code 3 = .ok (.istore_n 3, 1) := by decide +kernel
theorem own_k96 : decode prog_14_method_6_code 4 = .ok (.iload_n 3, 1) := by decide +kernel
theorem own_k97 : decode prog_14_method_6_code 5 = .ok (.bipush 10, 2) := by decide +kernel
theorem own_k98 : decode prog_14_method_6_code 7 = .ok (.if_icmp .ge 67, 3) := by decide +kernel
theorem own_k99 : decode prog_14_method_6_code 10 = .ok (.aload_n 0, 1) := by decide +kernel
theorem own_k100 : parseMethodDescriptor "()Z" = some ⟨[], some .boolean⟩ := by decide +kernel
theorem own_k101 : decode prog_14_method_6_code 11 = .ok (.invokevirtual 119, 3) := by decide +kernel
theorem own_k102 : decode prog_14_method_6_code 14 = .ok (.ifCond .eq 10, 3) := by decide +kernel
theorem own_k103 : decode prog_14_method_6_code 24 = .ok (.aload_n 0, 1) := by decide +kernel
theorem own_k104 : decode prog_14_method_6_code 25 = .ok (.iconst 1, 1) := by decide +kernel
theorem own_k105 : parseMethodDescriptor "(I)V" = some ⟨[.int], none⟩ := by decide +kernel
theorem own_k106 : decode prog_14_method_6_code 26 = .ok (.invokevirtual 125, 3) := by decide +kernel
theorem own_k107 : decode prog_14_method_6_code 29 = .ok (.aload_n 0, 1) := by decide +kernel
theorem own_k108 : decode prog_14_method_6_code 30 = .ok (.getfield 12, 3) := by decide +kernel
theorem own_k109 : decode prog_14_method_6_code 33 = .ok (.aload_n 0, 1) := by decide +kernel
theorem own_k110 : decode prog_14_method_6_code 34 = .ok (.dup, 1) := by decide +kernel
theorem own_k111 : decode prog_14_method_6_code 35 = .ok (.getfield 110, 3) := by decide +kernel
theorem own_k112 : decode prog_14_method_6_code 38 = .ok (.dup_x1, 1) := by decide +kernel
theorem own_k113 : decode prog_14_method_6_code 39 = .ok (.iconst 1, 1) := by decide +kernel
theorem own_k114 : decode prog_14_method_6_code 40 = .ok (.iadd, 1) := by decide +kernel
theorem own_k115 : decode prog_14_method_6_code 41 = .ok (.putfield 110, 3) := by decide +kernel
theorem own_k116 : decode prog_14_method_6_code 44 = .ok (.baload, 1) := by decide +kernel
theorem own_k117 : decode prog_14_method_6_code 45 = .ok (.istore 4, 2) := by decide +kernel
theorem own_k118 : decode prog_14_method_6_code 47 = .ok (.lload_n 1, 1) := by decide +kernel
theorem own_k119 : decode prog_14_method_6_code 48 = .ok (.iload 4, 2) := by decide +kernel
theorem own_k120 : decode prog_14_method_6_code 50 = .ok (.bipush 127, 2) := by decide +kernel
theorem own_k121 : decode prog_14_method_6_code 52 = .ok (.iand, 1) := by decide +kernel
theorem own_k122 : decode prog_14_method_6_code 53 = .ok (.i2l, 1) := by decide +kernel
theorem own_k123 : decode prog_14_method_6_code 54 = .ok (.bipush 7, 2) := by decide +kernel
theorem own_k124 : decode prog_14_method_6_code 56 = .ok (.iload_n 3, 1) := by decide +kernel
theorem own_k125 : decode prog_14_method_6_code 57 = .ok (.imul, 1) := by decide +kernel
theorem own_k126 : decode prog_14_method_6_code 58 = .ok (.lshl, 1) := by decide +kernel
theorem own_k127 : decode prog_14_method_6_code 59 = .ok (.lor, 1) := by decide +kernel
theorem own_k128 : decode prog_14_method_6_code 60 = .ok (.lstore_n 1, 1) := by decide +kernel
theorem own_k129 : decode prog_14_method_6_code 61 = .ok (.iload 4, 2) := by decide +kernel
theorem own_k130 : decode prog_14_method_6_code 63 = .ok (.ifCond .lt 5, 3) := by decide +kernel
theorem own_k131 : decode prog_14_method_6_code 68 = .ok (.iinc 3 1, 3) := by decide +kernel
theorem own_k132 : decode prog_14_method_6_code 71 = .ok (.goto (-67), 3) := by decide +kernel
theorem own_k133 : decode prog_14_method_6_code 66 = .ok (.lload_n 1, 1) := by decide +kernel
theorem own_k134 : decode prog_14_method_6_code 67 = .ok (.lreturn, 1) := by decide +kernel
set_option maxRecDepth 65536 in
set_option maxHeartbeats 40000000 in
theorem own_rm5 (l : Launch) (Z : State) (a0 : Array Value) (hw : ∀ d ∈ tables_1, d.before a0 Z = true) (ws : List Jvm.Cond) (a : Addr) (b : Addr) (z : Int32) (u : Int32) (k_b : ClassId) (f : Nat → Int32) (M : Nat) (h0 : Heap) (n0 : Nat) (hn0 : n0 ≤ h0.size) (E_a : Exa Z h0 a "com/example/stokehold/stokehold/wire/ProtoReader") (F_a_bytes : Fld Z h0 a "com/example/stokehold/stokehold/wire/ProtoReader" "bytes" "[B" (.ref b)) (F_a_available : Fld Z h0 a "com/example/stokehold/stokehold/wire/ProtoReader" "available" "I" (.int z)) (F_a_end : Fld Z h0 a "com/example/stokehold/stokehold/wire/ProtoReader" "end" "I" (.int z)) (F_a_position : Fld Z h0 a "com/example/stokehold/stokehold/wire/ProtoReader" "position" "I" (.int u)) (V_b : Arf Z h0 b k_b .byte z f) (g_a : n0 ≤ a) (ne_a_b : a ≠ b) (hH : own_H f u z M) : Meets l Z (⟨"com/example/stokehold/stokehold/wire/ProtoReader", "readVarint", "()J"⟩ : MethodName) prog_14_method_6_code 5 (some .long) ws ({ frames := 1, cells := 0, slots := 0, locals := 13 } : Room) #[(.ref a)] h0 (fun v h L => v = some (.long (own_acc f u (M + 1))) ∧ Fr n0 L ∧ Keep h0 h [a] ∧ Exa Z h a "com/example/stokehold/stokehold/wire/ProtoReader" ∧ Fld Z h a "com/example/stokehold/stokehold/wire/ProtoReader" "bytes" "[B" (.ref b) ∧ Fld Z h a "com/example/stokehold/stokehold/wire/ProtoReader" "available" "I" (.int z) ∧ Fld Z h a "com/example/stokehold/stokehold/wire/ProtoReader" "end" "I" (.int z) ∧ Fld Z h a "com/example/stokehold/stokehold/wire/ProtoReader" "position" "I" (.int (u + Int32.ofNat (M + 1)))) := by
  refine meets_of (plainFor_of_name own_k60) ?_
  intro p e s m below meth c s₁ X0 hx hZ hby hml hret hlk hown hnm e0
  replace hml : c.maxLocals = 5 := hml
  replace hown : s.vm.findClass "com/example/stokehold/stokehold/wire/ProtoReader" = some m.cls := hown
  refine Go.cast (own_k91 m a) ?_
  have N0 := Fr.nil n0
  have K0 : Keep h0 h0 [a] := Keep.refl h0 _
  refine Go.via (U' := s₁.setTop (mkF m 1 #[.val (.ref a), .unset, .unset, .unset, .unset] [(.long (0 : Int64))])) (fun tG kG => XS.lconst X0.here hx rfl (hb hby own_k92) kG) ?_
  refine Go.via (U' := s₁.setTop (mkF m 2 #[.val (.ref a), .val (.long (0 : Int64)), .second, .unset, .unset] [])) (fun tG kG => XS.lstoreN X0.here hx rfl (hb hby own_k93) rfl (l' := #[.val (.ref a), .val (.long (0 : Int64)), .second, .unset, .unset]) rfl kG) ?_
  refine Go.via (U' := s₁.setTop (mkF m 3 #[.val (.ref a), .val (.long (0 : Int64)), .second, .unset, .unset] [(.int (0 : Int32))])) (fun tG kG => XS.iconst X0.here hx rfl (hb hby own_k94) kG) ?_
  refine Go.via (U' := s₁.setTop (mkF m 4 #[.val (.ref a), .val (.long (0 : Int64)), .second, .val (.int (0 : Int32)), .unset] [])) (fun tG kG => XS.istoreN X0.here hx rfl (hb hby own_k95) rfl (l' := #[.val (.ref a), .val (.long (0 : Int64)), .second, .val (.int (0 : Int32)), .unset]) rfl kG) ?_
  have loop1 : ∀ (d19 : Nat) (t : Nat) T' h' L' (sl10 : Slot), t + d19 = M → Stand p l e ({ frames := 1, cells := 0, slots := 0, locals := 13 } : Room) s m #[(.ref a)] below meth c T' L' 0 0 → T'.heap = h' → Fr n0 L' → n0 ≤ h'.size → Keep h0 h' [a] → One sl10 → Exa Z h' a "com/example/stokehold/stokehold/wire/ProtoReader" → Arf Z h' b k_b .byte z f → Fld Z h' a "com/example/stokehold/stokehold/wire/ProtoReader" "bytes" "[B" (.ref b) → Fld Z h' a "com/example/stokehold/stokehold/wire/ProtoReader" "available" "I" (.int z) → Fld Z h' a "com/example/stokehold/stokehold/wire/ProtoReader" "end" "I" (.int z) → Fld Z h' a "com/example/stokehold/stokehold/wire/ProtoReader" "position" "I" (.int (u + Int32.ofNat t)) → Go p e below s ({ frames := 1, cells := 0, slots := 0, locals := 13 } : Room).cells ({ frames := 1, cells := 0, slots := 0, locals := 13 } : Room).slots (fun v h L => v = some (.long (own_acc f u (M + 1))) ∧ Fr n0 L ∧ Keep h0 h [a] ∧ Exa Z h a "com/example/stokehold/stokehold/wire/ProtoReader" ∧ Fld Z h a "com/example/stokehold/stokehold/wire/ProtoReader" "bytes" "[B" (.ref b) ∧ Fld Z h a "com/example/stokehold/stokehold/wire/ProtoReader" "available" "I" (.int z) ∧ Fld Z h a "com/example/stokehold/stokehold/wire/ProtoReader" "end" "I" (.int z) ∧ Fld Z h a "com/example/stokehold/stokehold/wire/ProtoReader" "position" "I" (.int (u + Int32.ofNat (M + 1)))) (T'.setTop (mkF m 4 #[.val (.ref a), .val (.long (own_acc f u t)), .second, .val (.int (Int32.ofNat t)), sl10] [])) := by
    intro d19
    induction d19 using Nat.strongRecOn with
    | ind d19 ih18 =>
      intro t T2 h3 L4 sl10 hd17 X5 e6 N7 Z8 K9 osl10 f11 f12 f13 f14 f15 f16
      refine Go.via (U' := T2.setTop (mkF m 5 #[.val (.ref a), .val (.long (own_acc f u t)), .second, .val (.int (Int32.ofNat t)), sl10] [(.int (Int32.ofNat t))])) (fun tG kG => XS.iloadN X5.here hx rfl (hb hby own_k96) rfl kG) ?_
      refine Go.via (U' := T2.setTop (mkF m 7 #[.val (.ref a), .val (.long (own_acc f u t)), .second, .val (.int (Int32.ofNat t)), sl10] [(.int (10 : Int32)), (.int (Int32.ofNat t))])) (fun tG kG => XS.bipush X5.here hx rfl (hb hby own_k97) kG) ?_
      have hc7 : (Int32.ofNat t) < (10 : Int32) := own_lt10 hH (by omega)
      refine Go.via (U' := T2.setTop (mkF m 10 #[.val (.ref a), .val (.long (own_acc f u t)), .second, .val (.int (Int32.ofNat t)), sl10] [])) (fun tG kG => XS.icmpNo X5.here hx rfl (hb hby own_k98) rfl (tlt hc7).2.1 kG) ?_
      refine Go.via (U' := T2.setTop (mkF m 11 #[.val (.ref a), .val (.long (own_acc f u t)), .second, .val (.int (Int32.ofNat t)), sl10] [(.ref a)])) (fun tG kG => XS.aloadN X5.here hx rfl (hb hby own_k99) rfl rfl kG) ?_
      obtain ⟨T20, X20, e20, st20⟩ := callV0 X5 hx hZ hown (hw _ (List.mem_of_getElem? (i := 39) rfl)) (hw _ (List.mem_of_getElem? (i := 40) rfl)) (hw _ (List.mem_of_getElem? (i := 42) rfl)) (hw _ (List.mem_of_getElem? (i := 41) rfl)) (hw _ (List.mem_of_getElem? (i := 9) rfl)) (hw _ (List.mem_of_getElem? (i := 43) rfl)) (by decide) (b := a) (av := []) f11 (own_rm6 l Z a0 hw [] a (u + Int32.ofNat t) z h3 f16 f15) e6 (pc := 11) (Ls := #[.val (.ref a), .val (.long (own_acc f u t)), .second, .val (.int (Int32.ofNat t)), sl10]) (rest := []) (by rw [hml]; rfl) own_k100 rfl 0 (Nat.le_of_eq rfl) (by decide) (by decide) (by decide) (by decide) (hb hby own_k101)
      refine Go.via (U' := T20.setTop (mkF m 14 #[.val (.ref a), .val (.long (own_acc f u t)), .second, .val (.int (Int32.ofNat t)), sl10] [(.int (own_f6 (u + Int32.ofNat t) z))])) (fun tG kG => st20 tG kG) ?_
      have hc14 : (own_f6 (u + Int32.ofNat t) z) = (0 : Int32) := own_neq hH (by omega)
      refine Go.via (U' := T20.setTop (mkF m 24 #[.val (.ref a), .val (.long (own_acc f u t)), .second, .val (.int (Int32.ofNat t)), sl10] [])) (fun tG kG => XS.ifYes X20.here hx rfl (pc0 := 14) (pc' := 24) rfl (hb hby own_k102) rfl ((if0 _ _).trans (teq hc14).1) (by decide) (by decide) kG) ?_
      refine Go.via (U' := T20.setTop (mkF m 25 #[.val (.ref a), .val (.long (own_acc f u t)), .second, .val (.int (Int32.ofNat t)), sl10] [(.ref a)])) (fun tG kG => XS.aloadN X20.here hx rfl (hb hby own_k103) rfl rfl kG) ?_
      refine Go.via (U' := T20.setTop (mkF m 26 #[.val (.ref a), .val (.long (own_acc f u t)), .second, .val (.int (Int32.ofNat t)), sl10] [(.int (1 : Int32)), (.ref a)])) (fun tG kG => XS.iconst X20.here hx rfl (hb hby own_k104) kG) ?_
      obtain ⟨T21, X21, e21, st21⟩ := callP0 X20 hx hZ (y2 := (⟨"com/example/stokehold/stokehold/wire/ProtoReader", "readVarint", "()J"⟩ : MethodName)) hown (hw _ (List.mem_of_getElem? (i := 46) rfl)) (hw _ (List.mem_of_getElem? (i := 47) rfl)) (hw _ (List.mem_of_getElem? (i := 48) rfl)) (hw _ (List.mem_of_getElem? (i := 37) rfl)) rfl (hw _ (List.mem_of_getElem? (i := 9) rfl)) (hw _ (List.mem_of_getElem? (i := 49) rfl)) (by decide) (b := a) (av := [(.int (1 : Int32))]) f11 (own_rm7 l Z a0 hw [] a (1 : Int32) z (u + Int32.ofNat t) h3 f14 f16 (own_needq hH (by omega))) e20 (pc := 26) (Ls := #[.val (.ref a), .val (.long (own_acc f u t)), .second, .val (.int (Int32.ofNat t)), sl10]) (rest := []) (by rw [hml]; rfl) own_k105 rfl 0 (Nat.le_of_eq rfl) (by decide) (by decide) (by decide) (by decide) (hb hby own_k106)
      refine Go.via (U' := T21.setTop (mkF m 29 #[.val (.ref a), .val (.long (own_acc f u t)), .second, .val (.int (Int32.ofNat t)), sl10] [])) (fun tG kG => st21 tG kG) ?_
      refine Go.via (U' := T21.setTop (mkF m 30 #[.val (.ref a), .val (.long (own_acc f u t)), .second, .val (.int (Int32.ofNat t)), sl10] [(.ref a)])) (fun tG kG => XS.aloadN X21.here hx rfl (hb hby own_k107) rfl rfl kG) ?_
      obtain ⟨T22, X22, e22, st22⟩ := getF X21 hx hZ hown (host := "") (Or.inl (hw _ (List.mem_of_getElem? (i := 26) rfl))) Via.refl e21 f13 (g := (mkF m 30 #[.val (.ref a), .val (.long (own_acc f u t)), .second, .val (.int (Int32.ofNat t)), sl10] [(.ref a)])) rfl rfl (hb hby own_k108)
      refine Go.via (U' := T22.setTop (mkF m 33 #[.val (.ref a), .val (.long (own_acc f u t)), .second, .val (.int (Int32.ofNat t)), sl10] [(.ref b)])) (fun tG kG => st22 tG kG) ?_
      refine Go.via (U' := T22.setTop (mkF m 34 #[.val (.ref a), .val (.long (own_acc f u t)), .second, .val (.int (Int32.ofNat t)), sl10] [(.ref a), (.ref b)])) (fun tG kG => XS.aloadN X22.here hx rfl (hb hby own_k109) rfl rfl kG) ?_
      refine Go.via (U' := T22.setTop (mkF m 35 #[.val (.ref a), .val (.long (own_acc f u t)), .second, .val (.int (Int32.ofNat t)), sl10] [(.ref a), (.ref a), (.ref b)])) (fun tG kG => XS.dup X22.here hx rfl (hb hby own_k110) rfl rfl kG) ?_
      obtain ⟨T23, X23, e23, st23⟩ := getF X22 hx hZ hown (host := "") (Or.inl (hw _ (List.mem_of_getElem? (i := 44) rfl))) Via.refl e22 f16 (g := (mkF m 35 #[.val (.ref a), .val (.long (own_acc f u t)), .second, .val (.int (Int32.ofNat t)), sl10] [(.ref a), (.ref a), (.ref b)])) rfl rfl (hb hby own_k111)
      refine Go.via (U' := T23.setTop (mkF m 38 #[.val (.ref a), .val (.long (own_acc f u t)), .second, .val (.int (Int32.ofNat t)), sl10] [(.int (u + Int32.ofNat t)), (.ref a), (.ref b)])) (fun tG kG => st23 tG kG) ?_
      refine Go.via (U' := T23.setTop (mkF m 39 #[.val (.ref a), .val (.long (own_acc f u t)), .second, .val (.int (Int32.ofNat t)), sl10] [(.int (u + Int32.ofNat t)), (.ref a), (.int (u + Int32.ofNat t)), (.ref b)])) (fun tG kG => XS.dupX1 X23.here hx rfl (hb hby own_k112) rfl rfl rfl kG) ?_
      refine Go.via (U' := T23.setTop (mkF m 40 #[.val (.ref a), .val (.long (own_acc f u t)), .second, .val (.int (Int32.ofNat t)), sl10] [(.int (1 : Int32)), (.int (u + Int32.ofNat t)), (.ref a), (.int (u + Int32.ofNat t)), (.ref b)])) (fun tG kG => XS.iconst X23.here hx rfl (hb hby own_k113) kG) ?_
      refine Go.via (U' := T23.setTop (mkF m 41 #[.val (.ref a), .val (.long (own_acc f u t)), .second, .val (.int (Int32.ofNat t)), sl10] [(.int ((u + Int32.ofNat t) + (1 : Int32))), (.ref a), (.int (u + Int32.ofNat t)), (.ref b)])) (fun tG kG => XS.iadd X23.here hx rfl (hb hby own_k114) rfl kG) ?_
      obtain ⟨T24, h24, X24, e24, W24, st24⟩ := putF X23 hx hZ hown (host := "") (Or.inl (hw _ (List.mem_of_getElem? (i := 44) rfl))) Via.refl e23 f16 f11 (Or.inl (hw _ (List.mem_of_getElem? (i := 45) rfl))) (hw _ (List.mem_of_getElem? (i := 8) rfl)) (ty := .int) (by decide) rfl rfl (g := (mkF m 41 #[.val (.ref a), .val (.long (own_acc f u t)), .second, .val (.int (Int32.ofNat t)), sl10] [(.int ((u + Int32.ofNat t) + (1 : Int32))), (.ref a), (.int (u + Int32.ofNat t)), (.ref b)])) rfl rfl (hb hby own_k115)
      have f25 := f11.wr W24
      have f26 := f12.other W24 (Ne.symm ne_a_b)
      have f27 := f13.other W24 (Or.inr (slot_ne (Or.inr (hw _ (List.mem_of_getElem? (i := 27) rfl))) (Or.inl (hw _ (List.mem_of_getElem? (i := 45) rfl))) (by decide) (t := (.array .byte)) (t' := .int) (by decide) (by decide)))
      have f28 := f14.other W24 (Or.inr (slot_ne (Or.inr (hw _ (List.mem_of_getElem? (i := 29) rfl))) (Or.inl (hw _ (List.mem_of_getElem? (i := 45) rfl))) (by decide) (t := .int) (t' := .int) (by decide) (by decide)))
      have f29 := f15.other W24 (Or.inr (slot_ne (Or.inr (hw _ (List.mem_of_getElem? (i := 31) rfl))) (Or.inl (hw _ (List.mem_of_getElem? (i := 45) rfl))) (by decide) (t := .int) (t' := .int) (by decide) (by decide)))
      have f30 := f16.same W24
      have K24 := K9.wr W24 (Or.inl (List.mem_of_getElem? (i := 0) rfl))
      have N24 := Fr.snoc X24 N7 g_a
      have Z24 := Nat.le_trans Z8 (Keep.of_wr W24).1
      refine Go.via (U' := T24.setTop (mkF m 44 #[.val (.ref a), .val (.long (own_acc f u t)), .second, .val (.int (Int32.ofNat t)), sl10] [(.int (u + Int32.ofNat t)), (.ref b)])) (fun tG kG => st24 tG kG) ?_
      refine Go.via (U' := T24.setTop (mkF m 45 #[.val (.ref a), .val (.long (own_acc f u t)), .second, .val (.int (Int32.ofNat t)), sl10] [(.int (f (u + Int32.ofNat t).toNatClampNeg))])) (fun tG kG => own_ldB X24 hx hZ e24 f26 (j := (u + Int32.ofNat t)) (own_inq hH (by omega)) (hb hby own_k116) tG kG) ?_
      refine Go.via (U' := T24.setTop (mkF m 47 #[.val (.ref a), .val (.long (own_acc f u t)), .second, .val (.int (Int32.ofNat t)), .val (.int (f (u + Int32.ofNat t).toNatClampNeg))] [])) (fun tG kG => XS.istoreS X24.here hx rfl (hb hby own_k117) rfl rfl osl10 kG) ?_
      refine Go.via (U' := T24.setTop (mkF m 48 #[.val (.ref a), .val (.long (own_acc f u t)), .second, .val (.int (Int32.ofNat t)), .val (.int (f (u + Int32.ofNat t).toNatClampNeg))] [(.long (own_acc f u t))])) (fun tG kG => XS.lloadN X24.here hx rfl (hb hby own_k118) rfl kG) ?_
      refine Go.via (U' := T24.setTop (mkF m 50 #[.val (.ref a), .val (.long (own_acc f u t)), .second, .val (.int (Int32.ofNat t)), .val (.int (f (u + Int32.ofNat t).toNatClampNeg))] [(.int (f (u + Int32.ofNat t).toNatClampNeg)), (.long (own_acc f u t))])) (fun tG kG => XS.iload X24.here hx rfl (hb hby own_k119) rfl kG) ?_
      refine Go.via (U' := T24.setTop (mkF m 52 #[.val (.ref a), .val (.long (own_acc f u t)), .second, .val (.int (Int32.ofNat t)), .val (.int (f (u + Int32.ofNat t).toNatClampNeg))] [(.int (127 : Int32)), (.int (f (u + Int32.ofNat t).toNatClampNeg)), (.long (own_acc f u t))])) (fun tG kG => XS.bipush X24.here hx rfl (hb hby own_k120) kG) ?_
      refine Go.via (U' := T24.setTop (mkF m 53 #[.val (.ref a), .val (.long (own_acc f u t)), .second, .val (.int (Int32.ofNat t)), .val (.int (f (u + Int32.ofNat t).toNatClampNeg))] [(.int ((f (u + Int32.ofNat t).toNatClampNeg) &&& (127 : Int32))), (.long (own_acc f u t))])) (fun tG kG => XS.iand X24.here hx rfl (hb hby own_k121) rfl kG) ?_
      refine Go.via (U' := T24.setTop (mkF m 54 #[.val (.ref a), .val (.long (own_acc f u t)), .second, .val (.int (Int32.ofNat t)), .val (.int (f (u + Int32.ofNat t).toNatClampNeg))] [(.long (((f (u + Int32.ofNat t).toNatClampNeg) &&& (127 : Int32)).toInt64)), (.long (own_acc f u t))])) (fun tG kG => XS.i2l X24.here hx rfl (hb hby own_k122) rfl kG) ?_
      refine Go.via (U' := T24.setTop (mkF m 56 #[.val (.ref a), .val (.long (own_acc f u t)), .second, .val (.int (Int32.ofNat t)), .val (.int (f (u + Int32.ofNat t).toNatClampNeg))] [(.int (7 : Int32)), (.long (((f (u + Int32.ofNat t).toNatClampNeg) &&& (127 : Int32)).toInt64)), (.long (own_acc f u t))])) (fun tG kG => XS.bipush X24.here hx rfl (hb hby own_k123) kG) ?_
      refine Go.via (U' := T24.setTop (mkF m 57 #[.val (.ref a), .val (.long (own_acc f u t)), .second, .val (.int (Int32.ofNat t)), .val (.int (f (u + Int32.ofNat t).toNatClampNeg))] [(.int (Int32.ofNat t)), (.int (7 : Int32)), (.long (((f (u + Int32.ofNat t).toNatClampNeg) &&& (127 : Int32)).toInt64)), (.long (own_acc f u t))])) (fun tG kG => XS.iloadN X24.here hx rfl (hb hby own_k124) rfl kG) ?_
      refine Go.via (U' := T24.setTop (mkF m 58 #[.val (.ref a), .val (.long (own_acc f u t)), .second, .val (.int (Int32.ofNat t)), .val (.int (f (u + Int32.ofNat t).toNatClampNeg))] [(.int ((7 : Int32) * (Int32.ofNat t))), (.long (((f (u + Int32.ofNat t).toNatClampNeg) &&& (127 : Int32)).toInt64)), (.long (own_acc f u t))])) (fun tG kG => XS.imul X24.here hx rfl (hb hby own_k125) rfl kG) ?_
      refine Go.via (U' := T24.setTop (mkF m 59 #[.val (.ref a), .val (.long (own_acc f u t)), .second, .val (.int (Int32.ofNat t)), .val (.int (f (u + Int32.ofNat t).toNatClampNeg))] [(.long ((((f (u + Int32.ofNat t).toNatClampNeg) &&& (127 : Int32)).toInt64) <<< (((7 : Int32) * (Int32.ofNat t)) &&& 0x3f).toInt64)), (.long (own_acc f u t))])) (fun tG kG => XS.lshl X24.here hx rfl (hb hby own_k126) rfl kG) ?_
      refine Go.via (U' := T24.setTop (mkF m 60 #[.val (.ref a), .val (.long (own_acc f u t)), .second, .val (.int (Int32.ofNat t)), .val (.int (f (u + Int32.ofNat t).toNatClampNeg))] [(.long ((own_acc f u t) ||| ((((f (u + Int32.ofNat t).toNatClampNeg) &&& (127 : Int32)).toInt64) <<< (((7 : Int32) * (Int32.ofNat t)) &&& 0x3f).toInt64)))])) (fun tG kG => XS.lor X24.here hx rfl (hb hby own_k127) rfl kG) ?_
      refine Go.via (U' := T24.setTop (mkF m 61 #[.val (.ref a), .val (.long ((own_acc f u t) ||| ((((f (u + Int32.ofNat t).toNatClampNeg) &&& (127 : Int32)).toInt64) <<< (((7 : Int32) * (Int32.ofNat t)) &&& 0x3f).toInt64))), .second, .val (.int (Int32.ofNat t)), .val (.int (f (u + Int32.ofNat t).toNatClampNeg))] [])) (fun tG kG => XS.lstoreN X24.here hx rfl (hb hby own_k128) rfl (l' := #[.val (.ref a), .val (.long ((own_acc f u t) ||| ((((f (u + Int32.ofNat t).toNatClampNeg) &&& (127 : Int32)).toInt64) <<< (((7 : Int32) * (Int32.ofNat t)) &&& 0x3f).toInt64))), .second, .val (.int (Int32.ofNat t)), .val (.int (f (u + Int32.ofNat t).toNatClampNeg))]) rfl kG) ?_
      refine Go.via (U' := T24.setTop (mkF m 63 #[.val (.ref a), .val (.long ((own_acc f u t) ||| ((((f (u + Int32.ofNat t).toNatClampNeg) &&& (127 : Int32)).toInt64) <<< (((7 : Int32) * (Int32.ofNat t)) &&& 0x3f).toInt64))), .second, .val (.int (Int32.ofNat t)), .val (.int (f (u + Int32.ofNat t).toNatClampNeg))] [(.int (f (u + Int32.ofNat t).toNatClampNeg))])) (fun tG kG => XS.iload X24.here hx rfl (hb hby own_k129) rfl kG) ?_
      by_cases hc63 : (f (u + Int32.ofNat t).toNatClampNeg) < (0 : Int32)
      · refine Go.via (U' := T24.setTop (mkF m 68 #[.val (.ref a), .val (.long ((own_acc f u t) ||| ((((f (u + Int32.ofNat t).toNatClampNeg) &&& (127 : Int32)).toInt64) <<< (((7 : Int32) * (Int32.ofNat t)) &&& 0x3f).toInt64))), .second, .val (.int (Int32.ofNat t)), .val (.int (f (u + Int32.ofNat t).toNatClampNeg))] [])) (fun tG kG => XS.ifYes X24.here hx rfl (pc0 := 63) (pc' := 68) rfl (hb hby own_k130) rfl ((if0 _ _).trans (tlt hc63).1) (by decide) (by decide) kG) ?_
        refine Go.via (U' := T24.setTop (mkF m 71 #[.val (.ref a), .val (.long ((own_acc f u t) ||| ((((f (u + Int32.ofNat t).toNatClampNeg) &&& (127 : Int32)).toInt64) <<< (((7 : Int32) * (Int32.ofNat t)) &&& 0x3f).toInt64))), .second, .val (.int ((Int32.ofNat t) + (1 : Int32))), .val (.int (f (u + Int32.ofNat t).toNatClampNeg))] [])) (fun tG kG => XS.iinc X24.here hx rfl (hb hby own_k131) rfl (l' := #[.val (.ref a), .val (.long ((own_acc f u t) ||| ((((f (u + Int32.ofNat t).toNatClampNeg) &&& (127 : Int32)).toInt64) <<< (((7 : Int32) * (Int32.ofNat t)) &&& 0x3f).toInt64))), .second, .val (.int ((Int32.ofNat t) + (1 : Int32))), .val (.int (f (u + Int32.ofNat t).toNatClampNeg))]) rfl kG) ?_
        refine Go.via (U' := T24.setTop (mkF m 4 #[.val (.ref a), .val (.long ((own_acc f u t) ||| ((((f (u + Int32.ofNat t).toNatClampNeg) &&& (127 : Int32)).toInt64) <<< (((7 : Int32) * (Int32.ofNat t)) &&& 0x3f).toInt64))), .second, .val (.int ((Int32.ofNat t) + (1 : Int32))), .val (.int (f (u + Int32.ofNat t).toNatClampNeg))] [])) (fun tG kG => XS.goto X24.here hx rfl (pc0 := 71) (pc' := 4) rfl (hb hby own_k132) (by decide) (by decide) kG) ?_
        refine Go.cast (g' := (mkF m 4 #[.val (.ref a), .val (.long (own_acc f u (t + 1))), .second, .val (.int (Int32.ofNat (t + 1))), .val (.int (f (u + Int32.ofNat t).toNatClampNeg))] [])) (by rw [own_accs f u t, show (Int32.ofNat t) + (1 : Int32) = Int32.ofNat (t + 1) from (Int32.ofNat_add t 1).symm]) (ih18 (d19 - 1) (by have q := own_more hH hc63; omega) ((t + 1)) T24 _ _ (.val (.int (f (u + Int32.ofNat t).toNatClampNeg))) (by have q := own_more hH hc63; omega) X24 e24 N24 Z24 K24 (One.val rfl) f25 f26 f27 f28 f29 (by rw [← own_us]; exact f30))
      · refine Go.via (U' := T24.setTop (mkF m 66 #[.val (.ref a), .val (.long ((own_acc f u t) ||| ((((f (u + Int32.ofNat t).toNatClampNeg) &&& (127 : Int32)).toInt64) <<< (((7 : Int32) * (Int32.ofNat t)) &&& 0x3f).toInt64))), .second, .val (.int (Int32.ofNat t)), .val (.int (f (u + Int32.ofNat t).toNatClampNeg))] [])) (fun tG kG => XS.ifNo X24.here hx rfl (hb hby own_k130) rfl ((if0 _ _).trans (flt hc63).1) kG) ?_
        refine Go.via (U' := T24.setTop (mkF m 67 #[.val (.ref a), .val (.long ((own_acc f u t) ||| ((((f (u + Int32.ofNat t).toNatClampNeg) &&& (127 : Int32)).toInt64) <<< (((7 : Int32) * (Int32.ofNat t)) &&& 0x3f).toInt64))), .second, .val (.int (Int32.ofNat t)), .val (.int (f (u + Int32.ofNat t).toNatClampNeg))] [(.long ((own_acc f u t) ||| ((((f (u + Int32.ofNat t).toNatClampNeg) &&& (127 : Int32)).toInt64) <<< (((7 : Int32) * (Int32.ofNat t)) &&& 0x3f).toInt64)))])) (fun tG kG => XS.lloadN X24.here hx rfl (hb hby own_k133) rfl kG) ?_
        exact go_retJ X24 hx hlk hret (hb hby own_k134) e24 ⟨(congrArg (fun z => some (Value.long z)) (show ((own_acc f u t) ||| ((((f (u + Int32.ofNat t).toNatClampNeg) &&& (127 : Int32)).toInt64) <<< (((7 : Int32) * (Int32.ofNat t)) &&& 0x3f).toInt64)) = (own_acc f u (M + 1)) from by rw [own_last hH hc63 (by omega)]; rfl)), N24, K24, f25, f27, f28, f29, (by rw [own_last hH hc63 (by omega), ← own_us]; exact f30)⟩ (by decide) (by decide)
  refine Go.cast (g' := (mkF m 4 #[.val (.ref a), .val (.long (own_acc f u 0)), .second, .val (.int (Int32.ofNat 0)), .unset] [])) (by rfl) (loop1 (M) (0) s₁ _ _ (.unset) (Nat.zero_add _) X0 e0 N0 hn0 K0 (One.u) E_a V_b F_a_bytes F_a_available F_a_end (by rw [own_u0]; exact F_a_position))
theorem own_k135 (m : MethodId) (x0 : Int64) (x1 : Int64) (x2 : Int32) (x3 : Int32) : entryFrame m #[(.long x0), (.long x1), (.int x2), (.int x3)] maxLocals = mkF m 0 #[.val (.long x0), .second, .val (.long x1), .second, .val (.int x2), .val (.int x3), .unset, .unset, .unset, .unset, .unset, .unset, .unset, .unset, .unset] [] := by first | (simp [entryFrame, mkF, argsToLocals, Value.category, maxLocals]; done) | rfl
theorem own_k136 : parseMethodDescriptor "(IIJJI)B" = some ⟨[.int, .int, .long, .long, .int], some .byte⟩ := by decide +kernel
def own_w0_2 (x0 : Int64) (x1 : Int64) (x2 : Int32) (x3 : Int32) : Nat → Int32 := (own_upd (fun _ => (0 : Int32)) 0 (nar .byte (own_f1 (0 : Int32) (((x2 &&& (2147483647 : Int32)) % (10 : Int32)) + (1 : Int32)) x0 x1 x3)))
def own_w0_3 (x0 : Int64) (x1 : Int64) (x2 : Int32) (x3 : Int32) : Nat → Int32 := (own_upd (own_w0_2 x0 x1 x2 x3) 1 (nar .byte (own_f1 (1 : Int32) (((x2 &&& (2147483647 : Int32)) % (10 : Int32)) + (1 : Int32)) x0 x1 x3)))
def own_w0_4 (x0 : Int64) (x1 : Int64) (x2 : Int32) (x3 : Int32) : Nat → Int32 := (own_upd (own_w0_3 x0 x1 x2 x3) 2 (nar .byte (own_f1 (2 : Int32) (((x2 &&& (2147483647 : Int32)) % (10 : Int32)) + (1 : Int32)) x0 x1 x3)))
def own_w0_5 (x0 : Int64) (x1 : Int64) (x2 : Int32) (x3 : Int32) : Nat → Int32 := (own_upd (own_w0_4 x0 x1 x2 x3) 3 (nar .byte (own_f1 (3 : Int32) (((x2 &&& (2147483647 : Int32)) % (10 : Int32)) + (1 : Int32)) x0 x1 x3)))
def own_w0_6 (x0 : Int64) (x1 : Int64) (x2 : Int32) (x3 : Int32) : Nat → Int32 := (own_upd (own_w0_5 x0 x1 x2 x3) 4 (nar .byte (own_f1 (4 : Int32) (((x2 &&& (2147483647 : Int32)) % (10 : Int32)) + (1 : Int32)) x0 x1 x3)))
def own_w0_7 (x0 : Int64) (x1 : Int64) (x2 : Int32) (x3 : Int32) : Nat → Int32 := (own_upd (own_w0_6 x0 x1 x2 x3) 5 (nar .byte (own_f1 (5 : Int32) (((x2 &&& (2147483647 : Int32)) % (10 : Int32)) + (1 : Int32)) x0 x1 x3)))
def own_w0_8 (x0 : Int64) (x1 : Int64) (x2 : Int32) (x3 : Int32) : Nat → Int32 := (own_upd (own_w0_7 x0 x1 x2 x3) 6 (nar .byte (own_f1 (6 : Int32) (((x2 &&& (2147483647 : Int32)) % (10 : Int32)) + (1 : Int32)) x0 x1 x3)))
def own_w0_9 (x0 : Int64) (x1 : Int64) (x2 : Int32) (x3 : Int32) : Nat → Int32 := (own_upd (own_w0_8 x0 x1 x2 x3) 7 (nar .byte (own_f1 (7 : Int32) (((x2 &&& (2147483647 : Int32)) % (10 : Int32)) + (1 : Int32)) x0 x1 x3)))
def own_w0_10 (x0 : Int64) (x1 : Int64) (x2 : Int32) (x3 : Int32) : Nat → Int32 := (own_upd (own_w0_9 x0 x1 x2 x3) 8 (nar .byte (own_f1 (8 : Int32) (((x2 &&& (2147483647 : Int32)) % (10 : Int32)) + (1 : Int32)) x0 x1 x3)))
def own_w0_11 (x0 : Int64) (x1 : Int64) (x2 : Int32) (x3 : Int32) : Nat → Int32 := (own_upd (own_w0_10 x0 x1 x2 x3) 9 (nar .byte (own_f1 (9 : Int32) (((x2 &&& (2147483647 : Int32)) % (10 : Int32)) + (1 : Int32)) x0 x1 x3)))
def own_w0_12 (x0 : Int64) (x1 : Int64) (x2 : Int32) (x3 : Int32) : Nat → Int32 := (own_upd (own_w0_11 x0 x1 x2 x3) 10 (nar .byte (own_f1 (10 : Int32) (((x2 &&& (2147483647 : Int32)) % (10 : Int32)) + (1 : Int32)) x0 x1 x3)))
def own_w0_13 (x2 : Int32) : Int64 := (((1 : Int64) <<< (((7 : Int32) * (((x2 &&& (2147483647 : Int32)) % (10 : Int32)) + (1 : Int32))) &&& 0x3f).toInt64) - (1 : Int64))
def own_j0_186_l8 (x0 : Int64) (x1 : Int64) (x2 : Int32) : Int64 := (if (((x2 &&& (2147483647 : Int32)) % (10 : Int32)) + (1 : Int32)) = (10 : Int32) then ((x0 &&& (9223372036854775807 : Int64)) ||| (x1 <<< ((63 : Int32) &&& 0x3f).toInt64)) else (x0 &&& (own_w0_13 x2)))
theorem own_k137 : parseMethodDescriptor "([BLjava/lang/String;)V" = some ⟨[(.array .byte), (.object "java/lang/String")], none⟩ := by decide +kernel
theorem own_k138 : parseMethodDescriptor "()J" = some ⟨[], some .long⟩ := by decide +kernel
def own_f0 (x0 : Int64) (x1 : Int64) (x2 : Int32) (x3 : Int32) : Int32 := (if (lcmpW (own_acc (own_w0_12 x0 x1 x2 x3) (0 : Int32) ((own_accN x2) + 1)) (own_j0_186_l8 x0 x1 x2)) = (0 : Int32) then (if (lcmpW (own_acc (own_w0_12 x0 x1 x2 x3) ((0 : Int32) + Int32.ofNat ((own_accN x2) + 1)) (0 + 1)) ((x3 &&& (127 : Int32)).toInt64)) = (0 : Int32) then (1 : Int32) else (0 : Int32)) else (0 : Int32))
theorem own_narB (x : Int32) : nar .byte (x.toInt8.toInt32) = x.toInt8.toInt32 := by
  show x.toInt8.toInt32.toInt8.toInt32 = x.toInt8.toInt32
  have a := c_i2b x
  have b := c_i2b x.toInt8.toInt32
  apply Int32.toInt_inj.mp
  omega
theorem own_Nr (x2 : Int32) : own_accN x2 ≤ 9 ∧ ((x2 &&& (2147483647 : Int32)) % (10 : Int32)) + (1 : Int32) = Int32.ofNat (own_accN x2 + 1) := by
  have a := c_and x2 2147483647 (by decide)
  have b := (c_irem (x2 &&& 2147483647) 10 10 rfl).1 a.1
  have c := c_iadd ((x2 &&& (2147483647 : Int32)) % (10 : Int32)) 1
  have r := rng32 (((x2 &&& (2147483647 : Int32)) % (10 : Int32)) + 1)
  have e : (1 : Int32).toInt = 1 := rfl
  unfold own_accN
  generalize (x2 &&& (2147483647 : Int32)).toInt = y at *
  generalize (x2 &&& (2147483647 : Int32)) % (10 : Int32) = q at *
  have g : q.toNatClampNeg = q.toInt.toNat := rfl
  have h : q.toNatClampNeg ≤ 9 := by omega
  refine ⟨h, Int32.toInt_inj.mp ?_⟩
  rw [own_ofN (t := q.toNatClampNeg + 1) (by omega)]
  omega
theorem own_le10 {i : Nat} (h : i ≤ 10) : i = 0 ∨ i = 1 ∨ i = 2 ∨ i = 3 ∨ i = 4 ∨ i = 5 ∨ i = 6 ∨ i = 7 ∨ i = 8 ∨ i = 9 ∨ i = 10 := by omega
theorem own_Fi (x0 x1 : Int64) (x2 x3 : Int32) {i : Nat} (h : i ≤ 10) : own_w0_12 x0 x1 x2 x3 i = nar .byte (own_f1 (Int32.ofNat i) (Int32.ofNat (own_accN x2 + 1)) x0 x1 x3) := by
  rw [← (own_Nr x2).2]
  rcases own_le10 h with rfl | rfl | rfl | rfl | rfl | rfl | rfl | rfl | rfl | rfl | rfl <;> rfl
theorem own_jr (i : Int32) (x0 x1 : Int64) : 0 ≤ (own_j1_22_s0 i x0 x1).toInt ∧ (own_j1_22_s0 i x0 x1).toInt < 128 := by
  unfold own_j1_22_s0
  have key : ∀ v : Int64, 0 ≤ (v &&& (127 : Int64)).toInt32.toInt ∧ (v &&& (127 : Int64)).toInt32.toInt < 128 := by
    intro v
    have a := c_maskL v 127 7 (by decide) (by decide)
    have b := c_l2i (v &&& 127)
    have r := rng32 (v &&& (127 : Int64)).toInt32
    omega
  split
  · exact key _
  · exact key _
/-- a byte that goes on: negative, its lower bits the group -/
theorem own_bgo (v : Int32) (h0 : 0 ≤ v.toInt) (h1 : v.toInt < 128) : ((v ||| (128 : Int32)).toInt8.toInt32).toInt = v.toInt - 128 := by
  have a := c_or' v 128 7 (by decide) 128 (by decide) (by decide) h0 h1
  have b := c_i2b (v ||| 128)
  have e : (128 : Int32).toInt = 128 := rfl
  omega
theorem own_bend (v : Int32) (h0 : 0 ≤ v.toInt) (h1 : v.toInt < 128) : (v.toInt8.toInt32).toInt = v.toInt := by
  have b := c_i2b v
  omega
theorem own_Fgo (x0 x1 : Int64) (x2 x3 : Int32) {i : Nat} (h : i < own_accN x2) : (own_w0_12 x0 x1 x2 x3 i).toInt = (own_j1_22_s0 (Int32.ofNat i) x0 x1).toInt - 128 := by
  have n := (own_Nr x2).1
  rw [own_Fi x0 x1 x2 x3 (by omega)]
  have r := own_jr (Int32.ofNat i) x0 x1
  have a := own_ofN (t := i) (by omega)
  have b := own_ofN (t := own_accN x2 + 1) (by omega)
  have c := c_isub (Int32.ofNat (own_accN x2 + 1)) 1
  have e : (1 : Int32).toInt = 1 := rfl
  have rr := rng32 (Int32.ofNat (own_accN x2 + 1) - 1)
  unfold own_f1 own_j1_52_s0
  rw [if_neg (by rw [Int32.lt_iff_toInt_lt]; omega), if_neg (fun q => by have := congrArg Int32.toInt q; omega), if_pos (by rw [Int32.lt_iff_toInt_lt]; omega), own_narB, own_narB]
  exact own_bgo _ r.1 r.2
theorem own_Fend (x0 x1 : Int64) (x2 x3 : Int32) : (own_w0_12 x0 x1 x2 x3 (own_accN x2)).toInt = (own_j1_22_s0 (Int32.ofNat (own_accN x2)) x0 x1).toInt := by
  have n := (own_Nr x2).1
  rw [own_Fi x0 x1 x2 x3 (by omega)]
  have r := own_jr (Int32.ofNat (own_accN x2)) x0 x1
  have a := own_ofN (t := own_accN x2) (by omega)
  have b := own_ofN (t := own_accN x2 + 1) (by omega)
  have c := c_isub (Int32.ofNat (own_accN x2 + 1)) 1
  have e : (1 : Int32).toInt = 1 := rfl
  have rr := rng32 (Int32.ofNat (own_accN x2 + 1) - 1)
  unfold own_f1 own_j1_52_s0
  rw [if_neg (by rw [Int32.lt_iff_toInt_lt]; omega), if_neg (fun q => by have := congrArg Int32.toInt q; omega), if_neg (by rw [Int32.lt_iff_toInt_lt]; omega), own_narB, own_narB]
  exact own_bend _ r.1 r.2
theorem own_Fmark (x0 x1 : Int64) (x2 x3 : Int32) : own_w0_12 x0 x1 x2 x3 (own_accN x2 + 1) = (x3 &&& (127 : Int32)) := by
  have n := (own_Nr x2).1
  rw [own_Fi x0 x1 x2 x3 (by omega)]
  unfold own_f1
  have m := c_mask x3 127 7 (by decide) (by decide)
  rw [if_neg Int32.lt_irrefl, if_pos rfl, own_narB, own_narB]
  exact Int32.toInt_inj.mp (own_bend _ (by omega) (by omega))
theorem own_clamp {t : Nat} (h : t ≤ 100) : ((0 : Int32) + Int32.ofNat t).toNatClampNeg = t := by
  rw [Int32.zero_add]
  show (Int32.ofNat t).toInt.toNat = t
  rw [own_ofN h]; rfl
theorem own_HA (x0 x1 : Int64) (x2 x3 : Int32) : own_H (own_w0_12 x0 x1 x2 x3) (0 : Int32) (11 : Int32) (own_accN x2) := by
  have n := (own_Nr x2).1
  have e : (11 : Int32).toInt = 11 := rfl
  have e0 : (0 : Int32).toInt = 0 := rfl
  refine ⟨by decide, n, by omega, by omega, fun t h => ?_, ?_⟩
  · rw [own_clamp (by omega), Int32.lt_iff_toInt_lt, own_Fgo x0 x1 x2 x3 h, e0]
    have r := own_jr (Int32.ofNat t) x0 x1
    omega
  · rw [own_clamp (by omega), Int32.lt_iff_toInt_lt, own_Fend x0 x1 x2 x3, e0]
    have r := own_jr (Int32.ofNat (own_accN x2)) x0 x1
    omega
theorem own_HB (x0 x1 : Int64) (x2 x3 : Int32) : own_H (own_w0_12 x0 x1 x2 x3) ((0 : Int32) + Int32.ofNat ((own_accN x2) + 1)) (11 : Int32) 0 := by
  have n := (own_Nr x2).1
  have e : (11 : Int32).toInt = 11 := rfl
  have e0 : (0 : Int32).toInt = 0 := rfl
  have q := own_ofN (t := own_accN x2 + 1) (by omega)
  have z : ((0 : Int32) + Int32.ofNat ((own_accN x2) + 1)).toInt = own_accN x2 + 1 := by rw [Int32.zero_add, q]; omega
  refine ⟨by omega, by decide, by omega, by omega, fun t h => absurd h (Nat.not_lt_zero t), ?_⟩
  have m := c_mask x3 127 7 (by decide) (by decide)
  rw [own_u0, own_clamp (by omega), Int32.lt_iff_toInt_lt, own_Fmark x0 x1 x2 x3, e0]
  omega
set_option maxRecDepth 65536 in
set_option maxHeartbeats 40000000 in
theorem own_rm0 (l : Launch) (Z : State) (a0 : Array Value) (hw : ∀ d ∈ tables_1, d.before a0 Z = true) (ws : List Jvm.Cond) (x0 : Int64) (x1 : Int64) (x2 : Int32) (x3 : Int32) (h0 : Heap) (n0 : Nat) (hn0 : n0 ≤ h0.size) : MeetsW l Z x code maxLocals ret ws room_1 #[(.long x0), (.long x1), (.int x2), (.int x3)] h0 (fun v h L => v = some (.int (own_f0 x0 x1 x2 x3)) ∧ Fr n0 L ∧ Keep h0 h []) := by
  refine meetsW_of (plainFor_of_name own_k43) ?_
  intro p e s m below meth c s₁ X0 hx hZ hby hml hret hlk hown hnm e0
  replace hml : c.maxLocals = 15 := hml
  replace hown : s.vm.findClass "com/example/stokehold/stokehold/wire/ProtoReaderReadVarintPinLaw" = some m.cls := hown
  refine GoW.cast (own_k135 m x0 x1 x2 x3) ?_
  have N0 := Fr.nil n0
  have K0 : Keep h0 h0 [] := Keep.refl h0 _
  refine GoW.via (U' := s₁.setTop (mkF m 2 #[.val (.long x0), .second, .val (.long x1), .second, .val (.int x2), .val (.int x3), .unset, .unset, .unset, .unset, .unset, .unset, .unset, .unset, .unset] [(.int x2)])) (fun tG kG => XS.iload X0.here hx rfl (hb hby at_0) rfl kG) ?_
  refine GoW.via (U' := s₁.setTop (mkF m 4 #[.val (.long x0), .second, .val (.long x1), .second, .val (.int x2), .val (.int x3), .unset, .unset, .unset, .unset, .unset, .unset, .unset, .unset, .unset] [(.int (2147483647 : Int32)), (.int x2)])) (fun tG kG => X0.ldcInt hx hown (mvT hZ (hw _ (List.mem_of_getElem? (i := 0) rfl))) (g := (mkF m 2 #[.val (.long x0), .second, .val (.long x1), .second, .val (.int x2), .val (.int x3), .unset, .unset, .unset, .unset, .unset, .unset, .unset, .unset, .unset] [(.int x2)])) rfl (hb hby at_2) tG kG) ?_
  refine GoW.via (U' := s₁.setTop (mkF m 5 #[.val (.long x0), .second, .val (.long x1), .second, .val (.int x2), .val (.int x3), .unset, .unset, .unset, .unset, .unset, .unset, .unset, .unset, .unset] [(.int (x2 &&& (2147483647 : Int32)))])) (fun tG kG => XS.iand X0.here hx rfl (hb hby at_4) rfl kG) ?_
  refine GoW.via (U' := s₁.setTop (mkF m 7 #[.val (.long x0), .second, .val (.long x1), .second, .val (.int x2), .val (.int x3), .unset, .unset, .unset, .unset, .unset, .unset, .unset, .unset, .unset] [(.int (10 : Int32)), (.int (x2 &&& (2147483647 : Int32)))])) (fun tG kG => XS.bipush X0.here hx rfl (hb hby at_5) kG) ?_
  refine GoW.via (U' := s₁.setTop (mkF m 8 #[.val (.long x0), .second, .val (.long x1), .second, .val (.int x2), .val (.int x3), .unset, .unset, .unset, .unset, .unset, .unset, .unset, .unset, .unset] [(.int ((x2 &&& (2147483647 : Int32)) % (10 : Int32)))])) (fun tG kG => iremM X0 hx rfl (hb hby at_7) rfl (by decide) kG) ?_
  refine GoW.via (U' := s₁.setTop (mkF m 9 #[.val (.long x0), .second, .val (.long x1), .second, .val (.int x2), .val (.int x3), .unset, .unset, .unset, .unset, .unset, .unset, .unset, .unset, .unset] [(.int (1 : Int32)), (.int ((x2 &&& (2147483647 : Int32)) % (10 : Int32)))])) (fun tG kG => XS.iconst X0.here hx rfl (hb hby at_8) kG) ?_
  refine GoW.via (U' := s₁.setTop (mkF m 10 #[.val (.long x0), .second, .val (.long x1), .second, .val (.int x2), .val (.int x3), .unset, .unset, .unset, .unset, .unset, .unset, .unset, .unset, .unset] [(.int (((x2 &&& (2147483647 : Int32)) % (10 : Int32)) + (1 : Int32)))])) (fun tG kG => XS.iadd X0.here hx rfl (hb hby at_9) rfl kG) ?_
  refine GoW.via (U' := s₁.setTop (mkF m 12 #[.val (.long x0), .second, .val (.long x1), .second, .val (.int x2), .val (.int x3), .val (.int (((x2 &&& (2147483647 : Int32)) % (10 : Int32)) + (1 : Int32))), .unset, .unset, .unset, .unset, .unset, .unset, .unset, .unset] [])) (fun tG kG => XS.istore X0.here hx rfl (hb hby at_10) rfl (l' := #[.val (.long x0), .second, .val (.long x1), .second, .val (.int x2), .val (.int x3), .val (.int (((x2 &&& (2147483647 : Int32)) % (10 : Int32)) + (1 : Int32))), .unset, .unset, .unset, .unset, .unset, .unset, .unset, .unset]) rfl kG) ?_
  refine GoW.via (U' := s₁.setTop (mkF m 14 #[.val (.long x0), .second, .val (.long x1), .second, .val (.int x2), .val (.int x3), .val (.int (((x2 &&& (2147483647 : Int32)) % (10 : Int32)) + (1 : Int32))), .unset, .unset, .unset, .unset, .unset, .unset, .unset, .unset] [(.int (11 : Int32))])) (fun tG kG => XS.bipush X0.here hx rfl (hb hby at_12) kG) ?_
  obtain ⟨T1, h1, k1, X1, e1, E1, A1, B1, st1⟩ := newPE X0 hx hZ (hw _ (List.mem_of_getElem? (i := 1) rfl)) e0 (g := (mkF m 14 #[.val (.long x0), .second, .val (.long x1), .second, .val (.int x2), .val (.int x3), .val (.int (((x2 &&& (2147483647 : Int32)) % (10 : Int32)) + (1 : Int32))), .unset, .unset, .unset, .unset, .unset, .unset, .unset, .unset] [(.int (11 : Int32))])) rfl (hb hby at_14) rfl (by decide) (cap := 11) (by decide) (by decide) (by decide) (by decide) (ad := "[B") (by decide)
  obtain ⟨b1, g1⟩ : ∃ z, z = h0.size := ⟨_, rfl⟩
  rw [← g1] at A1 B1 st1
  have g_b1 : n0 ≤ b1 := Nat.le_trans hn0 (Nat.le_of_eq g1.symm)
  have sz_b1 : h0.size ≤ b1 := Nat.le_trans K0.1 (Nat.le_of_eq g1.symm)
  have K1 := K0.ext E1
  have Z1 := Nat.le_trans hn0 E1.1
  have V1 : Arf Z h1 b1 k1 .byte (11 : Int32) (fun _ => 0) := Arf.new A1 (by decide) rfl rfl
  refine GoW.via (U' := T1.setTop (mkF m 16 #[.val (.long x0), .second, .val (.long x1), .second, .val (.int x2), .val (.int x3), .val (.int (((x2 &&& (2147483647 : Int32)) % (10 : Int32)) + (1 : Int32))), .unset, .unset, .unset, .unset, .unset, .unset, .unset, .unset] [(.ref b1)])) (fun tG kG => st1 tG kG) ?_
  refine GoW.via (U' := T1.setTop (mkF m 18 #[.val (.long x0), .second, .val (.long x1), .second, .val (.int x2), .val (.int x3), .val (.int (((x2 &&& (2147483647 : Int32)) % (10 : Int32)) + (1 : Int32))), .val (.ref b1), .unset, .unset, .unset, .unset, .unset, .unset, .unset] [])) (fun tG kG => XS.astore X1.here hx rfl (hb hby at_16) rfl rfl (l' := #[.val (.long x0), .second, .val (.long x1), .second, .val (.int x2), .val (.int x3), .val (.int (((x2 &&& (2147483647 : Int32)) % (10 : Int32)) + (1 : Int32))), .val (.ref b1), .unset, .unset, .unset, .unset, .unset, .unset, .unset]) rfl kG) ?_
  refine GoW.via (U' := T1.setTop (mkF m 20 #[.val (.long x0), .second, .val (.long x1), .second, .val (.int x2), .val (.int x3), .val (.int (((x2 &&& (2147483647 : Int32)) % (10 : Int32)) + (1 : Int32))), .val (.ref b1), .unset, .unset, .unset, .unset, .unset, .unset, .unset] [(.ref b1)])) (fun tG kG => XS.aload X1.here hx rfl (hb hby at_18) rfl rfl kG) ?_
  refine GoW.via (U' := T1.setTop (mkF m 21 #[.val (.long x0), .second, .val (.long x1), .second, .val (.int x2), .val (.int x3), .val (.int (((x2 &&& (2147483647 : Int32)) % (10 : Int32)) + (1 : Int32))), .val (.ref b1), .unset, .unset, .unset, .unset, .unset, .unset, .unset] [(.int (0 : Int32)), (.ref b1)])) (fun tG kG => XS.iconst X1.here hx rfl (hb hby at_20) kG) ?_
  refine GoW.via (U' := T1.setTop (mkF m 22 #[.val (.long x0), .second, .val (.long x1), .second, .val (.int x2), .val (.int x3), .val (.int (((x2 &&& (2147483647 : Int32)) % (10 : Int32)) + (1 : Int32))), .val (.ref b1), .unset, .unset, .unset, .unset, .unset, .unset, .unset] [(.int (0 : Int32)), (.int (0 : Int32)), (.ref b1)])) (fun tG kG => XS.iconst X1.here hx rfl (hb hby at_21) kG) ?_
  refine GoW.via (U' := T1.setTop (mkF m 24 #[.val (.long x0), .second, .val (.long x1), .second, .val (.int x2), .val (.int x3), .val (.int (((x2 &&& (2147483647 : Int32)) % (10 : Int32)) + (1 : Int32))), .val (.ref b1), .unset, .unset, .unset, .unset, .unset, .unset, .unset] [(.int (((x2 &&& (2147483647 : Int32)) % (10 : Int32)) + (1 : Int32))), (.int (0 : Int32)), (.int (0 : Int32)), (.ref b1)])) (fun tG kG => XS.iload X1.here hx rfl (hb hby at_22) rfl kG) ?_
  refine GoW.via (U' := T1.setTop (mkF m 25 #[.val (.long x0), .second, .val (.long x1), .second, .val (.int x2), .val (.int x3), .val (.int (((x2 &&& (2147483647 : Int32)) % (10 : Int32)) + (1 : Int32))), .val (.ref b1), .unset, .unset, .unset, .unset, .unset, .unset, .unset] [(.long x0), (.int (((x2 &&& (2147483647 : Int32)) % (10 : Int32)) + (1 : Int32))), (.int (0 : Int32)), (.int (0 : Int32)), (.ref b1)])) (fun tG kG => XS.lloadN X1.here hx rfl (hb hby at_24) rfl kG) ?_
  refine GoW.via (U' := T1.setTop (mkF m 26 #[.val (.long x0), .second, .val (.long x1), .second, .val (.int x2), .val (.int x3), .val (.int (((x2 &&& (2147483647 : Int32)) % (10 : Int32)) + (1 : Int32))), .val (.ref b1), .unset, .unset, .unset, .unset, .unset, .unset, .unset] [(.long x1), (.long x0), (.int (((x2 &&& (2147483647 : Int32)) % (10 : Int32)) + (1 : Int32))), (.int (0 : Int32)), (.int (0 : Int32)), (.ref b1)])) (fun tG kG => XS.lloadN X1.here hx rfl (hb hby at_25) rfl kG) ?_
  refine GoW.via (U' := T1.setTop (mkF m 28 #[.val (.long x0), .second, .val (.long x1), .second, .val (.int x2), .val (.int x3), .val (.int (((x2 &&& (2147483647 : Int32)) % (10 : Int32)) + (1 : Int32))), .val (.ref b1), .unset, .unset, .unset, .unset, .unset, .unset, .unset] [(.int x3), (.long x1), (.long x0), (.int (((x2 &&& (2147483647 : Int32)) % (10 : Int32)) + (1 : Int32))), (.int (0 : Int32)), (.int (0 : Int32)), (.ref b1)])) (fun tG kG => XS.iload X1.here hx rfl (hb hby at_26) rfl kG) ?_
  obtain ⟨T2, X2, e2, st2⟩ := callS0 X1 hx hZ hown (hw _ (List.mem_of_getElem? (i := 2) rfl)) (hw _ (List.mem_of_getElem? (i := 3) rfl)) (hw _ (List.mem_of_getElem? (i := 4) rfl)) (hw _ (List.mem_of_getElem? (i := 5) rfl)) (by decide) (av := [(.int (0 : Int32)), (.int (((x2 &&& (2147483647 : Int32)) % (10 : Int32)) + (1 : Int32))), (.long x0), (.long x1), (.int x3)]) (own_rm1 l Z a0 hw [] (0 : Int32) (((x2 &&& (2147483647 : Int32)) % (10 : Int32)) + (1 : Int32)) x0 x1 x3  h1) e1 (pc := 28) (Ls := #[.val (.long x0), .second, .val (.long x1), .second, .val (.int x2), .val (.int x3), .val (.int (((x2 &&& (2147483647 : Int32)) % (10 : Int32)) + (1 : Int32))), .val (.ref b1), .unset, .unset, .unset, .unset, .unset, .unset, .unset]) (rest := [(.int (0 : Int32)), (.ref b1)]) (by rw [hml]; rfl) own_k136 rfl 2 (Nat.le_of_eq rfl) (by decide) (by decide) (by decide) (by decide) (hb hby at_28)
  refine GoW.via (U' := T2.setTop (mkF m 31 #[.val (.long x0), .second, .val (.long x1), .second, .val (.int x2), .val (.int x3), .val (.int (((x2 &&& (2147483647 : Int32)) % (10 : Int32)) + (1 : Int32))), .val (.ref b1), .unset, .unset, .unset, .unset, .unset, .unset, .unset] [(.int (own_f1 (0 : Int32) (((x2 &&& (2147483647 : Int32)) % (10 : Int32)) + (1 : Int32)) x0 x1 x3)), (.int (0 : Int32)), (.ref b1)])) (fun tG kG => st2 tG kG) ?_
  obtain ⟨T3, h3, X3, e3, W3, A3, st3⟩ := own_stB X2 hx hZ e2 V1 (j := (0 : Int32)) (x := (own_f1 (0 : Int32) (((x2 &&& (2147483647 : Int32)) % (10 : Int32)) + (1 : Int32)) x0 x1 x3)) ⟨by decide, by decide⟩ (pc := 31) (Ls := #[.val (.long x0), .second, .val (.long x1), .second, .val (.int x2), .val (.int x3), .val (.int (((x2 &&& (2147483647 : Int32)) % (10 : Int32)) + (1 : Int32))), .val (.ref b1), .unset, .unset, .unset, .unset, .unset, .unset, .unset]) (rest := []) (hb hby at_31)
  have f4 := B1.wr W3
  replace A3 : Arf Z h3 b1 k1 .byte (11 : Int32) (own_w0_2 x0 x1 x2 x3) := A3
  have K3 := K1.wr W3 (Or.inr sz_b1)
  have N3 := Fr.snoc X3 N0 g_b1
  have Z3 := Nat.le_trans Z1 (Keep.of_wr W3).1
  refine GoW.via (U' := T3.setTop (mkF m 32 #[.val (.long x0), .second, .val (.long x1), .second, .val (.int x2), .val (.int x3), .val (.int (((x2 &&& (2147483647 : Int32)) % (10 : Int32)) + (1 : Int32))), .val (.ref b1), .unset, .unset, .unset, .unset, .unset, .unset, .unset] [])) (fun tG kG => st3 tG kG) ?_
  refine GoW.via (U' := T3.setTop (mkF m 34 #[.val (.long x0), .second, .val (.long x1), .second, .val (.int x2), .val (.int x3), .val (.int (((x2 &&& (2147483647 : Int32)) % (10 : Int32)) + (1 : Int32))), .val (.ref b1), .unset, .unset, .unset, .unset, .unset, .unset, .unset] [(.ref b1)])) (fun tG kG => XS.aload X3.here hx rfl (hb hby at_32) rfl rfl kG) ?_
  refine GoW.via (U' := T3.setTop (mkF m 35 #[.val (.long x0), .second, .val (.long x1), .second, .val (.int x2), .val (.int x3), .val (.int (((x2 &&& (2147483647 : Int32)) % (10 : Int32)) + (1 : Int32))), .val (.ref b1), .unset, .unset, .unset, .unset, .unset, .unset, .unset] [(.int (1 : Int32)), (.ref b1)])) (fun tG kG => XS.iconst X3.here hx rfl (hb hby at_34) kG) ?_
  refine GoW.via (U' := T3.setTop (mkF m 36 #[.val (.long x0), .second, .val (.long x1), .second, .val (.int x2), .val (.int x3), .val (.int (((x2 &&& (2147483647 : Int32)) % (10 : Int32)) + (1 : Int32))), .val (.ref b1), .unset, .unset, .unset, .unset, .unset, .unset, .unset] [(.int (1 : Int32)), (.int (1 : Int32)), (.ref b1)])) (fun tG kG => XS.iconst X3.here hx rfl (hb hby at_35) kG) ?_
  refine GoW.via (U' := T3.setTop (mkF m 38 #[.val (.long x0), .second, .val (.long x1), .second, .val (.int x2), .val (.int x3), .val (.int (((x2 &&& (2147483647 : Int32)) % (10 : Int32)) + (1 : Int32))), .val (.ref b1), .unset, .unset, .unset, .unset, .unset, .unset, .unset] [(.int (((x2 &&& (2147483647 : Int32)) % (10 : Int32)) + (1 : Int32))), (.int (1 : Int32)), (.int (1 : Int32)), (.ref b1)])) (fun tG kG => XS.iload X3.here hx rfl (hb hby at_36) rfl kG) ?_
  refine GoW.via (U' := T3.setTop (mkF m 39 #[.val (.long x0), .second, .val (.long x1), .second, .val (.int x2), .val (.int x3), .val (.int (((x2 &&& (2147483647 : Int32)) % (10 : Int32)) + (1 : Int32))), .val (.ref b1), .unset, .unset, .unset, .unset, .unset, .unset, .unset] [(.long x0), (.int (((x2 &&& (2147483647 : Int32)) % (10 : Int32)) + (1 : Int32))), (.int (1 : Int32)), (.int (1 : Int32)), (.ref b1)])) (fun tG kG => XS.lloadN X3.here hx rfl (hb hby at_38) rfl kG) ?_
  refine GoW.via (U' := T3.setTop (mkF m 40 #[.val (.long x0), .second, .val (.long x1), .second, .val (.int x2), .val (.int x3), .val (.int (((x2 &&& (2147483647 : Int32)) % (10 : Int32)) + (1 : Int32))), .val (.ref b1), .unset, .unset, .unset, .unset, .unset, .unset, .unset] [(.long x1), (.long x0), (.int (((x2 &&& (2147483647 : Int32)) % (10 : Int32)) + (1 : Int32))), (.int (1 : Int32)), (.int (1 : Int32)), (.ref b1)])) (fun tG kG => XS.lloadN X3.here hx rfl (hb hby at_39) rfl kG) ?_
  refine GoW.via (U' := T3.setTop (mkF m 42 #[.val (.long x0), .second, .val (.long x1), .second, .val (.int x2), .val (.int x3), .val (.int (((x2 &&& (2147483647 : Int32)) % (10 : Int32)) + (1 : Int32))), .val (.ref b1), .unset, .unset, .unset, .unset, .unset, .unset, .unset] [(.int x3), (.long x1), (.long x0), (.int (((x2 &&& (2147483647 : Int32)) % (10 : Int32)) + (1 : Int32))), (.int (1 : Int32)), (.int (1 : Int32)), (.ref b1)])) (fun tG kG => XS.iload X3.here hx rfl (hb hby at_40) rfl kG) ?_
  obtain ⟨T5, X5, e5, st5⟩ := callS0 X3 hx hZ hown (hw _ (List.mem_of_getElem? (i := 2) rfl)) (hw _ (List.mem_of_getElem? (i := 3) rfl)) (hw _ (List.mem_of_getElem? (i := 4) rfl)) (hw _ (List.mem_of_getElem? (i := 5) rfl)) (by decide) (av := [(.int (1 : Int32)), (.int (((x2 &&& (2147483647 : Int32)) % (10 : Int32)) + (1 : Int32))), (.long x0), (.long x1), (.int x3)]) (own_rm1 l Z a0 hw [] (1 : Int32) (((x2 &&& (2147483647 : Int32)) % (10 : Int32)) + (1 : Int32)) x0 x1 x3  h3) e3 (pc := 42) (Ls := #[.val (.long x0), .second, .val (.long x1), .second, .val (.int x2), .val (.int x3), .val (.int (((x2 &&& (2147483647 : Int32)) % (10 : Int32)) + (1 : Int32))), .val (.ref b1), .unset, .unset, .unset, .unset, .unset, .unset, .unset]) (rest := [(.int (1 : Int32)), (.ref b1)]) (by rw [hml]; rfl) own_k136 rfl 2 (Nat.le_of_eq rfl) (by decide) (by decide) (by decide) (by decide) (hb hby at_42)
  refine GoW.via (U' := T5.setTop (mkF m 45 #[.val (.long x0), .second, .val (.long x1), .second, .val (.int x2), .val (.int x3), .val (.int (((x2 &&& (2147483647 : Int32)) % (10 : Int32)) + (1 : Int32))), .val (.ref b1), .unset, .unset, .unset, .unset, .unset, .unset, .unset] [(.int (own_f1 (1 : Int32) (((x2 &&& (2147483647 : Int32)) % (10 : Int32)) + (1 : Int32)) x0 x1 x3)), (.int (1 : Int32)), (.ref b1)])) (fun tG kG => st5 tG kG) ?_
  obtain ⟨T6, h6, X6, e6, W6, A6, st6⟩ := own_stB X5 hx hZ e5 A3 (j := (1 : Int32)) (x := (own_f1 (1 : Int32) (((x2 &&& (2147483647 : Int32)) % (10 : Int32)) + (1 : Int32)) x0 x1 x3)) ⟨by decide, by decide⟩ (pc := 45) (Ls := #[.val (.long x0), .second, .val (.long x1), .second, .val (.int x2), .val (.int x3), .val (.int (((x2 &&& (2147483647 : Int32)) % (10 : Int32)) + (1 : Int32))), .val (.ref b1), .unset, .unset, .unset, .unset, .unset, .unset, .unset]) (rest := []) (hb hby at_45)
  have f7 := f4.wr W6
  replace A6 : Arf Z h6 b1 k1 .byte (11 : Int32) (own_w0_3 x0 x1 x2 x3) := A6
  have K6 := K3.wr W6 (Or.inr sz_b1)
  have N6 := Fr.snoc X6 N3 g_b1
  have Z6 := Nat.le_trans Z3 (Keep.of_wr W6).1
  refine GoW.via (U' := T6.setTop (mkF m 46 #[.val (.long x0), .second, .val (.long x1), .second, .val (.int x2), .val (.int x3), .val (.int (((x2 &&& (2147483647 : Int32)) % (10 : Int32)) + (1 : Int32))), .val (.ref b1), .unset, .unset, .unset, .unset, .unset, .unset, .unset] [])) (fun tG kG => st6 tG kG) ?_
  refine GoW.via (U' := T6.setTop (mkF m 48 #[.val (.long x0), .second, .val (.long x1), .second, .val (.int x2), .val (.int x3), .val (.int (((x2 &&& (2147483647 : Int32)) % (10 : Int32)) + (1 : Int32))), .val (.ref b1), .unset, .unset, .unset, .unset, .unset, .unset, .unset] [(.ref b1)])) (fun tG kG => XS.aload X6.here hx rfl (hb hby at_46) rfl rfl kG) ?_
  refine GoW.via (U' := T6.setTop (mkF m 49 #[.val (.long x0), .second, .val (.long x1), .second, .val (.int x2), .val (.int x3), .val (.int (((x2 &&& (2147483647 : Int32)) % (10 : Int32)) + (1 : Int32))), .val (.ref b1), .unset, .unset, .unset, .unset, .unset, .unset, .unset] [(.int (2 : Int32)), (.ref b1)])) (fun tG kG => XS.iconst X6.here hx rfl (hb hby at_48) kG) ?_
  refine GoW.via (U' := T6.setTop (mkF m 50 #[.val (.long x0), .second, .val (.long x1), .second, .val (.int x2), .val (.int x3), .val (.int (((x2 &&& (2147483647 : Int32)) % (10 : Int32)) + (1 : Int32))), .val (.ref b1), .unset, .unset, .unset, .unset, .unset, .unset, .unset] [(.int (2 : Int32)), (.int (2 : Int32)), (.ref b1)])) (fun tG kG => XS.iconst X6.here hx rfl (hb hby at_49) kG) ?_
  refine GoW.via (U' := T6.setTop (mkF m 52 #[.val (.long x0), .second, .val (.long x1), .second, .val (.int x2), .val (.int x3), .val (.int (((x2 &&& (2147483647 : Int32)) % (10 : Int32)) + (1 : Int32))), .val (.ref b1), .unset, .unset, .unset, .unset, .unset, .unset, .unset] [(.int (((x2 &&& (2147483647 : Int32)) % (10 : Int32)) + (1 : Int32))), (.int (2 : Int32)), (.int (2 : Int32)), (.ref b1)])) (fun tG kG => XS.iload X6.here hx rfl (hb hby at_50) rfl kG) ?_
  refine GoW.via (U' := T6.setTop (mkF m 53 #[.val (.long x0), .second, .val (.long x1), .second, .val (.int x2), .val (.int x3), .val (.int (((x2 &&& (2147483647 : Int32)) % (10 : Int32)) + (1 : Int32))), .val (.ref b1), .unset, .unset, .unset, .unset, .unset, .unset, .unset] [(.long x0), (.int (((x2 &&& (2147483647 : Int32)) % (10 : Int32)) + (1 : Int32))), (.int (2 : Int32)), (.int (2 : Int32)), (.ref b1)])) (fun tG kG => XS.lloadN X6.here hx rfl (hb hby at_52) rfl kG) ?_
  refine GoW.via (U' := T6.setTop (mkF m 54 #[.val (.long x0), .second, .val (.long x1), .second, .val (.int x2), .val (.int x3), .val (.int (((x2 &&& (2147483647 : Int32)) % (10 : Int32)) + (1 : Int32))), .val (.ref b1), .unset, .unset, .unset, .unset, .unset, .unset, .unset] [(.long x1), (.long x0), (.int (((x2 &&& (2147483647 : Int32)) % (10 : Int32)) + (1 : Int32))), (.int (2 : Int32)), (.int (2 : Int32)), (.ref b1)])) (fun tG kG => XS.lloadN X6.here hx rfl (hb hby at_53) rfl kG) ?_
  refine GoW.via (U' := T6.setTop (mkF m 56 #[.val (.long x0), .second, .val (.long x1), .second, .val (.int x2), .val (.int x3), .val (.int (((x2 &&& (2147483647 : Int32)) % (10 : Int32)) + (1 : Int32))), .val (.ref b1), .unset, .unset, .unset, .unset, .unset, .unset, .unset] [(.int x3), (.long x1), (.long x0), (.int (((x2 &&& (2147483647 : Int32)) % (10 : Int32)) + (1 : Int32))), (.int (2 : Int32)), (.int (2 : Int32)), (.ref b1)])) (fun tG kG => XS.iload X6.here hx rfl (hb hby at_54) rfl kG) ?_
  obtain ⟨T8, X8, e8, st8⟩ := callS0 X6 hx hZ hown (hw _ (List.mem_of_getElem? (i := 2) rfl)) (hw _ (List.mem_of_getElem? (i := 3) rfl)) (hw _ (List.mem_of_getElem? (i := 4) rfl)) (hw _ (List.mem_of_getElem? (i := 5) rfl)) (by decide) (av := [(.int (2 : Int32)), (.int (((x2 &&& (2147483647 : Int32)) % (10 : Int32)) + (1 : Int32))), (.long x0), (.long x1), (.int x3)]) (own_rm1 l Z a0 hw [] (2 : Int32) (((x2 &&& (2147483647 : Int32)) % (10 : Int32)) + (1 : Int32)) x0 x1 x3  h6) e6 (pc := 56) (Ls := #[.val (.long x0), .second, .val (.long x1), .second, .val (.int x2), .val (.int x3), .val (.int (((x2 &&& (2147483647 : Int32)) % (10 : Int32)) + (1 : Int32))), .val (.ref b1), .unset, .unset, .unset, .unset, .unset, .unset, .unset]) (rest := [(.int (2 : Int32)), (.ref b1)]) (by rw [hml]; rfl) own_k136 rfl 2 (Nat.le_of_eq rfl) (by decide) (by decide) (by decide) (by decide) (hb hby at_56)
  refine GoW.via (U' := T8.setTop (mkF m 59 #[.val (.long x0), .second, .val (.long x1), .second, .val (.int x2), .val (.int x3), .val (.int (((x2 &&& (2147483647 : Int32)) % (10 : Int32)) + (1 : Int32))), .val (.ref b1), .unset, .unset, .unset, .unset, .unset, .unset, .unset] [(.int (own_f1 (2 : Int32) (((x2 &&& (2147483647 : Int32)) % (10 : Int32)) + (1 : Int32)) x0 x1 x3)), (.int (2 : Int32)), (.ref b1)])) (fun tG kG => st8 tG kG) ?_
  obtain ⟨T9, h9, X9, e9, W9, A9, st9⟩ := own_stB X8 hx hZ e8 A6 (j := (2 : Int32)) (x := (own_f1 (2 : Int32) (((x2 &&& (2147483647 : Int32)) % (10 : Int32)) + (1 : Int32)) x0 x1 x3)) ⟨by decide, by decide⟩ (pc := 59) (Ls := #[.val (.long x0), .second, .val (.long x1), .second, .val (.int x2), .val (.int x3), .val (.int (((x2 &&& (2147483647 : Int32)) % (10 : Int32)) + (1 : Int32))), .val (.ref b1), .unset, .unset, .unset, .unset, .unset, .unset, .unset]) (rest := []) (hb hby at_59)
  have f10 := f7.wr W9
  replace A9 : Arf Z h9 b1 k1 .byte (11 : Int32) (own_w0_4 x0 x1 x2 x3) := A9
  have K9 := K6.wr W9 (Or.inr sz_b1)
  have N9 := Fr.snoc X9 N6 g_b1
  have Z9 := Nat.le_trans Z6 (Keep.of_wr W9).1
  refine GoW.via (U' := T9.setTop (mkF m 60 #[.val (.long x0), .second, .val (.long x1), .second, .val (.int x2), .val (.int x3), .val (.int (((x2 &&& (2147483647 : Int32)) % (10 : Int32)) + (1 : Int32))), .val (.ref b1), .unset, .unset, .unset, .unset, .unset, .unset, .unset] [])) (fun tG kG => st9 tG kG) ?_
  refine GoW.via (U' := T9.setTop (mkF m 62 #[.val (.long x0), .second, .val (.long x1), .second, .val (.int x2), .val (.int x3), .val (.int (((x2 &&& (2147483647 : Int32)) % (10 : Int32)) + (1 : Int32))), .val (.ref b1), .unset, .unset, .unset, .unset, .unset, .unset, .unset] [(.ref b1)])) (fun tG kG => XS.aload X9.here hx rfl (hb hby at_60) rfl rfl kG) ?_
  refine GoW.via (U' := T9.setTop (mkF m 63 #[.val (.long x0), .second, .val (.long x1), .second, .val (.int x2), .val (.int x3), .val (.int (((x2 &&& (2147483647 : Int32)) % (10 : Int32)) + (1 : Int32))), .val (.ref b1), .unset, .unset, .unset, .unset, .unset, .unset, .unset] [(.int (3 : Int32)), (.ref b1)])) (fun tG kG => XS.iconst X9.here hx rfl (hb hby at_62) kG) ?_
  refine GoW.via (U' := T9.setTop (mkF m 64 #[.val (.long x0), .second, .val (.long x1), .second, .val (.int x2), .val (.int x3), .val (.int (((x2 &&& (2147483647 : Int32)) % (10 : Int32)) + (1 : Int32))), .val (.ref b1), .unset, .unset, .unset, .unset, .unset, .unset, .unset] [(.int (3 : Int32)), (.int (3 : Int32)), (.ref b1)])) (fun tG kG => XS.iconst X9.here hx rfl (hb hby at_63) kG) ?_
  refine GoW.via (U' := T9.setTop (mkF m 66 #[.val (.long x0), .second, .val (.long x1), .second, .val (.int x2), .val (.int x3), .val (.int (((x2 &&& (2147483647 : Int32)) % (10 : Int32)) + (1 : Int32))), .val (.ref b1), .unset, .unset, .unset, .unset, .unset, .unset, .unset] [(.int (((x2 &&& (2147483647 : Int32)) % (10 : Int32)) + (1 : Int32))), (.int (3 : Int32)), (.int (3 : Int32)), (.ref b1)])) (fun tG kG => XS.iload X9.here hx rfl (hb hby at_64) rfl kG) ?_
  refine GoW.via (U' := T9.setTop (mkF m 67 #[.val (.long x0), .second, .val (.long x1), .second, .val (.int x2), .val (.int x3), .val (.int (((x2 &&& (2147483647 : Int32)) % (10 : Int32)) + (1 : Int32))), .val (.ref b1), .unset, .unset, .unset, .unset, .unset, .unset, .unset] [(.long x0), (.int (((x2 &&& (2147483647 : Int32)) % (10 : Int32)) + (1 : Int32))), (.int (3 : Int32)), (.int (3 : Int32)), (.ref b1)])) (fun tG kG => XS.lloadN X9.here hx rfl (hb hby at_66) rfl kG) ?_
  refine GoW.via (U' := T9.setTop (mkF m 68 #[.val (.long x0), .second, .val (.long x1), .second, .val (.int x2), .val (.int x3), .val (.int (((x2 &&& (2147483647 : Int32)) % (10 : Int32)) + (1 : Int32))), .val (.ref b1), .unset, .unset, .unset, .unset, .unset, .unset, .unset] [(.long x1), (.long x0), (.int (((x2 &&& (2147483647 : Int32)) % (10 : Int32)) + (1 : Int32))), (.int (3 : Int32)), (.int (3 : Int32)), (.ref b1)])) (fun tG kG => XS.lloadN X9.here hx rfl (hb hby at_67) rfl kG) ?_
  refine GoW.via (U' := T9.setTop (mkF m 70 #[.val (.long x0), .second, .val (.long x1), .second, .val (.int x2), .val (.int x3), .val (.int (((x2 &&& (2147483647 : Int32)) % (10 : Int32)) + (1 : Int32))), .val (.ref b1), .unset, .unset, .unset, .unset, .unset, .unset, .unset] [(.int x3), (.long x1), (.long x0), (.int (((x2 &&& (2147483647 : Int32)) % (10 : Int32)) + (1 : Int32))), (.int (3 : Int32)), (.int (3 : Int32)), (.ref b1)])) (fun tG kG => XS.iload X9.here hx rfl (hb hby at_68) rfl kG) ?_
  obtain ⟨T11, X11, e11, st11⟩ := callS0 X9 hx hZ hown (hw _ (List.mem_of_getElem? (i := 2) rfl)) (hw _ (List.mem_of_getElem? (i := 3) rfl)) (hw _ (List.mem_of_getElem? (i := 4) rfl)) (hw _ (List.mem_of_getElem? (i := 5) rfl)) (by decide) (av := [(.int (3 : Int32)), (.int (((x2 &&& (2147483647 : Int32)) % (10 : Int32)) + (1 : Int32))), (.long x0), (.long x1), (.int x3)]) (own_rm1 l Z a0 hw [] (3 : Int32) (((x2 &&& (2147483647 : Int32)) % (10 : Int32)) + (1 : Int32)) x0 x1 x3  h9) e9 (pc := 70) (Ls := #[.val (.long x0), .second, .val (.long x1), .second, .val (.int x2), .val (.int x3), .val (.int (((x2 &&& (2147483647 : Int32)) % (10 : Int32)) + (1 : Int32))), .val (.ref b1), .unset, .unset, .unset, .unset, .unset, .unset, .unset]) (rest := [(.int (3 : Int32)), (.ref b1)]) (by rw [hml]; rfl) own_k136 rfl 2 (Nat.le_of_eq rfl) (by decide) (by decide) (by decide) (by decide) (hb hby at_70)
  refine GoW.via (U' := T11.setTop (mkF m 73 #[.val (.long x0), .second, .val (.long x1), .second, .val (.int x2), .val (.int x3), .val (.int (((x2 &&& (2147483647 : Int32)) % (10 : Int32)) + (1 : Int32))), .val (.ref b1), .unset, .unset, .unset, .unset, .unset, .unset, .unset] [(.int (own_f1 (3 : Int32) (((x2 &&& (2147483647 : Int32)) % (10 : Int32)) + (1 : Int32)) x0 x1 x3)), (.int (3 : Int32)), (.ref b1)])) (fun tG kG => st11 tG kG) ?_
  obtain ⟨T12, h12, X12, e12, W12, A12, st12⟩ := own_stB X11 hx hZ e11 A9 (j := (3 : Int32)) (x := (own_f1 (3 : Int32) (((x2 &&& (2147483647 : Int32)) % (10 : Int32)) + (1 : Int32)) x0 x1 x3)) ⟨by decide, by decide⟩ (pc := 73) (Ls := #[.val (.long x0), .second, .val (.long x1), .second, .val (.int x2), .val (.int x3), .val (.int (((x2 &&& (2147483647 : Int32)) % (10 : Int32)) + (1 : Int32))), .val (.ref b1), .unset, .unset, .unset, .unset, .unset, .unset, .unset]) (rest := []) (hb hby at_73)
  have f13 := f10.wr W12
  replace A12 : Arf Z h12 b1 k1 .byte (11 : Int32) (own_w0_5 x0 x1 x2 x3) := A12
  have K12 := K9.wr W12 (Or.inr sz_b1)
  have N12 := Fr.snoc X12 N9 g_b1
  have Z12 := Nat.le_trans Z9 (Keep.of_wr W12).1
  refine GoW.via (U' := T12.setTop (mkF m 74 #[.val (.long x0), .second, .val (.long x1), .second, .val (.int x2), .val (.int x3), .val (.int (((x2 &&& (2147483647 : Int32)) % (10 : Int32)) + (1 : Int32))), .val (.ref b1), .unset, .unset, .unset, .unset, .unset, .unset, .unset] [])) (fun tG kG => st12 tG kG) ?_
  refine GoW.via (U' := T12.setTop (mkF m 76 #[.val (.long x0), .second, .val (.long x1), .second, .val (.int x2), .val (.int x3), .val (.int (((x2 &&& (2147483647 : Int32)) % (10 : Int32)) + (1 : Int32))), .val (.ref b1), .unset, .unset, .unset, .unset, .unset, .unset, .unset] [(.ref b1)])) (fun tG kG => XS.aload X12.here hx rfl (hb hby at_74) rfl rfl kG) ?_
  refine GoW.via (U' := T12.setTop (mkF m 77 #[.val (.long x0), .second, .val (.long x1), .second, .val (.int x2), .val (.int x3), .val (.int (((x2 &&& (2147483647 : Int32)) % (10 : Int32)) + (1 : Int32))), .val (.ref b1), .unset, .unset, .unset, .unset, .unset, .unset, .unset] [(.int (4 : Int32)), (.ref b1)])) (fun tG kG => XS.iconst X12.here hx rfl (hb hby at_76) kG) ?_
  refine GoW.via (U' := T12.setTop (mkF m 78 #[.val (.long x0), .second, .val (.long x1), .second, .val (.int x2), .val (.int x3), .val (.int (((x2 &&& (2147483647 : Int32)) % (10 : Int32)) + (1 : Int32))), .val (.ref b1), .unset, .unset, .unset, .unset, .unset, .unset, .unset] [(.int (4 : Int32)), (.int (4 : Int32)), (.ref b1)])) (fun tG kG => XS.iconst X12.here hx rfl (hb hby at_77) kG) ?_
  refine GoW.via (U' := T12.setTop (mkF m 80 #[.val (.long x0), .second, .val (.long x1), .second, .val (.int x2), .val (.int x3), .val (.int (((x2 &&& (2147483647 : Int32)) % (10 : Int32)) + (1 : Int32))), .val (.ref b1), .unset, .unset, .unset, .unset, .unset, .unset, .unset] [(.int (((x2 &&& (2147483647 : Int32)) % (10 : Int32)) + (1 : Int32))), (.int (4 : Int32)), (.int (4 : Int32)), (.ref b1)])) (fun tG kG => XS.iload X12.here hx rfl (hb hby at_78) rfl kG) ?_
  refine GoW.via (U' := T12.setTop (mkF m 81 #[.val (.long x0), .second, .val (.long x1), .second, .val (.int x2), .val (.int x3), .val (.int (((x2 &&& (2147483647 : Int32)) % (10 : Int32)) + (1 : Int32))), .val (.ref b1), .unset, .unset, .unset, .unset, .unset, .unset, .unset] [(.long x0), (.int (((x2 &&& (2147483647 : Int32)) % (10 : Int32)) + (1 : Int32))), (.int (4 : Int32)), (.int (4 : Int32)), (.ref b1)])) (fun tG kG => XS.lloadN X12.here hx rfl (hb hby at_80) rfl kG) ?_
  refine GoW.via (U' := T12.setTop (mkF m 82 #[.val (.long x0), .second, .val (.long x1), .second, .val (.int x2), .val (.int x3), .val (.int (((x2 &&& (2147483647 : Int32)) % (10 : Int32)) + (1 : Int32))), .val (.ref b1), .unset, .unset, .unset, .unset, .unset, .unset, .unset] [(.long x1), (.long x0), (.int (((x2 &&& (2147483647 : Int32)) % (10 : Int32)) + (1 : Int32))), (.int (4 : Int32)), (.int (4 : Int32)), (.ref b1)])) (fun tG kG => XS.lloadN X12.here hx rfl (hb hby at_81) rfl kG) ?_
  refine GoW.via (U' := T12.setTop (mkF m 84 #[.val (.long x0), .second, .val (.long x1), .second, .val (.int x2), .val (.int x3), .val (.int (((x2 &&& (2147483647 : Int32)) % (10 : Int32)) + (1 : Int32))), .val (.ref b1), .unset, .unset, .unset, .unset, .unset, .unset, .unset] [(.int x3), (.long x1), (.long x0), (.int (((x2 &&& (2147483647 : Int32)) % (10 : Int32)) + (1 : Int32))), (.int (4 : Int32)), (.int (4 : Int32)), (.ref b1)])) (fun tG kG => XS.iload X12.here hx rfl (hb hby at_82) rfl kG) ?_
  obtain ⟨T14, X14, e14, st14⟩ := callS0 X12 hx hZ hown (hw _ (List.mem_of_getElem? (i := 2) rfl)) (hw _ (List.mem_of_getElem? (i := 3) rfl)) (hw _ (List.mem_of_getElem? (i := 4) rfl)) (hw _ (List.mem_of_getElem? (i := 5) rfl)) (by decide) (av := [(.int (4 : Int32)), (.int (((x2 &&& (2147483647 : Int32)) % (10 : Int32)) + (1 : Int32))), (.long x0), (.long x1), (.int x3)]) (own_rm1 l Z a0 hw [] (4 : Int32) (((x2 &&& (2147483647 : Int32)) % (10 : Int32)) + (1 : Int32)) x0 x1 x3  h12) e12 (pc := 84) (Ls := #[.val (.long x0), .second, .val (.long x1), .second, .val (.int x2), .val (.int x3), .val (.int (((x2 &&& (2147483647 : Int32)) % (10 : Int32)) + (1 : Int32))), .val (.ref b1), .unset, .unset, .unset, .unset, .unset, .unset, .unset]) (rest := [(.int (4 : Int32)), (.ref b1)]) (by rw [hml]; rfl) own_k136 rfl 2 (Nat.le_of_eq rfl) (by decide) (by decide) (by decide) (by decide) (hb hby at_84)
  refine GoW.via (U' := T14.setTop (mkF m 87 #[.val (.long x0), .second, .val (.long x1), .second, .val (.int x2), .val (.int x3), .val (.int (((x2 &&& (2147483647 : Int32)) % (10 : Int32)) + (1 : Int32))), .val (.ref b1), .unset, .unset, .unset, .unset, .unset, .unset, .unset] [(.int (own_f1 (4 : Int32) (((x2 &&& (2147483647 : Int32)) % (10 : Int32)) + (1 : Int32)) x0 x1 x3)), (.int (4 : Int32)), (.ref b1)])) (fun tG kG => st14 tG kG) ?_
  obtain ⟨T15, h15, X15, e15, W15, A15, st15⟩ := own_stB X14 hx hZ e14 A12 (j := (4 : Int32)) (x := (own_f1 (4 : Int32) (((x2 &&& (2147483647 : Int32)) % (10 : Int32)) + (1 : Int32)) x0 x1 x3)) ⟨by decide, by decide⟩ (pc := 87) (Ls := #[.val (.long x0), .second, .val (.long x1), .second, .val (.int x2), .val (.int x3), .val (.int (((x2 &&& (2147483647 : Int32)) % (10 : Int32)) + (1 : Int32))), .val (.ref b1), .unset, .unset, .unset, .unset, .unset, .unset, .unset]) (rest := []) (hb hby at_87)
  have f16 := f13.wr W15
  replace A15 : Arf Z h15 b1 k1 .byte (11 : Int32) (own_w0_6 x0 x1 x2 x3) := A15
  have K15 := K12.wr W15 (Or.inr sz_b1)
  have N15 := Fr.snoc X15 N12 g_b1
  have Z15 := Nat.le_trans Z12 (Keep.of_wr W15).1
  refine GoW.via (U' := T15.setTop (mkF m 88 #[.val (.long x0), .second, .val (.long x1), .second, .val (.int x2), .val (.int x3), .val (.int (((x2 &&& (2147483647 : Int32)) % (10 : Int32)) + (1 : Int32))), .val (.ref b1), .unset, .unset, .unset, .unset, .unset, .unset, .unset] [])) (fun tG kG => st15 tG kG) ?_
  refine GoW.via (U' := T15.setTop (mkF m 90 #[.val (.long x0), .second, .val (.long x1), .second, .val (.int x2), .val (.int x3), .val (.int (((x2 &&& (2147483647 : Int32)) % (10 : Int32)) + (1 : Int32))), .val (.ref b1), .unset, .unset, .unset, .unset, .unset, .unset, .unset] [(.ref b1)])) (fun tG kG => XS.aload X15.here hx rfl (hb hby at_88) rfl rfl kG) ?_
  refine GoW.via (U' := T15.setTop (mkF m 91 #[.val (.long x0), .second, .val (.long x1), .second, .val (.int x2), .val (.int x3), .val (.int (((x2 &&& (2147483647 : Int32)) % (10 : Int32)) + (1 : Int32))), .val (.ref b1), .unset, .unset, .unset, .unset, .unset, .unset, .unset] [(.int (5 : Int32)), (.ref b1)])) (fun tG kG => XS.iconst X15.here hx rfl (hb hby at_90) kG) ?_
  refine GoW.via (U' := T15.setTop (mkF m 92 #[.val (.long x0), .second, .val (.long x1), .second, .val (.int x2), .val (.int x3), .val (.int (((x2 &&& (2147483647 : Int32)) % (10 : Int32)) + (1 : Int32))), .val (.ref b1), .unset, .unset, .unset, .unset, .unset, .unset, .unset] [(.int (5 : Int32)), (.int (5 : Int32)), (.ref b1)])) (fun tG kG => XS.iconst X15.here hx rfl (hb hby at_91) kG) ?_
  refine GoW.via (U' := T15.setTop (mkF m 94 #[.val (.long x0), .second, .val (.long x1), .second, .val (.int x2), .val (.int x3), .val (.int (((x2 &&& (2147483647 : Int32)) % (10 : Int32)) + (1 : Int32))), .val (.ref b1), .unset, .unset, .unset, .unset, .unset, .unset, .unset] [(.int (((x2 &&& (2147483647 : Int32)) % (10 : Int32)) + (1 : Int32))), (.int (5 : Int32)), (.int (5 : Int32)), (.ref b1)])) (fun tG kG => XS.iload X15.here hx rfl (hb hby at_92) rfl kG) ?_
  refine GoW.via (U' := T15.setTop (mkF m 95 #[.val (.long x0), .second, .val (.long x1), .second, .val (.int x2), .val (.int x3), .val (.int (((x2 &&& (2147483647 : Int32)) % (10 : Int32)) + (1 : Int32))), .val (.ref b1), .unset, .unset, .unset, .unset, .unset, .unset, .unset] [(.long x0), (.int (((x2 &&& (2147483647 : Int32)) % (10 : Int32)) + (1 : Int32))), (.int (5 : Int32)), (.int (5 : Int32)), (.ref b1)])) (fun tG kG => XS.lloadN X15.here hx rfl (hb hby at_94) rfl kG) ?_
  refine GoW.via (U' := T15.setTop (mkF m 96 #[.val (.long x0), .second, .val (.long x1), .second, .val (.int x2), .val (.int x3), .val (.int (((x2 &&& (2147483647 : Int32)) % (10 : Int32)) + (1 : Int32))), .val (.ref b1), .unset, .unset, .unset, .unset, .unset, .unset, .unset] [(.long x1), (.long x0), (.int (((x2 &&& (2147483647 : Int32)) % (10 : Int32)) + (1 : Int32))), (.int (5 : Int32)), (.int (5 : Int32)), (.ref b1)])) (fun tG kG => XS.lloadN X15.here hx rfl (hb hby at_95) rfl kG) ?_
  refine GoW.via (U' := T15.setTop (mkF m 98 #[.val (.long x0), .second, .val (.long x1), .second, .val (.int x2), .val (.int x3), .val (.int (((x2 &&& (2147483647 : Int32)) % (10 : Int32)) + (1 : Int32))), .val (.ref b1), .unset, .unset, .unset, .unset, .unset, .unset, .unset] [(.int x3), (.long x1), (.long x0), (.int (((x2 &&& (2147483647 : Int32)) % (10 : Int32)) + (1 : Int32))), (.int (5 : Int32)), (.int (5 : Int32)), (.ref b1)])) (fun tG kG => XS.iload X15.here hx rfl (hb hby at_96) rfl kG) ?_
  obtain ⟨T17, X17, e17, st17⟩ := callS0 X15 hx hZ hown (hw _ (List.mem_of_getElem? (i := 2) rfl)) (hw _ (List.mem_of_getElem? (i := 3) rfl)) (hw _ (List.mem_of_getElem? (i := 4) rfl)) (hw _ (List.mem_of_getElem? (i := 5) rfl)) (by decide) (av := [(.int (5 : Int32)), (.int (((x2 &&& (2147483647 : Int32)) % (10 : Int32)) + (1 : Int32))), (.long x0), (.long x1), (.int x3)]) (own_rm1 l Z a0 hw [] (5 : Int32) (((x2 &&& (2147483647 : Int32)) % (10 : Int32)) + (1 : Int32)) x0 x1 x3  h15) e15 (pc := 98) (Ls := #[.val (.long x0), .second, .val (.long x1), .second, .val (.int x2), .val (.int x3), .val (.int (((x2 &&& (2147483647 : Int32)) % (10 : Int32)) + (1 : Int32))), .val (.ref b1), .unset, .unset, .unset, .unset, .unset, .unset, .unset]) (rest := [(.int (5 : Int32)), (.ref b1)]) (by rw [hml]; rfl) own_k136 rfl 2 (Nat.le_of_eq rfl) (by decide) (by decide) (by decide) (by decide) (hb hby at_98)
  refine GoW.via (U' := T17.setTop (mkF m 101 #[.val (.long x0), .second, .val (.long x1), .second, .val (.int x2), .val (.int x3), .val (.int (((x2 &&& (2147483647 : Int32)) % (10 : Int32)) + (1 : Int32))), .val (.ref b1), .unset, .unset, .unset, .unset, .unset, .unset, .unset] [(.int (own_f1 (5 : Int32) (((x2 &&& (2147483647 : Int32)) % (10 : Int32)) + (1 : Int32)) x0 x1 x3)), (.int (5 : Int32)), (.ref b1)])) (fun tG kG => st17 tG kG) ?_
  obtain ⟨T18, h18, X18, e18, W18, A18, st18⟩ := own_stB X17 hx hZ e17 A15 (j := (5 : Int32)) (x := (own_f1 (5 : Int32) (((x2 &&& (2147483647 : Int32)) % (10 : Int32)) + (1 : Int32)) x0 x1 x3)) ⟨by decide, by decide⟩ (pc := 101) (Ls := #[.val (.long x0), .second, .val (.long x1), .second, .val (.int x2), .val (.int x3), .val (.int (((x2 &&& (2147483647 : Int32)) % (10 : Int32)) + (1 : Int32))), .val (.ref b1), .unset, .unset, .unset, .unset, .unset, .unset, .unset]) (rest := []) (hb hby at_101)
  have f19 := f16.wr W18
  replace A18 : Arf Z h18 b1 k1 .byte (11 : Int32) (own_w0_7 x0 x1 x2 x3) := A18
  have K18 := K15.wr W18 (Or.inr sz_b1)
  have N18 := Fr.snoc X18 N15 g_b1
  have Z18 := Nat.le_trans Z15 (Keep.of_wr W18).1
  refine GoW.via (U' := T18.setTop (mkF m 102 #[.val (.long x0), .second, .val (.long x1), .second, .val (.int x2), .val (.int x3), .val (.int (((x2 &&& (2147483647 : Int32)) % (10 : Int32)) + (1 : Int32))), .val (.ref b1), .unset, .unset, .unset, .unset, .unset, .unset, .unset] [])) (fun tG kG => st18 tG kG) ?_
  refine GoW.via (U' := T18.setTop (mkF m 104 #[.val (.long x0), .second, .val (.long x1), .second, .val (.int x2), .val (.int x3), .val (.int (((x2 &&& (2147483647 : Int32)) % (10 : Int32)) + (1 : Int32))), .val (.ref b1), .unset, .unset, .unset, .unset, .unset, .unset, .unset] [(.ref b1)])) (fun tG kG => XS.aload X18.here hx rfl (hb hby at_102) rfl rfl kG) ?_
  refine GoW.via (U' := T18.setTop (mkF m 106 #[.val (.long x0), .second, .val (.long x1), .second, .val (.int x2), .val (.int x3), .val (.int (((x2 &&& (2147483647 : Int32)) % (10 : Int32)) + (1 : Int32))), .val (.ref b1), .unset, .unset, .unset, .unset, .unset, .unset, .unset] [(.int (6 : Int32)), (.ref b1)])) (fun tG kG => XS.bipush X18.here hx rfl (hb hby at_104) kG) ?_
  refine GoW.via (U' := T18.setTop (mkF m 108 #[.val (.long x0), .second, .val (.long x1), .second, .val (.int x2), .val (.int x3), .val (.int (((x2 &&& (2147483647 : Int32)) % (10 : Int32)) + (1 : Int32))), .val (.ref b1), .unset, .unset, .unset, .unset, .unset, .unset, .unset] [(.int (6 : Int32)), (.int (6 : Int32)), (.ref b1)])) (fun tG kG => XS.bipush X18.here hx rfl (hb hby at_106) kG) ?_
  refine GoW.via (U' := T18.setTop (mkF m 110 #[.val (.long x0), .second, .val (.long x1), .second, .val (.int x2), .val (.int x3), .val (.int (((x2 &&& (2147483647 : Int32)) % (10 : Int32)) + (1 : Int32))), .val (.ref b1), .unset, .unset, .unset, .unset, .unset, .unset, .unset] [(.int (((x2 &&& (2147483647 : Int32)) % (10 : Int32)) + (1 : Int32))), (.int (6 : Int32)), (.int (6 : Int32)), (.ref b1)])) (fun tG kG => XS.iload X18.here hx rfl (hb hby at_108) rfl kG) ?_
  refine GoW.via (U' := T18.setTop (mkF m 111 #[.val (.long x0), .second, .val (.long x1), .second, .val (.int x2), .val (.int x3), .val (.int (((x2 &&& (2147483647 : Int32)) % (10 : Int32)) + (1 : Int32))), .val (.ref b1), .unset, .unset, .unset, .unset, .unset, .unset, .unset] [(.long x0), (.int (((x2 &&& (2147483647 : Int32)) % (10 : Int32)) + (1 : Int32))), (.int (6 : Int32)), (.int (6 : Int32)), (.ref b1)])) (fun tG kG => XS.lloadN X18.here hx rfl (hb hby at_110) rfl kG) ?_
  refine GoW.via (U' := T18.setTop (mkF m 112 #[.val (.long x0), .second, .val (.long x1), .second, .val (.int x2), .val (.int x3), .val (.int (((x2 &&& (2147483647 : Int32)) % (10 : Int32)) + (1 : Int32))), .val (.ref b1), .unset, .unset, .unset, .unset, .unset, .unset, .unset] [(.long x1), (.long x0), (.int (((x2 &&& (2147483647 : Int32)) % (10 : Int32)) + (1 : Int32))), (.int (6 : Int32)), (.int (6 : Int32)), (.ref b1)])) (fun tG kG => XS.lloadN X18.here hx rfl (hb hby at_111) rfl kG) ?_
  refine GoW.via (U' := T18.setTop (mkF m 114 #[.val (.long x0), .second, .val (.long x1), .second, .val (.int x2), .val (.int x3), .val (.int (((x2 &&& (2147483647 : Int32)) % (10 : Int32)) + (1 : Int32))), .val (.ref b1), .unset, .unset, .unset, .unset, .unset, .unset, .unset] [(.int x3), (.long x1), (.long x0), (.int (((x2 &&& (2147483647 : Int32)) % (10 : Int32)) + (1 : Int32))), (.int (6 : Int32)), (.int (6 : Int32)), (.ref b1)])) (fun tG kG => XS.iload X18.here hx rfl (hb hby at_112) rfl kG) ?_
  obtain ⟨T20, X20, e20, st20⟩ := callS0 X18 hx hZ hown (hw _ (List.mem_of_getElem? (i := 2) rfl)) (hw _ (List.mem_of_getElem? (i := 3) rfl)) (hw _ (List.mem_of_getElem? (i := 4) rfl)) (hw _ (List.mem_of_getElem? (i := 5) rfl)) (by decide) (av := [(.int (6 : Int32)), (.int (((x2 &&& (2147483647 : Int32)) % (10 : Int32)) + (1 : Int32))), (.long x0), (.long x1), (.int x3)]) (own_rm1 l Z a0 hw [] (6 : Int32) (((x2 &&& (2147483647 : Int32)) % (10 : Int32)) + (1 : Int32)) x0 x1 x3  h18) e18 (pc := 114) (Ls := #[.val (.long x0), .second, .val (.long x1), .second, .val (.int x2), .val (.int x3), .val (.int (((x2 &&& (2147483647 : Int32)) % (10 : Int32)) + (1 : Int32))), .val (.ref b1), .unset, .unset, .unset, .unset, .unset, .unset, .unset]) (rest := [(.int (6 : Int32)), (.ref b1)]) (by rw [hml]; rfl) own_k136 rfl 2 (Nat.le_of_eq rfl) (by decide) (by decide) (by decide) (by decide) (hb hby at_114)
  refine GoW.via (U' := T20.setTop (mkF m 117 #[.val (.long x0), .second, .val (.long x1), .second, .val (.int x2), .val (.int x3), .val (.int (((x2 &&& (2147483647 : Int32)) % (10 : Int32)) + (1 : Int32))), .val (.ref b1), .unset, .unset, .unset, .unset, .unset, .unset, .unset] [(.int (own_f1 (6 : Int32) (((x2 &&& (2147483647 : Int32)) % (10 : Int32)) + (1 : Int32)) x0 x1 x3)), (.int (6 : Int32)), (.ref b1)])) (fun tG kG => st20 tG kG) ?_
  obtain ⟨T21, h21, X21, e21, W21, A21, st21⟩ := own_stB X20 hx hZ e20 A18 (j := (6 : Int32)) (x := (own_f1 (6 : Int32) (((x2 &&& (2147483647 : Int32)) % (10 : Int32)) + (1 : Int32)) x0 x1 x3)) ⟨by decide, by decide⟩ (pc := 117) (Ls := #[.val (.long x0), .second, .val (.long x1), .second, .val (.int x2), .val (.int x3), .val (.int (((x2 &&& (2147483647 : Int32)) % (10 : Int32)) + (1 : Int32))), .val (.ref b1), .unset, .unset, .unset, .unset, .unset, .unset, .unset]) (rest := []) (hb hby at_117)
  have f22 := f19.wr W21
  replace A21 : Arf Z h21 b1 k1 .byte (11 : Int32) (own_w0_8 x0 x1 x2 x3) := A21
  have K21 := K18.wr W21 (Or.inr sz_b1)
  have N21 := Fr.snoc X21 N18 g_b1
  have Z21 := Nat.le_trans Z18 (Keep.of_wr W21).1
  refine GoW.via (U' := T21.setTop (mkF m 118 #[.val (.long x0), .second, .val (.long x1), .second, .val (.int x2), .val (.int x3), .val (.int (((x2 &&& (2147483647 : Int32)) % (10 : Int32)) + (1 : Int32))), .val (.ref b1), .unset, .unset, .unset, .unset, .unset, .unset, .unset] [])) (fun tG kG => st21 tG kG) ?_
  refine GoW.via (U' := T21.setTop (mkF m 120 #[.val (.long x0), .second, .val (.long x1), .second, .val (.int x2), .val (.int x3), .val (.int (((x2 &&& (2147483647 : Int32)) % (10 : Int32)) + (1 : Int32))), .val (.ref b1), .unset, .unset, .unset, .unset, .unset, .unset, .unset] [(.ref b1)])) (fun tG kG => XS.aload X21.here hx rfl (hb hby at_118) rfl rfl kG) ?_
  refine GoW.via (U' := T21.setTop (mkF m 122 #[.val (.long x0), .second, .val (.long x1), .second, .val (.int x2), .val (.int x3), .val (.int (((x2 &&& (2147483647 : Int32)) % (10 : Int32)) + (1 : Int32))), .val (.ref b1), .unset, .unset, .unset, .unset, .unset, .unset, .unset] [(.int (7 : Int32)), (.ref b1)])) (fun tG kG => XS.bipush X21.here hx rfl (hb hby at_120) kG) ?_
  refine GoW.via (U' := T21.setTop (mkF m 124 #[.val (.long x0), .second, .val (.long x1), .second, .val (.int x2), .val (.int x3), .val (.int (((x2 &&& (2147483647 : Int32)) % (10 : Int32)) + (1 : Int32))), .val (.ref b1), .unset, .unset, .unset, .unset, .unset, .unset, .unset] [(.int (7 : Int32)), (.int (7 : Int32)), (.ref b1)])) (fun tG kG => XS.bipush X21.here hx rfl (hb hby at_122) kG) ?_
  refine GoW.via (U' := T21.setTop (mkF m 126 #[.val (.long x0), .second, .val (.long x1), .second, .val (.int x2), .val (.int x3), .val (.int (((x2 &&& (2147483647 : Int32)) % (10 : Int32)) + (1 : Int32))), .val (.ref b1), .unset, .unset, .unset, .unset, .unset, .unset, .unset] [(.int (((x2 &&& (2147483647 : Int32)) % (10 : Int32)) + (1 : Int32))), (.int (7 : Int32)), (.int (7 : Int32)), (.ref b1)])) (fun tG kG => XS.iload X21.here hx rfl (hb hby at_124) rfl kG) ?_
  refine GoW.via (U' := T21.setTop (mkF m 127 #[.val (.long x0), .second, .val (.long x1), .second, .val (.int x2), .val (.int x3), .val (.int (((x2 &&& (2147483647 : Int32)) % (10 : Int32)) + (1 : Int32))), .val (.ref b1), .unset, .unset, .unset, .unset, .unset, .unset, .unset] [(.long x0), (.int (((x2 &&& (2147483647 : Int32)) % (10 : Int32)) + (1 : Int32))), (.int (7 : Int32)), (.int (7 : Int32)), (.ref b1)])) (fun tG kG => XS.lloadN X21.here hx rfl (hb hby at_126) rfl kG) ?_
  refine GoW.via (U' := T21.setTop (mkF m 128 #[.val (.long x0), .second, .val (.long x1), .second, .val (.int x2), .val (.int x3), .val (.int (((x2 &&& (2147483647 : Int32)) % (10 : Int32)) + (1 : Int32))), .val (.ref b1), .unset, .unset, .unset, .unset, .unset, .unset, .unset] [(.long x1), (.long x0), (.int (((x2 &&& (2147483647 : Int32)) % (10 : Int32)) + (1 : Int32))), (.int (7 : Int32)), (.int (7 : Int32)), (.ref b1)])) (fun tG kG => XS.lloadN X21.here hx rfl (hb hby at_127) rfl kG) ?_
  refine GoW.via (U' := T21.setTop (mkF m 130 #[.val (.long x0), .second, .val (.long x1), .second, .val (.int x2), .val (.int x3), .val (.int (((x2 &&& (2147483647 : Int32)) % (10 : Int32)) + (1 : Int32))), .val (.ref b1), .unset, .unset, .unset, .unset, .unset, .unset, .unset] [(.int x3), (.long x1), (.long x0), (.int (((x2 &&& (2147483647 : Int32)) % (10 : Int32)) + (1 : Int32))), (.int (7 : Int32)), (.int (7 : Int32)), (.ref b1)])) (fun tG kG => XS.iload X21.here hx rfl (hb hby at_128) rfl kG) ?_
  obtain ⟨T23, X23, e23, st23⟩ := callS0 X21 hx hZ hown (hw _ (List.mem_of_getElem? (i := 2) rfl)) (hw _ (List.mem_of_getElem? (i := 3) rfl)) (hw _ (List.mem_of_getElem? (i := 4) rfl)) (hw _ (List.mem_of_getElem? (i := 5) rfl)) (by decide) (av := [(.int (7 : Int32)), (.int (((x2 &&& (2147483647 : Int32)) % (10 : Int32)) + (1 : Int32))), (.long x0), (.long x1), (.int x3)]) (own_rm1 l Z a0 hw [] (7 : Int32) (((x2 &&& (2147483647 : Int32)) % (10 : Int32)) + (1 : Int32)) x0 x1 x3  h21) e21 (pc := 130) (Ls := #[.val (.long x0), .second, .val (.long x1), .second, .val (.int x2), .val (.int x3), .val (.int (((x2 &&& (2147483647 : Int32)) % (10 : Int32)) + (1 : Int32))), .val (.ref b1), .unset, .unset, .unset, .unset, .unset, .unset, .unset]) (rest := [(.int (7 : Int32)), (.ref b1)]) (by rw [hml]; rfl) own_k136 rfl 2 (Nat.le_of_eq rfl) (by decide) (by decide) (by decide) (by decide) (hb hby at_130)
  refine GoW.via (U' := T23.setTop (mkF m 133 #[.val (.long x0), .second, .val (.long x1), .second, .val (.int x2), .val (.int x3), .val (.int (((x2 &&& (2147483647 : Int32)) % (10 : Int32)) + (1 : Int32))), .val (.ref b1), .unset, .unset, .unset, .unset, .unset, .unset, .unset] [(.int (own_f1 (7 : Int32) (((x2 &&& (2147483647 : Int32)) % (10 : Int32)) + (1 : Int32)) x0 x1 x3)), (.int (7 : Int32)), (.ref b1)])) (fun tG kG => st23 tG kG) ?_
  obtain ⟨T24, h24, X24, e24, W24, A24, st24⟩ := own_stB X23 hx hZ e23 A21 (j := (7 : Int32)) (x := (own_f1 (7 : Int32) (((x2 &&& (2147483647 : Int32)) % (10 : Int32)) + (1 : Int32)) x0 x1 x3)) ⟨by decide, by decide⟩ (pc := 133) (Ls := #[.val (.long x0), .second, .val (.long x1), .second, .val (.int x2), .val (.int x3), .val (.int (((x2 &&& (2147483647 : Int32)) % (10 : Int32)) + (1 : Int32))), .val (.ref b1), .unset, .unset, .unset, .unset, .unset, .unset, .unset]) (rest := []) (hb hby at_133)
  have f25 := f22.wr W24
  replace A24 : Arf Z h24 b1 k1 .byte (11 : Int32) (own_w0_9 x0 x1 x2 x3) := A24
  have K24 := K21.wr W24 (Or.inr sz_b1)
  have N24 := Fr.snoc X24 N21 g_b1
  have Z24 := Nat.le_trans Z21 (Keep.of_wr W24).1
  refine GoW.via (U' := T24.setTop (mkF m 134 #[.val (.long x0), .second, .val (.long x1), .second, .val (.int x2), .val (.int x3), .val (.int (((x2 &&& (2147483647 : Int32)) % (10 : Int32)) + (1 : Int32))), .val (.ref b1), .unset, .unset, .unset, .unset, .unset, .unset, .unset] [])) (fun tG kG => st24 tG kG) ?_
  refine GoW.via (U' := T24.setTop (mkF m 136 #[.val (.long x0), .second, .val (.long x1), .second, .val (.int x2), .val (.int x3), .val (.int (((x2 &&& (2147483647 : Int32)) % (10 : Int32)) + (1 : Int32))), .val (.ref b1), .unset, .unset, .unset, .unset, .unset, .unset, .unset] [(.ref b1)])) (fun tG kG => XS.aload X24.here hx rfl (hb hby at_134) rfl rfl kG) ?_
  refine GoW.via (U' := T24.setTop (mkF m 138 #[.val (.long x0), .second, .val (.long x1), .second, .val (.int x2), .val (.int x3), .val (.int (((x2 &&& (2147483647 : Int32)) % (10 : Int32)) + (1 : Int32))), .val (.ref b1), .unset, .unset, .unset, .unset, .unset, .unset, .unset] [(.int (8 : Int32)), (.ref b1)])) (fun tG kG => XS.bipush X24.here hx rfl (hb hby at_136) kG) ?_
  refine GoW.via (U' := T24.setTop (mkF m 140 #[.val (.long x0), .second, .val (.long x1), .second, .val (.int x2), .val (.int x3), .val (.int (((x2 &&& (2147483647 : Int32)) % (10 : Int32)) + (1 : Int32))), .val (.ref b1), .unset, .unset, .unset, .unset, .unset, .unset, .unset] [(.int (8 : Int32)), (.int (8 : Int32)), (.ref b1)])) (fun tG kG => XS.bipush X24.here hx rfl (hb hby at_138) kG) ?_
  refine GoW.via (U' := T24.setTop (mkF m 142 #[.val (.long x0), .second, .val (.long x1), .second, .val (.int x2), .val (.int x3), .val (.int (((x2 &&& (2147483647 : Int32)) % (10 : Int32)) + (1 : Int32))), .val (.ref b1), .unset, .unset, .unset, .unset, .unset, .unset, .unset] [(.int (((x2 &&& (2147483647 : Int32)) % (10 : Int32)) + (1 : Int32))), (.int (8 : Int32)), (.int (8 : Int32)), (.ref b1)])) (fun tG kG => XS.iload X24.here hx rfl (hb hby at_140) rfl kG) ?_
  refine GoW.via (U' := T24.setTop (mkF m 143 #[.val (.long x0), .second, .val (.long x1), .second, .val (.int x2), .val (.int x3), .val (.int (((x2 &&& (2147483647 : Int32)) % (10 : Int32)) + (1 : Int32))), .val (.ref b1), .unset, .unset, .unset, .unset, .unset, .unset, .unset] [(.long x0), (.int (((x2 &&& (2147483647 : Int32)) % (10 : Int32)) + (1 : Int32))), (.int (8 : Int32)), (.int (8 : Int32)), (.ref b1)])) (fun tG kG => XS.lloadN X24.here hx rfl (hb hby at_142) rfl kG) ?_
  refine GoW.via (U' := T24.setTop (mkF m 144 #[.val (.long x0), .second, .val (.long x1), .second, .val (.int x2), .val (.int x3), .val (.int (((x2 &&& (2147483647 : Int32)) % (10 : Int32)) + (1 : Int32))), .val (.ref b1), .unset, .unset, .unset, .unset, .unset, .unset, .unset] [(.long x1), (.long x0), (.int (((x2 &&& (2147483647 : Int32)) % (10 : Int32)) + (1 : Int32))), (.int (8 : Int32)), (.int (8 : Int32)), (.ref b1)])) (fun tG kG => XS.lloadN X24.here hx rfl (hb hby at_143) rfl kG) ?_
  refine GoW.via (U' := T24.setTop (mkF m 146 #[.val (.long x0), .second, .val (.long x1), .second, .val (.int x2), .val (.int x3), .val (.int (((x2 &&& (2147483647 : Int32)) % (10 : Int32)) + (1 : Int32))), .val (.ref b1), .unset, .unset, .unset, .unset, .unset, .unset, .unset] [(.int x3), (.long x1), (.long x0), (.int (((x2 &&& (2147483647 : Int32)) % (10 : Int32)) + (1 : Int32))), (.int (8 : Int32)), (.int (8 : Int32)), (.ref b1)])) (fun tG kG => XS.iload X24.here hx rfl (hb hby at_144) rfl kG) ?_
  obtain ⟨T26, X26, e26, st26⟩ := callS0 X24 hx hZ hown (hw _ (List.mem_of_getElem? (i := 2) rfl)) (hw _ (List.mem_of_getElem? (i := 3) rfl)) (hw _ (List.mem_of_getElem? (i := 4) rfl)) (hw _ (List.mem_of_getElem? (i := 5) rfl)) (by decide) (av := [(.int (8 : Int32)), (.int (((x2 &&& (2147483647 : Int32)) % (10 : Int32)) + (1 : Int32))), (.long x0), (.long x1), (.int x3)]) (own_rm1 l Z a0 hw [] (8 : Int32) (((x2 &&& (2147483647 : Int32)) % (10 : Int32)) + (1 : Int32)) x0 x1 x3  h24) e24 (pc := 146) (Ls := #[.val (.long x0), .second, .val (.long x1), .second, .val (.int x2), .val (.int x3), .val (.int (((x2 &&& (2147483647 : Int32)) % (10 : Int32)) + (1 : Int32))), .val (.ref b1), .unset, .unset, .unset, .unset, .unset, .unset, .unset]) (rest := [(.int (8 : Int32)), (.ref b1)]) (by rw [hml]; rfl) own_k136 rfl 2 (Nat.le_of_eq rfl) (by decide) (by decide) (by decide) (by decide) (hb hby at_146)
  refine GoW.via (U' := T26.setTop (mkF m 149 #[.val (.long x0), .second, .val (.long x1), .second, .val (.int x2), .val (.int x3), .val (.int (((x2 &&& (2147483647 : Int32)) % (10 : Int32)) + (1 : Int32))), .val (.ref b1), .unset, .unset, .unset, .unset, .unset, .unset, .unset] [(.int (own_f1 (8 : Int32) (((x2 &&& (2147483647 : Int32)) % (10 : Int32)) + (1 : Int32)) x0 x1 x3)), (.int (8 : Int32)), (.ref b1)])) (fun tG kG => st26 tG kG) ?_
  obtain ⟨T27, h27, X27, e27, W27, A27, st27⟩ := own_stB X26 hx hZ e26 A24 (j := (8 : Int32)) (x := (own_f1 (8 : Int32) (((x2 &&& (2147483647 : Int32)) % (10 : Int32)) + (1 : Int32)) x0 x1 x3)) ⟨by decide, by decide⟩ (pc := 149) (Ls := #[.val (.long x0), .second, .val (.long x1), .second, .val (.int x2), .val (.int x3), .val (.int (((x2 &&& (2147483647 : Int32)) % (10 : Int32)) + (1 : Int32))), .val (.ref b1), .unset, .unset, .unset, .unset, .unset, .unset, .unset]) (rest := []) (hb hby at_149)
  have f28 := f25.wr W27
  replace A27 : Arf Z h27 b1 k1 .byte (11 : Int32) (own_w0_10 x0 x1 x2 x3) := A27
  have K27 := K24.wr W27 (Or.inr sz_b1)
  have N27 := Fr.snoc X27 N24 g_b1
  have Z27 := Nat.le_trans Z24 (Keep.of_wr W27).1
  refine GoW.via (U' := T27.setTop (mkF m 150 #[.val (.long x0), .second, .val (.long x1), .second, .val (.int x2), .val (.int x3), .val (.int (((x2 &&& (2147483647 : Int32)) % (10 : Int32)) + (1 : Int32))), .val (.ref b1), .unset, .unset, .unset, .unset, .unset, .unset, .unset] [])) (fun tG kG => st27 tG kG) ?_
  refine GoW.via (U' := T27.setTop (mkF m 152 #[.val (.long x0), .second, .val (.long x1), .second, .val (.int x2), .val (.int x3), .val (.int (((x2 &&& (2147483647 : Int32)) % (10 : Int32)) + (1 : Int32))), .val (.ref b1), .unset, .unset, .unset, .unset, .unset, .unset, .unset] [(.ref b1)])) (fun tG kG => XS.aload X27.here hx rfl (hb hby at_150) rfl rfl kG) ?_
  refine GoW.via (U' := T27.setTop (mkF m 154 #[.val (.long x0), .second, .val (.long x1), .second, .val (.int x2), .val (.int x3), .val (.int (((x2 &&& (2147483647 : Int32)) % (10 : Int32)) + (1 : Int32))), .val (.ref b1), .unset, .unset, .unset, .unset, .unset, .unset, .unset] [(.int (9 : Int32)), (.ref b1)])) (fun tG kG => XS.bipush X27.here hx rfl (hb hby at_152) kG) ?_
  refine GoW.via (U' := T27.setTop (mkF m 156 #[.val (.long x0), .second, .val (.long x1), .second, .val (.int x2), .val (.int x3), .val (.int (((x2 &&& (2147483647 : Int32)) % (10 : Int32)) + (1 : Int32))), .val (.ref b1), .unset, .unset, .unset, .unset, .unset, .unset, .unset] [(.int (9 : Int32)), (.int (9 : Int32)), (.ref b1)])) (fun tG kG => XS.bipush X27.here hx rfl (hb hby at_154) kG) ?_
  refine GoW.via (U' := T27.setTop (mkF m 158 #[.val (.long x0), .second, .val (.long x1), .second, .val (.int x2), .val (.int x3), .val (.int (((x2 &&& (2147483647 : Int32)) % (10 : Int32)) + (1 : Int32))), .val (.ref b1), .unset, .unset, .unset, .unset, .unset, .unset, .unset] [(.int (((x2 &&& (2147483647 : Int32)) % (10 : Int32)) + (1 : Int32))), (.int (9 : Int32)), (.int (9 : Int32)), (.ref b1)])) (fun tG kG => XS.iload X27.here hx rfl (hb hby at_156) rfl kG) ?_
  refine GoW.via (U' := T27.setTop (mkF m 159 #[.val (.long x0), .second, .val (.long x1), .second, .val (.int x2), .val (.int x3), .val (.int (((x2 &&& (2147483647 : Int32)) % (10 : Int32)) + (1 : Int32))), .val (.ref b1), .unset, .unset, .unset, .unset, .unset, .unset, .unset] [(.long x0), (.int (((x2 &&& (2147483647 : Int32)) % (10 : Int32)) + (1 : Int32))), (.int (9 : Int32)), (.int (9 : Int32)), (.ref b1)])) (fun tG kG => XS.lloadN X27.here hx rfl (hb hby at_158) rfl kG) ?_
  refine GoW.via (U' := T27.setTop (mkF m 160 #[.val (.long x0), .second, .val (.long x1), .second, .val (.int x2), .val (.int x3), .val (.int (((x2 &&& (2147483647 : Int32)) % (10 : Int32)) + (1 : Int32))), .val (.ref b1), .unset, .unset, .unset, .unset, .unset, .unset, .unset] [(.long x1), (.long x0), (.int (((x2 &&& (2147483647 : Int32)) % (10 : Int32)) + (1 : Int32))), (.int (9 : Int32)), (.int (9 : Int32)), (.ref b1)])) (fun tG kG => XS.lloadN X27.here hx rfl (hb hby at_159) rfl kG) ?_
  refine GoW.via (U' := T27.setTop (mkF m 162 #[.val (.long x0), .second, .val (.long x1), .second, .val (.int x2), .val (.int x3), .val (.int (((x2 &&& (2147483647 : Int32)) % (10 : Int32)) + (1 : Int32))), .val (.ref b1), .unset, .unset, .unset, .unset, .unset, .unset, .unset] [(.int x3), (.long x1), (.long x0), (.int (((x2 &&& (2147483647 : Int32)) % (10 : Int32)) + (1 : Int32))), (.int (9 : Int32)), (.int (9 : Int32)), (.ref b1)])) (fun tG kG => XS.iload X27.here hx rfl (hb hby at_160) rfl kG) ?_
  obtain ⟨T29, X29, e29, st29⟩ := callS0 X27 hx hZ hown (hw _ (List.mem_of_getElem? (i := 2) rfl)) (hw _ (List.mem_of_getElem? (i := 3) rfl)) (hw _ (List.mem_of_getElem? (i := 4) rfl)) (hw _ (List.mem_of_getElem? (i := 5) rfl)) (by decide) (av := [(.int (9 : Int32)), (.int (((x2 &&& (2147483647 : Int32)) % (10 : Int32)) + (1 : Int32))), (.long x0), (.long x1), (.int x3)]) (own_rm1 l Z a0 hw [] (9 : Int32) (((x2 &&& (2147483647 : Int32)) % (10 : Int32)) + (1 : Int32)) x0 x1 x3  h27) e27 (pc := 162) (Ls := #[.val (.long x0), .second, .val (.long x1), .second, .val (.int x2), .val (.int x3), .val (.int (((x2 &&& (2147483647 : Int32)) % (10 : Int32)) + (1 : Int32))), .val (.ref b1), .unset, .unset, .unset, .unset, .unset, .unset, .unset]) (rest := [(.int (9 : Int32)), (.ref b1)]) (by rw [hml]; rfl) own_k136 rfl 2 (Nat.le_of_eq rfl) (by decide) (by decide) (by decide) (by decide) (hb hby at_162)
  refine GoW.via (U' := T29.setTop (mkF m 165 #[.val (.long x0), .second, .val (.long x1), .second, .val (.int x2), .val (.int x3), .val (.int (((x2 &&& (2147483647 : Int32)) % (10 : Int32)) + (1 : Int32))), .val (.ref b1), .unset, .unset, .unset, .unset, .unset, .unset, .unset] [(.int (own_f1 (9 : Int32) (((x2 &&& (2147483647 : Int32)) % (10 : Int32)) + (1 : Int32)) x0 x1 x3)), (.int (9 : Int32)), (.ref b1)])) (fun tG kG => st29 tG kG) ?_
  obtain ⟨T30, h30, X30, e30, W30, A30, st30⟩ := own_stB X29 hx hZ e29 A27 (j := (9 : Int32)) (x := (own_f1 (9 : Int32) (((x2 &&& (2147483647 : Int32)) % (10 : Int32)) + (1 : Int32)) x0 x1 x3)) ⟨by decide, by decide⟩ (pc := 165) (Ls := #[.val (.long x0), .second, .val (.long x1), .second, .val (.int x2), .val (.int x3), .val (.int (((x2 &&& (2147483647 : Int32)) % (10 : Int32)) + (1 : Int32))), .val (.ref b1), .unset, .unset, .unset, .unset, .unset, .unset, .unset]) (rest := []) (hb hby at_165)
  have f31 := f28.wr W30
  replace A30 : Arf Z h30 b1 k1 .byte (11 : Int32) (own_w0_11 x0 x1 x2 x3) := A30
  have K30 := K27.wr W30 (Or.inr sz_b1)
  have N30 := Fr.snoc X30 N27 g_b1
  have Z30 := Nat.le_trans Z27 (Keep.of_wr W30).1
  refine GoW.via (U' := T30.setTop (mkF m 166 #[.val (.long x0), .second, .val (.long x1), .second, .val (.int x2), .val (.int x3), .val (.int (((x2 &&& (2147483647 : Int32)) % (10 : Int32)) + (1 : Int32))), .val (.ref b1), .unset, .unset, .unset, .unset, .unset, .unset, .unset] [])) (fun tG kG => st30 tG kG) ?_
  refine GoW.via (U' := T30.setTop (mkF m 168 #[.val (.long x0), .second, .val (.long x1), .second, .val (.int x2), .val (.int x3), .val (.int (((x2 &&& (2147483647 : Int32)) % (10 : Int32)) + (1 : Int32))), .val (.ref b1), .unset, .unset, .unset, .unset, .unset, .unset, .unset] [(.ref b1)])) (fun tG kG => XS.aload X30.here hx rfl (hb hby at_166) rfl rfl kG) ?_
  refine GoW.via (U' := T30.setTop (mkF m 170 #[.val (.long x0), .second, .val (.long x1), .second, .val (.int x2), .val (.int x3), .val (.int (((x2 &&& (2147483647 : Int32)) % (10 : Int32)) + (1 : Int32))), .val (.ref b1), .unset, .unset, .unset, .unset, .unset, .unset, .unset] [(.int (10 : Int32)), (.ref b1)])) (fun tG kG => XS.bipush X30.here hx rfl (hb hby at_168) kG) ?_
  refine GoW.via (U' := T30.setTop (mkF m 172 #[.val (.long x0), .second, .val (.long x1), .second, .val (.int x2), .val (.int x3), .val (.int (((x2 &&& (2147483647 : Int32)) % (10 : Int32)) + (1 : Int32))), .val (.ref b1), .unset, .unset, .unset, .unset, .unset, .unset, .unset] [(.int (10 : Int32)), (.int (10 : Int32)), (.ref b1)])) (fun tG kG => XS.bipush X30.here hx rfl (hb hby at_170) kG) ?_
  refine GoW.via (U' := T30.setTop (mkF m 174 #[.val (.long x0), .second, .val (.long x1), .second, .val (.int x2), .val (.int x3), .val (.int (((x2 &&& (2147483647 : Int32)) % (10 : Int32)) + (1 : Int32))), .val (.ref b1), .unset, .unset, .unset, .unset, .unset, .unset, .unset] [(.int (((x2 &&& (2147483647 : Int32)) % (10 : Int32)) + (1 : Int32))), (.int (10 : Int32)), (.int (10 : Int32)), (.ref b1)])) (fun tG kG => XS.iload X30.here hx rfl (hb hby at_172) rfl kG) ?_
  refine GoW.via (U' := T30.setTop (mkF m 175 #[.val (.long x0), .second, .val (.long x1), .second, .val (.int x2), .val (.int x3), .val (.int (((x2 &&& (2147483647 : Int32)) % (10 : Int32)) + (1 : Int32))), .val (.ref b1), .unset, .unset, .unset, .unset, .unset, .unset, .unset] [(.long x0), (.int (((x2 &&& (2147483647 : Int32)) % (10 : Int32)) + (1 : Int32))), (.int (10 : Int32)), (.int (10 : Int32)), (.ref b1)])) (fun tG kG => XS.lloadN X30.here hx rfl (hb hby at_174) rfl kG) ?_
  refine GoW.via (U' := T30.setTop (mkF m 176 #[.val (.long x0), .second, .val (.long x1), .second, .val (.int x2), .val (.int x3), .val (.int (((x2 &&& (2147483647 : Int32)) % (10 : Int32)) + (1 : Int32))), .val (.ref b1), .unset, .unset, .unset, .unset, .unset, .unset, .unset] [(.long x1), (.long x0), (.int (((x2 &&& (2147483647 : Int32)) % (10 : Int32)) + (1 : Int32))), (.int (10 : Int32)), (.int (10 : Int32)), (.ref b1)])) (fun tG kG => XS.lloadN X30.here hx rfl (hb hby at_175) rfl kG) ?_
  refine GoW.via (U' := T30.setTop (mkF m 178 #[.val (.long x0), .second, .val (.long x1), .second, .val (.int x2), .val (.int x3), .val (.int (((x2 &&& (2147483647 : Int32)) % (10 : Int32)) + (1 : Int32))), .val (.ref b1), .unset, .unset, .unset, .unset, .unset, .unset, .unset] [(.int x3), (.long x1), (.long x0), (.int (((x2 &&& (2147483647 : Int32)) % (10 : Int32)) + (1 : Int32))), (.int (10 : Int32)), (.int (10 : Int32)), (.ref b1)])) (fun tG kG => XS.iload X30.here hx rfl (hb hby at_176) rfl kG) ?_
  obtain ⟨T32, X32, e32, st32⟩ := callS0 X30 hx hZ hown (hw _ (List.mem_of_getElem? (i := 2) rfl)) (hw _ (List.mem_of_getElem? (i := 3) rfl)) (hw _ (List.mem_of_getElem? (i := 4) rfl)) (hw _ (List.mem_of_getElem? (i := 5) rfl)) (by decide) (av := [(.int (10 : Int32)), (.int (((x2 &&& (2147483647 : Int32)) % (10 : Int32)) + (1 : Int32))), (.long x0), (.long x1), (.int x3)]) (own_rm1 l Z a0 hw [] (10 : Int32) (((x2 &&& (2147483647 : Int32)) % (10 : Int32)) + (1 : Int32)) x0 x1 x3  h30) e30 (pc := 178) (Ls := #[.val (.long x0), .second, .val (.long x1), .second, .val (.int x2), .val (.int x3), .val (.int (((x2 &&& (2147483647 : Int32)) % (10 : Int32)) + (1 : Int32))), .val (.ref b1), .unset, .unset, .unset, .unset, .unset, .unset, .unset]) (rest := [(.int (10 : Int32)), (.ref b1)]) (by rw [hml]; rfl) own_k136 rfl 2 (Nat.le_of_eq rfl) (by decide) (by decide) (by decide) (by decide) (hb hby at_178)
  refine GoW.via (U' := T32.setTop (mkF m 181 #[.val (.long x0), .second, .val (.long x1), .second, .val (.int x2), .val (.int x3), .val (.int (((x2 &&& (2147483647 : Int32)) % (10 : Int32)) + (1 : Int32))), .val (.ref b1), .unset, .unset, .unset, .unset, .unset, .unset, .unset] [(.int (own_f1 (10 : Int32) (((x2 &&& (2147483647 : Int32)) % (10 : Int32)) + (1 : Int32)) x0 x1 x3)), (.int (10 : Int32)), (.ref b1)])) (fun tG kG => st32 tG kG) ?_
  obtain ⟨T33, h33, X33, e33, W33, A33, st33⟩ := own_stB X32 hx hZ e32 A30 (j := (10 : Int32)) (x := (own_f1 (10 : Int32) (((x2 &&& (2147483647 : Int32)) % (10 : Int32)) + (1 : Int32)) x0 x1 x3)) ⟨by decide, by decide⟩ (pc := 181) (Ls := #[.val (.long x0), .second, .val (.long x1), .second, .val (.int x2), .val (.int x3), .val (.int (((x2 &&& (2147483647 : Int32)) % (10 : Int32)) + (1 : Int32))), .val (.ref b1), .unset, .unset, .unset, .unset, .unset, .unset, .unset]) (rest := []) (hb hby at_181)
  have f34 := f31.wr W33
  replace A33 : Arf Z h33 b1 k1 .byte (11 : Int32) (own_w0_12 x0 x1 x2 x3) := A33
  have K33 := K30.wr W33 (Or.inr sz_b1)
  have N33 := Fr.snoc X33 N30 g_b1
  have Z33 := Nat.le_trans Z30 (Keep.of_wr W33).1
  refine GoW.via (U' := T33.setTop (mkF m 182 #[.val (.long x0), .second, .val (.long x1), .second, .val (.int x2), .val (.int x3), .val (.int (((x2 &&& (2147483647 : Int32)) % (10 : Int32)) + (1 : Int32))), .val (.ref b1), .unset, .unset, .unset, .unset, .unset, .unset, .unset] [])) (fun tG kG => st33 tG kG) ?_
  refine GoW.via (U' := T33.setTop (mkF m 184 #[.val (.long x0), .second, .val (.long x1), .second, .val (.int x2), .val (.int x3), .val (.int (((x2 &&& (2147483647 : Int32)) % (10 : Int32)) + (1 : Int32))), .val (.ref b1), .unset, .unset, .unset, .unset, .unset, .unset, .unset] [(.int (((x2 &&& (2147483647 : Int32)) % (10 : Int32)) + (1 : Int32)))])) (fun tG kG => XS.iload X33.here hx rfl (hb hby at_182) rfl kG) ?_
  refine GoW.via (U' := T33.setTop (mkF m 186 #[.val (.long x0), .second, .val (.long x1), .second, .val (.int x2), .val (.int x3), .val (.int (((x2 &&& (2147483647 : Int32)) % (10 : Int32)) + (1 : Int32))), .val (.ref b1), .unset, .unset, .unset, .unset, .unset, .unset, .unset] [(.int (10 : Int32)), (.int (((x2 &&& (2147483647 : Int32)) % (10 : Int32)) + (1 : Int32)))])) (fun tG kG => XS.bipush X33.here hx rfl (hb hby at_184) kG) ?_
  have J35 : ∀ T' L', Stand p l e room_1 s m #[(.long x0), (.long x1), (.int x2), (.int x3)] below meth c T' L' 1 11 → T'.heap = h33 → Fr n0 L' → GoW p e below s room_1.cells room_1.slots (fun v h L => v = some (.int (own_f0 x0 x1 x2 x3)) ∧ Fr n0 L ∧ Keep h0 h []) (T'.setTop (mkF m 217 #[.val (.long x0), .second, .val (.long x1), .second, .val (.int x2), .val (.int x3), .val (.int (((x2 &&& (2147483647 : Int32)) % (10 : Int32)) + (1 : Int32))), .val (.ref b1), .val (.long (own_j0_186_l8 x0 x1 x2)), .second, .unset, .unset, .unset, .unset, .unset] [])) := by
    intro T36 L39 X37 e38 N40
    obtain ⟨T41, h41, X41, e41, E41, A41, D41, -, st41⟩ := newO X37 hx hZ hown (hw _ (List.mem_of_getElem? (i := 7) rfl)) (hw _ (List.mem_of_getElem? (i := 8) rfl)) (hw _ (List.mem_of_getElem? (i := 9) rfl)) e38 (g := (mkF m 217 #[.val (.long x0), .second, .val (.long x1), .second, .val (.int x2), .val (.int x3), .val (.int (((x2 &&& (2147483647 : Int32)) % (10 : Int32)) + (1 : Int32))), .val (.ref b1), .val (.long (own_j0_186_l8 x0 x1 x2)), .second, .unset, .unset, .unset, .unset, .unset] [])) rfl (hb hby at_217) (by decide) (by decide)
    obtain ⟨b41, g41⟩ : ∃ z, z = h33.size := ⟨_, rfl⟩
    rw [← g41] at A41 D41 st41
    have g_b41 : n0 ≤ b41 := Nat.le_trans Z33 (Nat.le_of_eq g41.symm)
    have sz_b41 : h0.size ≤ b41 := Nat.le_trans K33.1 (Nat.le_of_eq g41.symm)
    have ne_b1_b41 : b1 ≠ b41 := Nat.ne_of_lt (Nat.lt_of_lt_of_le f34.lt (Nat.le_of_eq g41.symm))
    have f42 := f34.ext E41
    have f43 := A33.ext E41
    have K41 := K33.ext E41
    have Z41 := Nat.le_trans Z33 E41.1
    have f44 : Fld Z h41 b41 "com/example/stokehold/stokehold/wire/ProtoReader" "bytes" "[B" .null := D41 (Or.inr (hw _ (List.mem_of_getElem? (i := 27) rfl))) (ty := (.array .byte)) (by decide)
    have f45 : Fld Z h41 b41 "com/example/stokehold/stokehold/wire/ProtoReader" "available" "I" (.int (0 : Int32)) := D41 (Or.inr (hw _ (List.mem_of_getElem? (i := 29) rfl))) (ty := .int) (by decide)
    have f46 : Fld Z h41 b41 "com/example/stokehold/stokehold/wire/ProtoReader" "end" "I" (.int (0 : Int32)) := D41 (Or.inr (hw _ (List.mem_of_getElem? (i := 31) rfl))) (ty := .int) (by decide)
    have f47 : Fld Z h41 b41 "com/example/stokehold/stokehold/wire/ProtoReader" "name" "Ljava/lang/String;" .null := D41 (Or.inr (hw _ (List.mem_of_getElem? (i := 33) rfl))) (ty := (.object "java/lang/String")) (by decide)
    have f48 : Fld Z h41 b41 "com/example/stokehold/stokehold/wire/ProtoReader" "position" "I" (.int (0 : Int32)) := D41 (Or.inl (hw _ (List.mem_of_getElem? (i := 45) rfl))) (ty := .int) (by decide)
    refine GoW.via (U' := T41.setTop (mkF m 220 #[.val (.long x0), .second, .val (.long x1), .second, .val (.int x2), .val (.int x3), .val (.int (((x2 &&& (2147483647 : Int32)) % (10 : Int32)) + (1 : Int32))), .val (.ref b1), .val (.long (own_j0_186_l8 x0 x1 x2)), .second, .unset, .unset, .unset, .unset, .unset] [(.ref b41)])) (fun tG kG => st41 tG kG) ?_
    refine GoW.via (U' := T41.setTop (mkF m 221 #[.val (.long x0), .second, .val (.long x1), .second, .val (.int x2), .val (.int x3), .val (.int (((x2 &&& (2147483647 : Int32)) % (10 : Int32)) + (1 : Int32))), .val (.ref b1), .val (.long (own_j0_186_l8 x0 x1 x2)), .second, .unset, .unset, .unset, .unset, .unset] [(.ref b41), (.ref b41)])) (fun tG kG => XS.dup X41.here hx rfl (hb hby at_220) rfl rfl kG) ?_
    refine GoW.via (U' := T41.setTop (mkF m 223 #[.val (.long x0), .second, .val (.long x1), .second, .val (.int x2), .val (.int x3), .val (.int (((x2 &&& (2147483647 : Int32)) % (10 : Int32)) + (1 : Int32))), .val (.ref b1), .val (.long (own_j0_186_l8 x0 x1 x2)), .second, .unset, .unset, .unset, .unset, .unset] [(.ref b1), (.ref b41), (.ref b41)])) (fun tG kG => XS.aload X41.here hx rfl (hb hby at_221) rfl rfl kG) ?_
    have wS49 : ∀ a ∈ Bundle.stringAtoms, a.before a0 Z = true := own_consC (hw _ (List.mem_of_getElem? (i := 11) rfl)) (own_consC (hw _ (List.mem_of_getElem? (i := 12) rfl)) (own_consC (hw _ (List.mem_of_getElem? (i := 1) rfl)) (own_consC (hw _ (List.mem_of_getElem? (i := 13) rfl)) (own_consC (hw _ (List.mem_of_getElem? (i := 14) rfl)) (own_consC (hw _ (List.mem_of_getElem? (i := 15) rfl)) (own_consC (hw _ (List.mem_of_getElem? (i := 16) rfl)) (own_nilC)))))))
    obtain ⟨b49, T49, h49, k149, X49, e49, E49, hS49, hk49, hZ49, ho49, st49⟩ := own_ldcS X41 hx hZ hown (hw _ (List.mem_of_getElem? (i := 10) rfl)) wS49 e41 (pc := 223) (Ls := #[.val (.long x0), .second, .val (.long x1), .second, .val (.int x2), .val (.int x3), .val (.int (((x2 &&& (2147483647 : Int32)) % (10 : Int32)) + (1 : Int32))), .val (.ref b1), .val (.long (own_j0_186_l8 x0 x1 x2)), .second, .unset, .unset, .unset, .unset, .unset]) (rest := [(.ref b1), (.ref b41), (.ref b41)]) (hb hby at_223) 4 (by decide) (by decide) (by decide) (by decide)
    have f50 := f42.ext E49
    have f51 := f43.ext E49
    have f52 := A41.ext E49
    have f53 := f44.ext E49
    have f54 := f45.ext E49
    have f55 := f46.ext E49
    have f56 := f47.ext E49
    have f57 := f48.ext E49
    have K49 := K41.ext E49
    have Z49 := Nat.le_trans Z41 E49.1
    refine GoW.via (U' := T49.setTop (mkF m 225 #[.val (.long x0), .second, .val (.long x1), .second, .val (.int x2), .val (.int x3), .val (.int (((x2 &&& (2147483647 : Int32)) % (10 : Int32)) + (1 : Int32))), .val (.ref b1), .val (.long (own_j0_186_l8 x0 x1 x2)), .second, .unset, .unset, .unset, .unset, .unset] [(.ref b49), (.ref b1), (.ref b41), (.ref b41)])) (fun tG kG => st49 tG kG) ?_
    refine GoW.ofGo hS49 ?_
    replace hZ := hZ49
    replace hown := ho49
    obtain ⟨_, T58, L58, X58, ⟨rfl, N58q, K58q, f59, f60, f61, f62, f63, f64⟩, st58⟩ := callIQ X49 hx hZ rfl hown (hw _ (List.mem_of_getElem? (i := 17) rfl)) (hw _ (List.mem_of_getElem? (i := 18) rfl)) (hw _ (List.mem_of_getElem? (i := 9) rfl)) (hw _ (List.mem_of_getElem? (i := 19) rfl)) (by decide) (b := b41) (av := [(.ref b1), (.ref b49)]) (own_rm2 l Z a0 hw [] b41 b1 b49 k1 (11 : Int32) (own_w0_12 x0 x1 x2 x3) h49 n0 Z49 f52 f53 f54 f55 f56 f57 f51 g_b41 (Ne.symm ne_b1_b41)) e49 (pc := 225) (Ls := #[.val (.long x0), .second, .val (.long x1), .second, .val (.int x2), .val (.int x3), .val (.int (((x2 &&& (2147483647 : Int32)) % (10 : Int32)) + (1 : Int32))), .val (.ref b1), .val (.long (own_j0_186_l8 x0 x1 x2)), .second, .unset, .unset, .unset, .unset, .unset]) (rest := [(.ref b41)]) (by rw [hml]; rfl) own_k137 rfl 1 (Nat.le_of_eq rfl) (by decide) (by decide) (by decide) (by decide) (hb hby at_225)
    have f65 := f50.keep K58q
    have f66 := f51.keep K58q (ninS ne_b1_b41 nin0)
    have f67 := f52.keep K58q
    have N58 := Fr.app N40 N58q
    have Z58 := Nat.le_trans Z49 K58q.1
    have Zk58 := Nat.le_trans hk49 K58q.1
    have K58 := K49.trans K58q (allS (Or.inr sz_b41) all0)
    refine Go.via (U' := T58.setTop (mkF m 228 #[.val (.long x0), .second, .val (.long x1), .second, .val (.int x2), .val (.int x3), .val (.int (((x2 &&& (2147483647 : Int32)) % (10 : Int32)) + (1 : Int32))), .val (.ref b1), .val (.long (own_j0_186_l8 x0 x1 x2)), .second, .unset, .unset, .unset, .unset, .unset] [(.ref b41)])) (fun tG kG => st58 tG kG) ?_
    refine Go.via (U' := T58.setTop (mkF m 230 #[.val (.long x0), .second, .val (.long x1), .second, .val (.int x2), .val (.int x3), .val (.int (((x2 &&& (2147483647 : Int32)) % (10 : Int32)) + (1 : Int32))), .val (.ref b1), .val (.long (own_j0_186_l8 x0 x1 x2)), .second, .val (.ref b41), .unset, .unset, .unset, .unset] [])) (fun tG kG => XS.astore X58.here hx rfl (hb hby at_228) rfl rfl (l' := #[.val (.long x0), .second, .val (.long x1), .second, .val (.int x2), .val (.int x3), .val (.int (((x2 &&& (2147483647 : Int32)) % (10 : Int32)) + (1 : Int32))), .val (.ref b1), .val (.long (own_j0_186_l8 x0 x1 x2)), .second, .val (.ref b41), .unset, .unset, .unset, .unset]) rfl kG) ?_
    refine Go.via (U' := T58.setTop (mkF m 232 #[.val (.long x0), .second, .val (.long x1), .second, .val (.int x2), .val (.int x3), .val (.int (((x2 &&& (2147483647 : Int32)) % (10 : Int32)) + (1 : Int32))), .val (.ref b1), .val (.long (own_j0_186_l8 x0 x1 x2)), .second, .val (.ref b41), .unset, .unset, .unset, .unset] [(.ref b41)])) (fun tG kG => XS.aload X58.here hx rfl (hb hby at_230) rfl rfl kG) ?_
    obtain ⟨_, T68, L68, X68, ⟨rfl, N68q, K68q, f69, f70, f71, f72, f73⟩, st68⟩ := callVQ X58 hx hZ hown (hw _ (List.mem_of_getElem? (i := 34) rfl)) (hw _ (List.mem_of_getElem? (i := 35) rfl)) (hw _ (List.mem_of_getElem? (i := 37) rfl)) (hw _ (List.mem_of_getElem? (i := 36) rfl)) (hw _ (List.mem_of_getElem? (i := 9) rfl)) (hw _ (List.mem_of_getElem? (i := 38) rfl)) (by decide) (b := b41) (av := []) f59 (own_rm5 l Z a0 hw [] b41 b1 (11 : Int32) (0 : Int32) k1 (own_w0_12 x0 x1 x2 x3) (own_accN x2) T58.heap n0 Z58 f59 f60 f61 f62 f64 f66 g_b41 (Ne.symm ne_b1_b41) (own_HA x0 x1 x2 x3)) rfl (pc := 232) (Ls := #[.val (.long x0), .second, .val (.long x1), .second, .val (.int x2), .val (.int x3), .val (.int (((x2 &&& (2147483647 : Int32)) % (10 : Int32)) + (1 : Int32))), .val (.ref b1), .val (.long (own_j0_186_l8 x0 x1 x2)), .second, .val (.ref b41), .unset, .unset, .unset, .unset]) (rest := []) (by rw [hml]; rfl) own_k138 rfl 0 (Nat.le_of_eq rfl) (by decide) (by decide) (by decide) (by decide) (hb hby at_232)
    have f74 := f65.keep K68q
    have f75 := f66.keep K68q (ninS ne_b1_b41 nin0)
    have f76 := f59.keep K68q
    have N68 := Fr.app N58 N68q
    have Z68 := Nat.le_trans Z58 K68q.1
    have Zk68 := Nat.le_trans Zk58 K68q.1
    have K68 := K58.trans K68q (allS (Or.inr sz_b41) all0)
    refine Go.via (U' := T68.setTop (mkF m 235 #[.val (.long x0), .second, .val (.long x1), .second, .val (.int x2), .val (.int x3), .val (.int (((x2 &&& (2147483647 : Int32)) % (10 : Int32)) + (1 : Int32))), .val (.ref b1), .val (.long (own_j0_186_l8 x0 x1 x2)), .second, .val (.ref b41), .unset, .unset, .unset, .unset] [(.long (own_acc (own_w0_12 x0 x1 x2 x3) (0 : Int32) ((own_accN x2) + 1)))])) (fun tG kG => st68 tG kG) ?_
    refine Go.via (U' := T68.setTop (mkF m 237 #[.val (.long x0), .second, .val (.long x1), .second, .val (.int x2), .val (.int x3), .val (.int (((x2 &&& (2147483647 : Int32)) % (10 : Int32)) + (1 : Int32))), .val (.ref b1), .val (.long (own_j0_186_l8 x0 x1 x2)), .second, .val (.ref b41), .val (.long (own_acc (own_w0_12 x0 x1 x2 x3) (0 : Int32) ((own_accN x2) + 1))), .second, .unset, .unset] [])) (fun tG kG => XS.lstore X68.here hx rfl (hb hby at_235) rfl (l' := #[.val (.long x0), .second, .val (.long x1), .second, .val (.int x2), .val (.int x3), .val (.int (((x2 &&& (2147483647 : Int32)) % (10 : Int32)) + (1 : Int32))), .val (.ref b1), .val (.long (own_j0_186_l8 x0 x1 x2)), .second, .val (.ref b41), .val (.long (own_acc (own_w0_12 x0 x1 x2 x3) (0 : Int32) ((own_accN x2) + 1))), .second, .unset, .unset]) rfl kG) ?_
    refine Go.via (U' := T68.setTop (mkF m 239 #[.val (.long x0), .second, .val (.long x1), .second, .val (.int x2), .val (.int x3), .val (.int (((x2 &&& (2147483647 : Int32)) % (10 : Int32)) + (1 : Int32))), .val (.ref b1), .val (.long (own_j0_186_l8 x0 x1 x2)), .second, .val (.ref b41), .val (.long (own_acc (own_w0_12 x0 x1 x2 x3) (0 : Int32) ((own_accN x2) + 1))), .second, .unset, .unset] [(.ref b41)])) (fun tG kG => XS.aload X68.here hx rfl (hb hby at_237) rfl rfl kG) ?_
    obtain ⟨_, T77, L77, X77, ⟨rfl, N77q, K77q, f78, f79, f80, f81, f82⟩, st77⟩ := callVQ X68 hx hZ hown (hw _ (List.mem_of_getElem? (i := 34) rfl)) (hw _ (List.mem_of_getElem? (i := 35) rfl)) (hw _ (List.mem_of_getElem? (i := 37) rfl)) (hw _ (List.mem_of_getElem? (i := 36) rfl)) (hw _ (List.mem_of_getElem? (i := 9) rfl)) (hw _ (List.mem_of_getElem? (i := 38) rfl)) (by decide) (b := b41) (av := []) f69 (own_rm5 l Z a0 hw [] b41 b1 (11 : Int32) ((0 : Int32) + Int32.ofNat ((own_accN x2) + 1)) k1 (own_w0_12 x0 x1 x2 x3) 0 T68.heap n0 Z68 f69 f70 f71 f72 f73 f75 g_b41 (Ne.symm ne_b1_b41) (own_HB x0 x1 x2 x3)) rfl (pc := 239) (Ls := #[.val (.long x0), .second, .val (.long x1), .second, .val (.int x2), .val (.int x3), .val (.int (((x2 &&& (2147483647 : Int32)) % (10 : Int32)) + (1 : Int32))), .val (.ref b1), .val (.long (own_j0_186_l8 x0 x1 x2)), .second, .val (.ref b41), .val (.long (own_acc (own_w0_12 x0 x1 x2 x3) (0 : Int32) ((own_accN x2) + 1))), .second, .unset, .unset]) (rest := []) (by rw [hml]; rfl) own_k138 rfl 0 (Nat.le_of_eq rfl) (by decide) (by decide) (by decide) (by decide) (hb hby at_239)
    have f83 := f74.keep K77q
    have f84 := f75.keep K77q (ninS ne_b1_b41 nin0)
    have f85 := f69.keep K77q
    have N77 := Fr.app N68 N77q
    have Z77 := Nat.le_trans Z68 K77q.1
    have Zk77 := Nat.le_trans Zk68 K77q.1
    have K77 := K68.trans K77q (allS (Or.inr sz_b41) all0)
    refine Go.via (U' := T77.setTop (mkF m 242 #[.val (.long x0), .second, .val (.long x1), .second, .val (.int x2), .val (.int x3), .val (.int (((x2 &&& (2147483647 : Int32)) % (10 : Int32)) + (1 : Int32))), .val (.ref b1), .val (.long (own_j0_186_l8 x0 x1 x2)), .second, .val (.ref b41), .val (.long (own_acc (own_w0_12 x0 x1 x2 x3) (0 : Int32) ((own_accN x2) + 1))), .second, .unset, .unset] [(.long (own_acc (own_w0_12 x0 x1 x2 x3) ((0 : Int32) + Int32.ofNat ((own_accN x2) + 1)) (0 + 1)))])) (fun tG kG => st77 tG kG) ?_
    refine Go.via (U' := T77.setTop (mkF m 244 #[.val (.long x0), .second, .val (.long x1), .second, .val (.int x2), .val (.int x3), .val (.int (((x2 &&& (2147483647 : Int32)) % (10 : Int32)) + (1 : Int32))), .val (.ref b1), .val (.long (own_j0_186_l8 x0 x1 x2)), .second, .val (.ref b41), .val (.long (own_acc (own_w0_12 x0 x1 x2 x3) (0 : Int32) ((own_accN x2) + 1))), .second, .val (.long (own_acc (own_w0_12 x0 x1 x2 x3) ((0 : Int32) + Int32.ofNat ((own_accN x2) + 1)) (0 + 1))), .second] [])) (fun tG kG => XS.lstore X77.here hx rfl (hb hby at_242) rfl (l' := #[.val (.long x0), .second, .val (.long x1), .second, .val (.int x2), .val (.int x3), .val (.int (((x2 &&& (2147483647 : Int32)) % (10 : Int32)) + (1 : Int32))), .val (.ref b1), .val (.long (own_j0_186_l8 x0 x1 x2)), .second, .val (.ref b41), .val (.long (own_acc (own_w0_12 x0 x1 x2 x3) (0 : Int32) ((own_accN x2) + 1))), .second, .val (.long (own_acc (own_w0_12 x0 x1 x2 x3) ((0 : Int32) + Int32.ofNat ((own_accN x2) + 1)) (0 + 1))), .second]) rfl kG) ?_
    refine Go.via (U' := T77.setTop (mkF m 246 #[.val (.long x0), .second, .val (.long x1), .second, .val (.int x2), .val (.int x3), .val (.int (((x2 &&& (2147483647 : Int32)) % (10 : Int32)) + (1 : Int32))), .val (.ref b1), .val (.long (own_j0_186_l8 x0 x1 x2)), .second, .val (.ref b41), .val (.long (own_acc (own_w0_12 x0 x1 x2 x3) (0 : Int32) ((own_accN x2) + 1))), .second, .val (.long (own_acc (own_w0_12 x0 x1 x2 x3) ((0 : Int32) + Int32.ofNat ((own_accN x2) + 1)) (0 + 1))), .second] [(.long (own_acc (own_w0_12 x0 x1 x2 x3) (0 : Int32) ((own_accN x2) + 1)))])) (fun tG kG => XS.lload X77.here hx rfl (hb hby at_244) rfl kG) ?_
    refine Go.via (U' := T77.setTop (mkF m 248 #[.val (.long x0), .second, .val (.long x1), .second, .val (.int x2), .val (.int x3), .val (.int (((x2 &&& (2147483647 : Int32)) % (10 : Int32)) + (1 : Int32))), .val (.ref b1), .val (.long (own_j0_186_l8 x0 x1 x2)), .second, .val (.ref b41), .val (.long (own_acc (own_w0_12 x0 x1 x2 x3) (0 : Int32) ((own_accN x2) + 1))), .second, .val (.long (own_acc (own_w0_12 x0 x1 x2 x3) ((0 : Int32) + Int32.ofNat ((own_accN x2) + 1)) (0 + 1))), .second] [(.long (own_j0_186_l8 x0 x1 x2)), (.long (own_acc (own_w0_12 x0 x1 x2 x3) (0 : Int32) ((own_accN x2) + 1)))])) (fun tG kG => XS.lload X77.here hx rfl (hb hby at_246) rfl kG) ?_
    refine Go.via (U' := T77.setTop (mkF m 249 #[.val (.long x0), .second, .val (.long x1), .second, .val (.int x2), .val (.int x3), .val (.int (((x2 &&& (2147483647 : Int32)) % (10 : Int32)) + (1 : Int32))), .val (.ref b1), .val (.long (own_j0_186_l8 x0 x1 x2)), .second, .val (.ref b41), .val (.long (own_acc (own_w0_12 x0 x1 x2 x3) (0 : Int32) ((own_accN x2) + 1))), .second, .val (.long (own_acc (own_w0_12 x0 x1 x2 x3) ((0 : Int32) + Int32.ofNat ((own_accN x2) + 1)) (0 + 1))), .second] [(.int (lcmpW (own_acc (own_w0_12 x0 x1 x2 x3) (0 : Int32) ((own_accN x2) + 1)) (own_j0_186_l8 x0 x1 x2)))])) (fun tG kG => XS.lcmp X77.here hx rfl (hb hby at_248) rfl kG) ?_
    by_cases hc249 : (lcmpW (own_acc (own_w0_12 x0 x1 x2 x3) (0 : Int32) ((own_accN x2) + 1)) (own_j0_186_l8 x0 x1 x2)) = (0 : Int32)
    · refine Go.via (U' := T77.setTop (mkF m 252 #[.val (.long x0), .second, .val (.long x1), .second, .val (.int x2), .val (.int x3), .val (.int (((x2 &&& (2147483647 : Int32)) % (10 : Int32)) + (1 : Int32))), .val (.ref b1), .val (.long (own_j0_186_l8 x0 x1 x2)), .second, .val (.ref b41), .val (.long (own_acc (own_w0_12 x0 x1 x2 x3) (0 : Int32) ((own_accN x2) + 1))), .second, .val (.long (own_acc (own_w0_12 x0 x1 x2 x3) ((0 : Int32) + Int32.ofNat ((own_accN x2) + 1)) (0 + 1))), .second] [])) (fun tG kG => XS.ifNo X77.here hx rfl (hb hby at_249) rfl ((if0 _ _).trans (teq hc249).2) kG) ?_
      refine Go.via (U' := T77.setTop (mkF m 254 #[.val (.long x0), .second, .val (.long x1), .second, .val (.int x2), .val (.int x3), .val (.int (((x2 &&& (2147483647 : Int32)) % (10 : Int32)) + (1 : Int32))), .val (.ref b1), .val (.long (own_j0_186_l8 x0 x1 x2)), .second, .val (.ref b41), .val (.long (own_acc (own_w0_12 x0 x1 x2 x3) (0 : Int32) ((own_accN x2) + 1))), .second, .val (.long (own_acc (own_w0_12 x0 x1 x2 x3) ((0 : Int32) + Int32.ofNat ((own_accN x2) + 1)) (0 + 1))), .second] [(.long (own_acc (own_w0_12 x0 x1 x2 x3) ((0 : Int32) + Int32.ofNat ((own_accN x2) + 1)) (0 + 1)))])) (fun tG kG => XS.lload X77.here hx rfl (hb hby at_252) rfl kG) ?_
      refine Go.via (U' := T77.setTop (mkF m 256 #[.val (.long x0), .second, .val (.long x1), .second, .val (.int x2), .val (.int x3), .val (.int (((x2 &&& (2147483647 : Int32)) % (10 : Int32)) + (1 : Int32))), .val (.ref b1), .val (.long (own_j0_186_l8 x0 x1 x2)), .second, .val (.ref b41), .val (.long (own_acc (own_w0_12 x0 x1 x2 x3) (0 : Int32) ((own_accN x2) + 1))), .second, .val (.long (own_acc (own_w0_12 x0 x1 x2 x3) ((0 : Int32) + Int32.ofNat ((own_accN x2) + 1)) (0 + 1))), .second] [(.int x3), (.long (own_acc (own_w0_12 x0 x1 x2 x3) ((0 : Int32) + Int32.ofNat ((own_accN x2) + 1)) (0 + 1)))])) (fun tG kG => XS.iload X77.here hx rfl (hb hby at_254) rfl kG) ?_
      refine Go.via (U' := T77.setTop (mkF m 258 #[.val (.long x0), .second, .val (.long x1), .second, .val (.int x2), .val (.int x3), .val (.int (((x2 &&& (2147483647 : Int32)) % (10 : Int32)) + (1 : Int32))), .val (.ref b1), .val (.long (own_j0_186_l8 x0 x1 x2)), .second, .val (.ref b41), .val (.long (own_acc (own_w0_12 x0 x1 x2 x3) (0 : Int32) ((own_accN x2) + 1))), .second, .val (.long (own_acc (own_w0_12 x0 x1 x2 x3) ((0 : Int32) + Int32.ofNat ((own_accN x2) + 1)) (0 + 1))), .second] [(.int (127 : Int32)), (.int x3), (.long (own_acc (own_w0_12 x0 x1 x2 x3) ((0 : Int32) + Int32.ofNat ((own_accN x2) + 1)) (0 + 1)))])) (fun tG kG => XS.bipush X77.here hx rfl (hb hby at_256) kG) ?_
      refine Go.via (U' := T77.setTop (mkF m 259 #[.val (.long x0), .second, .val (.long x1), .second, .val (.int x2), .val (.int x3), .val (.int (((x2 &&& (2147483647 : Int32)) % (10 : Int32)) + (1 : Int32))), .val (.ref b1), .val (.long (own_j0_186_l8 x0 x1 x2)), .second, .val (.ref b41), .val (.long (own_acc (own_w0_12 x0 x1 x2 x3) (0 : Int32) ((own_accN x2) + 1))), .second, .val (.long (own_acc (own_w0_12 x0 x1 x2 x3) ((0 : Int32) + Int32.ofNat ((own_accN x2) + 1)) (0 + 1))), .second] [(.int (x3 &&& (127 : Int32))), (.long (own_acc (own_w0_12 x0 x1 x2 x3) ((0 : Int32) + Int32.ofNat ((own_accN x2) + 1)) (0 + 1)))])) (fun tG kG => XS.iand X77.here hx rfl (hb hby at_258) rfl kG) ?_
      refine Go.via (U' := T77.setTop (mkF m 260 #[.val (.long x0), .second, .val (.long x1), .second, .val (.int x2), .val (.int x3), .val (.int (((x2 &&& (2147483647 : Int32)) % (10 : Int32)) + (1 : Int32))), .val (.ref b1), .val (.long (own_j0_186_l8 x0 x1 x2)), .second, .val (.ref b41), .val (.long (own_acc (own_w0_12 x0 x1 x2 x3) (0 : Int32) ((own_accN x2) + 1))), .second, .val (.long (own_acc (own_w0_12 x0 x1 x2 x3) ((0 : Int32) + Int32.ofNat ((own_accN x2) + 1)) (0 + 1))), .second] [(.long ((x3 &&& (127 : Int32)).toInt64)), (.long (own_acc (own_w0_12 x0 x1 x2 x3) ((0 : Int32) + Int32.ofNat ((own_accN x2) + 1)) (0 + 1)))])) (fun tG kG => XS.i2l X77.here hx rfl (hb hby at_259) rfl kG) ?_
      refine Go.via (U' := T77.setTop (mkF m 261 #[.val (.long x0), .second, .val (.long x1), .second, .val (.int x2), .val (.int x3), .val (.int (((x2 &&& (2147483647 : Int32)) % (10 : Int32)) + (1 : Int32))), .val (.ref b1), .val (.long (own_j0_186_l8 x0 x1 x2)), .second, .val (.ref b41), .val (.long (own_acc (own_w0_12 x0 x1 x2 x3) (0 : Int32) ((own_accN x2) + 1))), .second, .val (.long (own_acc (own_w0_12 x0 x1 x2 x3) ((0 : Int32) + Int32.ofNat ((own_accN x2) + 1)) (0 + 1))), .second] [(.int (lcmpW (own_acc (own_w0_12 x0 x1 x2 x3) ((0 : Int32) + Int32.ofNat ((own_accN x2) + 1)) (0 + 1)) ((x3 &&& (127 : Int32)).toInt64)))])) (fun tG kG => XS.lcmp X77.here hx rfl (hb hby at_260) rfl kG) ?_
      by_cases hc261 : (lcmpW (own_acc (own_w0_12 x0 x1 x2 x3) ((0 : Int32) + Int32.ofNat ((own_accN x2) + 1)) (0 + 1)) ((x3 &&& (127 : Int32)).toInt64)) = (0 : Int32)
      · refine Go.via (U' := T77.setTop (mkF m 264 #[.val (.long x0), .second, .val (.long x1), .second, .val (.int x2), .val (.int x3), .val (.int (((x2 &&& (2147483647 : Int32)) % (10 : Int32)) + (1 : Int32))), .val (.ref b1), .val (.long (own_j0_186_l8 x0 x1 x2)), .second, .val (.ref b41), .val (.long (own_acc (own_w0_12 x0 x1 x2 x3) (0 : Int32) ((own_accN x2) + 1))), .second, .val (.long (own_acc (own_w0_12 x0 x1 x2 x3) ((0 : Int32) + Int32.ofNat ((own_accN x2) + 1)) (0 + 1))), .second] [])) (fun tG kG => XS.ifNo X77.here hx rfl (hb hby at_261) rfl ((if0 _ _).trans (teq hc261).2) kG) ?_
        refine Go.via (U' := T77.setTop (mkF m 265 #[.val (.long x0), .second, .val (.long x1), .second, .val (.int x2), .val (.int x3), .val (.int (((x2 &&& (2147483647 : Int32)) % (10 : Int32)) + (1 : Int32))), .val (.ref b1), .val (.long (own_j0_186_l8 x0 x1 x2)), .second, .val (.ref b41), .val (.long (own_acc (own_w0_12 x0 x1 x2 x3) (0 : Int32) ((own_accN x2) + 1))), .second, .val (.long (own_acc (own_w0_12 x0 x1 x2 x3) ((0 : Int32) + Int32.ofNat ((own_accN x2) + 1)) (0 + 1))), .second] [(.int (1 : Int32))])) (fun tG kG => XS.iconst X77.here hx rfl (hb hby at_264) kG) ?_
        refine Go.via (U' := T77.setTop (mkF m 269 #[.val (.long x0), .second, .val (.long x1), .second, .val (.int x2), .val (.int x3), .val (.int (((x2 &&& (2147483647 : Int32)) % (10 : Int32)) + (1 : Int32))), .val (.ref b1), .val (.long (own_j0_186_l8 x0 x1 x2)), .second, .val (.ref b41), .val (.long (own_acc (own_w0_12 x0 x1 x2 x3) (0 : Int32) ((own_accN x2) + 1))), .second, .val (.long (own_acc (own_w0_12 x0 x1 x2 x3) ((0 : Int32) + Int32.ofNat ((own_accN x2) + 1)) (0 + 1))), .second] [(.int (1 : Int32))])) (fun tG kG => XS.goto X77.here hx rfl (pc0 := 265) (pc' := 269) rfl (hb hby at_265) (by decide) (by decide) kG) ?_
        exact go_retN X77 hx hlk (t := .boolean) hret (by simp) (hb hby at_269) rfl ⟨⟨(congrArg (fun z => some (Value.int z)) (show nar .boolean (1 : Int32) = (own_f0 x0 x1 x2 x3) from by unfold own_f0; simp only [if_pos hc249, if_pos hc261] <;> rfl)), N77, K77⟩, Zk77⟩ (by decide) (by decide)
      · refine Go.via (U' := T77.setTop (mkF m 268 #[.val (.long x0), .second, .val (.long x1), .second, .val (.int x2), .val (.int x3), .val (.int (((x2 &&& (2147483647 : Int32)) % (10 : Int32)) + (1 : Int32))), .val (.ref b1), .val (.long (own_j0_186_l8 x0 x1 x2)), .second, .val (.ref b41), .val (.long (own_acc (own_w0_12 x0 x1 x2 x3) (0 : Int32) ((own_accN x2) + 1))), .second, .val (.long (own_acc (own_w0_12 x0 x1 x2 x3) ((0 : Int32) + Int32.ofNat ((own_accN x2) + 1)) (0 + 1))), .second] [])) (fun tG kG => XS.ifYes X77.here hx rfl (pc0 := 261) (pc' := 268) rfl (hb hby at_261) rfl ((if0 _ _).trans (feq hc261).2) (by decide) (by decide) kG) ?_
        refine Go.via (U' := T77.setTop (mkF m 269 #[.val (.long x0), .second, .val (.long x1), .second, .val (.int x2), .val (.int x3), .val (.int (((x2 &&& (2147483647 : Int32)) % (10 : Int32)) + (1 : Int32))), .val (.ref b1), .val (.long (own_j0_186_l8 x0 x1 x2)), .second, .val (.ref b41), .val (.long (own_acc (own_w0_12 x0 x1 x2 x3) (0 : Int32) ((own_accN x2) + 1))), .second, .val (.long (own_acc (own_w0_12 x0 x1 x2 x3) ((0 : Int32) + Int32.ofNat ((own_accN x2) + 1)) (0 + 1))), .second] [(.int (0 : Int32))])) (fun tG kG => XS.iconst X77.here hx rfl (hb hby at_268) kG) ?_
        exact go_retN X77 hx hlk (t := .boolean) hret (by simp) (hb hby at_269) rfl ⟨⟨(congrArg (fun z => some (Value.int z)) (show nar .boolean (0 : Int32) = (own_f0 x0 x1 x2 x3) from by unfold own_f0; simp only [if_pos hc249, if_neg hc261] <;> rfl)), N77, K77⟩, Zk77⟩ (by decide) (by decide)
    · refine Go.via (U' := T77.setTop (mkF m 268 #[.val (.long x0), .second, .val (.long x1), .second, .val (.int x2), .val (.int x3), .val (.int (((x2 &&& (2147483647 : Int32)) % (10 : Int32)) + (1 : Int32))), .val (.ref b1), .val (.long (own_j0_186_l8 x0 x1 x2)), .second, .val (.ref b41), .val (.long (own_acc (own_w0_12 x0 x1 x2 x3) (0 : Int32) ((own_accN x2) + 1))), .second, .val (.long (own_acc (own_w0_12 x0 x1 x2 x3) ((0 : Int32) + Int32.ofNat ((own_accN x2) + 1)) (0 + 1))), .second] [])) (fun tG kG => XS.ifYes X77.here hx rfl (pc0 := 249) (pc' := 268) rfl (hb hby at_249) rfl ((if0 _ _).trans (feq hc249).2) (by decide) (by decide) kG) ?_
      refine Go.via (U' := T77.setTop (mkF m 269 #[.val (.long x0), .second, .val (.long x1), .second, .val (.int x2), .val (.int x3), .val (.int (((x2 &&& (2147483647 : Int32)) % (10 : Int32)) + (1 : Int32))), .val (.ref b1), .val (.long (own_j0_186_l8 x0 x1 x2)), .second, .val (.ref b41), .val (.long (own_acc (own_w0_12 x0 x1 x2 x3) (0 : Int32) ((own_accN x2) + 1))), .second, .val (.long (own_acc (own_w0_12 x0 x1 x2 x3) ((0 : Int32) + Int32.ofNat ((own_accN x2) + 1)) (0 + 1))), .second] [(.int (0 : Int32))])) (fun tG kG => XS.iconst X77.here hx rfl (hb hby at_268) kG) ?_
      exact go_retN X77 hx hlk (t := .boolean) hret (by simp) (hb hby at_269) rfl ⟨⟨(congrArg (fun z => some (Value.int z)) (show nar .boolean (0 : Int32) = (own_f0 x0 x1 x2 x3) from by unfold own_f0; simp only [if_neg hc249] <;> rfl)), N77, K77⟩, Zk77⟩ (by decide) (by decide)
  by_cases hc186 : (((x2 &&& (2147483647 : Int32)) % (10 : Int32)) + (1 : Int32)) = (10 : Int32)
  · refine GoW.via (U' := T33.setTop (mkF m 189 #[.val (.long x0), .second, .val (.long x1), .second, .val (.int x2), .val (.int x3), .val (.int (((x2 &&& (2147483647 : Int32)) % (10 : Int32)) + (1 : Int32))), .val (.ref b1), .unset, .unset, .unset, .unset, .unset, .unset, .unset] [])) (fun tG kG => XS.icmpNo X33.here hx rfl (hb hby at_186) rfl (teq hc186).2 kG) ?_
    refine GoW.via (U' := T33.setTop (mkF m 190 #[.val (.long x0), .second, .val (.long x1), .second, .val (.int x2), .val (.int x3), .val (.int (((x2 &&& (2147483647 : Int32)) % (10 : Int32)) + (1 : Int32))), .val (.ref b1), .unset, .unset, .unset, .unset, .unset, .unset, .unset] [(.long x0)])) (fun tG kG => XS.lloadN X33.here hx rfl (hb hby at_189) rfl kG) ?_
    refine GoW.via (U' := T33.setTop (mkF m 193 #[.val (.long x0), .second, .val (.long x1), .second, .val (.int x2), .val (.int x3), .val (.int (((x2 &&& (2147483647 : Int32)) % (10 : Int32)) + (1 : Int32))), .val (.ref b1), .unset, .unset, .unset, .unset, .unset, .unset, .unset] [(.long (9223372036854775807 : Int64)), (.long x0)])) (fun tG kG => X33.ldc2Long hx hown (mvT hZ (hw _ (List.mem_of_getElem? (i := 50) rfl))) (g := (mkF m 190 #[.val (.long x0), .second, .val (.long x1), .second, .val (.int x2), .val (.int x3), .val (.int (((x2 &&& (2147483647 : Int32)) % (10 : Int32)) + (1 : Int32))), .val (.ref b1), .unset, .unset, .unset, .unset, .unset, .unset, .unset] [(.long x0)])) rfl (hb hby at_190) tG kG) ?_
    refine GoW.via (U' := T33.setTop (mkF m 194 #[.val (.long x0), .second, .val (.long x1), .second, .val (.int x2), .val (.int x3), .val (.int (((x2 &&& (2147483647 : Int32)) % (10 : Int32)) + (1 : Int32))), .val (.ref b1), .unset, .unset, .unset, .unset, .unset, .unset, .unset] [(.long (x0 &&& (9223372036854775807 : Int64)))])) (fun tG kG => XS.land X33.here hx rfl (hb hby at_193) rfl kG) ?_
    refine GoW.via (U' := T33.setTop (mkF m 195 #[.val (.long x0), .second, .val (.long x1), .second, .val (.int x2), .val (.int x3), .val (.int (((x2 &&& (2147483647 : Int32)) % (10 : Int32)) + (1 : Int32))), .val (.ref b1), .unset, .unset, .unset, .unset, .unset, .unset, .unset] [(.long x1), (.long (x0 &&& (9223372036854775807 : Int64)))])) (fun tG kG => XS.lloadN X33.here hx rfl (hb hby at_194) rfl kG) ?_
    refine GoW.via (U' := T33.setTop (mkF m 197 #[.val (.long x0), .second, .val (.long x1), .second, .val (.int x2), .val (.int x3), .val (.int (((x2 &&& (2147483647 : Int32)) % (10 : Int32)) + (1 : Int32))), .val (.ref b1), .unset, .unset, .unset, .unset, .unset, .unset, .unset] [(.int (63 : Int32)), (.long x1), (.long (x0 &&& (9223372036854775807 : Int64)))])) (fun tG kG => XS.bipush X33.here hx rfl (hb hby at_195) kG) ?_
    refine GoW.via (U' := T33.setTop (mkF m 198 #[.val (.long x0), .second, .val (.long x1), .second, .val (.int x2), .val (.int x3), .val (.int (((x2 &&& (2147483647 : Int32)) % (10 : Int32)) + (1 : Int32))), .val (.ref b1), .unset, .unset, .unset, .unset, .unset, .unset, .unset] [(.long (x1 <<< ((63 : Int32) &&& 0x3f).toInt64)), (.long (x0 &&& (9223372036854775807 : Int64)))])) (fun tG kG => XS.lshl X33.here hx rfl (hb hby at_197) rfl kG) ?_
    refine GoW.via (U' := T33.setTop (mkF m 199 #[.val (.long x0), .second, .val (.long x1), .second, .val (.int x2), .val (.int x3), .val (.int (((x2 &&& (2147483647 : Int32)) % (10 : Int32)) + (1 : Int32))), .val (.ref b1), .unset, .unset, .unset, .unset, .unset, .unset, .unset] [(.long ((x0 &&& (9223372036854775807 : Int64)) ||| (x1 <<< ((63 : Int32) &&& 0x3f).toInt64)))])) (fun tG kG => XS.lor X33.here hx rfl (hb hby at_198) rfl kG) ?_
    refine GoW.via (U' := T33.setTop (mkF m 201 #[.val (.long x0), .second, .val (.long x1), .second, .val (.int x2), .val (.int x3), .val (.int (((x2 &&& (2147483647 : Int32)) % (10 : Int32)) + (1 : Int32))), .val (.ref b1), .val (.long ((x0 &&& (9223372036854775807 : Int64)) ||| (x1 <<< ((63 : Int32) &&& 0x3f).toInt64))), .second, .unset, .unset, .unset, .unset, .unset] [])) (fun tG kG => XS.lstore X33.here hx rfl (hb hby at_199) rfl (l' := #[.val (.long x0), .second, .val (.long x1), .second, .val (.int x2), .val (.int x3), .val (.int (((x2 &&& (2147483647 : Int32)) % (10 : Int32)) + (1 : Int32))), .val (.ref b1), .val (.long ((x0 &&& (9223372036854775807 : Int64)) ||| (x1 <<< ((63 : Int32) &&& 0x3f).toInt64))), .second, .unset, .unset, .unset, .unset, .unset]) rfl kG) ?_
    refine GoW.via (U' := T33.setTop (mkF m 217 #[.val (.long x0), .second, .val (.long x1), .second, .val (.int x2), .val (.int x3), .val (.int (((x2 &&& (2147483647 : Int32)) % (10 : Int32)) + (1 : Int32))), .val (.ref b1), .val (.long ((x0 &&& (9223372036854775807 : Int64)) ||| (x1 <<< ((63 : Int32) &&& 0x3f).toInt64))), .second, .unset, .unset, .unset, .unset, .unset] [])) (fun tG kG => XS.goto X33.here hx rfl (pc0 := 201) (pc' := 217) rfl (hb hby at_201) (by decide) (by decide) kG) ?_
    have q_own_j0_186_l8 : (own_j0_186_l8 x0 x1 x2) = ((x0 &&& (9223372036854775807 : Int64)) ||| (x1 <<< ((63 : Int32) &&& 0x3f).toInt64)) := by unfold own_j0_186_l8; simp only [if_pos hc186]
    have q_J := J35 T33 _ X33 e33 N33
    rw [q_own_j0_186_l8] at q_J
    exact q_J
  · refine GoW.via (U' := T33.setTop (mkF m 204 #[.val (.long x0), .second, .val (.long x1), .second, .val (.int x2), .val (.int x3), .val (.int (((x2 &&& (2147483647 : Int32)) % (10 : Int32)) + (1 : Int32))), .val (.ref b1), .unset, .unset, .unset, .unset, .unset, .unset, .unset] [])) (fun tG kG => XS.icmpYes X33.here hx rfl (pc0 := 186) (pc' := 204) rfl (hb hby at_186) rfl (feq hc186).2 (by decide) (by decide) kG) ?_
    refine GoW.via (U' := T33.setTop (mkF m 205 #[.val (.long x0), .second, .val (.long x1), .second, .val (.int x2), .val (.int x3), .val (.int (((x2 &&& (2147483647 : Int32)) % (10 : Int32)) + (1 : Int32))), .val (.ref b1), .unset, .unset, .unset, .unset, .unset, .unset, .unset] [(.long x0)])) (fun tG kG => XS.lloadN X33.here hx rfl (hb hby at_204) rfl kG) ?_
    refine GoW.via (U' := T33.setTop (mkF m 206 #[.val (.long x0), .second, .val (.long x1), .second, .val (.int x2), .val (.int x3), .val (.int (((x2 &&& (2147483647 : Int32)) % (10 : Int32)) + (1 : Int32))), .val (.ref b1), .unset, .unset, .unset, .unset, .unset, .unset, .unset] [(.long (1 : Int64)), (.long x0)])) (fun tG kG => XS.lconst X33.here hx rfl (hb hby at_205) kG) ?_
    refine GoW.via (U' := T33.setTop (mkF m 208 #[.val (.long x0), .second, .val (.long x1), .second, .val (.int x2), .val (.int x3), .val (.int (((x2 &&& (2147483647 : Int32)) % (10 : Int32)) + (1 : Int32))), .val (.ref b1), .unset, .unset, .unset, .unset, .unset, .unset, .unset] [(.int (7 : Int32)), (.long (1 : Int64)), (.long x0)])) (fun tG kG => XS.bipush X33.here hx rfl (hb hby at_206) kG) ?_
    refine GoW.via (U' := T33.setTop (mkF m 210 #[.val (.long x0), .second, .val (.long x1), .second, .val (.int x2), .val (.int x3), .val (.int (((x2 &&& (2147483647 : Int32)) % (10 : Int32)) + (1 : Int32))), .val (.ref b1), .unset, .unset, .unset, .unset, .unset, .unset, .unset] [(.int (((x2 &&& (2147483647 : Int32)) % (10 : Int32)) + (1 : Int32))), (.int (7 : Int32)), (.long (1 : Int64)), (.long x0)])) (fun tG kG => XS.iload X33.here hx rfl (hb hby at_208) rfl kG) ?_
    refine GoW.via (U' := T33.setTop (mkF m 211 #[.val (.long x0), .second, .val (.long x1), .second, .val (.int x2), .val (.int x3), .val (.int (((x2 &&& (2147483647 : Int32)) % (10 : Int32)) + (1 : Int32))), .val (.ref b1), .unset, .unset, .unset, .unset, .unset, .unset, .unset] [(.int ((7 : Int32) * (((x2 &&& (2147483647 : Int32)) % (10 : Int32)) + (1 : Int32)))), (.long (1 : Int64)), (.long x0)])) (fun tG kG => XS.imul X33.here hx rfl (hb hby at_210) rfl kG) ?_
    refine GoW.via (U' := T33.setTop (mkF m 212 #[.val (.long x0), .second, .val (.long x1), .second, .val (.int x2), .val (.int x3), .val (.int (((x2 &&& (2147483647 : Int32)) % (10 : Int32)) + (1 : Int32))), .val (.ref b1), .unset, .unset, .unset, .unset, .unset, .unset, .unset] [(.long ((1 : Int64) <<< (((7 : Int32) * (((x2 &&& (2147483647 : Int32)) % (10 : Int32)) + (1 : Int32))) &&& 0x3f).toInt64)), (.long x0)])) (fun tG kG => XS.lshl X33.here hx rfl (hb hby at_211) rfl kG) ?_
    refine GoW.via (U' := T33.setTop (mkF m 213 #[.val (.long x0), .second, .val (.long x1), .second, .val (.int x2), .val (.int x3), .val (.int (((x2 &&& (2147483647 : Int32)) % (10 : Int32)) + (1 : Int32))), .val (.ref b1), .unset, .unset, .unset, .unset, .unset, .unset, .unset] [(.long (1 : Int64)), (.long ((1 : Int64) <<< (((7 : Int32) * (((x2 &&& (2147483647 : Int32)) % (10 : Int32)) + (1 : Int32))) &&& 0x3f).toInt64)), (.long x0)])) (fun tG kG => XS.lconst X33.here hx rfl (hb hby at_212) kG) ?_
    refine GoW.via (U' := T33.setTop (mkF m 214 #[.val (.long x0), .second, .val (.long x1), .second, .val (.int x2), .val (.int x3), .val (.int (((x2 &&& (2147483647 : Int32)) % (10 : Int32)) + (1 : Int32))), .val (.ref b1), .unset, .unset, .unset, .unset, .unset, .unset, .unset] [(.long (own_w0_13 x2)), (.long x0)])) (fun tG kG => XS.lsub X33.here hx rfl (hb hby at_213) rfl kG) ?_
    refine GoW.via (U' := T33.setTop (mkF m 215 #[.val (.long x0), .second, .val (.long x1), .second, .val (.int x2), .val (.int x3), .val (.int (((x2 &&& (2147483647 : Int32)) % (10 : Int32)) + (1 : Int32))), .val (.ref b1), .unset, .unset, .unset, .unset, .unset, .unset, .unset] [(.long (x0 &&& (own_w0_13 x2)))])) (fun tG kG => XS.land X33.here hx rfl (hb hby at_214) rfl kG) ?_
    refine GoW.via (U' := T33.setTop (mkF m 217 #[.val (.long x0), .second, .val (.long x1), .second, .val (.int x2), .val (.int x3), .val (.int (((x2 &&& (2147483647 : Int32)) % (10 : Int32)) + (1 : Int32))), .val (.ref b1), .val (.long (x0 &&& (own_w0_13 x2))), .second, .unset, .unset, .unset, .unset, .unset] [])) (fun tG kG => XS.lstore X33.here hx rfl (hb hby at_215) rfl (l' := #[.val (.long x0), .second, .val (.long x1), .second, .val (.int x2), .val (.int x3), .val (.int (((x2 &&& (2147483647 : Int32)) % (10 : Int32)) + (1 : Int32))), .val (.ref b1), .val (.long (x0 &&& (own_w0_13 x2))), .second, .unset, .unset, .unset, .unset, .unset]) rfl kG) ?_
    have q_own_j0_186_l8 : (own_j0_186_l8 x0 x1 x2) = (x0 &&& (own_w0_13 x2)) := by unfold own_j0_186_l8; simp only [if_neg hc186]
    have q_J := J35 T33 _ X33 e33 N33
    rw [q_own_j0_186_l8] at q_J
    exact q_J
theorem own_cmp0 (x y : Int64) : lcmpW x y = 0 ↔ x = y := by
  show (if x > y then (1 : Int32) else if x = y then 0 else -1) = 0 ↔ x = y
  by_cases a : y < x
  · rw [if_pos a]
    exact ⟨fun q => absurd q (by decide), fun q => absurd (q ▸ a) (Int64.lt_irrefl)⟩
  · rw [if_neg a]
    by_cases b : x = y
    · rw [if_pos b]; exact ⟨fun _ => b, fun _ => rfl⟩
    · rw [if_neg b]; exact ⟨fun q => absurd q (by decide), fun q => absurd q b⟩
/-- the groups below k and the group at k: the groups below k + 7 -/
theorem own_grp (x : BitVec 64) (k : Nat) (hk : k + 7 ≤ 64) : (x &&& BitVec.ofNat 64 (2 ^ k - 1)) ||| (((x >>> k) &&& 127#64) <<< k) = x &&& BitVec.ofNat 64 (2 ^ (k + 7) - 1) := by
  apply BitVec.eq_of_getLsbD_eq
  intro i hi
  have m : ∀ j, (127#64).getLsbD j = decide (j < 7) := by
    intro j
    rw [show (127#64) = BitVec.ofNat 64 (2 ^ 7 - 1) from rfl, BitVec.getLsbD_ofNat, Nat.testBit_two_pow_sub_one]
    by_cases h : j < 7
    · simp [h]; omega
    · simp [h]
  simp only [BitVec.getLsbD_or, BitVec.getLsbD_and, BitVec.getLsbD_shiftLeft, BitVec.getLsbD_ushiftRight, BitVec.getLsbD_ofNat, Nat.testBit_two_pow_sub_one, m, hi]
  by_cases h : i < k
  · simp [h, show i < k + 7 by omega]
  · by_cases g : i < k + 7
    · simp [h, g, show i - k < 7 by omega, show k + (i - k) = i by omega]
    · simp [h, g, show ¬ (i - k < 7) by omega]
theorem own_top (x : BitVec 64) : (x &&& 127#64) <<< 63 = x <<< 63 := by
  apply BitVec.eq_of_getLsbD_eq
  intro i hi
  simp only [BitVec.getLsbD_shiftLeft, BitVec.getLsbD_and]
  by_cases h : i < 63
  · simp [h]
  · have e : i = 63 := by omega
    subst e
    simp
theorem own_wid (v : Int64) : (v &&& (127 : Int64)).toInt32.toInt64 = v &&& (127 : Int64) := by
  have a := c_maskL v 127 7 (by decide) (by decide)
  have b := c_l2i (v &&& 127)
  have r := rng32 (v &&& (127 : Int64)).toInt32
  apply Int64.toInt_inj.mp
  rw [c_i2l]
  omega
theorem own_F127 (x0 x1 : Int64) (x2 x3 : Int32) {t : Nat} (h : t ≤ own_accN x2) : (own_w0_12 x0 x1 x2 x3 t) &&& (127 : Int32) = own_j1_22_s0 (Int32.ofNat t) x0 x1 := by
  have m := c_mask (own_w0_12 x0 x1 x2 x3 t) 127 7 (by decide) (by decide)
  have r := own_jr (Int32.ofNat t) x0 x1
  apply Int32.toInt_inj.mp
  by_cases k : t < own_accN x2
  · have q := own_Fgo x0 x1 x2 x3 k
    omega
  · have e : t = own_accN x2 := by omega
    subst e
    have q := own_Fend x0 x1 x2 x3
    omega
theorem own_le8 {i : Nat} (h : i < 9) : i = 0 ∨ i = 1 ∨ i = 2 ∨ i = 3 ∨ i = 4 ∨ i = 5 ∨ i = 6 ∨ i = 7 ∨ i = 8 := by omega
theorem own_stp (a x0 : Int64) {t : Nat} (h : t < 9) : (a ||| (((own_ushrL x0 ((7 : Int32) * Int32.ofNat t)) &&& (127 : Int64)) <<< (((7 : Int32) * (Int32.ofNat t)) &&& 0x3f).toInt64)).toBitVec = a.toBitVec ||| (((x0.toBitVec >>> (7 * t)) &&& 127#64) <<< (7 * t)) := by
  rcases own_le8 h with rfl | rfl | rfl | rfl | rfl | rfl | rfl | rfl | rfl <;> rfl
theorem own_accv (x0 x1 : Int64) (x2 x3 : Int32) : ∀ t, t ≤ own_accN x2 + 1 → t ≤ 9 → (own_acc (own_w0_12 x0 x1 x2 x3) (0 : Int32) t).toBitVec = x0.toBitVec &&& BitVec.ofNat 64 (2 ^ (7 * t) - 1)
  | 0, _, _ => by
    show (0 : BitVec 64) = x0.toBitVec &&& BitVec.ofNat 64 (2 ^ 0 - 1)
    simp
  | t + 1, h, h9 => by
    have ih := own_accv x0 x1 x2 x3 t (by omega) (by omega)
    rw [← own_accs, own_clamp (by omega), own_F127 x0 x1 x2 x3 (by omega)]
    unfold own_j1_22_s0
    rw [if_pos (by rw [Int32.lt_iff_toInt_lt, own_ofN (by omega), show (9 : Int32).toInt = 9 from rfl]; omega), own_wid, own_stp _ _ (by omega), ih, own_grp _ _ (by omega), show 7 * (t + 1) = 7 * t + 7 from by omega]
theorem own_msk {N : Nat} (h : N < 9) : (((1 : Int64) <<< (((7 : Int32) * Int32.ofNat (N + 1)) &&& 0x3f).toInt64) - (1 : Int64)).toBitVec = BitVec.ofNat 64 (2 ^ (7 * (N + 1)) - 1) := by
  rcases own_le8 h with rfl | rfl | rfl | rfl | rfl | rfl | rfl | rfl | rfl <;> decide
theorem own_p1 (x0 x1 : Int64) (x2 x3 : Int32) : own_acc (own_w0_12 x0 x1 x2 x3) (0 : Int32) (own_accN x2 + 1) = own_j0_186_l8 x0 x1 x2 := by
  have n := own_Nr x2
  unfold own_j0_186_l8 own_w0_13
  rw [n.2]
  by_cases h : own_accN x2 = 9
  · have q := own_accv x0 x1 x2 x3 9 (by omega) (by omega)
    rw [h, if_pos (by decide), ← own_accs, own_clamp (by omega), own_F127 x0 x1 x2 x3 (by omega)]
    unfold own_j1_22_s0
    rw [if_neg (by decide), own_wid]
    apply Int64.toBitVec_inj.mp
    show (own_acc (own_w0_12 x0 x1 x2 x3) (0 : Int32) 9).toBitVec ||| ((x1.toBitVec &&& 127#64) <<< 63) = (x0.toBitVec &&& BitVec.ofNat 64 (2 ^ (7 * 9) - 1)) ||| (x1.toBitVec <<< 63)
    rw [q, own_top]
  · rw [if_neg (fun e => by
      have e1 := congrArg Int32.toInt e
      rw [own_ofN (by omega), show (10 : Int32).toInt = 10 from rfl] at e1
      omega)]
    apply Int64.toBitVec_inj.mp
    rw [own_accv x0 x1 x2 x3 _ (Nat.le_refl _) (by omega), ← own_msk (by omega)]
    rfl
theorem own_p2 (x0 x1 : Int64) (x2 x3 : Int32) : own_acc (own_w0_12 x0 x1 x2 x3) ((0 : Int32) + Int32.ofNat ((own_accN x2) + 1)) (0 + 1) = (x3 &&& (127 : Int32)).toInt64 := by
  have n := own_Nr x2
  rw [← own_accs, own_u0, own_clamp (by omega), own_Fmark]
  have e : (x3 &&& (127 : Int32)) &&& (127 : Int32) = x3 &&& (127 : Int32) := by rw [Int32.and_assoc]; rfl
  rw [e]
  apply Int64.toBitVec_inj.mp
  show 0#64 ||| ((x3 &&& (127 : Int32)).toInt64.toBitVec <<< 0) = (x3 &&& (127 : Int32)).toInt64.toBitVec
  simp
theorem own_plain (x0 x1 : Int64) (x2 x3 : Int32) : own_f0 x0 x1 x2 x3 = 1 := by
  unfold own_f0
  rw [if_pos ((own_cmp0 _ _).mpr (own_p1 x0 x1 x2 x3)), if_pos ((own_cmp0 _ _).mpr (own_p2 x0 x1 x2 x3))]
set_option maxRecDepth 65536 in
set_option maxHeartbeats 40000000 in
theorem own_comes {Post : Tables → Env → Array Value → State → Outcome → State → Prop} (hpost : ∀ tb e args s v u, (limb_1_1.after args s (.returned v) u = true ∧ limb_1_2.after args s (.returned v) u = true) → ReturnedEndW s (.returned v) u (Jvm.fieldLocs frame_1_writes args s ++ Jvm.arrayLocs frame_1_arrays args s ++ Jvm.staticLocs frame_1_statics s) 16 1152 → Post tb e args s (.returned v) u) :
    ArmFor flags0 classFile x code maxLocals ret World_1 tables_1 room_1 Calls_1 rest_1 Pre_1 Post := by
  intro l hfl _ _ p e ha hc hk s m args below hf hA hF happ hP
  obtain ⟨hcalls, hrest, hpre⟩ := hP
  obtain ⟨-, -, -, hnamed, -, -, -, hat⟩ := (Spec.applies_iff hf).mp happ
  obtain ⟨hg, hn⟩ := and_e (Cond.before_iff.mp (show (Jvm.Cond.and given_1 narrow_1).before args s = true from hpre))
  obtain ⟨hcnt, hg⟩ := and_e hg
  obtain ⟨w0, w1, w2, w3, rfl⟩ : ∃ w0 w1 w2 w3 : Value, args = #[w0, w1, w2, w3] := by
    have hs : args.size = 4 := by simpa [Cond.value, given_1] using hcnt
    obtain ⟨L⟩ := args
    match L, hs with
    | [w0, w1, w2, w3], _ => exact ⟨w0, w1, w2, w3, rfl⟩
  have hw := fun d (hd : d ∈ tables_1) => atoms_spec (ws := Jvm.Cond.code x code maxLocals ret :: tables_1) hat d (List.mem_cons_of_mem _ hd)
  have hfit : Fit s := fun {y c} hc i hi => by
    obtain ⟨ha, rfl⟩ := Array.getElem?_eq_some_iff.mp hc
    have q := List.all_eq_true.mp ((Array.all_eq_true_iff_forall_mem.mp hF) _ (Array.getElem_mem ha)) i (List.mem_range.mpr hi)
    simpa [Array.getElem?_eq_getElem hi] using q
  obtain ⟨hg0, hg⟩ := and_e hg
  obtain ⟨i0, ei0⟩ := isL_v hg0
  obtain rfl : w0 = (.long i0) := Option.some.inj ei0
  obtain ⟨hg1, hg⟩ := and_e hg
  obtain ⟨i1, ei1⟩ := isL_v hg1
  obtain rfl : w1 = (.long i1) := Option.some.inj ei1
  obtain ⟨hg2, hg⟩ := and_e hg
  obtain ⟨i2, ei2⟩ := is_v hg2
  obtain rfl : w2 = (.int i2) := Option.some.inj ei2
  obtain ⟨i3, ei3⟩ := is_v hg
  obtain rfl : w3 = (.int i3) := Option.some.inj ei3
  obtain ⟨n, o, h1, h2, h3, _, L, rfl, ⟨rfl, N, -⟩, hq⟩ := own_rm0 l s _ hw tables_1 i0 i1 i2 i3 s.heap s.heap.size (Nat.le_refl _) p e ha hc hk s m _ below hf ((Spec.applies_iff_loose hf).mp happ).1 ⟨rfl, State.Warmed39.refl s, rfl⟩ trivial
  refine ⟨n, _, h1, h2, h3, hpost _ _ _ _ _ _ ⟨Cond.after_iff.mpr rfl, Cond.after_iff.mpr (eq_i res_at (Term.int_eval (1)) (congrArg Value.int (own_plain i0 i1 i2 i3)))⟩ ⟨hq.1, hq.2.1, hq.2.2.1, (hq.2.2.2.sift fun y hy => Or.inr (N y hy)).mono (by decide) (by decide)⟩⟩
theorem main_1_1 : Claimed_1_1 := own_comes fun _ _ _ _ _ _ h hF => ⟨h.1, hF⟩
theorem main_1_2 : Claimed_1_2 := own_comes fun _ _ _ _ _ _ h hF => ⟨h.2, hF⟩
end Jvm.Pilot.@@N@@
namespace Jvm.Pilot.@@N@@
open Jvm Jvm.ClassFile Sem Op Lib Jvm.Free Jvm.Stand Jvm.Pilot.@@N@@.Jvm.D
/-! MADE BY PROGRAM (witnessworld.py) out of the Statement's table words and the real class files: 14 classes; the members and pool entries that the words name. The judged class is class 1, her method 2. -/
namespace start1
open Jvm.ClassFile
def u (s : String) : CpInfo := .utf8 (stringToUtf16 s)
/-- a pool by its gaps: so many unusable entries, then the entry; so many at the end -/
def gap : Nat → List CpInfo → List CpInfo
  | 0, r => r
  | n + 1, r => .unusable :: gap n r
def poolList (es : List (Nat × CpInfo)) (last : Nat) : List CpInfo := es.foldr (fun e r => gap e.1 (e.2 :: r)) (gap last [])
def pool (es : List (Nat × CpInfo)) (last : Nat) : Array CpInfo := ⟨poolList es last⟩
def fileOf (pool : Array CpInfo) (this : Nat) (attrs : Array Attribute := #[]) (ms : Array MethodInfo := #[]) (fl : Nat := 33) (sup : Nat := 0) (ifs : Array Nat := #[]) (fds : Array FieldInfo := #[]) : ClassFile where
  minorVersion := 0
  majorVersion := 65
  constantPool := pool
  accessFlags := fl
  thisClass := this
  superClass := sup
  interfaces := ifs
  fields := fds
  methods := ms
  attributes := attrs
def plain (name : String) (sup : Option ClassId) : Class where
  name := name
  kind := .ordinary
  loader := none
  accessFlags := 33
  super := sup
  interfaces := #[]
  cf := none
  fields := #[]
  methods := #[]
  instanceTypes := #[]
  staticTypes := #[]
  resolved := #[]
  callSites := []
  init := .initialized
  statics := none
  mirror := none

def pool0 : Array CpInfo := pool [(5, u "<init>"), (0, u "()V"), (1, .class_ 10), (1, u "java/lang/Object")] 113

def k0c0 : Code := { maxStack := 0, maxLocals := 1, code := object_method_1_code, exceptionTable := #[], attributes := #[] }
def k0m0 : Method := { name := "<init>", desc := "()V", sig := { parameters := [], returnType := none }, accessFlags := 1, code := some k0c0 }
/-- java/lang/Object -/
def k0 : Class := { plain "java/lang/Object" none with
  accessFlags := 33
  interfaces := #[]
  cf := some (fileOf pool0 8 #[] #[{ accessFlags := 1, nameIndex := 5, descriptorIndex := 6, attributes := #[] }] 33 0 #[] #[])
  fields := #[]
  methods := #[k0m0]
  instanceTypes := #[]
  staticTypes := #[]
  resolved := Array.replicate 124 none
  statics := none }

def pool1 : Array CpInfo := pool [(2, .class_ 4), (1, u "java/lang/Object"), (0, u "<init>"), (0, u "()V"), (0, .long 127), (1, .integer 2147483647), (0, .methodref 11 12), (0, .class_ 13), (0, .nameAndType 14 15), (0, u "com/example/stokehold/stokehold/wire/ProtoReaderReadVarintPinLaw"), (0, u "cell"), (0, u "(IIJJI)B"), (2, .long 9223372036854775807), (1, .class_ 21), (0, u "com/example/stokehold/stokehold/wire/ProtoReader"), (0, .string 23), (0, u "m"), (0, .methodref 20 25), (0, .nameAndType 5 26), (0, u "([BLjava/lang/String;)V"), (0, .methodref 20 28), (0, .nameAndType 29 30), (0, u "readVarint"), (0, u "()J"), (3, u "law"), (0, u "(JJII)Z")] 7

def k1m0 : Method := { name := "<init>", desc := "()V", sig := { parameters := [], returnType := none }, accessFlags := 2, code := none }
def k1c1 : Code := { maxStack := 4, maxLocals := 8, code := method_2_code, exceptionTable := #[], attributes := #[] }
def k1m1 : Method := { name := "cell", desc := "(IIJJI)B", sig := { parameters := [.int, .int, .long, .long, .int], returnType := some .byte }, accessFlags := 10, code := some k1c1 }
def k1c2 : Code := { maxStack := 9, maxLocals := 15, code := code, exceptionTable := #[], attributes := #[] }
def k1m2 : Method := { name := "law", desc := "(JJII)Z", sig := { parameters := [.long, .long, .int, .int], returnType := some .boolean }, accessFlags := 9, code := some k1c2 }
/-- com/example/stokehold/stokehold/wire/ProtoReaderReadVarintPinLaw -/
def k1 : Class := { plain "com/example/stokehold/stokehold/wire/ProtoReaderReadVarintPinLaw" (some 0) with
  accessFlags := 49
  interfaces := #[]
  cf := some (fileOf pool1 11 #[] #[{ accessFlags := 2, nameIndex := 5, descriptorIndex := 6, attributes := #[] }, { accessFlags := 10, nameIndex := 14, descriptorIndex := 15, attributes := #[] }, { accessFlags := 9, nameIndex := 34, descriptorIndex := 35, attributes := #[] }] 49 2 #[] #[])
  fields := #[]
  methods := #[k1m0, k1m1, k1m2]
  instanceTypes := #[]
  staticTypes := #[]
  resolved := Array.replicate 43 none
  statics := none }

def pool2 : Array CpInfo := pool [(1, .methodref 2 3), (0, .class_ 4), (0, .nameAndType 5 6), (0, u "com/example/stokehold/stokehold/wire/ProtoReader"), (0, u "<init>"), (0, u "([BIILjava/lang/String;)V"), (0, .methodref 8 9), (0, .class_ 10), (0, .nameAndType 5 11), (0, u "java/lang/Object"), (0, u "()V"), (0, .fieldref 2 13), (0, .nameAndType 14 15), (0, u "bytes"), (0, u "[B"), (0, .fieldref 2 17), (0, .nameAndType 18 19), (0, u "available"), (0, u "I"), (0, .fieldref 2 21), (0, .nameAndType 22 19), (0, u "end"), (0, .fieldref 2 24), (0, .nameAndType 25 26), (0, u "name"), (0, u "Ljava/lang/String;"), (12, u "(I)V"), (19, u "([BLjava/lang/String;)V"), (2, u "readVarint"), (0, u "()J"), (39, .class_ 105), (1, u "com/example/stokehold/stokehold/wire/ProtoReader$Decoder"), (2, .class_ 109), (0, u "com/example/stokehold/stokehold/wire/ProtoReader$MoreBytesNeeded"), (0, .fieldref 2 111), (0, .nameAndType 112 19), (0, u "position"), (6, .methodref 2 120), (0, .nameAndType 121 122), (0, u "atEnd"), (0, u "()Z"), (2, .methodref 2 126), (0, .nameAndType 127 39), (0, u "needBytes"), (56, u "VARINT"), (2, u "FIXED64"), (1, u "LENGTH_DELIMITED"), (1, u "FIXED32"), (1, u "MAX_VARINT_BYTES"), (1, u "MAX_FIELD_NUMBER"), (0, u "J"), (0, u "FIRST_BUFFER_BYTES")] 47

def k2c0 : Code := { maxStack := 5, maxLocals := 3, code := prog_14_method_1_code, exceptionTable := #[], attributes := #[] }
def k2m0 : Method := { name := "<init>", desc := "([BLjava/lang/String;)V", sig := { parameters := [(.array .byte), (.object "java/lang/String")], returnType := none }, accessFlags := 1, code := some k2c0 }
def k2c1 : Code := { maxStack := 2, maxLocals := 5, code := prog_14_method_2_code, exceptionTable := #[], attributes := #[] }
def k2m1 : Method := { name := "<init>", desc := "([BIILjava/lang/String;)V", sig := { parameters := [(.array .byte), .int, .int, (.object "java/lang/String")], returnType := none }, accessFlags := 2, code := some k2c1 }
def k2c2 : Code := { maxStack := 2, maxLocals := 1, code := prog_14_method_4_code, exceptionTable := #[], attributes := #[] }
def k2m2 : Method := { name := "atEnd", desc := "()Z", sig := { parameters := [], returnType := some .boolean }, accessFlags := 1, code := some k2c2 }
def k2c3 : Code := { maxStack := 6, maxLocals := 5, code := prog_14_method_6_code, exceptionTable := #[], attributes := #[] }
def k2m3 : Method := { name := "readVarint", desc := "()J", sig := { parameters := [], returnType := some .long }, accessFlags := 1, code := some k2c3 }
def k2c4 : Code := { maxStack := 3, maxLocals := 2, code := prog_14_method_11_code, exceptionTable := #[], attributes := #[] }
def k2m4 : Method := { name := "needBytes", desc := "(I)V", sig := { parameters := [.int], returnType := none }, accessFlags := 2, code := some k2c4 }
/-- com/example/stokehold/stokehold/wire/ProtoReader -/
def k2 : Class := { plain "com/example/stokehold/stokehold/wire/ProtoReader" (some 0) with
  accessFlags := 49
  interfaces := #[]
  cf := some (fileOf pool2 2 #[.nestMembers #[108, 103]] #[{ accessFlags := 1, nameIndex := 5, descriptorIndex := 59, attributes := #[] }, { accessFlags := 2, nameIndex := 5, descriptorIndex := 6, attributes := #[] }, { accessFlags := 1, nameIndex := 121, descriptorIndex := 122, attributes := #[] }, { accessFlags := 1, nameIndex := 62, descriptorIndex := 63, attributes := #[] }, { accessFlags := 2, nameIndex := 127, descriptorIndex := 39, attributes := #[] }] 49 8 #[] #[{ accessFlags := 25, nameIndex := 184, descriptorIndex := 19, attributes := #[] }, { accessFlags := 25, nameIndex := 187, descriptorIndex := 19, attributes := #[] }, { accessFlags := 25, nameIndex := 189, descriptorIndex := 19, attributes := #[] }, { accessFlags := 25, nameIndex := 191, descriptorIndex := 19, attributes := #[] }, { accessFlags := 26, nameIndex := 193, descriptorIndex := 19, attributes := #[] }, { accessFlags := 26, nameIndex := 195, descriptorIndex := 196, attributes := #[] }, { accessFlags := 26, nameIndex := 197, descriptorIndex := 19, attributes := #[] }, { accessFlags := 18, nameIndex := 14, descriptorIndex := 15, attributes := #[] }, { accessFlags := 18, nameIndex := 18, descriptorIndex := 19, attributes := #[] }, { accessFlags := 18, nameIndex := 22, descriptorIndex := 19, attributes := #[] }, { accessFlags := 18, nameIndex := 25, descriptorIndex := 26, attributes := #[] }, { accessFlags := 2, nameIndex := 112, descriptorIndex := 19, attributes := #[] }])
  fields := #[{ name := "VARINT", type := .int, accessFlags := 25, slot := 0, constantValue := 0 }, { name := "FIXED64", type := .int, accessFlags := 25, slot := 1, constantValue := 0 }, { name := "LENGTH_DELIMITED", type := .int, accessFlags := 25, slot := 2, constantValue := 0 }, { name := "FIXED32", type := .int, accessFlags := 25, slot := 3, constantValue := 0 }, { name := "MAX_VARINT_BYTES", type := .int, accessFlags := 26, slot := 4, constantValue := 0 }, { name := "MAX_FIELD_NUMBER", type := .long, accessFlags := 26, slot := 5, constantValue := 0 }, { name := "FIRST_BUFFER_BYTES", type := .int, accessFlags := 26, slot := 6, constantValue := 0 }, { name := "bytes", type := (.array .byte), accessFlags := 18, slot := 0, constantValue := 0 }, { name := "available", type := .int, accessFlags := 18, slot := 1, constantValue := 0 }, { name := "end", type := .int, accessFlags := 18, slot := 2, constantValue := 0 }, { name := "name", type := (.object "java/lang/String"), accessFlags := 18, slot := 3, constantValue := 0 }, { name := "position", type := .int, accessFlags := 2, slot := 4, constantValue := 0 }]
  methods := #[k2m0, k2m1, k2m2, k2m3, k2m4]
  instanceTypes := #[(.array .byte), .int, .int, (.object "java/lang/String"), .int]
  staticTypes := #[.int, .int, .int, .int, .int, .long, .int]
  resolved := Array.replicate 245 none
  statics := none }

def pool3 : Array CpInfo := pool [(1, .class_ 2), (0, u "java/io/Serializable"), (0, .class_ 4), (0, u "java/lang/Object")] 2

/-- java/io/Serializable -/
def k3 : Class := { plain "java/io/Serializable" (some 0) with
  accessFlags := 1537
  interfaces := #[]
  cf := some (fileOf pool3 1 #[] #[] 1537 3 #[] #[])
  fields := #[]
  methods := #[]
  instanceTypes := #[]
  staticTypes := #[]
  resolved := Array.replicate 7 none
  statics := none }

def pool4 : Array CpInfo := pool [(1, .class_ 2), (0, u "java/lang/Comparable"), (0, .class_ 4), (0, u "java/lang/Object")] 7

/-- java/lang/Comparable -/
def k4 : Class := { plain "java/lang/Comparable" (some 0) with
  accessFlags := 1537
  interfaces := #[]
  cf := some (fileOf pool4 1 #[] #[] 1537 3 #[] #[])
  fields := #[]
  methods := #[]
  instanceTypes := #[]
  staticTypes := #[]
  resolved := Array.replicate 12 none
  statics := none }

def pool5 : Array CpInfo := pool [(2, .class_ 4), (1, u "java/lang/CharSequence"), (42, .class_ 48), (0, u "java/lang/CharSequence$1CodePointIterator"), (10, .class_ 60), (0, u "java/lang/CharSequence$1CharIterator"), (5, .class_ 67), (0, u "java/lang/Object")] 63

/-- java/lang/CharSequence -/
def k5 : Class := { plain "java/lang/CharSequence" (some 0) with
  accessFlags := 1537
  interfaces := #[]
  cf := some (fileOf pool5 2 #[.nestMembers #[47, 59]] #[] 1537 66 #[] #[])
  fields := #[]
  methods := #[]
  instanceTypes := #[]
  staticTypes := #[]
  resolved := Array.replicate 131 none
  statics := none }

def pool6 : Array CpInfo := pool [(1, .class_ 2), (0, u "java/lang/constant/Constable"), (0, .class_ 4), (0, u "java/lang/Object")] 6

/-- java/lang/constant/Constable -/
def k6 : Class := { plain "java/lang/constant/Constable" (some 0) with
  accessFlags := 1537
  interfaces := #[]
  cf := some (fileOf pool6 1 #[] #[] 1537 3 #[] #[])
  fields := #[]
  methods := #[]
  instanceTypes := #[]
  staticTypes := #[]
  resolved := Array.replicate 11 none
  statics := none }

def pool7 : Array CpInfo := pool [(1, .class_ 2), (0, u "java/lang/constant/ConstantDesc"), (0, .class_ 4), (0, u "java/lang/Object")] 32

/-- java/lang/constant/ConstantDesc -/
def k7 : Class := { plain "java/lang/constant/ConstantDesc" (some 0) with
  accessFlags := 1537
  interfaces := #[]
  cf := some (fileOf pool7 1 #[] #[] 1537 3 #[] #[])
  fields := #[]
  methods := #[]
  instanceTypes := #[]
  staticTypes := #[]
  resolved := Array.replicate 37 none
  statics := none }

def pool8 : Array CpInfo := pool [(2, .class_ 4), (1, u "java/lang/Object"), (0, u "<init>"), (0, u "()V"), (3, .class_ 12), (1, u "java/lang/String"), (0, u "value"), (0, u "[B"), (2, u "coder"), (0, u "B"), (2, u "hash"), (0, u "I"), (2, u "hashIsZero"), (0, u "Z"), (13, u "COMPACT_STRINGS"), (534, .class_ 576), (0, u "java/lang/CharSequence"), (22, u "CASE_INSENSITIVE_ORDER"), (0, u "Ljava/util/Comparator;"), (500, u "serialPersistentFields"), (0, u "[Ljava/io/ObjectStreamField;"), (0, .class_ 1104), (0, u "java/lang/String$CaseInsensitiveComparator"), (1, .class_ 1107), (0, u "java/io/Serializable"), (0, .class_ 1109), (0, u "java/lang/Comparable"), (0, .class_ 1111), (0, u "java/lang/constant/Constable"), (0, .class_ 1113), (0, u "java/lang/constant/ConstantDesc"), (2, u "serialVersionUID"), (0, u "J"), (3, u "REPL"), (0, u "C"), (2, u "LATIN1"), (1, u "UTF16")] 323

def k8m0 : Method := { name := "<init>", desc := "()V", sig := { parameters := [], returnType := none }, accessFlags := 1, code := none }
/-- java/lang/String -/
def k8 : Class := { plain "java/lang/String" (some 0) with
  accessFlags := 49
  interfaces := #[3, 4, 5, 6, 7]
  cf := some (fileOf pool8 10 #[.nestMembers #[1103]] #[{ accessFlags := 1, nameIndex := 5, descriptorIndex := 6, attributes := #[] }] 49 2 #[1106, 1108, 575, 1110, 1112] #[{ accessFlags := 18, nameIndex := 13, descriptorIndex := 14, attributes := #[] }, { accessFlags := 18, nameIndex := 17, descriptorIndex := 18, attributes := #[] }, { accessFlags := 2, nameIndex := 21, descriptorIndex := 22, attributes := #[] }, { accessFlags := 2, nameIndex := 25, descriptorIndex := 26, attributes := #[] }, { accessFlags := 26, nameIndex := 1116, descriptorIndex := 1117, attributes := #[] }, { accessFlags := 24, nameIndex := 40, descriptorIndex := 26, attributes := #[] }, { accessFlags := 26, nameIndex := 1101, descriptorIndex := 1102, attributes := #[] }, { accessFlags := 26, nameIndex := 1121, descriptorIndex := 1122, attributes := #[] }, { accessFlags := 25, nameIndex := 599, descriptorIndex := 600, attributes := #[] }, { accessFlags := 24, nameIndex := 1125, descriptorIndex := 18, attributes := #[] }, { accessFlags := 24, nameIndex := 1127, descriptorIndex := 18, attributes := #[] }])
  fields := #[{ name := "value", type := (.array .byte), accessFlags := 18, slot := 0, constantValue := 0 }, { name := "coder", type := .byte, accessFlags := 18, slot := 1, constantValue := 0 }, { name := "hash", type := .int, accessFlags := 2, slot := 2, constantValue := 0 }, { name := "hashIsZero", type := .boolean, accessFlags := 2, slot := 3, constantValue := 0 }, { name := "serialVersionUID", type := .long, accessFlags := 26, slot := 0, constantValue := 0 }, { name := "COMPACT_STRINGS", type := .boolean, accessFlags := 24, slot := 1, constantValue := 0 }, { name := "serialPersistentFields", type := (.array (.object "java/io/ObjectStreamField")), accessFlags := 26, slot := 2, constantValue := 0 }, { name := "REPL", type := .char, accessFlags := 26, slot := 3, constantValue := 0 }, { name := "CASE_INSENSITIVE_ORDER", type := (.object "java/util/Comparator"), accessFlags := 25, slot := 4, constantValue := 0 }, { name := "LATIN1", type := .byte, accessFlags := 24, slot := 5, constantValue := 0 }, { name := "UTF16", type := .byte, accessFlags := 24, slot := 6, constantValue := 0 }]
  methods := #[k8m0]
  instanceTypes := #[(.array .byte), .byte, .int, .boolean]
  staticTypes := #[.long, .boolean, (.array (.object "java/io/ObjectStreamField")), .char, (.object "java/util/Comparator"), .byte, .byte]
  resolved := Array.replicate 1451 none
  statics := none }

def pool9 : Array CpInfo := pool [(1, u "java/lang/Cloneable"), (0, .class_ 1), (0, u "java/lang/Object"), (0, .class_ 3)] 3

/-- java/lang/Cloneable -/
def k9 : Class := { plain "java/lang/Cloneable" (some 0) with
  accessFlags := 1537
  interfaces := #[]
  cf := some (fileOf pool9 2 #[] #[] 1537 4 #[] #[])
  fields := #[]
  methods := #[]
  instanceTypes := #[]
  staticTypes := #[]
  resolved := Array.replicate 8 none
  statics := none }

/-- the primitive byte -/
def k10 : Class := { plain "byte" none with kind := .primitive 'B', accessFlags := 0x411 }
/-- [B -/
def k11 : Class := { plain "[B" (some 0) with kind := .array 10 .byte, interfaces := #[9, 3], accessFlags := 1041 }

/-- the primitive int -/
def k12 : Class := { plain "int" none with kind := .primitive 'I', accessFlags := 0x411 }
/-- [I -/
def k13 : Class := { plain "[I" (some 0) with kind := .array 12 .int, interfaces := #[9, 3], accessFlags := 1041 }

def heap : Heap := #[]
def classes : Array Class := #[k0, k1, k2, k3, k4, k5, k6, k7, k8, k9, k10, k11, k12, k13]
def interned : List (Array UInt16 × Addr) := []
def slotsUsed : Nat := 0
def theMethod : MethodId := ⟨1, 2⟩
def args0 : Array Value := #[.long 5, .long 1, .int 3, .int 7]
def aboutOver (below : List Frame) : State where
  vm := { classes := classes, interned := interned.toArray }
  heap := heap
  slotsUsed := slotsUsed
  threads := #[{ frames := .invoking theMethod args0 :: below }]
def below0 : List Frame := [.native { method := ⟨0, 0⟩, args := #[] }]
def about1 : State := aboutOver below0
def p0 : Program := .bare "" "" ""
def e0 : Env := launch0.env 0 0 0
theorem w_frames : about1.frames = Frame.invoking theMethod args0 :: below0 := rfl
set_option maxRecDepth 65536 in
theorem w_args : argsFit about1.vm theMethod args0 = true := by decide +kernel
set_option maxRecDepth 65536 in
theorem w_heap : heapFits about1 = true := by decide +kernel
set_option maxRecDepth 65536 in
theorem w_runnable : about1.curStatus? = some .runnable := by decide +kernel
set_option maxRecDepth 65536 in
theorem w_alone : about1.alone = true := by decide +kernel
set_option maxRecDepth 65536 in
theorem w_named : about1.methodNamed? x = some theMethod := by decide +kernel
set_option maxRecDepth 65536 in
theorem w_hears : about1.hears theMethod below0 = true := by decide +kernel
set_option maxRecDepth 65536 in
theorem w_ripe : about1.ripe theMethod args0 below0 = true := by decide +kernel
theorem w_running : about1.status = .running := rfl
set_option maxRecDepth 65536 in
theorem w_room : about1.hasRoom e0.platform room_1 = true :=
  launch0.hasRoom_least _ room_1 (by decide +kernel) (by decide +kernel) (by decide +kernel) (by decide +kernel) (by decide +kernel) (by decide +kernel)
theorem allAtoms_all (ts : List Jvm.Cond) (a : Array Jvm.Value) (st : Jvm.State) : (allAtoms ts).before a st = ts.all (fun c => c.before a st) := by
  induction ts with
  | nil => rfl
  | cons c t ih =>
    show (Jvm.Cond.and c (allAtoms t)).before a st = _
    rw [Jvm.Cond.before_and, ih, List.all_cons]
def words1 : List Jvm.Cond := Jvm.Cond.code x code maxLocals ret :: tables_1
/-- a 'code' word, met by the world's own term for the bytes: nothing is compared byte by byte -/
theorem code_word {y : MethodName} {bytes : ByteArray} {mx : Nat} {rt : Option FieldType} {a : Array Value} {s : State} {m : MethodId} {meth : Method} {c : Code} (h1 : s.methodNamed? y = some m) (h2 : s.vm.method? m = some meth) (h3 : meth.code = some c) (h4 : c.code = bytes)
    (h5 : (c.maxLocals == mx && c.exceptionTable.isEmpty && decide (c.maxStack ≤ mostOperands) && decide (meth.sig.returnType = rt) && !meth.locks && decide (parseMethodDescriptor y.desc = some meth.sig)) = true) : (Jvm.Cond.code y bytes mx rt).before a s = true := by
  simp only [Bool.and_eq_true, beq_iff_eq, Bool.not_eq_true', decide_eq_true_eq] at h5
  obtain ⟨⟨⟨⟨⟨g1, g2⟩, g3⟩, g4⟩, g5⟩, g6⟩ := h5
  simp [Cond.before, Cond.holds, Cond.value, h1, h2, h3, h4, g1, g2, g3, g4, g5, g6]
def isCode : Jvm.Cond → Bool
  | .code _ _ _ _ => true
  | _ => false
theorem all_split {L : List Jvm.Cond} {P : Jvm.Cond → Bool} (h1 : L.all (fun c => isCode c || P c) = true) (h2 : ∀ c ∈ L.filter isCode, P c = true) : L.all P = true := by
  refine List.all_eq_true.mpr fun c hc => ?_
  have h := List.all_eq_true.mp h1 c hc
  rcases Bool.eq_false_or_eq_true (isCode c) with hi | hi
  · exact h2 c (List.mem_filter.mpr ⟨hc, hi⟩)
  · simpa [hi] using h
set_option maxRecDepth 65536 in
theorem w_c0 : (Jvm.Cond.code x code maxLocals ret).before args0 about1 = true := code_word (m := ⟨1, 2⟩) (meth := k1m2) (c := k1c2) (by decide +kernel) rfl rfl rfl (by decide +kernel)
set_option maxRecDepth 65536 in
theorem w_c1 : (Jvm.Cond.code ({ cls := "com/example/stokehold/stokehold/wire/ProtoReaderReadVarintPinLaw", name := "cell", desc := "(IIJJI)B" } : Jvm.MethodName) method_2_code (8 : Nat) (Option.some Jvm.ClassFile.FieldType.byte)).before args0 about1 = true := code_word (m := ⟨1, 1⟩) (meth := k1m1) (c := k1c1) (by decide +kernel) rfl rfl rfl (by decide +kernel)
set_option maxRecDepth 65536 in
theorem w_c2 : (Jvm.Cond.code ({ cls := "com/example/stokehold/stokehold/wire/ProtoReader", name := "<init>", desc := "([BLjava/lang/String;)V" } : Jvm.MethodName) prog_14_method_1_code (3 : Nat) (Option.none : Option Jvm.ClassFile.FieldType)).before args0 about1 = true := code_word (m := ⟨2, 0⟩) (meth := k2m0) (c := k2c0) (by decide +kernel) rfl rfl rfl (by decide +kernel)
set_option maxRecDepth 65536 in
theorem w_c3 : (Jvm.Cond.code ({ cls := "com/example/stokehold/stokehold/wire/ProtoReader", name := "<init>", desc := "([BIILjava/lang/String;)V" } : Jvm.MethodName) prog_14_method_2_code (5 : Nat) (Option.none : Option Jvm.ClassFile.FieldType)).before args0 about1 = true := code_word (m := ⟨2, 1⟩) (meth := k2m1) (c := k2c1) (by decide +kernel) rfl rfl rfl (by decide +kernel)
set_option maxRecDepth 65536 in
theorem w_c4 : (Jvm.Cond.code ({ cls := "java/lang/Object", name := "<init>", desc := "()V" } : Jvm.MethodName) object_method_1_code (1 : Nat) (Option.none : Option Jvm.ClassFile.FieldType)).before args0 about1 = true := code_word (m := ⟨0, 0⟩) (meth := k0m0) (c := k0c0) (by decide +kernel) rfl rfl rfl (by decide +kernel)
set_option maxRecDepth 65536 in
theorem w_c5 : (Jvm.Cond.code ({ cls := "com/example/stokehold/stokehold/wire/ProtoReader", name := "readVarint", desc := "()J" } : Jvm.MethodName) prog_14_method_6_code (5 : Nat) (Option.some Jvm.ClassFile.FieldType.long)).before args0 about1 = true := code_word (m := ⟨2, 3⟩) (meth := k2m3) (c := k2c3) (by decide +kernel) rfl rfl rfl (by decide +kernel)
set_option maxRecDepth 65536 in
theorem w_c6 : (Jvm.Cond.code ({ cls := "com/example/stokehold/stokehold/wire/ProtoReader", name := "atEnd", desc := "()Z" } : Jvm.MethodName) prog_14_method_4_code (1 : Nat) (Option.some Jvm.ClassFile.FieldType.boolean)).before args0 about1 = true := code_word (m := ⟨2, 2⟩) (meth := k2m2) (c := k2c2) (by decide +kernel) rfl rfl rfl (by decide +kernel)
set_option maxRecDepth 65536 in
theorem w_c7 : (Jvm.Cond.code ({ cls := "com/example/stokehold/stokehold/wire/ProtoReader", name := "needBytes", desc := "(I)V" } : Jvm.MethodName) prog_14_method_11_code (2 : Nat) (Option.none : Option Jvm.ClassFile.FieldType)).before args0 about1 = true := code_word (m := ⟨2, 4⟩) (meth := k2m4) (c := k2c4) (by decide +kernel) rfl rfl rfl (by decide +kernel)
def codes1 : List Jvm.Cond := [Jvm.Cond.code x code maxLocals ret, Jvm.Cond.code ({ cls := "com/example/stokehold/stokehold/wire/ProtoReaderReadVarintPinLaw", name := "cell", desc := "(IIJJI)B" } : Jvm.MethodName) method_2_code (8 : Nat) (Option.some Jvm.ClassFile.FieldType.byte), Jvm.Cond.code ({ cls := "com/example/stokehold/stokehold/wire/ProtoReader", name := "<init>", desc := "([BLjava/lang/String;)V" } : Jvm.MethodName) prog_14_method_1_code (3 : Nat) (Option.none : Option Jvm.ClassFile.FieldType), Jvm.Cond.code ({ cls := "com/example/stokehold/stokehold/wire/ProtoReader", name := "<init>", desc := "([BIILjava/lang/String;)V" } : Jvm.MethodName) prog_14_method_2_code (5 : Nat) (Option.none : Option Jvm.ClassFile.FieldType), Jvm.Cond.code ({ cls := "java/lang/Object", name := "<init>", desc := "()V" } : Jvm.MethodName) object_method_1_code (1 : Nat) (Option.none : Option Jvm.ClassFile.FieldType), Jvm.Cond.code ({ cls := "com/example/stokehold/stokehold/wire/ProtoReader", name := "readVarint", desc := "()J" } : Jvm.MethodName) prog_14_method_6_code (5 : Nat) (Option.some Jvm.ClassFile.FieldType.long), Jvm.Cond.code ({ cls := "com/example/stokehold/stokehold/wire/ProtoReader", name := "atEnd", desc := "()Z" } : Jvm.MethodName) prog_14_method_4_code (1 : Nat) (Option.some Jvm.ClassFile.FieldType.boolean), Jvm.Cond.code ({ cls := "com/example/stokehold/stokehold/wire/ProtoReader", name := "needBytes", desc := "(I)V" } : Jvm.MethodName) prog_14_method_11_code (2 : Nat) (Option.none : Option Jvm.ClassFile.FieldType)]
set_option maxRecDepth 65536 in
theorem codes_eq : words1.filter isCode = codes1 := rfl
theorem w_codes : ∀ c ∈ words1.filter isCode, c.before args0 about1 = true := by
  rw [codes_eq]
  intro c hc
  simp only [codes1, List.mem_cons, List.not_mem_nil, or_false] at hc
  rcases hc with rfl | rfl | rfl | rfl | rfl | rfl | rfl | rfl
  · exact w_c0
  · exact w_c1
  · exact w_c2
  · exact w_c3
  · exact w_c4
  · exact w_c5
  · exact w_c6
  · exact w_c7
set_option maxRecDepth 65536 in
theorem w_t1 : (words1.take 24).all (fun c => isCode c || c.before args0 about1) = true := by decide +kernel
set_option maxRecDepth 65536 in
theorem w_t2 : ((words1.drop 24).take 24).all (fun c => isCode c || c.before args0 about1) = true := by decide +kernel
set_option maxRecDepth 65536 in
theorem w_t3 : ((words1.drop 24).drop 24).all (fun c => isCode c || c.before args0 about1) = true := by decide +kernel
theorem w_tables : (allAtoms (Jvm.Cond.code x code maxLocals ret :: tables_1)).before args0 about1 = true := by
  rw [allAtoms_all]
  show words1.all (fun c => c.before args0 about1) = true
  refine all_split ?_ w_codes
  rw [← List.take_append_drop 24 words1, List.all_append, w_t1, ← List.take_append_drop 24 (words1.drop 24), List.all_append, w_t2, w_t3]
  rfl
set_option maxRecDepth 65536 in
theorem w_case : (Jvm.Cond.and given_1 narrow_1).before args0 about1 = true := by decide +kernel
theorem w_applies : (headSpec (Jvm.Cond.code x code maxLocals ret :: tables_1) room_1).applies x e0.platform about1 = true :=
  (Spec.applies_iff w_frames).mpr ⟨w_running, w_runnable, w_alone, w_named, w_hears, w_ripe, w_room, w_tables⟩
theorem atStart : AtStart classFile x code maxLocals ret World_1 tables_1 room_1 Calls_1 rest_1 Pre_1 launch0 p0 e0 about1 theMethod args0 below0 :=
  ⟨lists_1, trivial, launch0.admits_env _ _ _, launch0.least_env, fairChoices_fair.cas, fairChoices_fair.clock, w_frames, w_args, w_heap, w_applies, trivial, trivial, w_case⟩
end start1
theorem witness_1 : WitnessClaimed_1 := ⟨start1.p0, start1.e0, start1.about1, start1.theMethod, start1.args0, start1.below0, start1.atStart⟩
end Jvm.Pilot.@@N@@

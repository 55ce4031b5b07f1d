import JvmDerived
import JvmDerived.Pilot.@@N@@Statement
import JvmDerived.Pilot.@@N@@Code
set_option linter.unusedVariables false
set_option linter.unusedSimpArgs false
namespace Jvm.Pilot.@@N@@
open Jvm Jvm.ClassFile Sem Op Lib Jvm.Free Jvm.Stand Jvm.LawKit Jvm.RoadKit Bundle Jvm.Pilot.@@N@@.Jvm.D
def own_ushr (x y : Int32) : Int32 := (x.toUInt32 >>> (y &&& 31).toUInt32).toInt32
def own_ushrL (x : Int64) (y : Int32) : Int64 := (x.toUInt64 >>> (y &&& 0x3f).toInt64.toUInt64).toInt64
section OwnKit
variable {p : Program} {l : Launch} {e : Env} {R : Room} {s : State} {m : MethodId} {args : Array Value} {below : List Frame} {meth : Method} {c : Code} {T : State} {locs : List Loc} {cells slots : Nat} {Z : State} {h h0 : Heap} {ce sl : Nat} {Q : Option Value → Heap → List Loc → Prop} {U U' : State} {a0 : Array Value}
/-- from U the walk comes to its return, and what it leaves is Q -/
def Go (p : Program) (e : Env) (below : List Frame) (s : State) (ce sl : Nat) (Q : Option Value → Heap → List Loc → Prop) (U : State) : Prop :=
  ∃ s₂ o, Steps p.tables e below U s₂ ∧ s₂.status = .running ∧ Ended s₂ below o ∧ ∃ v L, o = .returned v ∧ Q v s₂.heap L ∧ FrameEnd s o s₂ L ce sl
theorem Go.via (h : ∀ t, Steps p.tables e below U' t → Steps p.tables e below U t) (g : Go p e below s ce sl Q U') : Go p e below s ce sl Q U := by
  obtain ⟨s₂, o, h1, h2⟩ := g
  exact ⟨s₂, o, h _ h1, h2⟩
theorem Go.cast {g g' : JFrame} (q : g = g') (k : Go p e below s ce sl Q (T.setTop g')) : Go p e below s ce sl Q (T.setTop g) := q ▸ k
/-- the contract of a body: called with as', over the heap h0, it returns and leaves Q -/
def Meets (l : Launch) (Z : State) (y : MethodName) (bytes : ByteArray) (maxL : Nat) (rt : Option FieldType) (ws : List Jvm.Cond) (rm : Room) (as' : Array Value) (h0 : Heap) (Q : Option Value → Heap → List Loc → Prop) : Prop :=
  MetFree l y (head1 (Jvm.Cond.code y bytes maxL rt :: ws) rm) (fun a U => a = as' ∧ Z.Warmed39 U.vm ∧ U.heap = h0) (fun _ _ _ _ _ => True) (fun _ U o U' => ∃ v L, o = .returned v ∧ Q v U'.heap L ∧ FrameEnd U o U' L rm.cells rm.slots)
theorem meets_of {y : MethodName} {bytes : ByteArray} {maxL : Nat} {rt : Option FieldType} {ws : List Jvm.Cond} {rm : Room} {as' : Array Value} (hpl : plainFor y = true)
    (body : ∀ p e s m below meth c s₁, Stand p l e rm s m as' below meth c s₁ [] 0 0 → p.tables.exec = Jvm.exec → Z.Warmed39 s.vm → c.code = bytes → c.maxLocals = maxL → meth.sig.returnType = rt → meth.locks = false → s.vm.findClass y.cls = some m.cls → meth.name = y.name → s₁.heap = h0 →
      Go p e below s rm.cells rm.slots Q (s₁.setTop (entryFrame m as' maxL))) : Meets l Z y bytes maxL rt ws rm as' h0 Q := by
  refine MetFree.of_bodySF hpl hisR ?_
  intro p e s m args below meth c s₁ Bd hml hP hK
  obtain ⟨rfl, hZ, hh⟩ := hP
  exact body p e s m below meth c s₁ (Stand.of_body Bd) Bd.exec hZ Bd.bytes hml Bd.returns Bd.notSynchronized (findClass_of_methodNamed Bd.named) (name_of_methodNamed Bd.named Bd.method).1 (by rw [← hh, Bd.state]; rfl)
theorem go_ret (X : Stand p l e R s m args below meth c T locs cells slots) (hlk : meth.locks = false) {v : Option Value} (hv : meth.sig.returnType = none → v = none) (eT : T.heap = h) (hQ : Q v h locs) (hc : cells ≤ ce) (hs : slots ≤ sl)
    (st : ∀ fs, (∀ (f : JFrame) (acts : List Action), f.method = m → f.locked = none → f.entered = [] → (doReturn e (T.setTop f) acts v).1 = T.setFrames fs) → Steps p.tables e below U (T.setFrames fs)) : Go p e below s ce sl Q U := by
  obtain ⟨fs, hr, hrun, hended, hW, hsame⟩ := X.leave hv hlk
  exact ⟨_, _, st fs hr, hrun, hended, v, locs, rfl, (by show Q v T.heap locs; rw [eT]; exact hQ), ⟨_, rfl⟩, hW, hsame.mono hc hs⟩
theorem go_retN (X : Stand p l e R s m args below meth c T locs cells slots) (hx : p.tables.exec = Jvm.exec) (hlk : meth.locks = false) {t : FieldType} (hret : meth.sig.returnType = some t) (ht : t = .boolean ∨ t = .byte ∨ t = .char ∨ t = .short) {pc : Nat} {Ls : Array Slot} {z : Int32} {rest : List Value}
    (hd : decode c.code pc = .ok (.ireturn, 1)) (eT : T.heap = h) (hQ : Q (some (.int (nar t z))) h locs) (hc : cells ≤ ce) (hs : slots ≤ sl) : Go p e below s ce sl Q (T.setTop (mkF m pc Ls (.int z :: rest))) :=
  go_ret X hlk (fun h => by rw [hret] at h; cases h) eT hQ hc hs (fun fs hr => retN X hx hret ht hd hr)
theorem go_retI (X : Stand p l e R s m args below meth c T locs cells slots) (hx : p.tables.exec = Jvm.exec) (hlk : meth.locks = false) (hret : meth.sig.returnType = some .int) {pc : Nat} {Ls : Array Slot} {z : Int32} {rest : List Value}
    (hd : decode c.code pc = .ok (.ireturn, 1)) (eT : T.heap = h) (hQ : Q (some (.int z)) h locs) (hc : cells ≤ ce) (hs : slots ≤ sl) : Go p e below s ce sl Q (T.setTop (mkF m pc Ls (.int z :: rest))) :=
  go_ret X hlk (fun h => by rw [hret] at h; cases h) eT hQ hc hs (fun fs hr => retOut X hx hret rfl (Or.inl ⟨rfl, Or.inl rfl, z, rfl⟩) hd hr)
theorem go_retJ (X : Stand p l e R s m args below meth c T locs cells slots) (hx : p.tables.exec = Jvm.exec) (hlk : meth.locks = false) (hret : meth.sig.returnType = some .long) {pc : Nat} {Ls : Array Slot} {z : Int64} {rest : List Value}
    (hd : decode c.code pc = .ok (.lreturn, 1)) (eT : T.heap = h) (hQ : Q (some (.long z)) h locs) (hc : cells ≤ ce) (hs : slots ≤ sl) : Go p e below s ce sl Q (T.setTop (mkF m pc Ls (.long z :: rest))) :=
  go_ret X hlk (fun h => by rw [hret] at h; cases h) eT hQ hc hs (fun fs hr => retOut X hx hret rfl (Or.inr (Or.inl ⟨rfl, rfl, z, rfl⟩)) hd hr)
theorem go_retA (X : Stand p l e R s m args below meth c T locs cells slots) (hx : p.tables.exec = Jvm.exec) (hlk : meth.locks = false) {t : FieldType} (hret : meth.sig.returnType = some t) (ht : t.isReference = true) {pc : Nat} {Ls : Array Slot} {w : Value} (hw : w.isRef = true) (hn : narrow t w = w) {rest : List Value}
    (hd : decode c.code pc = .ok (.areturn, 1)) (eT : T.heap = h) (hQ : Q (some w) h locs) (hc : cells ≤ ce) (hs : slots ≤ sl) : Go p e below s ce sl Q (T.setTop (mkF m pc Ls (w :: rest))) :=
  go_ret X hlk (fun h => by rw [hret] at h; cases h) eT hQ hc hs (fun fs hr => retOut X hx hret hn (Or.inr (Or.inr (Or.inr (Or.inr ⟨rfl, ht, hw⟩)))) hd hr)
theorem go_retV (X : Stand p l e R s m args below meth c T locs cells slots) (hx : p.tables.exec = Jvm.exec) (hlk : meth.locks = false) (hret : meth.sig.returnType = none) {pc : Nat} {Ls : Array Slot}
    (hd : decode c.code pc = .ok (.return_, 1)) (eT : T.heap = h) (hQ : Q none h locs) (hc : cells ≤ ce) (hs : slots ≤ sl) : Go p e below s ce sl Q (T.setTop (mkF m pc Ls [])) :=
  go_ret X hlk (fun _ => rfl) eT hQ hc hs (fun fs hr => X.returnOut hx hret hd hr)
/-- it returned v, wrote nothing and made nothing -/
def PureR (v : Option Value) (h0 : Heap) : Option Value → Heap → List Loc → Prop := fun v' h L => v' = v ∧ h = h0 ∧ L = []
/-- a static method by its contract -/
theorem callSQ (X : Stand p l e R s m args below meth c T locs cells slots) (hx : p.tables.exec = Jvm.exec) (hZ : Z.Warmed39 s.vm) {own : String} {index : Nat} {y : MethodName} {bytes : ByteArray} {maxL : Nat} {rt : Option FieldType} {rm : Room}
    (hown : s.vm.findClass own = some m.cls) (w1 : (Jvm.Cond.methodLink own index y).before a0 Z = true) (w2 : (Jvm.Cond.static y).before a0 Z = true) (w3 : (Jvm.Cond.initialized y.cls).before a0 Z = true) (w4 : (Jvm.Cond.code y bytes maxL rt).before a0 Z = true)
    (hy : y.cls ≠ "java/lang/invoke/MethodHandle" ∧ y.cls ≠ "java/lang/invoke/VarHandle") {av : List Value} (hM : Meets l Z y bytes maxL rt [] rm av.toArray h Q) (eT : T.heap = h)
    {pc : Nat} {Ls : Array Slot} {rest : List Value} {ps : List FieldType} {r : Option FieldType} (hsize : Ls.size = c.maxLocals) (hp : parseMethodDescriptor y.desc = some ⟨ps, r⟩) (hlen : av.length = ps.length)
    (W : Nat) (hW : (rest.map fun v => v.category).sum ≤ W) (hf : rm.frames + 1 ≤ R.frames) (hl : W + (maxL + 11) + rm.locals ≤ R.locals) (hc : cells + rm.cells ≤ R.cells) (hs : slots + rm.slots ≤ R.slots) (hd : decode c.code pc = .ok (.invokestatic index, 3)) :
    ∃ v T' L, Stand p l e R s m args below meth c T' (locs ++ L) (cells + rm.cells) (slots + rm.slots) ∧ Q v T'.heap L ∧
      ∀ t, Steps p.tables e below (T'.setTop (mkF m (pc + 3) Ls (v.toList ++ rest))) t → Steps p.tables e below (T.setTop (mkF m pc Ls (av.reverse ++ rest))) t := by
  obtain ⟨v, _, ⟨T2, L2, k2, n2⟩, -, X2, ⟨Lc2, hQ2, l2, y2, z2⟩, st2⟩ := Jvm.LawKit.callS X hx (y := y) hown (mvT hZ w1) (mvT hZ w2) (mvT hZ w3) (mvT hZ w4) hy (backOf (W := W) hM hZ w4 w3 hf hl) (g := mkF m pc Ls (av.reverse ++ rest)) rfl hsize (argsL := av) (rest := rest) (lenOf hp hlen) rfl (by show 2 * 0 + _ ≤ _; rw [Nat.mul_zero, Nat.zero_add]; exact hW) hd (fun _ _ => ⟨rfl, eT, hc, hs⟩)
  dsimp only [Pt.U, Pt.locs, Pt.cells, Pt.slots] at X2 l2 y2 z2 st2 hQ2
  subst l2 y2 z2
  exact ⟨v, T2, Lc2, X2, hQ2, st2⟩
/-- a static method that writes and makes nothing -/
theorem callS0 (X : Stand p l e R s m args below meth c T locs cells slots) (hx : p.tables.exec = Jvm.exec) (hZ : Z.Warmed39 s.vm) {own : String} {index : Nat} {y : MethodName} {bytes : ByteArray} {maxL : Nat} {rt : Option FieldType} {fr lo : Nat} {v : Option Value}
    (hown : s.vm.findClass own = some m.cls) (w1 : (Jvm.Cond.methodLink own index y).before a0 Z = true) (w2 : (Jvm.Cond.static y).before a0 Z = true) (w3 : (Jvm.Cond.initialized y.cls).before a0 Z = true) (w4 : (Jvm.Cond.code y bytes maxL rt).before a0 Z = true)
    (hy : y.cls ≠ "java/lang/invoke/MethodHandle" ∧ y.cls ≠ "java/lang/invoke/VarHandle") {av : List Value} (hM : Meets l Z y bytes maxL rt [] ({ frames := fr, cells := 0, slots := 0, locals := lo } : Room) av.toArray h (PureR v h)) (eT : T.heap = h)
    {pc : Nat} {Ls : Array Slot} {rest : List Value} {ps : List FieldType} {r : Option FieldType} (hsize : Ls.size = c.maxLocals) (hp : parseMethodDescriptor y.desc = some ⟨ps, r⟩) (hlen : av.length = ps.length)
    (W : Nat) (hW : (rest.map fun v => v.category).sum ≤ W) (hf : fr + 1 ≤ R.frames) (hl : W + (maxL + 11) + lo ≤ R.locals) (hc : cells ≤ R.cells) (hs : slots ≤ R.slots) (hd : decode c.code pc = .ok (.invokestatic index, 3)) :
    ∃ T', Stand p l e R s m args below meth c T' locs cells slots ∧ T'.heap = h ∧
      ∀ t, Steps p.tables e below (T'.setTop (mkF m (pc + 3) Ls (v.toList ++ rest))) t → Steps p.tables e below (T.setTop (mkF m pc Ls (av.reverse ++ rest))) t := by
  obtain ⟨_, T2, _, X2, ⟨rfl, h2, rfl⟩, st2⟩ := callSQ X hx hZ hown w1 w2 w3 w4 hy hM eT hsize hp hlen W hW hf hl hc hs hd
  rw [List.append_nil] at X2
  exact ⟨T2, X2, h2, st2⟩
end OwnKit
section OwnKit2
variable {p : Program} {l : Launch} {e : Env} {R : Room} {s : State} {m : MethodId} {args : Array Value} {below : List Frame} {meth : Method} {c : Code} {T : State} {locs : List Loc} {cells slots : Nat} {Z : State} {h h0 : Heap} {ce sl : Nat} {Q : Option Value → Heap → List Loc → Prop} {U U' : State} {a0 : Array Value}
/-- an instance method by its contract, the resolved one being the selected one -/
theorem callVQ (X : Stand p l e R s m args below meth c T locs cells slots) (hx : p.tables.exec = Jvm.exec) (hZ : Z.Warmed39 s.vm) {own C : String} {index : Nat} {y : MethodName} {bytes : ByteArray} {maxL : Nat} {rt : Option FieldType} {rm : Room}
    (hown : s.vm.findClass own = some m.cls) (w1 : (Jvm.Cond.methodLink own index y).before a0 Z = true) (w2 : (Jvm.Cond.declares y).before a0 Z = true) (w3 : (Jvm.Cond.selects C y y).before a0 Z = true) (w5 : (Jvm.Cond.instanceMethod y).before a0 Z = true) (w6 : (Jvm.Cond.initialized y.cls).before a0 Z = true) (w4 : (Jvm.Cond.code y bytes maxL rt).before a0 Z = true)
    (hy : y.cls ≠ "java/lang/invoke/MethodHandle" ∧ y.cls ≠ "java/lang/invoke/VarHandle") {b : Addr} {av : List Value} (hE : Exa Z h b C) (hM : Meets l Z y bytes maxL rt [] rm (.ref b :: av).toArray h Q) (eT : T.heap = h)
    {pc : Nat} {Ls : Array Slot} {rest : List Value} {ps : List FieldType} {r : Option FieldType} (hsize : Ls.size = c.maxLocals) (hp : parseMethodDescriptor y.desc = some ⟨ps, r⟩) (hlen : av.length = ps.length)
    (W : Nat) (hW : (rest.map fun v => v.category).sum ≤ W) (hf : rm.frames + 1 ≤ R.frames) (hl : W + (maxL + 11) + rm.locals ≤ R.locals) (hc : cells + rm.cells ≤ R.cells) (hs : slots + rm.slots ≤ R.slots) (hd : decode c.code pc = .ok (.invokevirtual index, 3)) :
    ∃ v T' L, Stand p l e R s m args below meth c T' (locs ++ L) (cells + rm.cells) (slots + rm.slots) ∧ Q v T'.heap L ∧
      ∀ t, Steps p.tables e below (T'.setTop (mkF m (pc + 3) Ls (v.toList ++ rest))) t → Steps p.tables e below (T.setTop (mkF m pc Ls (av.reverse ++ .ref b :: rest))) t := by
  obtain ⟨cq, kq, qa, qb, qc⟩ := isOf hZ eT hE
  obtain ⟨v, _, ⟨T2, L2, k2, n2⟩, -, X2, ⟨Lc2, hQ2, l2, y2, z2⟩, st2⟩ := X.virtualBack hx (y := y) (z := y) hown (mvT hZ w1) (mvT hZ w2) (notFace_of_selects (args := #[]) (mvT hZ w3)) (mvT hZ w3) (mvT hZ w5) hy (backOf (W := W) hM hZ w4 w6 hf hl) qa qc (g := mkF m pc Ls (av.reverse ++ .ref b :: rest)) rfl hsize (Steps.refl _) (argsL := av) (rest := rest) (lenOf hp hlen) rfl (by show 2 * 0 + _ ≤ _; rw [Nat.mul_zero, Nat.zero_add]; exact hW) hd (fun _ _ => ⟨rfl, eT, hc, hs⟩)
  dsimp only [Pt.U, Pt.locs, Pt.cells, Pt.slots] at X2 l2 y2 z2 st2 hQ2
  subst l2 y2 z2
  exact ⟨v, T2, Lc2, X2, hQ2, fun t k => st2.trans k⟩
theorem callV0 (X : Stand p l e R s m args below meth c T locs cells slots) (hx : p.tables.exec = Jvm.exec) (hZ : Z.Warmed39 s.vm) {own C : String} {index : Nat} {y : MethodName} {bytes : ByteArray} {maxL : Nat} {rt : Option FieldType} {fr lo : Nat} {v : Option Value}
    (hown : s.vm.findClass own = some m.cls) (w1 : (Jvm.Cond.methodLink own index y).before a0 Z = true) (w2 : (Jvm.Cond.declares y).before a0 Z = true) (w3 : (Jvm.Cond.selects C y y).before a0 Z = true) (w5 : (Jvm.Cond.instanceMethod y).before a0 Z = true) (w6 : (Jvm.Cond.initialized y.cls).before a0 Z = true) (w4 : (Jvm.Cond.code y bytes maxL rt).before a0 Z = true)
    (hy : y.cls ≠ "java/lang/invoke/MethodHandle" ∧ y.cls ≠ "java/lang/invoke/VarHandle") {b : Addr} {av : List Value} (hE : Exa Z h b C) (hM : Meets l Z y bytes maxL rt [] ({ frames := fr, cells := 0, slots := 0, locals := lo } : Room) (.ref b :: av).toArray h (PureR v h)) (eT : T.heap = h)
    {pc : Nat} {Ls : Array Slot} {rest : List Value} {ps : List FieldType} {r : Option FieldType} (hsize : Ls.size = c.maxLocals) (hp : parseMethodDescriptor y.desc = some ⟨ps, r⟩) (hlen : av.length = ps.length)
    (W : Nat) (hW : (rest.map fun v => v.category).sum ≤ W) (hf : fr + 1 ≤ R.frames) (hl : W + (maxL + 11) + lo ≤ R.locals) (hc : cells ≤ R.cells) (hs : slots ≤ R.slots) (hd : decode c.code pc = .ok (.invokevirtual index, 3)) :
    ∃ T', Stand p l e R s m args below meth c T' locs cells slots ∧ T'.heap = h ∧
      ∀ t, Steps p.tables e below (T'.setTop (mkF m (pc + 3) Ls (v.toList ++ rest))) t → Steps p.tables e below (T.setTop (mkF m pc Ls (av.reverse ++ .ref b :: rest))) t := by
  obtain ⟨_, T2, _, X2, ⟨rfl, h2, rfl⟩, st2⟩ := callVQ X hx hZ hown w1 w2 w3 w5 w6 w4 hy hE hM eT hsize hp hlen W hW hf hl hc hs hd
  rw [List.append_nil] at X2
  exact ⟨T2, X2, h2, st2⟩
/-- a constructor by its contract -/
theorem callIQ (X : Stand p l e R s m args below meth c T locs cells slots) (hx : p.tables.exec = Jvm.exec) (hZ : Z.Warmed39 s.vm) {own : String} {index : Nat} {y : MethodName} {bytes : ByteArray} {maxL : Nat} {rm : Room} (hy1 : y.name = "<init>")
    (hown : s.vm.findClass own = some m.cls) (w1 : (Jvm.Cond.methodLink own index y).before a0 Z = true) (w5 : (Jvm.Cond.instanceMethod y).before a0 Z = true) (w6 : (Jvm.Cond.initialized y.cls).before a0 Z = true) (w4 : (Jvm.Cond.code y bytes maxL none).before a0 Z = true)
    (hy : y.cls ≠ "java/lang/invoke/MethodHandle" ∧ y.cls ≠ "java/lang/invoke/VarHandle") {b : Addr} {av : List Value} (hM : Meets l Z y bytes maxL none [] rm (.ref b :: av).toArray h Q) (eT : T.heap = h)
    {pc : Nat} {Ls : Array Slot} {rest : List Value} {ps : List FieldType} {r : Option FieldType} (hsize : Ls.size = c.maxLocals) (hp : parseMethodDescriptor y.desc = some ⟨ps, r⟩) (hlen : av.length = ps.length)
    (W : Nat) (hW : (rest.map fun v => v.category).sum ≤ W) (hf : rm.frames + 1 ≤ R.frames) (hl : W + (maxL + 11) + rm.locals ≤ R.locals) (hc : cells + rm.cells ≤ R.cells) (hs : slots + rm.slots ≤ R.slots) (hd : decode c.code pc = .ok (.invokespecial index, 3)) :
    ∃ v T' L, Stand p l e R s m args below meth c T' (locs ++ L) (cells + rm.cells) (slots + rm.slots) ∧ Q v T'.heap L ∧
      ∀ t, Steps p.tables e below (T'.setTop (mkF m (pc + 3) Ls (v.toList ++ rest))) t → Steps p.tables e below (T.setTop (mkF m pc Ls (av.reverse ++ .ref b :: rest))) t := by
  obtain ⟨v, _, ⟨T2, L2, k2, n2⟩, -, X2, ⟨Lc2, hQ2, l2, y2, z2⟩, st2⟩ := X.specialBack hx (y := y) hy1 hown (mvT hZ w1) (mvT hZ w5) (mvT hZ w4) hy (backOf (W := W) hM hZ w4 w6 hf hl) (g := mkF m pc Ls (av.reverse ++ .ref b :: rest)) rfl hsize (Steps.refl _) (a := b) (argsL := av) (rest := rest) (lenOf hp hlen) rfl (by show 2 * 0 + _ ≤ _; rw [Nat.mul_zero, Nat.zero_add]; exact hW) hd (fun _ _ => ⟨rfl, eT, hc, hs⟩)
  dsimp only [Pt.U, Pt.locs, Pt.cells, Pt.slots] at X2 l2 y2 z2 st2 hQ2
  subst l2 y2 z2
  exact ⟨v, T2, Lc2, X2, hQ2, fun t k => st2.trans k⟩
/-- a private method by its contract; that its class is no interface is told by another word of it -/
theorem callPQ (X : Stand p l e R s m args below meth c T locs cells slots) (hx : p.tables.exec = Jvm.exec) (hZ : Z.Warmed39 s.vm) {own C : String} {index : Nat} {y y2 : MethodName} {bytes : ByteArray} {maxL : Nat} {rt : Option FieldType} {rm : Room}
    (hown : s.vm.findClass own = some m.cls) (w1 : (Jvm.Cond.methodLink own index y).before a0 Z = true) (w5 : (Jvm.Cond.instanceMethod y).before a0 Z = true) (wp : (Jvm.Cond.privateMethod y).before a0 Z = true) (w3 : (Jvm.Cond.selects y2.cls y2 y2).before a0 Z = true) (hc2 : y2.cls = y.cls) (w6 : (Jvm.Cond.initialized y.cls).before a0 Z = true) (w4 : (Jvm.Cond.code y bytes maxL rt).before a0 Z = true)
    (hy : y.cls ≠ "java/lang/invoke/MethodHandle" ∧ y.cls ≠ "java/lang/invoke/VarHandle") {b : Addr} {av : List Value} (hE : Exa Z h b C) (hM : Meets l Z y bytes maxL rt [] rm (.ref b :: av).toArray h Q) (eT : T.heap = h)
    {pc : Nat} {Ls : Array Slot} {rest : List Value} {ps : List FieldType} {r : Option FieldType} (hsize : Ls.size = c.maxLocals) (hp : parseMethodDescriptor y.desc = some ⟨ps, r⟩) (hlen : av.length = ps.length)
    (W : Nat) (hW : (rest.map fun v => v.category).sum ≤ W) (hf : rm.frames + 1 ≤ R.frames) (hl : W + (maxL + 11) + rm.locals ≤ R.locals) (hc : cells + rm.cells ≤ R.cells) (hs : slots + rm.slots ≤ R.slots) (hd : decode c.code pc = .ok (.invokevirtual index, 3)) :
    ∃ v T' L, Stand p l e R s m args below meth c T' (locs ++ L) (cells + rm.cells) (slots + rm.slots) ∧ Q v T'.heap L ∧
      ∀ t, Steps p.tables e below (T'.setTop (mkF m (pc + 3) Ls (v.toList ++ rest))) t → Steps p.tables e below (T.setTop (mkF m pc Ls (av.reverse ++ .ref b :: rest))) t := by
  obtain ⟨cell, q1, q2⟩ := hE.cell
  have hpriv := Cond.privateMethod_at (mvP hZ wp (args := args))
  have w3' : (Jvm.Cond.selects y2.cls y2 y2).before args s = true := mvT hZ w3
  obtain ⟨c2, r2, m2, -, -, q3, -, kP, hkP, hkPi⟩ := Cond.selects_spec w3'
  have hsel : (Jvm.Cond.selects y.cls y y).before args s = true := selects_self_of_private (hc2 ▸ findClass_of_methodNamed q3) hkP hkPi hpriv (mvT hZ w5) hy
  obtain ⟨v, _, ⟨T2, L2, k2, n2⟩, -, X2, ⟨Lc2, hQ2, l2, y2', z2⟩, st2⟩ := X.privateBack hx (y := y) hown (mvT hZ w1) (mvT hZ w5) hsel hpriv (mvT hZ w4) hy (backOf (W := W) hM hZ w4 w6 hf hl) (g := mkF m pc Ls (av.reverse ++ .ref b :: rest)) rfl hsize (Steps.refl _) (a := b) (by rw [eT]; exact q1) q2 (argsL := av) (rest := rest) (lenOf hp hlen) rfl (by show 2 * 0 + _ ≤ _; rw [Nat.mul_zero, Nat.zero_add]; exact hW) hd (fun _ _ => ⟨rfl, eT, hc, hs⟩)
  dsimp only [Pt.U, Pt.locs, Pt.cells, Pt.slots] at X2 l2 y2' z2 st2 hQ2
  subst l2 y2' z2
  exact ⟨v, T2, Lc2, X2, hQ2, fun t k => st2.trans k⟩
theorem callP0 (X : Stand p l e R s m args below meth c T locs cells slots) (hx : p.tables.exec = Jvm.exec) (hZ : Z.Warmed39 s.vm) {own C : String} {index : Nat} {y y2 : MethodName} {bytes : ByteArray} {maxL : Nat} {rt : Option FieldType} {fr lo : Nat} {v : Option Value}
    (hown : s.vm.findClass own = some m.cls) (w1 : (Jvm.Cond.methodLink own index y).before a0 Z = true) (w5 : (Jvm.Cond.instanceMethod y).before a0 Z = true) (wp : (Jvm.Cond.privateMethod y).before a0 Z = true) (w3 : (Jvm.Cond.selects y2.cls y2 y2).before a0 Z = true) (hc2 : y2.cls = y.cls) (w6 : (Jvm.Cond.initialized y.cls).before a0 Z = true) (w4 : (Jvm.Cond.code y bytes maxL rt).before a0 Z = true)
    (hy : y.cls ≠ "java/lang/invoke/MethodHandle" ∧ y.cls ≠ "java/lang/invoke/VarHandle") {b : Addr} {av : List Value} (hE : Exa Z h b C) (hM : Meets l Z y bytes maxL rt [] ({ frames := fr, cells := 0, slots := 0, locals := lo } : Room) (.ref b :: av).toArray h (PureR v h)) (eT : T.heap = h)
    {pc : Nat} {Ls : Array Slot} {rest : List Value} {ps : List FieldType} {r : Option FieldType} (hsize : Ls.size = c.maxLocals) (hp : parseMethodDescriptor y.desc = some ⟨ps, r⟩) (hlen : av.length = ps.length)
    (W : Nat) (hW : (rest.map fun v => v.category).sum ≤ W) (hf : fr + 1 ≤ R.frames) (hl : W + (maxL + 11) + lo ≤ R.locals) (hc : cells ≤ R.cells) (hs : slots ≤ R.slots) (hd : decode c.code pc = .ok (.invokevirtual index, 3)) :
    ∃ T', Stand p l e R s m args below meth c T' locs cells slots ∧ T'.heap = h ∧
      ∀ t, Steps p.tables e below (T'.setTop (mkF m (pc + 3) Ls (v.toList ++ rest))) t → Steps p.tables e below (T.setTop (mkF m pc Ls (av.reverse ++ .ref b :: rest))) t := by
  obtain ⟨_, T2, _, X2, ⟨rfl, h2, rfl⟩, st2⟩ := callPQ X hx hZ hown w1 w5 wp w3 hc2 w6 w4 hy hE hM eT hsize hp hlen W hW hf hl hc hs hd
  rw [List.append_nil] at X2
  exact ⟨T2, X2, h2, st2⟩
end OwnKit2
section OwnKit3
variable {args : Array Value} {first s : State} {o : Option Outcome} {idx : List Nat} {a b : Term}
theorem own_eqI {k : Int32} (h : (Jvm.Cond.eq a (.int k)).value args first o s idx = some true) : a.eval args first o idx s = some (.int k) := by
  obtain ⟨x, y, hx, hy, -, hk⟩ := cmp_v (Or.inl h)
  rw [Term.int_eval] at hy
  cases hy
  obtain ⟨z, rfl⟩ := hk
  have q := gotT (Cond.eq_ints hx (Term.int_eval k)) h
  rw [hx, q]
theorem own_eqR {b' : Addr} (h : (Jvm.Cond.eq a b).value args first o s idx = some true) (hb : b.eval args first o idx s = some (.ref b')) : a.eval args first o idx s = some (.ref b') := by
  obtain ⟨x, y, hx, hy, -, hk⟩ := cmp_v (Or.inl h)
  rw [hb] at hy
  cases hy
  have hk' : x.isRef = true := hk.2
  have q := gotT (eq_R hx hb hk' rfl) h
  rw [hx, q]
theorem own_lenEq {Z : State} {x : Addr} {cl : Cell} {ty : FieldType} {t : Term} {n : Int32} (ev : t.eval args Z none [] Z = some (.ref x)) (A : Arr Z Z.heap x cl ty) (h : (Jvm.Cond.eq (.length t) (.int n)).value args Z none Z [] = some true) : cl.slots.size = n.toNatClampNeg := by
  have q := own_eqI h
  have ha : Z.arrayAt? x = some cl := Arr.fin (Vm.Alike.refl _) A
  by_cases c : cl.slots.size < 2 ^ 31
  · rw [len_f ev ha c] at q
    have e : cl.slots.size.toInt32 = n := Value.int.inj (Option.some.inj q)
    rw [← e]
    have e2 : (cl.slots.size.toInt32).toInt = cl.slots.size := len_toInt c
    show cl.slots.size = (cl.slots.size.toInt32).toInt.toNat
    omega
  · exfalso
    have q2 : (Term.length t).eval args Z none [] Z = none := by simp [Term.eval, ev, ha, c]
    rw [q2] at q
    cases q
end OwnKit3
section OwnKit4
variable {p : Program} {l : Launch} {e : Env} {R : Room} {s : State} {m : MethodId} {args : Array Value} {below : List Frame} {meth : Method} {c : Code} {T : State} {locs : List Loc} {cells slots : Nat} {Z : State} {h h0 h' : Heap} {a b : Addr} {a0 : Array Value} {k : ClassId} {ty : FieldType} {z j x : Int32} {f : Nat → Int32} {ws : List Addr} {sl : Nat} {v : Value}
/-- an array of ints (or of a narrower kind), its length z, its elements by a function -/
def Arf (Z : State) (h : Heap) (a : Addr) (k : ClassId) (ty : FieldType) (z : Int32) (f : Nat → Int32) : Prop := ∃ c : Cell, Arr Z h a c ty ∧ c.cls = k ∧ c.slots.size = z.toNatClampNeg ∧ ¬ z < 0 ∧ (∀ i, i < c.slots.size → c.slots[i]? = some (.int (f i))) ∧ ∀ i, i < c.slots.size → fits ty (.int (f i)) = true
def own_upd (f : Nat → Int32) (j : Nat) (v : Int32) : Nat → Int32 := fun i => if i = j then v else f i
theorem Arf.lt (F : Arf Z h a k ty z f) : a < h.size := by obtain ⟨c, A, -⟩ := F; exact A.lt
theorem Arf.ext (F : Arf Z h a k ty z f) (E : Ext h h') : Arf Z h' a k ty z f := by obtain ⟨c, A, r⟩ := F; exact ⟨c, A.ext E, r⟩
theorem Arf.other (F : Arf Z h b k ty z f) (W : Wr h h' a sl v) (q : b ≠ a) : Arf Z h' b k ty z f := by obtain ⟨c, A, r⟩ := F; exact ⟨c, A.other W q, r⟩
theorem Arf.keep (F : Arf Z h a k ty z f) (K : Keep h h' ws) (q : a ∉ ws) : Arf Z h' a k ty z f := by obtain ⟨c, A, r⟩ := F; exact ⟨c, ⟨K.2.1 a c A.1 q, A.2⟩, r⟩
theorem Arf.congr {f' : Nat → Int32} (F : Arf Z h a k ty z f) (q : ∀ i, i < z.toNatClampNeg → f i = f' i) : Arf Z h a k ty z f' := by
  obtain ⟨c, A, q1, S, q3, H, G⟩ := F
  exact ⟨c, A, q1, S, q3, fun i hi => by rw [H i hi, q i (S ▸ hi)], fun i hi => by rw [← q i (S ▸ hi)]; exact G i hi⟩
theorem Arf.new (A : Arr Z h a (newA k ty z) ty) (q : ¬ z < 0) (hd : defaultValue ty = .int 0) (hf : fits ty (.int 0) = true) : Arf Z h a k ty z (fun _ => 0) :=
  ⟨_, A, rfl, sz_new _ _ _, q, fun i hi => by rw [sz_new] at hi; simp [newA, hd, hi], fun _ _ => hf⟩
theorem Arf.set {c : Cell} (A : Arr Z h a c ty) (q1 : c.cls = k) (S : c.slots.size = z.toNatClampNeg) (q3 : ¬ z < 0) (H : ∀ i, i < c.slots.size → c.slots[i]? = some (.int (f i))) (G : ∀ i, i < c.slots.size → fits ty (.int (f i)) = true) (hv : fits ty (.int x) = true) (W : Wr h h' a j.toNatClampNeg (.int x)) : Arf Z h' a k ty z (own_upd f j.toNatClampNeg x) := by
  refine ⟨c.setSlot j.toNatClampNeg (.int x), A.same W, q1, (sz_set _ _ _).trans S, q3, fun i hi => ?_, fun i hi => ?_⟩
  · rw [sz_set] at hi
    by_cases e : i = j.toNatClampNeg
    · subst e; simp [Cell.setSlot, own_upd, hi]
    · have e' : ¬ j.toNatClampNeg = i := fun q => e q.symm
      have := H i hi
      simp [Cell.setSlot, own_upd, e, e', this]
  · rw [sz_set] at hi
    by_cases e : i = j.toNatClampNeg
    · subst e; simp only [own_upd, if_pos rfl]; exact hv
    · simp only [own_upd, if_neg e]; exact G i hi
theorem Arf.arv (F : Arf Z h a k ty z f) : Arv Z h a k ty z ((List.range z.toNatClampNeg).map fun i => Value.int (f i)) (.int 0) := by
  obtain ⟨c, A, q1, S, q3, H, G⟩ := F
  have q : ∀ i, i < c.slots.size → ((List.range z.toNatClampNeg).map fun i => Value.int (f i)).getD i (.int 0) = .int (f i) := fun i hi => by rw [S] at hi; simp [List.getD, hi]
  exact ⟨c, A, q1, S, q3, fun i hi => by rw [q i hi]; exact H i hi, fun i hi => by rw [q i hi]; exact G i hi⟩
theorem Arf.of_arv {vs : List Value} {d : Value} (F : Arv Z h a k ty z vs d) (q : ∀ i, i < z.toNatClampNeg → vs.getD i d = .int (f i)) : Arf Z h a k ty z f := by
  obtain ⟨c, A, q1, S, q3, H, G⟩ := F
  exact ⟨c, A, q1, S, q3, fun i hi => by rw [H i hi, q i (S ▸ hi)], fun i hi => by rw [← q i (S ▸ hi)]; exact G i hi⟩
theorem own_inb (F : Arf Z h a k ty z f) (q : ¬ j < 0 ∧ j < z) : ∃ c : Cell, Arr Z h a c ty ∧ ¬ (j < 0 ∨ c.slots.size ≤ j.toNatClampNeg) ∧ c.slots[j.toNatClampNeg]? = some (.int (f j.toNatClampNeg)) ∧ fits ty (.int (f j.toNatClampNeg)) = true := by
  obtain ⟨c, A, q1, S, q3, H, G⟩ := F
  have hin := inb_of S q
  have hlt : j.toNatClampNeg < c.slots.size := Nat.lt_of_not_le fun y => hin (Or.inr y)
  exact ⟨c, A, hin, H _ hlt, G _ hlt⟩
theorem own_len (X : Stand p l e R s m args below meth c T locs cells slots) (hx : p.tables.exec = Jvm.exec) (hZ : Z.Warmed39 s.vm) (eT : T.heap = h) (F : Arf Z h a k ty z f) {pc : Nat} {Ls : Array Slot} {rest : List Value} (hd : decode c.code pc = .ok (.arraylength, 1)) :
    ∀ t, Steps p.tables e below (T.setTop (mkF m (pc + 1) Ls (.int z :: rest))) t → Steps p.tables e below (T.setTop (mkF m pc Ls (.ref a :: rest))) t := by
  obtain ⟨cl, A, q1, S, q3, H, G⟩ := F
  intro t k
  refine X.arraylength hx (by rw [eT]; exact A.1) (State.isArrayOf_alike hZ.alike A.2.1) (g := mkF m pc Ls (.ref a :: rest)) rfl rfl hd _ ?_
  rw [len_of S q3]
  exact k
theorem own_ldI (X : Stand p l e R s m args below meth c T locs cells slots) (hx : p.tables.exec = Jvm.exec) (hZ : Z.Warmed39 s.vm) (eT : T.heap = h) (F : Arf Z h a k .int z f) (q : ¬ j < 0 ∧ j < z) {pc : Nat} {Ls : Array Slot} {rest : List Value} (hd : decode c.code pc = .ok (.iaload, 1)) :
    ∀ t, Steps p.tables e below (T.setTop (mkF m (pc + 1) Ls (.int (f j.toNatClampNeg) :: rest))) t → Steps p.tables e below (T.setTop (mkF m pc Ls (.int j :: .ref a :: rest))) t := by
  obtain ⟨cl, A, hin, hat, -⟩ := own_inb F q
  exact fun t k => X.iaload hx (by rw [eT]; exact A.1) (State.isArrayOf_alike hZ.alike A.2.1) A.2.2 hin hat (g := mkF m pc Ls (.int j :: .ref a :: rest)) rfl rfl hd _ k
theorem own_ldB (X : Stand p l e R s m args below meth c T locs cells slots) (hx : p.tables.exec = Jvm.exec) (hZ : Z.Warmed39 s.vm) (eT : T.heap = h) (F : Arf Z h a k .byte z f) (q : ¬ j < 0 ∧ j < z) {pc : Nat} {Ls : Array Slot} {rest : List Value} (hd : decode c.code pc = .ok (.baload, 1)) :
    ∀ t, Steps p.tables e below (T.setTop (mkF m (pc + 1) Ls (.int (f j.toNatClampNeg) :: rest))) t → Steps p.tables e below (T.setTop (mkF m pc Ls (.int j :: .ref a :: rest))) t := by
  obtain ⟨cl, A, hin, hat, -⟩ := own_inb F q
  exact fun t k => X.baloadBytes hx (by rw [eT]; exact A.1) (State.isArrayOf_alike hZ.alike A.2.1) A.2.2 hin hat (g := mkF m pc Ls (.int j :: .ref a :: rest)) rfl rfl hd _ k
theorem own_ldZ (X : Stand p l e R s m args below meth c T locs cells slots) (hx : p.tables.exec = Jvm.exec) (hZ : Z.Warmed39 s.vm) (eT : T.heap = h) (F : Arf Z h a k .boolean z f) (q : ¬ j < 0 ∧ j < z) {pc : Nat} {Ls : Array Slot} {rest : List Value} (hd : decode c.code pc = .ok (.baload, 1)) :
    ∀ t, Steps p.tables e below (T.setTop (mkF m (pc + 1) Ls (.int (f j.toNatClampNeg) :: rest))) t → Steps p.tables e below (T.setTop (mkF m pc Ls (.int j :: .ref a :: rest))) t := by
  obtain ⟨cl, A, hin, hat, -⟩ := own_inb F q
  exact fun t k => X.baloadBooleans hx (by rw [eT]; exact A.1) (State.isArrayOf_alike hZ.alike A.2.1) A.2.2 hin hat (g := mkF m pc Ls (.int j :: .ref a :: rest)) rfl rfl hd _ k
theorem own_stI (X : Stand p l e R s m args below meth c T locs cells slots) (hx : p.tables.exec = Jvm.exec) (hZ : Z.Warmed39 s.vm) (eT : T.heap = h) (F : Arf Z h a k .int z f) (q : ¬ j < 0 ∧ j < z) {pc : Nat} {Ls : Array Slot} {rest : List Value} (hd : decode c.code pc = .ok (.iastore, 1)) :
    ∃ T' h', Stand p l e R s m args below meth c T' (locs ++ [⟨a, j.toNatClampNeg⟩]) cells slots ∧ T'.heap = h' ∧ Wr h h' a j.toNatClampNeg (.int x) ∧ Arf Z h' a k .int z (own_upd f j.toNatClampNeg x) ∧ ∀ t, Steps p.tables e below (T'.setTop (mkF m (pc + 1) Ls rest)) t → Steps p.tables e below (T.setTop (mkF m pc Ls (.int x :: .int j :: .ref a :: rest))) t := by
  obtain ⟨cl, A, q1, S, q3, H, G⟩ := F
  obtain ⟨T', h', X', e', W, st⟩ := stI X hx hZ eT A (j := j) (inb_of S q) (g := mkF m pc Ls (.int x :: .int j :: .ref a :: rest)) rfl rfl hd
  exact ⟨T', h', X', e', W, Arf.set A q1 S q3 H G rfl W, st⟩
theorem own_stB (X : Stand p l e R s m args below meth c T locs cells slots) (hx : p.tables.exec = Jvm.exec) (hZ : Z.Warmed39 s.vm) (eT : T.heap = h) (F : Arf Z h a k .byte z f) (q : ¬ j < 0 ∧ j < z) {pc : Nat} {Ls : Array Slot} {rest : List Value} (hd : decode c.code pc = .ok (.bastore, 1)) :
    ∃ T' h', Stand p l e R s m args below meth c T' (locs ++ [⟨a, j.toNatClampNeg⟩]) cells slots ∧ T'.heap = h' ∧ Wr h h' a j.toNatClampNeg (.int (nar .byte x)) ∧ Arf Z h' a k .byte z (own_upd f j.toNatClampNeg (nar .byte x)) ∧ ∀ t, Steps p.tables e below (T'.setTop (mkF m (pc + 1) Ls rest)) t → Steps p.tables e below (T.setTop (mkF m pc Ls (.int x :: .int j :: .ref a :: rest))) t := by
  obtain ⟨cl, A, q1, S, q3, H, G⟩ := F
  obtain ⟨T', h', X', e', W, st⟩ := stB X hx hZ eT A (j := j) (inb_of S q) (g := mkF m pc Ls (.int x :: .int j :: .ref a :: rest)) rfl rfl hd
  exact ⟨T', h', X', e', W, Arf.set A q1 S q3 H G (fits_nar_byte _) W, st⟩
theorem own_stZ (X : Stand p l e R s m args below meth c T locs cells slots) (hx : p.tables.exec = Jvm.exec) (hZ : Z.Warmed39 s.vm) (eT : T.heap = h) (F : Arf Z h a k .boolean z f) (q : ¬ j < 0 ∧ j < z) {pc : Nat} {Ls : Array Slot} {rest : List Value} (hd : decode c.code pc = .ok (.bastore, 1)) :
    ∃ T' h', Stand p l e R s m args below meth c T' (locs ++ [⟨a, j.toNatClampNeg⟩]) cells slots ∧ T'.heap = h' ∧ Wr h h' a j.toNatClampNeg (.int (nar .boolean x)) ∧ Arf Z h' a k .boolean z (own_upd f j.toNatClampNeg (nar .boolean x)) ∧ ∀ t, Steps p.tables e below (T'.setTop (mkF m (pc + 1) Ls rest)) t → Steps p.tables e below (T.setTop (mkF m pc Ls (.int x :: .int j :: .ref a :: rest))) t := by
  obtain ⟨cl, A, q1, S, q3, H, G⟩ := F
  obtain ⟨T', h', X', e', W, st⟩ := stZ X hx hZ eT A (j := j) (inb_of S q) (g := mkF m pc Ls (.int x :: .int j :: .ref a :: rest)) rfl rfl hd
  exact ⟨T', h', X', e', W, Arf.set A q1 S q3 H G (fits_nar_bool _) W, st⟩
end OwnKit4
section OwnKit5
variable {Z : State} {h : Heap} {a : Addr} {k : ClassId} {ty : FieldType} {z : Int32} {f : Nat → Int32}
theorem own_ofArh (F : Arh Z h a k ty z [] ((List.range z.toNatClampNeg).map fun i => Value.int (f i)) (.int 0)) : Arf Z h a k ty z f :=
  Arf.of_arv (vs := (List.range z.toNatClampNeg).map fun i => Value.int (f i)) (d := .int 0) F fun i hi => by simp [List.getD, hi]
end OwnKit5
section OwnKit6
variable {Z : State} {h h' : Heap} {a : Addr} {k : ClassId} {ty : FieldType} {z : Int32} {f : Nat → Int32} {ws : List Addr} {C n d : String} {w : Value}
theorem own_staKeep (F : Sta Z h C n d w) (K : Keep h h' ws) (q : ∀ x ∈ ws, ∀ c : Cell, h[x]? = some c → c.vm.isStatics = false) : Sta Z h' C n d w := by
  obtain ⟨cf, i, k, f, st, cell, h1, h2, h3, h4, h5, h6, h7⟩ := F
  exact ⟨cf, i, k, f, st, cell, h1, h2, h3, h4, K.2.1 st cell h5 (fun m => by have := q st m cell h5; rw [this] at h6; cases h6), h6, h7⟩
theorem own_plainA (F : Arf Z h a k ty z f) : ∀ c : Cell, h[a]? = some c → c.vm.isStatics = false := by
  obtain ⟨cl, A, -⟩ := F
  intro c hc
  rw [A.1] at hc
  cases hc
  exact A.plain
theorem own_plainE (F : Exa Z h a C) : ∀ c : Cell, h[a]? = some c → c.vm.isStatics = false := by
  obtain ⟨cl, k, h1, -, -, h4, -⟩ := F
  intro c hc
  rw [h1] at hc
  cases hc
  exact h4
theorem own_plainF (F : Fld Z h a C n d w) : ∀ c : Cell, h[a]? = some c → c.vm.isStatics = false := old_plain F
end OwnKit6
section OwnKitB
variable {p : Program} {l : Launch} {e : Env} {R : Room} {s : State} {m : MethodId} {args : Array Value} {below : List Frame} {meth : Method} {c : Code} {T : State} {locs : List Loc} {cells slots : Nat} {Z : State} {h h0 : Heap} {ce sl : Nat} {Q : Option Value → Heap → List Loc → Prop} {U U' : State} {a0 : Array Value} {n n' : Nat} {I : Bool}
/-- as Go, the end under the wide frame (String constants may have been made); at the end the heap has at least n cells -/
def GoB (p : Program) (e : Env) (below : List Frame) (s : State) (ce sl : Nat) (n : Nat) (Q : Option Value → Heap → List Loc → Prop) (U : State) : Prop :=
  ∃ s₂ o, Steps p.tables e below U s₂ ∧ s₂.status = .running ∧ Ended s₂ below o ∧ ∃ v L, o = .returned v ∧ (Q v s₂.heap L ∧ n ≤ s₂.heap.size) ∧ ReturnedEndW s o s₂ L ce sl
theorem GoB.via (h : ∀ t, Steps p.tables e below U' t → Steps p.tables e below U t) (g : GoB p e below s ce sl n Q U') : GoB p e below s ce sl n Q U := by
  obtain ⟨s₂, o, h1, h2⟩ := g
  exact ⟨s₂, o, h _ h1, h2⟩
theorem GoB.cast {g g' : JFrame} (q : g = g') (k : GoB p e below s ce sl n Q (T.setTop g')) : GoB p e below s ce sl n Q (T.setTop g) := q ▸ k
theorem GoB.ofGo (g : Go p e below s ce sl (fun v h L => Q v h L ∧ n ≤ h.size) U) : GoB p e below s ce sl n Q U := by
  obtain ⟨s₂, o, h1, h2, h3, v, L, h4, h5, h7, hW, hs⟩ := g
  exact ⟨s₂, o, h1, h2, h3, v, L, h4, h5, ReturnedEndW.of_narrow h7 hW hs⟩
/-- the start's tables moved on -/
theorem GoB.reb {vm₁ : Vm} (hS : s.Since vm₁ n') (hn : n ≤ n') (g : GoB p e below (s.setVm vm₁) ce sl n' Q U) : GoB p e below s ce sl n Q U := by
  obtain ⟨s₂, o, h1, h2, h3, v, L, h4, ⟨h5, h6⟩, hr, hW, hB, hs⟩ := g
  have q := hS.trans (⟨hW, hB⟩ : (s.setVm vm₁).Since s₂.vm s₂.heap.size) h6
  exact ⟨s₂, o, h1, h2, h3, v, L, h4, ⟨h5, Nat.le_trans hn h6⟩, hr, q.1, q.2, hs.setVm s.vm⟩
/-- the contract of a body that may intern; I: it asks that nothing has been interned since Z -/
def MeetsB (l : Launch) (Z : State) (I : Bool) (y : MethodName) (bytes : ByteArray) (maxL : Nat) (rt : Option FieldType) (ws : List Jvm.Cond) (rm : Room) (as' : Array Value) (h0 : Heap) (Q : Option Value → Heap → List Loc → Prop) : Prop :=
  MetFree l y (head1 (Jvm.Cond.code y bytes maxL rt :: ws) rm) (fun a U => a = as' ∧ Z.Warmed39 U.vm ∧ U.heap = h0 ∧ (I = true → U.vm.interned = Z.vm.interned)) (fun _ _ _ _ _ => True) (fun _ U o U' => ∃ v L, o = .returned v ∧ Q v U'.heap L ∧ ReturnedEndW U o U' L rm.cells rm.slots)
theorem meetsB_of {y : MethodName} {bytes : ByteArray} {maxL : Nat} {rt : Option FieldType} {ws : List Jvm.Cond} {rm : Room} {as' : Array Value} (hpl : plainFor y = true)
    (body : ∀ p e s m below meth c s₁, Stand p l e rm s m as' below meth c s₁ [] 0 0 → p.tables.exec = Jvm.exec → Z.Warmed39 s.vm → c.code = bytes → c.maxLocals = maxL → meth.sig.returnType = rt → meth.locks = false → s.vm.findClass y.cls = some m.cls → meth.name = y.name → s₁.heap = h0 → s.heap = h0 → (I = true → s.vm.interned = Z.vm.interned) →
      GoB p e below s rm.cells rm.slots 0 Q (s₁.setTop (entryFrame m as' maxL))) : MeetsB l Z I y bytes maxL rt ws rm as' h0 Q := by
  refine MetFree.of_bodySF hpl hisR ?_
  intro p e s m args below meth c s₁ Bd hml hP hK
  obtain ⟨rfl, hZ, hh, hI⟩ := hP
  obtain ⟨s₂, o, h1, h2, h3, v, L, h4, h5, h6⟩ := body p e s m below meth c s₁ (Stand.of_body Bd) Bd.exec hZ Bd.bytes hml Bd.returns Bd.notSynchronized (findClass_of_methodNamed Bd.named) (name_of_methodNamed Bd.named Bd.method).1 (by rw [← hh, Bd.state]; rfl) hh hI
  exact ⟨s₂, o, h1, h2, h3, v, L, h4, h5.1, h6⟩
theorem own_noNew (h : s.WarmedH U.vm) : U.vm.interned = s.vm.interned := (h.since s.heap.size).same_table (Nat.le_refl _)
theorem backOfB {y : MethodName} {bytes : ByteArray} {maxL : Nat} {ret : Option FieldType} {rm : Room} {len W : Nat} {as' : Array Value}
    (hM : MeetsB l Z I y bytes maxL ret [] rm as' h Q) (hZ : Z.Warmed39 s.vm) (hI : I = true → s.vm.interned = Z.vm.interned) (wc : (Jvm.Cond.code y bytes maxL ret).before a0 Z = true) (wz : (Jvm.Cond.initialized y.cls).before a0 Z = true) (hf : rm.frames + 1 ≤ R.frames) (hl : W + (maxL + 11) + rm.locals ≤ R.locals) :
    BackS l R p e below s args y len W (fun A a => a = as' ∧ A.U.heap = h ∧ A.cells + rm.cells ≤ R.cells ∧ A.slots + rm.slots ≤ R.slots)
      (fun A _ v B => ∃ L, Q v B.U.heap L ∧ B.locs = A.locs ++ L ∧ B.cells = A.cells + rm.cells ∧ B.slots = A.slots + rm.slots) :=
  BackS.of_freeW (bytes := bytes) (maxL := maxL) (ret := ret) (E := fun _ _ o t L k n => k = rm.cells ∧ n = rm.slots ∧ ∃ v, o = .returned v ∧ Q v t.heap L) hM hf hl
    (fun m meth c A a Y hp => have hU : Z.Warmed39 A.U.vm := wtrans hZ Y.warmed
      ⟨by show (Cond.and _ .tt).before a A.U = true; rw [Cond.before_and, mvT hU wc]; rfl, mvT hU wc, mvT hU wz, hp.2.2.1, hp.2.2.2⟩)
    (fun m meth c A a g mk Y hp => ⟨hp.1, wtrans hZ Y.warmed, hp.2.1, fun q => (own_noNew Y.warmed).trans (hI q)⟩) (fun _ _ _ _ _ _ _ _ _ => trivial)
    (fun _ _ _ _ ⟨v, L, h1, h2, h3⟩ => ⟨L, _, _, h3, rfl, rfl, v, h1, h2⟩)
    (fun m meth c A a g mk v t L k n Y hp _ _ ⟨e1, e2, v', e3, e4⟩ => by cases e3; subst e1 e2; exact ⟨L, e4, rfl, rfl, rfl⟩)
theorem callSB (X : Stand p l e R s m args below meth c T locs cells slots) (hx : p.tables.exec = Jvm.exec) (hZ : Z.Warmed39 s.vm) {own : String} {index : Nat} {y : MethodName} {bytes : ByteArray} {maxL : Nat} {rt : Option FieldType} {rm : Room}
    (hown : s.vm.findClass own = some m.cls) (w1 : (Jvm.Cond.methodLink own index y).before a0 Z = true) (w2 : (Jvm.Cond.static y).before a0 Z = true) (w3 : (Jvm.Cond.initialized y.cls).before a0 Z = true) (w4 : (Jvm.Cond.code y bytes maxL rt).before a0 Z = true)
    (hy : y.cls ≠ "java/lang/invoke/MethodHandle" ∧ y.cls ≠ "java/lang/invoke/VarHandle") (hI : I = true → s.vm.interned = Z.vm.interned) {av : List Value} (hM : MeetsB l Z I y bytes maxL rt [] rm av.toArray h Q) (eT : T.heap = h)
    {pc : Nat} {Ls : Array Slot} {rest : List Value} {ps : List FieldType} {r : Option FieldType} (hsize : Ls.size = c.maxLocals) (hp : parseMethodDescriptor y.desc = some ⟨ps, r⟩) (hlen : av.length = ps.length)
    (W : Nat) (hW : (rest.map fun v => v.category).sum ≤ W) (hf : rm.frames + 1 ≤ R.frames) (hl : W + (maxL + 11) + rm.locals ≤ R.locals) (hc : cells + rm.cells ≤ R.cells) (hs : slots + rm.slots ≤ R.slots) (hd : decode c.code pc = .ok (.invokestatic index, 3)) :
    ∃ v s' T' L, Stand p l e R s' m args below meth c T' (locs ++ L) (cells + rm.cells) (slots + rm.slots) ∧ (Z.Warmed39 s'.vm ∧ s'.vm.findClass own = some m.cls ∧ ∀ ce sl n Q' U, n ≤ T'.heap.size → GoB p e below s' ce sl T'.heap.size Q' U → GoB p e below s ce sl n Q' U) ∧ Q v T'.heap L ∧
      ∀ t, Steps p.tables e below (T'.setTop (mkF m (pc + 3) Ls (v.toList ++ rest))) t → Steps p.tables e below (T.setTop (mkF m pc Ls (av.reverse ++ rest))) t := by
  obtain ⟨v, _, ⟨T2, L2, k2, n2⟩, -, X2, hS, hgr, ⟨Lc2, hQ2, l2, y2, z2⟩, st2⟩ := Jvm.RoadKit.callSS X hx (y := y) hown (mvT hZ w1) (mvT hZ w2) (mvT hZ w3) (mvT hZ w4) hy (backOfB (W := W) hM hZ hI w4 w3 hf hl) (g := mkF m pc Ls (av.reverse ++ rest)) rfl hsize (argsL := av) (rest := rest) (lenOf hp hlen) rfl (by show 2 * 0 + _ ≤ _; rw [Nat.mul_zero, Nat.zero_add]; exact hW) hd (fun _ _ => ⟨rfl, eT, hc, hs⟩)
  dsimp only [Pt.U, Pt.locs, Pt.cells, Pt.slots] at X2 l2 y2 z2 st2 hQ2 hS hgr
  subst l2 y2 z2
  exact ⟨v, s.setVm T2.vm, T2, Lc2, X2, ⟨State.Warmed39.trans (t := s) hZ hS.1, by rw [show (s.setVm T2.vm).vm = T2.vm from rfl, hS.1.alike.findClass]; exact hown, fun _ _ _ _ _ hn g => GoB.reb hS hn g⟩, hQ2, fun t k => st2.trans k⟩
theorem callIB (X : Stand p l e R s m args below meth c T locs cells slots) (hx : p.tables.exec = Jvm.exec) (hZ : Z.Warmed39 s.vm) {own : String} {index : Nat} {y : MethodName} {bytes : ByteArray} {maxL : Nat} {rm : Room} (hy1 : y.name = "<init>")
    (hown : s.vm.findClass own = some m.cls) (w1 : (Jvm.Cond.methodLink own index y).before a0 Z = true) (w5 : (Jvm.Cond.instanceMethod y).before a0 Z = true) (w6 : (Jvm.Cond.initialized y.cls).before a0 Z = true) (w4 : (Jvm.Cond.code y bytes maxL none).before a0 Z = true)
    (hy : y.cls ≠ "java/lang/invoke/MethodHandle" ∧ y.cls ≠ "java/lang/invoke/VarHandle") {b : Addr} (hI : I = true → s.vm.interned = Z.vm.interned) {av : List Value} (hM : MeetsB l Z I y bytes maxL none [] rm (.ref b :: av).toArray h Q) (eT : T.heap = h)
    {pc : Nat} {Ls : Array Slot} {rest : List Value} {ps : List FieldType} {r : Option FieldType} (hsize : Ls.size = c.maxLocals) (hp : parseMethodDescriptor y.desc = some ⟨ps, r⟩) (hlen : av.length = ps.length)
    (W : Nat) (hW : (rest.map fun v => v.category).sum ≤ W) (hf : rm.frames + 1 ≤ R.frames) (hl : W + (maxL + 11) + rm.locals ≤ R.locals) (hc : cells + rm.cells ≤ R.cells) (hs : slots + rm.slots ≤ R.slots) (hd : decode c.code pc = .ok (.invokespecial index, 3)) :
    ∃ v s' T' L, Stand p l e R s' m args below meth c T' (locs ++ L) (cells + rm.cells) (slots + rm.slots) ∧ (Z.Warmed39 s'.vm ∧ s'.vm.findClass own = some m.cls ∧ ∀ ce sl n Q' U, n ≤ T'.heap.size → GoB p e below s' ce sl T'.heap.size Q' U → GoB p e below s ce sl n Q' U) ∧ Q v T'.heap L ∧
      ∀ t, Steps p.tables e below (T'.setTop (mkF m (pc + 3) Ls (v.toList ++ rest))) t → Steps p.tables e below (T.setTop (mkF m pc Ls (av.reverse ++ .ref b :: rest))) t := by
  obtain ⟨v, _, ⟨T2, L2, k2, n2⟩, -, X2, hS, hgr, ⟨Lc2, hQ2, l2, y2, z2⟩, st2⟩ := X.specialBackS hx (y := y) hy1 hown (mvT hZ w1) (mvT hZ w5) (mvT hZ w4) hy (backOfB (W := W) hM hZ hI w4 w6 hf hl) (g := mkF m pc Ls (av.reverse ++ .ref b :: rest)) rfl hsize (Steps.refl _) (a := b) (argsL := av) (rest := rest) (lenOf hp hlen) rfl (by show 2 * 0 + _ ≤ _; rw [Nat.mul_zero, Nat.zero_add]; exact hW) hd (fun _ _ => ⟨rfl, eT, hc, hs⟩)
  dsimp only [Pt.U, Pt.locs, Pt.cells, Pt.slots] at X2 l2 y2 z2 st2 hQ2 hS hgr
  subst l2 y2 z2
  exact ⟨v, s.setVm T2.vm, T2, Lc2, X2, ⟨State.Warmed39.trans (t := s) hZ hS.1, by rw [show (s.setVm T2.vm).vm = T2.vm from rfl, hS.1.alike.findClass]; exact hown, fun _ _ _ _ _ hn g => GoB.reb hS hn g⟩, hQ2, fun t k => st2.trans k⟩
theorem own_mono {vm₁ : Vm} (hS : s.Since vm₁ n) (q : n ≤ n') : s.Since vm₁ n' := ⟨hS.1, fun j pr a b => ⟨(hS.2 j pr a b).1, Nat.lt_of_lt_of_le (hS.2 j pr a b).2 q⟩⟩
/-- a String constant; what it holds isn't said -/
theorem own_ldcB (X : Stand p l e R s m args below meth c T locs cells slots) (hx : p.tables.exec = Jvm.exec) (hZ : Z.Warmed39 s.vm) {own text : String} {index : Nat} (hown : s.vm.findClass own = some m.cls) (w : (Jvm.Cond.stringLink own index text).before a0 Z = true) (wS : ∀ a ∈ Bundle.stringAtoms, a.before a0 Z = true)
    (eT : T.heap = h) {pc : Nat} {Ls : Array Slot} {rest : List Value} (hd : decode c.code pc = .ok (.ldc index, 2)) (n : Nat) (hn : 4 * text.toList.length ≤ n) (hbig : n ≤ 536870912) (hc : cells + 2 ≤ R.cells) (hl : slots + (n + 4) ≤ R.slots) :
    ∃ (a : Addr) (s' T' : State) (h' : Heap), Stand p l e R s' m args below meth c T' locs (cells + 2) (slots + (n + 4)) ∧ T'.heap = h' ∧ Ext h h' ∧ (Z.Warmed39 s'.vm ∧ s'.vm.findClass own = some m.cls ∧ ∀ ce sl n Q' U, n ≤ h'.size → GoB p e below s' ce sl h'.size Q' U → GoB p e below s ce sl n Q' U) ∧
      ∀ t, Steps p.tables e below (T'.setTop (mkF m (pc + 2) Ls (.ref a :: rest))) t → Steps p.tables e below (T.setTop (mkF m pc Ls rest)) t := by
  obtain ⟨a, T', h', k1, r1, r2, r3, r4, r5, r6, r7, r8⟩ := ldcS (s := s) (vm0 := s.vm) X hx hZ hown w wS eT (k0 := h.size) ((State.WarmedH.refl s).since h.size) (Nat.le_refl _) (g := mkF m pc Ls rest) rfl hd hn hbig hc hl
  exact ⟨a, s.setVm T'.vm, T', h', r1, r2, r3, ⟨r6, r7, fun _ _ _ _ _ q g => GoB.reb (own_mono r4 r5) q g⟩, r8⟩
/-- the empty String constant, its fields said -/
theorem own_ldcE (X : Stand p l e R s m args below meth c T locs cells slots) (hx : p.tables.exec = Jvm.exec) (hZ : Z.Warmed39 s.vm) {own : String} {index : Nat} (hown : s.vm.findClass own = some m.cls) (w : (Jvm.Cond.stringLink own index "").before a0 Z = true) (wS : ∀ a ∈ Bundle.stringAtoms, a.before a0 Z = true)
    (eT : T.heap = h) (N : Fr s.heap.size locs) (hkeep : ∀ (b : Addr) (cl : Cell), Z.heap[b]? = some cl → s.heap[b]? = some cl) (hI : s.vm.interned = Z.vm.interned) (hh : Jvm.Lit.constHeld Z own index) (hcw : Jvm.Lit.compactW.before a0 Z = true)
    {pc : Nat} {Ls : Array Slot} {rest : List Value} (hd : decode c.code pc = .ok (.ldc index, 2)) (hc : cells + 2 ≤ R.cells) (hl : slots + (0 + 4) ≤ R.slots) :
    ∃ (a b : Addr) (s' T' : State) (h' : Heap), Stand p l e R s' m args below meth c T' locs (cells + 2) (slots + (0 + 4)) ∧ T'.heap = h' ∧ Ext h h' ∧ (Z.Warmed39 s'.vm ∧ s'.vm.findClass own = some m.cls ∧ ∀ ce sl n Q' U, n ≤ h'.size → GoB p e below s' ce sl h'.size Q' U → GoB p e below s ce sl n Q' U) ∧
      Exa Z h' a "java/lang/String" ∧ Fld Z h' a "java/lang/String" "coder" "B" (.int 0) ∧ Fld Z h' a "java/lang/String" "value" "[B" (.ref b) ∧ Lit s' own index a ∧
      ∀ t, Steps p.tables e below (T'.setTop (mkF m (pc + 2) Ls (.ref a :: rest))) t → Steps p.tables e below (T.setTop (mkF m pc Ls rest)) t := by
  obtain ⟨a, T', h', k1, b, k, r1, r2, r3, r4, r5, r6, r7, r8, r9, r10, -, -, -, -, r14, r15⟩ := ldcSVL (s := s) (vm0 := s.vm) (Ts := []) (vs := []) (z := 0) (n := 0) X hx hZ hown w wS eT (k0 := h.size) ((State.WarmedH.refl s).since h.size) (Nat.le_refl _) N hkeep ⟨#[], by rw [hI]; simp, fun q hq => by simp at hq⟩ (by simp) hh hcw ⟨by decide, rfl⟩ (by decide) (by decide) (g := mkF m pc Ls rest) rfl hd (by decide) (by decide) hc hl
  exact ⟨a, b, s.setVm T'.vm, T', h', r1, r2, r3, ⟨r6, r7, fun _ _ _ _ _ q g => GoB.reb (own_mono r4 r5) q g⟩, r8, r9, r10, r14, r15⟩
theorem own_ldcA (X : Stand p l e R s m args below meth c T locs cells slots) (hx : p.tables.exec = Jvm.exec) (hZ : Z.Warmed39 s.vm) {own text : String} {index : Nat} (hown : s.vm.findClass own = some m.cls) (w : (Jvm.Cond.stringLink own index text).before a0 Z = true) {a : Addr} (L : Lit s own index a)
    {pc : Nat} {Ls : Array Slot} {rest : List Value} (hd : decode c.code pc = .ok (.ldc index, 2)) : ∀ t, Steps p.tables e below (T.setTop (mkF m (pc + 2) Ls (.ref a :: rest))) t → Steps p.tables e below (T.setTop (mkF m pc Ls rest)) t :=
  ldcAgain (s := s) (vm0 := s.vm) X hx hZ hown w L (g := mkF m pc Ls rest) rfl hd
theorem own_neF {x y : Addr} {C f d : String} {v w : Value} (A : Fld Z h x C f d v) (B : Fld Z h y C f d w) (q : v ≠ w) : x ≠ y := by
  rintro rfl
  obtain ⟨c1, f1, k1, i1, g1, a1, b1, -, -, -, -, e1⟩ := A
  obtain ⟨c2, f2, k2, i2, g2, a2, b2, -, -, -, -, e2⟩ := B
  cases a1.symm.trans a2
  cases b1.symm.trans b2
  exact q (Option.some.inj (e1.symm.trans e2))
theorem own_nilC : ∀ a ∈ ([] : List Jvm.Cond), a.before a0 Z = true := fun _ q => nomatch q
theorem own_consC {d : Jvm.Cond} {L : List Jvm.Cond} (h1 : d.before a0 Z = true) (h2 : ∀ a ∈ L, a.before a0 Z = true) : ∀ a ∈ d :: L, a.before a0 Z = true := fun a q => (List.mem_cons.mp q).elim (fun u => u ▸ h1) (h2 a)
end OwnKitB
section OwnKitC
variable {p : Program} {l : Launch} {e : Env} {R : Room} {s : State} {m : MethodId} {args : Array Value} {below : List Frame} {meth : Method} {c : Code} {T : State} {locs : List Loc} {cells slots : Nat} {Z : State} {h h0 h' : Heap} {a b : Addr} {a0 : Array Value} {k : ClassId} {z j x : Int32} {f : Nat → Int32}
theorem own_ldC (X : Stand p l e R s m args below meth c T locs cells slots) (hx : p.tables.exec = Jvm.exec) (hZ : Z.Warmed39 s.vm) (eT : T.heap = h) (F : Arf Z h a k .char z f) (q : ¬ j < 0 ∧ j < z) {pc : Nat} {Ls : Array Slot} {rest : List Value} (hd : decode c.code pc = .ok (.caload, 1)) :
    ∀ t, Steps p.tables e below (T.setTop (mkF m (pc + 1) Ls (.int (f j.toNatClampNeg) :: rest))) t → Steps p.tables e below (T.setTop (mkF m pc Ls (.int j :: .ref a :: rest))) t := by
  obtain ⟨cl, A, hin, hat, -⟩ := own_inb F q
  exact fun t k => X.caload hx (by rw [eT]; exact A.1) (State.isArrayOf_alike hZ.alike A.2.1) A.2.2 hin hat (g := mkF m pc Ls (.int j :: .ref a :: rest)) rfl rfl hd _ k
theorem own_stC (X : Stand p l e R s m args below meth c T locs cells slots) (hx : p.tables.exec = Jvm.exec) (hZ : Z.Warmed39 s.vm) (eT : T.heap = h) (F : Arf Z h a k .char z f) (q : ¬ j < 0 ∧ j < z) {pc : Nat} {Ls : Array Slot} {rest : List Value} (hd : decode c.code pc = .ok (.castore, 1)) :
    ∃ T' h', Stand p l e R s m args below meth c T' (locs ++ [⟨a, j.toNatClampNeg⟩]) cells slots ∧ T'.heap = h' ∧ Wr h h' a j.toNatClampNeg (.int (nar .char x)) ∧ Arf Z h' a k .char z (own_upd f j.toNatClampNeg (nar .char x)) ∧ ∀ t, Steps p.tables e below (T'.setTop (mkF m (pc + 1) Ls rest)) t → Steps p.tables e below (T.setTop (mkF m pc Ls (.int x :: .int j :: .ref a :: rest))) t := by
  obtain ⟨cl, A, q1, S, q3, H, G⟩ := F
  obtain ⟨T', h', X', e', W, st⟩ := stC X hx hZ eT A (j := j) (inb_of S q) (g := mkF m pc Ls (.int x :: .int j :: .ref a :: rest)) rfl rfl hd
  exact ⟨T', h', X', e', W, Arf.set A q1 S q3 H G (fits_nar_char _) W, st⟩
end OwnKitC
theorem own_k0 (m : MethodId) (x0 : Int32) : entryFrame m #[(.int x0)] 1 = mkF m 0 #[.val (.int x0)] [] := by first | (simp [entryFrame, mkF, argsToLocals, Value.category]; done) | rfl
theorem own_k1 : decode jdk_43_method_3_code 0 = .ok (.iload_n 0, 1) := by decide +kernel
theorem own_k2 : decode jdk_43_method_3_code 1 = .ok (.sipush 255, 3) := by decide +kernel
theorem own_k3 : decode jdk_43_method_3_code 4 = .ok (.if_icmp .gt 7, 3) := by decide +kernel
theorem own_k4 : decode jdk_43_method_3_code 11 = .ok (.iconst 0, 1) := by decide +kernel
theorem own_k5 : decode jdk_43_method_3_code 12 = .ok (.ireturn, 1) := by decide +kernel
theorem own_k6 : decode jdk_43_method_3_code 7 = .ok (.iconst 1, 1) := by decide +kernel
theorem own_k7 : decode jdk_43_method_3_code 8 = .ok (.goto 4, 3) := by decide +kernel
theorem own_k8 : plainName "java/lang/StringLatin1" = true := by first | (simp [plainName, overriddenIn]; done) | decide +kernel
def own_f6 (x0 : Int32) : Int32 := (if (255 : Int32) < x0 then (0 : Int32) else (1 : Int32))
set_option maxRecDepth 65536 in
set_option maxHeartbeats 40000000 in
theorem own_rm6 (l : Launch) (Z : State) (a0 : Array Value) (hw : ∀ d ∈ tables_1, d.before a0 Z = true) (ws : List Jvm.Cond) (x0 : Int32) (h0 : Heap) : Meets l Z (⟨"java/lang/StringLatin1", "canEncode", "(C)Z"⟩ : MethodName) jdk_43_method_3_code 1 (some .boolean) ws ({ frames := 0, cells := 0, slots := 0, locals := 0 } : Room) #[(.int x0)] h0 (PureR (some (.int (own_f6 x0))) h0) := by
  refine meets_of (plainFor_of_name own_k8) ?_
  intro p e s m below meth c s₁ X0 hx hZ hby hml hret hlk hown hnm e0
  replace hml : c.maxLocals = 1 := hml
  replace hown : s.vm.findClass "java/lang/StringLatin1" = some m.cls := hown
  refine Go.cast (own_k0 m x0) ?_
  refine Go.via (U' := s₁.setTop (mkF m 1 #[.val (.int x0)] [(.int x0)])) (fun tG kG => XS.iloadN X0.here hx rfl (hb hby own_k1) rfl kG) ?_
  refine Go.via (U' := s₁.setTop (mkF m 4 #[.val (.int x0)] [(.int (255 : Int32)), (.int x0)])) (fun tG kG => XS.sipush X0.here hx rfl (hb hby own_k2) kG) ?_
  by_cases hc4 : (255 : Int32) < x0
  · refine Go.via (U' := s₁.setTop (mkF m 11 #[.val (.int x0)] [])) (fun tG kG => XS.icmpYes X0.here hx rfl (pc0 := 4) (pc' := 11) rfl (hb hby own_k3) rfl (tlt hc4).2.2.1 (by decide) (by decide) kG) ?_
    refine Go.via (U' := s₁.setTop (mkF m 12 #[.val (.int x0)] [(.int (0 : Int32))])) (fun tG kG => XS.iconst X0.here hx rfl (hb hby own_k4) kG) ?_
    exact go_retN X0 hx hlk (t := .boolean) hret (by simp) (hb hby own_k5) e0 ⟨(congrArg (fun z => some (Value.int z)) (show nar .boolean (0 : Int32) = (own_f6 x0) from by unfold own_f6; simp only [if_pos hc4] <;> rfl)), rfl, rfl⟩ (by decide) (by decide)
  · refine Go.via (U' := s₁.setTop (mkF m 7 #[.val (.int x0)] [])) (fun tG kG => XS.icmpNo X0.here hx rfl (hb hby own_k3) rfl (flt hc4).2.2.1 kG) ?_
    refine Go.via (U' := s₁.setTop (mkF m 8 #[.val (.int x0)] [(.int (1 : Int32))])) (fun tG kG => XS.iconst X0.here hx rfl (hb hby own_k6) kG) ?_
    refine Go.via (U' := s₁.setTop (mkF m 12 #[.val (.int x0)] [(.int (1 : Int32))])) (fun tG kG => XS.goto X0.here hx rfl (pc0 := 8) (pc' := 12) rfl (hb hby own_k7) (by decide) (by decide) kG) ?_
    exact go_retN X0 hx hlk (t := .boolean) hret (by simp) (hb hby own_k5) e0 ⟨(congrArg (fun z => some (Value.int z)) (show nar .boolean (1 : Int32) = (own_f6 x0) from by unfold own_f6; simp only [if_neg hc4] <;> rfl)), rfl, rfl⟩ (by decide) (by decide)
def own_cp (f g : Nat → Int32) : Nat → Nat → Int32
  | 0 => g
  | t + 1 => own_upd (own_cp f g t) (Int32.ofNat t).toNatClampNeg (nar .byte ((f (Int32.ofNat t).toNatClampNeg).toInt8.toInt32))
theorem own_ofN {t : Nat} (h : t ≤ 100) : (Int32.ofNat t).toInt = t := Int32.toInt_ofNat_of_lt (by omega)
theorem own_cap {z : Int32} (h1 : z.toInt ≤ 100) : z.toNatClampNeg ≤ 100 := by
  show z.toInt.toNat ≤ 100
  omega
theorem own_in {z : Int32} {t d : Nat} (h1 : z.toInt ≤ 100) (h : t + d = z.toNatClampNeg) (hc : Int32.ofNat t < z) : ¬ Int32.ofNat t < 0 ∧ Int32.ofNat t < z := by
  have q := own_cap h1
  refine ⟨?_, hc⟩
  rw [Int32.lt_iff_toInt_lt, own_ofN (by omega), show (0 : Int32).toInt = 0 from rfl]
  omega
theorem own_dpos {z : Int32} {t d : Nat} (h1 : z.toInt ≤ 100) (h : t + d = z.toNatClampNeg) (hc : Int32.ofNat t < z) : 0 < d := by
  have q := own_cap h1
  rw [Int32.lt_iff_toInt_lt, own_ofN (by omega)] at hc
  have e : z.toNatClampNeg = z.toInt.toNat := rfl
  omega
theorem own_ex {z : Int32} {t d : Nat} (h1 : z.toInt ≤ 100) (h : t + d = z.toNatClampNeg) (hc : ¬ Int32.ofNat t < z) : t = z.toNatClampNeg := by
  have q := own_cap h1
  rw [Int32.lt_iff_toInt_lt, own_ofN (by omega)] at hc
  have e : z.toNatClampNeg = z.toInt.toNat := rfl
  omega
theorem own_c0 : ∀ i : Nat, ¬ (255 : Int32) < (fun _ => (0 : Int32)) i := fun _ => (by decide : ¬ (255 : Int32) < (0 : Int32))
theorem own_cU {f : Nat → Int32} {j : Nat} {v : Int32} (h : ∀ i, ¬ (255 : Int32) < f i) (q : ¬ (255 : Int32) < v) : ∀ i, ¬ (255 : Int32) < own_upd f j v i := fun i => by
  unfold own_upd
  split
  · exact q
  · exact h i
theorem own_cV (x : Int32) : ¬ (255 : Int32) < nar .char ((x &&& (255 : Int32)).toUInt32.toUInt16.toUInt32.toInt32) := by
  have m := c_mask x 255 8 (by decide) (by decide)
  have a := c_i2c (x &&& 255)
  have b := c_i2c ((x &&& 255).toUInt32.toUInt16.toUInt32.toInt32)
  show ¬ (255 : Int32) < ((x &&& (255 : Int32)).toUInt32.toUInt16.toUInt32.toInt32).toUInt32.toUInt16.toUInt32.toInt32
  rw [Int32.lt_iff_toInt_lt, show (255 : Int32).toInt = 255 from rfl]
  omega
theorem own_k9 (m : MethodId) (a : Addr) (b : Addr) (z : Int32) : entryFrame m #[(.ref a), (.int (0 : Int32)), (.ref b), (.int (0 : Int32)), (.int z)] 7 = mkF m 0 #[.val (.ref a), .val (.int (0 : Int32)), .val (.ref b), .val (.int (0 : Int32)), .val (.int z), .unset, .unset] [] := by first | (simp [entryFrame, mkF, argsToLocals, Value.category]; done) | rfl
theorem own_k10 : decode jdk_52_method_21_code 0 = .ok (.iconst 0, 1) := by decide +kernel
theorem own_k11 : decode jdk_52_method_21_code 1 = .ok (.istore 5, 2) := by decide +kernel
theorem own_k12 : decode jdk_52_method_21_code 3 = .ok (.iload 5, 2) := by decide +kernel
theorem own_k13 : decode jdk_52_method_21_code 5 = .ok (.iload 4, 2) := by decide +kernel
theorem own_k14 : decode jdk_52_method_21_code 7 = .ok (.if_icmp .ge 37, 3) := by decide +kernel
theorem own_k15 : decode jdk_52_method_21_code 10 = .ok (.aload_n 0, 1) := by decide +kernel
theorem own_k16 : decode jdk_52_method_21_code 11 = .ok (.iload_n 1, 1) := by decide +kernel
theorem own_k17 : decode jdk_52_method_21_code 12 = .ok (.caload, 1) := by decide +kernel
theorem own_k18 : decode jdk_52_method_21_code 13 = .ok (.istore 6, 2) := by decide +kernel
theorem own_k19 : decode jdk_52_method_21_code 15 = .ok (.iload 6, 2) := by decide +kernel
theorem own_k20 : decode jdk_52_method_21_code 17 = .ok (.sipush 255, 3) := by decide +kernel
theorem own_k21 : decode jdk_52_method_21_code 20 = .ok (.if_icmp .le 6, 3) := by decide +kernel
theorem own_k22 : decode jdk_52_method_21_code 26 = .ok (.aload_n 2, 1) := by decide +kernel
theorem own_k23 : decode jdk_52_method_21_code 27 = .ok (.iload_n 3, 1) := by decide +kernel
theorem own_k24 : decode jdk_52_method_21_code 28 = .ok (.iload 6, 2) := by decide +kernel
theorem own_k25 : decode jdk_52_method_21_code 30 = .ok (.i2b, 1) := by decide +kernel
theorem own_k26 : decode jdk_52_method_21_code 31 = .ok (.bastore, 1) := by decide +kernel
theorem own_k27 : decode jdk_52_method_21_code 32 = .ok (.iinc 1 1, 3) := by decide +kernel
theorem own_k28 : decode jdk_52_method_21_code 35 = .ok (.iinc 3 1, 3) := by decide +kernel
theorem own_k29 : decode jdk_52_method_21_code 38 = .ok (.iinc 5 1, 3) := by decide +kernel
theorem own_k30 : decode jdk_52_method_21_code 41 = .ok (.goto (-38), 3) := by decide +kernel
theorem own_k31 : decode jdk_52_method_21_code 44 = .ok (.iload 4, 2) := by decide +kernel
theorem own_k32 : decode jdk_52_method_21_code 46 = .ok (.ireturn, 1) := by decide +kernel
theorem own_k33 : plainName "java/lang/StringUTF16" = true := by first | (simp [plainName, overriddenIn]; done) | decide +kernel
set_option maxRecDepth 65536 in
set_option maxHeartbeats 40000000 in
theorem own_rm25 (l : Launch) (Z : State) (a0 : Array Value) (hw : ∀ d ∈ tables_1, d.before a0 Z = true) (ws : List Jvm.Cond) (a : Addr) (b : Addr) (z : Int32) (k_a : ClassId) (f : Nat → Int32) (k_b : ClassId) (g : Nat → Int32) (h0 : Heap) (n0 : Nat) (hn0 : n0 ≤ h0.size) (V_a : Arf Z h0 a k_a .char z f) (V_b : Arf Z h0 b k_b .byte z g) (g_b : n0 ≤ b) (ne_a_b : a ≠ b) (hz0 : ¬ z < 0) (hz1 : z.toInt ≤ 100) (hf : ∀ i, ¬ (255 : Int32) < f i) : Meets l Z (⟨"java/lang/StringUTF16", "compress", "([CI[BII)I"⟩ : MethodName) jdk_52_method_21_code 7 (some .int) ws ({ frames := 0, cells := 0, slots := 0, locals := 0 } : Room) #[(.ref a), (.int (0 : Int32)), (.ref b), (.int (0 : Int32)), (.int z)] h0 (fun v h L => v = some (.int z) ∧ Fr n0 L ∧ Keep h0 h [b] ∧ Arf Z h b k_b .byte z (own_cp f g z.toNatClampNeg)) := by
  refine meets_of (plainFor_of_name own_k33) ?_
  intro p e s m below meth c s₁ X0 hx hZ hby hml hret hlk hown hnm e0
  replace hml : c.maxLocals = 7 := hml
  replace hown : s.vm.findClass "java/lang/StringUTF16" = some m.cls := hown
  refine Go.cast (own_k9 m a b z) ?_
  have N0 := Fr.nil n0
  have K0 : Keep h0 h0 [b] := Keep.refl h0 _
  refine Go.via (U' := s₁.setTop (mkF m 1 #[.val (.ref a), .val (.int (0 : Int32)), .val (.ref b), .val (.int (0 : Int32)), .val (.int z), .unset, .unset] [(.int (0 : Int32))])) (fun tG kG => XS.iconst X0.here hx rfl (hb hby own_k10) kG) ?_
  refine Go.via (U' := s₁.setTop (mkF m 3 #[.val (.ref a), .val (.int (0 : Int32)), .val (.ref b), .val (.int (0 : Int32)), .val (.int z), .val (.int (0 : Int32)), .unset] [])) (fun tG kG => XS.istore X0.here hx rfl (hb hby own_k11) rfl (l' := #[.val (.ref a), .val (.int (0 : Int32)), .val (.ref b), .val (.int (0 : Int32)), .val (.int z), .val (.int (0 : Int32)), .unset]) rfl kG) ?_
  have loop1 : ∀ (d15 : Nat) (t : Nat) T' h' L' (sl10 : Slot), t + d15 = z.toNatClampNeg → Stand p l e ({ frames := 0, cells := 0, slots := 0, locals := 0 } : Room) s m #[(.ref a), (.int (0 : Int32)), (.ref b), (.int (0 : Int32)), (.int z)] below meth c T' L' 0 0 → T'.heap = h' → Fr n0 L' → n0 ≤ h'.size → Keep h0 h' [b] → One sl10 → Arf Z h' a k_a .char z f → Arf Z h' b k_b .byte z (own_cp f g t) → Go p e below s ({ frames := 0, cells := 0, slots := 0, locals := 0 } : Room).cells ({ frames := 0, cells := 0, slots := 0, locals := 0 } : Room).slots (fun v h L => v = some (.int z) ∧ Fr n0 L ∧ Keep h0 h [b] ∧ Arf Z h b k_b .byte z (own_cp f g z.toNatClampNeg)) (T'.setTop (mkF m 3 #[.val (.ref a), .val (.int (Int32.ofNat t)), .val (.ref b), .val (.int (Int32.ofNat t)), .val (.int z), .val (.int (Int32.ofNat t)), sl10] [])) := by
    intro d15
    induction d15 using Nat.strongRecOn with
    | ind d15 ih14 =>
      intro t T2 h3 L4 sl10 hd13 X5 e6 N7 Z8 K9 osl10 f11 f12
      refine Go.via (U' := T2.setTop (mkF m 5 #[.val (.ref a), .val (.int (Int32.ofNat t)), .val (.ref b), .val (.int (Int32.ofNat t)), .val (.int z), .val (.int (Int32.ofNat t)), sl10] [(.int (Int32.ofNat t))])) (fun tG kG => XS.iload X5.here hx rfl (hb hby own_k12) rfl kG) ?_
      refine Go.via (U' := T2.setTop (mkF m 7 #[.val (.ref a), .val (.int (Int32.ofNat t)), .val (.ref b), .val (.int (Int32.ofNat t)), .val (.int z), .val (.int (Int32.ofNat t)), sl10] [(.int z), (.int (Int32.ofNat t))])) (fun tG kG => XS.iload X5.here hx rfl (hb hby own_k13) rfl kG) ?_
      by_cases hc7 : (Int32.ofNat t) < z
      · refine Go.via (U' := T2.setTop (mkF m 10 #[.val (.ref a), .val (.int (Int32.ofNat t)), .val (.ref b), .val (.int (Int32.ofNat t)), .val (.int z), .val (.int (Int32.ofNat t)), sl10] [])) (fun tG kG => XS.icmpNo X5.here hx rfl (hb hby own_k14) rfl (tlt hc7).2.1 kG) ?_
        refine Go.via (U' := T2.setTop (mkF m 11 #[.val (.ref a), .val (.int (Int32.ofNat t)), .val (.ref b), .val (.int (Int32.ofNat t)), .val (.int z), .val (.int (Int32.ofNat t)), sl10] [(.ref a)])) (fun tG kG => XS.aloadN X5.here hx rfl (hb hby own_k15) rfl rfl kG) ?_
        refine Go.via (U' := T2.setTop (mkF m 12 #[.val (.ref a), .val (.int (Int32.ofNat t)), .val (.ref b), .val (.int (Int32.ofNat t)), .val (.int z), .val (.int (Int32.ofNat t)), sl10] [(.int (Int32.ofNat t)), (.ref a)])) (fun tG kG => XS.iloadN X5.here hx rfl (hb hby own_k16) rfl kG) ?_
        refine Go.via (U' := T2.setTop (mkF m 13 #[.val (.ref a), .val (.int (Int32.ofNat t)), .val (.ref b), .val (.int (Int32.ofNat t)), .val (.int z), .val (.int (Int32.ofNat t)), sl10] [(.int (f (Int32.ofNat t).toNatClampNeg))])) (fun tG kG => own_ldC X5 hx hZ e6 f11 (j := (Int32.ofNat t)) (own_in hz1 hd13 hc7) (hb hby own_k17) tG kG) ?_
        refine Go.via (U' := T2.setTop (mkF m 15 #[.val (.ref a), .val (.int (Int32.ofNat t)), .val (.ref b), .val (.int (Int32.ofNat t)), .val (.int z), .val (.int (Int32.ofNat t)), .val (.int (f (Int32.ofNat t).toNatClampNeg))] [])) (fun tG kG => XS.istoreS X5.here hx rfl (hb hby own_k18) rfl rfl osl10 kG) ?_
        refine Go.via (U' := T2.setTop (mkF m 17 #[.val (.ref a), .val (.int (Int32.ofNat t)), .val (.ref b), .val (.int (Int32.ofNat t)), .val (.int z), .val (.int (Int32.ofNat t)), .val (.int (f (Int32.ofNat t).toNatClampNeg))] [(.int (f (Int32.ofNat t).toNatClampNeg))])) (fun tG kG => XS.iload X5.here hx rfl (hb hby own_k19) rfl kG) ?_
        refine Go.via (U' := T2.setTop (mkF m 20 #[.val (.ref a), .val (.int (Int32.ofNat t)), .val (.ref b), .val (.int (Int32.ofNat t)), .val (.int z), .val (.int (Int32.ofNat t)), .val (.int (f (Int32.ofNat t).toNatClampNeg))] [(.int (255 : Int32)), (.int (f (Int32.ofNat t).toNatClampNeg))])) (fun tG kG => XS.sipush X5.here hx rfl (hb hby own_k20) kG) ?_
        have hc20 : ¬ ((255 : Int32) < (f (Int32.ofNat t).toNatClampNeg)) := hf _
        refine Go.via (U' := T2.setTop (mkF m 26 #[.val (.ref a), .val (.int (Int32.ofNat t)), .val (.ref b), .val (.int (Int32.ofNat t)), .val (.int z), .val (.int (Int32.ofNat t)), .val (.int (f (Int32.ofNat t).toNatClampNeg))] [])) (fun tG kG => XS.icmpYes X5.here hx rfl (pc0 := 20) (pc' := 26) rfl (hb hby own_k21) rfl (flt hc20).2.2.2 (by decide) (by decide) kG) ?_
        refine Go.via (U' := T2.setTop (mkF m 27 #[.val (.ref a), .val (.int (Int32.ofNat t)), .val (.ref b), .val (.int (Int32.ofNat t)), .val (.int z), .val (.int (Int32.ofNat t)), .val (.int (f (Int32.ofNat t).toNatClampNeg))] [(.ref b)])) (fun tG kG => XS.aloadN X5.here hx rfl (hb hby own_k22) rfl rfl kG) ?_
        refine Go.via (U' := T2.setTop (mkF m 28 #[.val (.ref a), .val (.int (Int32.ofNat t)), .val (.ref b), .val (.int (Int32.ofNat t)), .val (.int z), .val (.int (Int32.ofNat t)), .val (.int (f (Int32.ofNat t).toNatClampNeg))] [(.int (Int32.ofNat t)), (.ref b)])) (fun tG kG => XS.iloadN X5.here hx rfl (hb hby own_k23) rfl kG) ?_
        refine Go.via (U' := T2.setTop (mkF m 30 #[.val (.ref a), .val (.int (Int32.ofNat t)), .val (.ref b), .val (.int (Int32.ofNat t)), .val (.int z), .val (.int (Int32.ofNat t)), .val (.int (f (Int32.ofNat t).toNatClampNeg))] [(.int (f (Int32.ofNat t).toNatClampNeg)), (.int (Int32.ofNat t)), (.ref b)])) (fun tG kG => XS.iload X5.here hx rfl (hb hby own_k24) rfl kG) ?_
        refine Go.via (U' := T2.setTop (mkF m 31 #[.val (.ref a), .val (.int (Int32.ofNat t)), .val (.ref b), .val (.int (Int32.ofNat t)), .val (.int z), .val (.int (Int32.ofNat t)), .val (.int (f (Int32.ofNat t).toNatClampNeg))] [(.int ((f (Int32.ofNat t).toNatClampNeg).toInt8.toInt32)), (.int (Int32.ofNat t)), (.ref b)])) (fun tG kG => XS.i2b X5.here hx rfl (hb hby own_k25) rfl kG) ?_
        obtain ⟨T16, h16, X16, e16, W16, A16, st16⟩ := own_stB X5 hx hZ e6 f12 (j := (Int32.ofNat t)) (x := ((f (Int32.ofNat t).toNatClampNeg).toInt8.toInt32)) (own_in hz1 hd13 hc7) (pc := 31) (Ls := #[.val (.ref a), .val (.int (Int32.ofNat t)), .val (.ref b), .val (.int (Int32.ofNat t)), .val (.int z), .val (.int (Int32.ofNat t)), .val (.int (f (Int32.ofNat t).toNatClampNeg))]) (rest := []) (hb hby own_k26)
        have f17 := f11.other W16 ne_a_b
        replace A16 : Arf Z h16 b k_b .byte z (own_upd (own_cp f g t) (Int32.ofNat t).toNatClampNeg (nar .byte ((f (Int32.ofNat t).toNatClampNeg).toInt8.toInt32))) := A16
        have K16 := K9.wr W16 (Or.inl (List.mem_of_getElem? (i := 0) rfl))
        have N16 := Fr.snoc X16 N7 g_b
        have Z16 := Nat.le_trans Z8 (Keep.of_wr W16).1
        refine Go.via (U' := T16.setTop (mkF m 32 #[.val (.ref a), .val (.int (Int32.ofNat t)), .val (.ref b), .val (.int (Int32.ofNat t)), .val (.int z), .val (.int (Int32.ofNat t)), .val (.int (f (Int32.ofNat t).toNatClampNeg))] [])) (fun tG kG => st16 tG kG) ?_
        refine Go.via (U' := T16.setTop (mkF m 35 #[.val (.ref a), .val (.int ((Int32.ofNat t) + (1 : Int32))), .val (.ref b), .val (.int (Int32.ofNat t)), .val (.int z), .val (.int (Int32.ofNat t)), .val (.int (f (Int32.ofNat t).toNatClampNeg))] [])) (fun tG kG => XS.iinc X16.here hx rfl (hb hby own_k27) rfl (l' := #[.val (.ref a), .val (.int ((Int32.ofNat t) + (1 : Int32))), .val (.ref b), .val (.int (Int32.ofNat t)), .val (.int z), .val (.int (Int32.ofNat t)), .val (.int (f (Int32.ofNat t).toNatClampNeg))]) rfl kG) ?_
        refine Go.via (U' := T16.setTop (mkF m 38 #[.val (.ref a), .val (.int ((Int32.ofNat t) + (1 : Int32))), .val (.ref b), .val (.int ((Int32.ofNat t) + (1 : Int32))), .val (.int z), .val (.int (Int32.ofNat t)), .val (.int (f (Int32.ofNat t).toNatClampNeg))] [])) (fun tG kG => XS.iinc X16.here hx rfl (hb hby own_k28) rfl (l' := #[.val (.ref a), .val (.int ((Int32.ofNat t) + (1 : Int32))), .val (.ref b), .val (.int ((Int32.ofNat t) + (1 : Int32))), .val (.int z), .val (.int (Int32.ofNat t)), .val (.int (f (Int32.ofNat t).toNatClampNeg))]) rfl kG) ?_
        refine Go.via (U' := T16.setTop (mkF m 41 #[.val (.ref a), .val (.int ((Int32.ofNat t) + (1 : Int32))), .val (.ref b), .val (.int ((Int32.ofNat t) + (1 : Int32))), .val (.int z), .val (.int ((Int32.ofNat t) + (1 : Int32))), .val (.int (f (Int32.ofNat t).toNatClampNeg))] [])) (fun tG kG => XS.iinc X16.here hx rfl (hb hby own_k29) rfl (l' := #[.val (.ref a), .val (.int ((Int32.ofNat t) + (1 : Int32))), .val (.ref b), .val (.int ((Int32.ofNat t) + (1 : Int32))), .val (.int z), .val (.int ((Int32.ofNat t) + (1 : Int32))), .val (.int (f (Int32.ofNat t).toNatClampNeg))]) rfl kG) ?_
        refine Go.via (U' := T16.setTop (mkF m 3 #[.val (.ref a), .val (.int ((Int32.ofNat t) + (1 : Int32))), .val (.ref b), .val (.int ((Int32.ofNat t) + (1 : Int32))), .val (.int z), .val (.int ((Int32.ofNat t) + (1 : Int32))), .val (.int (f (Int32.ofNat t).toNatClampNeg))] [])) (fun tG kG => XS.goto X16.here hx rfl (pc0 := 41) (pc' := 3) rfl (hb hby own_k30) (by decide) (by decide) kG) ?_
        refine Go.cast (g' := (mkF m 3 #[.val (.ref a), .val (.int (Int32.ofNat (t + 1))), .val (.ref b), .val (.int (Int32.ofNat (t + 1))), .val (.int z), .val (.int (Int32.ofNat (t + 1))), .val (.int (f (Int32.ofNat t).toNatClampNeg))] [])) (by rw [show (Int32.ofNat t) + (1 : Int32) = Int32.ofNat (t + 1) from (Int32.ofNat_add t 1).symm]) (ih14 (d15 - 1) (by have q := own_dpos hz1 hd13 hc7; omega) ((t + 1)) T16 _ _ (.val (.int (f (Int32.ofNat t).toNatClampNeg))) (by have q := own_dpos hz1 hd13 hc7; omega) X16 e16 N16 Z16 K16 (One.val rfl) f17 A16)
      · refine Go.via (U' := T2.setTop (mkF m 44 #[.val (.ref a), .val (.int (Int32.ofNat t)), .val (.ref b), .val (.int (Int32.ofNat t)), .val (.int z), .val (.int (Int32.ofNat t)), sl10] [])) (fun tG kG => XS.icmpYes X5.here hx rfl (pc0 := 7) (pc' := 44) rfl (hb hby own_k14) rfl (flt hc7).2.1 (by decide) (by decide) kG) ?_
        refine Go.via (U' := T2.setTop (mkF m 46 #[.val (.ref a), .val (.int (Int32.ofNat t)), .val (.ref b), .val (.int (Int32.ofNat t)), .val (.int z), .val (.int (Int32.ofNat t)), sl10] [(.int z)])) (fun tG kG => XS.iload X5.here hx rfl (hb hby own_k31) rfl kG) ?_
        exact go_retI X5 hx hlk hret (hb hby own_k32) e6 ⟨(congrArg (fun z => some (Value.int z)) (show z = z from rfl)), N7, K9, (by rw [← own_ex hz1 hd13 hc7]; exact f12)⟩ (by decide) (by decide)
  refine Go.cast (g' := (mkF m 3 #[.val (.ref a), .val (.int (Int32.ofNat 0)), .val (.ref b), .val (.int (Int32.ofNat 0)), .val (.int z), .val (.int (Int32.ofNat 0)), .unset] [])) (by rfl) (loop1 (z.toNatClampNeg) (0) s₁ _ _ (.unset) (Nat.zero_add _) X0 e0 N0 hn0 K0 (One.u) V_a V_b)
theorem own_k34 (m : MethodId) (b : Addr) (z : Int32) : entryFrame m #[(.ref b), (.int (0 : Int32)), (.int z)] 6 = mkF m 0 #[.val (.ref b), .val (.int (0 : Int32)), .val (.int z), .unset, .unset, .unset] [] := by first | (simp [entryFrame, mkF, argsToLocals, Value.category]; done) | rfl
theorem own_k35 : decode jdk_52_method_16_code 0 = .ok (.iload_n 2, 1) := by decide +kernel
theorem own_k36 : decode jdk_52_method_16_code 1 = .ok (.newarray .byte, 2) := by decide +kernel
theorem own_k37 : decode jdk_52_method_16_code 3 = .ok (.astore_n 3, 1) := by decide +kernel
theorem own_k38 : decode jdk_52_method_16_code 4 = .ok (.aload_n 0, 1) := by decide +kernel
theorem own_k39 : decode jdk_52_method_16_code 5 = .ok (.iload_n 1, 1) := by decide +kernel
theorem own_k40 : decode jdk_52_method_16_code 6 = .ok (.aload_n 3, 1) := by decide +kernel
theorem own_k41 : decode jdk_52_method_16_code 7 = .ok (.iconst 0, 1) := by decide +kernel
theorem own_k42 : decode jdk_52_method_16_code 8 = .ok (.iload_n 2, 1) := by decide +kernel
theorem own_k43 : parseMethodDescriptor "([CI[BII)I" = some ⟨[(.array .char), .int, (.array .byte), .int, .int], some .int⟩ := by decide +kernel
theorem own_k44 : decode jdk_52_method_16_code 9 = .ok (.invokestatic 115, 3) := by decide +kernel
theorem own_k45 : decode jdk_52_method_16_code 12 = .ok (.istore 4, 2) := by decide +kernel
theorem own_k46 : decode jdk_52_method_16_code 14 = .ok (.iload 4, 2) := by decide +kernel
theorem own_k47 : decode jdk_52_method_16_code 16 = .ok (.iload_n 2, 1) := by decide +kernel
theorem own_k48 : decode jdk_52_method_16_code 17 = .ok (.if_icmp .eq 40, 3) := by decide +kernel
theorem own_k49 : decode jdk_52_method_16_code 57 = .ok (.aload_n 3, 1) := by decide +kernel
theorem own_k50 : decode jdk_52_method_16_code 58 = .ok (.areturn, 1) := by decide +kernel
def own_q24_b1 (z : Int32) (f : Nat → Int32) : Nat → Int32 := (own_cp f (fun _ => (0 : Int32)) z.toNatClampNeg)
set_option maxRecDepth 65536 in
set_option maxHeartbeats 40000000 in
theorem own_rm24 (l : Launch) (Z : State) (a0 : Array Value) (hw : ∀ d ∈ tables_1, d.before a0 Z = true) (ws : List Jvm.Cond) (b : Addr) (z : Int32) (k_b : ClassId) (f : Nat → Int32) (h0 : Heap) (n0 : Nat) (hn0 : n0 ≤ h0.size) (V_b : Arf Z h0 b k_b .char z f) (hz0 : ¬ z < 0) (hz1 : z.toInt ≤ 100) (hf : ∀ i, ¬ (255 : Int32) < f i) : Meets l Z (⟨"java/lang/StringUTF16", "compress", "([CII)[B"⟩ : MethodName) jdk_52_method_16_code 6 (some (.array .byte)) ws ({ frames := 1, cells := 1, slots := 100, locals := 18 } : Room) #[(.ref b), (.int (0 : Int32)), (.int z)] h0 (fun v h L => ∃ b1 : Addr, n0 ≤ b1 ∧ h0.size ≤ b1 ∧ ∃ k1 : ClassId, v = some (.ref b1) ∧ Fr n0 L ∧ Keep h0 h [] ∧ Exa Z h b1 "[B" ∧ Arf Z h b1 k1 .byte z (own_q24_b1 z f)) := by
  refine meets_of (plainFor_of_name own_k33) ?_
  intro p e s m below meth c s₁ X0 hx hZ hby hml hret hlk hown hnm e0
  replace hml : c.maxLocals = 6 := hml
  replace hown : s.vm.findClass "java/lang/StringUTF16" = some m.cls := hown
  refine Go.cast (own_k34 m b z) ?_
  have N0 := Fr.nil n0
  have K0 : Keep h0 h0 [] := Keep.refl h0 _
  refine Go.via (U' := s₁.setTop (mkF m 1 #[.val (.ref b), .val (.int (0 : Int32)), .val (.int z), .unset, .unset, .unset] [(.int z)])) (fun tG kG => XS.iloadN X0.here hx rfl (hb hby own_k35) rfl kG) ?_
  obtain ⟨T1, h1, k1, X1, e1, E1, A1, B1, st1⟩ := newPE X0 hx hZ (hw _ (List.mem_of_getElem? (i := 19) rfl)) e0 (g := (mkF m 1 #[.val (.ref b), .val (.int (0 : Int32)), .val (.int z), .unset, .unset, .unset] [(.int z)])) rfl (hb hby own_k36) rfl hz0 (cap := 100) (own_cap hz1) (by decide) (by decide) (by decide) (ad := "[B") (by decide)
  obtain ⟨b1, g1⟩ : ∃ z, z = h0.size := ⟨_, rfl⟩
  rw [← g1] at A1 B1 st1
  have g_b1 : n0 ≤ b1 := Nat.le_trans hn0 (Nat.le_of_eq g1.symm)
  have sz_b1 : h0.size ≤ b1 := Nat.le_trans K0.1 (Nat.le_of_eq g1.symm)
  have ne_b_b1 : b ≠ b1 := Nat.ne_of_lt (Nat.lt_of_lt_of_le V_b.lt (Nat.le_of_eq g1.symm))
  have f2 := V_b.ext E1
  have K1 := K0.ext E1
  have Z1 := Nat.le_trans hn0 E1.1
  have V1 : Arf Z h1 b1 k1 .byte z (fun _ => 0) := Arf.new A1 hz0 rfl rfl
  refine Go.via (U' := T1.setTop (mkF m 3 #[.val (.ref b), .val (.int (0 : Int32)), .val (.int z), .unset, .unset, .unset] [(.ref b1)])) (fun tG kG => st1 tG kG) ?_
  refine Go.via (U' := T1.setTop (mkF m 4 #[.val (.ref b), .val (.int (0 : Int32)), .val (.int z), .val (.ref b1), .unset, .unset] [])) (fun tG kG => XS.astoreN X1.here hx rfl (hb hby own_k37) rfl rfl (l' := #[.val (.ref b), .val (.int (0 : Int32)), .val (.int z), .val (.ref b1), .unset, .unset]) rfl kG) ?_
  refine Go.via (U' := T1.setTop (mkF m 5 #[.val (.ref b), .val (.int (0 : Int32)), .val (.int z), .val (.ref b1), .unset, .unset] [(.ref b)])) (fun tG kG => XS.aloadN X1.here hx rfl (hb hby own_k38) rfl rfl kG) ?_
  refine Go.via (U' := T1.setTop (mkF m 6 #[.val (.ref b), .val (.int (0 : Int32)), .val (.int z), .val (.ref b1), .unset, .unset] [(.int (0 : Int32)), (.ref b)])) (fun tG kG => XS.iloadN X1.here hx rfl (hb hby own_k39) rfl kG) ?_
  refine Go.via (U' := T1.setTop (mkF m 7 #[.val (.ref b), .val (.int (0 : Int32)), .val (.int z), .val (.ref b1), .unset, .unset] [(.ref b1), (.int (0 : Int32)), (.ref b)])) (fun tG kG => XS.aloadN X1.here hx rfl (hb hby own_k40) rfl rfl kG) ?_
  refine Go.via (U' := T1.setTop (mkF m 8 #[.val (.ref b), .val (.int (0 : Int32)), .val (.int z), .val (.ref b1), .unset, .unset] [(.int (0 : Int32)), (.ref b1), (.int (0 : Int32)), (.ref b)])) (fun tG kG => XS.iconst X1.here hx rfl (hb hby own_k41) kG) ?_
  refine Go.via (U' := T1.setTop (mkF m 9 #[.val (.ref b), .val (.int (0 : Int32)), .val (.int z), .val (.ref b1), .unset, .unset] [(.int z), (.int (0 : Int32)), (.ref b1), (.int (0 : Int32)), (.ref b)])) (fun tG kG => XS.iloadN X1.here hx rfl (hb hby own_k42) rfl kG) ?_
  obtain ⟨_, T3, L3, X3, ⟨rfl, N3q, K3q, f4⟩, st3⟩ := callSQ X1 hx hZ hown (hw _ (List.mem_of_getElem? (i := 143) rfl)) (hw _ (List.mem_of_getElem? (i := 144) rfl)) (hw _ (List.mem_of_getElem? (i := 141) rfl)) (hw _ (List.mem_of_getElem? (i := 145) rfl)) (by decide) (av := [(.ref b), (.int (0 : Int32)), (.ref b1), (.int (0 : Int32)), (.int z)]) (own_rm25 l Z a0 hw [] b b1 z k_b f k1 (fun _ => (0 : Int32)) h1 n0 Z1 f2 V1 g_b1 ne_b_b1 hz0 hz1 hf) e1 (pc := 9) (Ls := #[.val (.ref b), .val (.int (0 : Int32)), .val (.int z), .val (.ref b1), .unset, .unset]) (rest := []) (by rw [hml]; rfl) own_k43 rfl 0 (Nat.le_of_eq rfl) (by decide) (by decide) (by decide) (by decide) (hb hby own_k44)
  have f5 := f2.keep K3q (ninS ne_b_b1 nin0)
  have f6 := B1.keep K3q
  have N3 := Fr.app N0 N3q
  have Z3 := Nat.le_trans Z1 K3q.1
  have K3 := K1.trans K3q (allS (Or.inr sz_b1) all0)
  refine Go.via (U' := T3.setTop (mkF m 12 #[.val (.ref b), .val (.int (0 : Int32)), .val (.int z), .val (.ref b1), .unset, .unset] [(.int z)])) (fun tG kG => st3 tG kG) ?_
  refine Go.via (U' := T3.setTop (mkF m 14 #[.val (.ref b), .val (.int (0 : Int32)), .val (.int z), .val (.ref b1), .val (.int z), .unset] [])) (fun tG kG => XS.istore X3.here hx rfl (hb hby own_k45) rfl (l' := #[.val (.ref b), .val (.int (0 : Int32)), .val (.int z), .val (.ref b1), .val (.int z), .unset]) rfl kG) ?_
  refine Go.via (U' := T3.setTop (mkF m 16 #[.val (.ref b), .val (.int (0 : Int32)), .val (.int z), .val (.ref b1), .val (.int z), .unset] [(.int z)])) (fun tG kG => XS.iload X3.here hx rfl (hb hby own_k46) rfl kG) ?_
  refine Go.via (U' := T3.setTop (mkF m 17 #[.val (.ref b), .val (.int (0 : Int32)), .val (.int z), .val (.ref b1), .val (.int z), .unset] [(.int z), (.int z)])) (fun tG kG => XS.iloadN X3.here hx rfl (hb hby own_k47) rfl kG) ?_
  have hc17 : z = z := rfl
  refine Go.via (U' := T3.setTop (mkF m 57 #[.val (.ref b), .val (.int (0 : Int32)), .val (.int z), .val (.ref b1), .val (.int z), .unset] [])) (fun tG kG => XS.icmpYes X3.here hx rfl (pc0 := 17) (pc' := 57) rfl (hb hby own_k48) rfl (teq hc17).1 (by decide) (by decide) kG) ?_
  refine Go.via (U' := T3.setTop (mkF m 58 #[.val (.ref b), .val (.int (0 : Int32)), .val (.int z), .val (.ref b1), .val (.int z), .unset] [(.ref b1)])) (fun tG kG => XS.aloadN X3.here hx rfl (hb hby own_k49) rfl rfl kG) ?_
  exact go_retA X3 hx hlk hret rfl rfl rfl (hb hby own_k50) rfl ⟨b1, g_b1, sz_b1, k1, rfl, N3, K3, f6, (by rw [show (own_q24_b1 z f) = (own_cp f (fun _ => (0 : Int32)) z.toNatClampNeg) from by rfl]; exact f4)⟩ (by decide) (by decide)
theorem own_k51 (m : MethodId) (b : Addr) (z : Int32) : entryFrame m #[(.ref b), (.int z)] 2 = mkF m 0 #[.val (.ref b), .val (.int z)] [] := by first | (simp [entryFrame, mkF, argsToLocals, Value.category]; done) | rfl
theorem own_k52 : decode jdk_52_method_15_code 0 = .ok (.iload_n 1, 1) := by decide +kernel
theorem own_k53 : decode jdk_52_method_15_code 1 = .ok (.aload_n 0, 1) := by decide +kernel
theorem own_k54 : decode jdk_52_method_15_code 2 = .ok (.arraylength, 1) := by decide +kernel
theorem own_k55 : decode jdk_52_method_15_code 3 = .ok (.isub, 1) := by decide +kernel
theorem own_k56 : decode jdk_52_method_15_code 4 = .ok (.bipush 31, 2) := by decide +kernel
theorem own_k57 : decode jdk_52_method_15_code 6 = .ok (.iushr, 1) := by decide +kernel
theorem own_k58 : decode jdk_52_method_15_code 7 = .ok (.i2b, 1) := by decide +kernel
theorem own_k59 : decode jdk_52_method_15_code 8 = .ok (.ireturn, 1) := by decide +kernel
def own_f26 (z : Int32) : Int32 := (nar .byte ((own_ushr (z - z) (31 : Int32)).toInt8.toInt32))
set_option maxRecDepth 65536 in
set_option maxHeartbeats 40000000 in
theorem own_rm26 (l : Launch) (Z : State) (a0 : Array Value) (hw : ∀ d ∈ tables_1, d.before a0 Z = true) (ws : List Jvm.Cond) (b : Addr) (z : Int32) (k_b : ClassId) (g : Nat → Int32) (h0 : Heap) (V_b : Arf Z h0 b k_b .byte z g) : Meets l Z (⟨"java/lang/StringUTF16", "coderFromArrayLen", "([BI)B"⟩ : MethodName) jdk_52_method_15_code 2 (some .byte) ws ({ frames := 0, cells := 0, slots := 0, locals := 0 } : Room) #[(.ref b), (.int z)] h0 (PureR (some (.int (own_f26 z))) h0) := by
  refine meets_of (plainFor_of_name own_k33) ?_
  intro p e s m below meth c s₁ X0 hx hZ hby hml hret hlk hown hnm e0
  replace hml : c.maxLocals = 2 := hml
  replace hown : s.vm.findClass "java/lang/StringUTF16" = some m.cls := hown
  refine Go.cast (own_k51 m b z) ?_
  refine Go.via (U' := s₁.setTop (mkF m 1 #[.val (.ref b), .val (.int z)] [(.int z)])) (fun tG kG => XS.iloadN X0.here hx rfl (hb hby own_k52) rfl kG) ?_
  refine Go.via (U' := s₁.setTop (mkF m 2 #[.val (.ref b), .val (.int z)] [(.ref b), (.int z)])) (fun tG kG => XS.aloadN X0.here hx rfl (hb hby own_k53) rfl rfl kG) ?_
  refine Go.via (U' := s₁.setTop (mkF m 3 #[.val (.ref b), .val (.int z)] [(.int z), (.int z)])) (fun tG kG => own_len X0 hx hZ e0 V_b (hb hby own_k54) tG kG) ?_
  refine Go.via (U' := s₁.setTop (mkF m 4 #[.val (.ref b), .val (.int z)] [(.int (z - z))])) (fun tG kG => XS.isub X0.here hx rfl (hb hby own_k55) rfl kG) ?_
  refine Go.via (U' := s₁.setTop (mkF m 6 #[.val (.ref b), .val (.int z)] [(.int (31 : Int32)), (.int (z - z))])) (fun tG kG => XS.bipush X0.here hx rfl (hb hby own_k56) kG) ?_
  refine Go.via (U' := s₁.setTop (mkF m 7 #[.val (.ref b), .val (.int z)] [(.int (own_ushr (z - z) (31 : Int32)))])) (fun tG kG => XS.iushr X0.here hx rfl (hb hby own_k57) rfl kG) ?_
  refine Go.via (U' := s₁.setTop (mkF m 8 #[.val (.ref b), .val (.int z)] [(.int ((own_ushr (z - z) (31 : Int32)).toInt8.toInt32))])) (fun tG kG => XS.i2b X0.here hx rfl (hb hby own_k58) rfl kG) ?_
  exact go_retN X0 hx hlk (t := .byte) hret (by simp) (hb hby own_k59) e0 ⟨(congrArg (fun z => some (Value.int z)) (show nar .byte ((own_ushr (z - z) (31 : Int32)).toInt8.toInt32) = (own_f26 z) from by rfl)), rfl, rfl⟩ (by decide) (by decide)
theorem own_k60 (m : MethodId) (a : Addr) (b : Addr) (z : Int32) : entryFrame m #[(.ref a), (.ref b), (.int (0 : Int32)), (.int z), .null] 6 = mkF m 0 #[.val (.ref a), .val (.ref b), .val (.int (0 : Int32)), .val (.int z), .val .null, .unset] [] := by first | (simp [entryFrame, mkF, argsToLocals, Value.category]; done) | rfl
theorem own_k61 : decode jdk_42_method_149_code 0 = .ok (.aload_n 0, 1) := by decide +kernel
theorem own_k62 : decode jdk_42_method_149_code 1 = .ok (.invokespecial 1, 3) := by decide +kernel
theorem own_k63 : decode jdk_42_method_149_code 4 = .ok (.iload_n 3, 1) := by decide +kernel
theorem own_k64 : decode jdk_42_method_149_code 5 = .ok (.ifCond .ne 22, 3) := by decide +kernel
theorem own_k65 : decode jdk_42_method_149_code 8 = .ok (.aload_n 0, 1) := by decide +kernel
theorem own_k66 : decode jdk_42_method_149_code 9 = .ok (.ldc 7, 2) := by decide +kernel
theorem own_k67 : decode jdk_42_method_149_code 11 = .ok (.getfield 9, 3) := by decide +kernel
theorem own_k68 : decode jdk_42_method_149_code 14 = .ok (.putfield 9, 3) := by decide +kernel
theorem own_k69 : decode jdk_42_method_149_code 17 = .ok (.aload_n 0, 1) := by decide +kernel
theorem own_k70 : decode jdk_42_method_149_code 18 = .ok (.ldc 7, 2) := by decide +kernel
theorem own_k71 : decode jdk_42_method_149_code 20 = .ok (.getfield 15, 3) := by decide +kernel
theorem own_k72 : decode jdk_42_method_149_code 23 = .ok (.putfield 15, 3) := by decide +kernel
theorem own_k73 : decode jdk_42_method_149_code 26 = .ok (.return_, 1) := by decide +kernel
theorem own_k74 : decode jdk_42_method_149_code 27 = .ok (.getstatic 38, 3) := by decide +kernel
theorem own_k75 : decode jdk_42_method_149_code 30 = .ok (.ifCond .eq 28, 3) := by decide +kernel
theorem own_k76 : decode jdk_42_method_149_code 33 = .ok (.aload_n 1, 1) := by decide +kernel
theorem own_k77 : decode jdk_42_method_149_code 34 = .ok (.iload_n 2, 1) := by decide +kernel
theorem own_k78 : decode jdk_42_method_149_code 35 = .ok (.iload_n 3, 1) := by decide +kernel
theorem own_k79 : parseMethodDescriptor "([CII)[B" = some ⟨[(.array .char), .int, .int], some (.array .byte)⟩ := by decide +kernel
theorem own_k80 : decode jdk_42_method_149_code 36 = .ok (.invokestatic 177, 3) := by decide +kernel
theorem own_k81 : decode jdk_42_method_149_code 39 = .ok (.astore 5, 2) := by decide +kernel
theorem own_k82 : decode jdk_42_method_149_code 41 = .ok (.aload_n 0, 1) := by decide +kernel
theorem own_k83 : decode jdk_42_method_149_code 42 = .ok (.aload 5, 2) := by decide +kernel
theorem own_k84 : decode jdk_42_method_149_code 44 = .ok (.iload_n 3, 1) := by decide +kernel
theorem own_k85 : parseMethodDescriptor "([BI)B" = some ⟨[(.array .byte), .int], some .byte⟩ := by decide +kernel
theorem own_k86 : decode jdk_42_method_149_code 45 = .ok (.invokestatic 47, 3) := by decide +kernel
theorem own_k87 : decode jdk_42_method_149_code 48 = .ok (.putfield 15, 3) := by decide +kernel
theorem own_k88 : decode jdk_42_method_149_code 51 = .ok (.aload_n 0, 1) := by decide +kernel
theorem own_k89 : decode jdk_42_method_149_code 52 = .ok (.aload 5, 2) := by decide +kernel
theorem own_k90 : decode jdk_42_method_149_code 54 = .ok (.putfield 9, 3) := by decide +kernel
theorem own_k91 : decode jdk_42_method_149_code 57 = .ok (.return_, 1) := by decide +kernel
theorem own_k92 : plainName "java/lang/String" = true := by first | (simp [plainName, overriddenIn]; done) | decide +kernel
set_option maxRecDepth 65536 in
set_option maxHeartbeats 40000000 in
theorem own_rm3 (l : Launch) (Z : State) (a0 : Array Value) (hw : ∀ d ∈ tables_1, d.before a0 Z = true) (ws : List Jvm.Cond) (a : Addr) (b : Addr) (z : Int32) (k_b : ClassId) (f : Nat → Int32) (cz : Int32) (h0 : Heap) (n0 : Nat) (hn0 : n0 ≤ h0.size) (E_a : Exa Z h0 a "java/lang/String") (F_a_value : Fld Z h0 a "java/lang/String" "value" "[B" .null) (F_a_coder : Fld Z h0 a "java/lang/String" "coder" "B" (.int (0 : Int32))) (V_b : Arf Z h0 b k_b .char z f) (S_COMPACT_STRINGS : Sta Z h0 "java/lang/String" "COMPACT_STRINGS" "Z" (.int cz)) (g_a : n0 ≤ a) (ne_a_b : a ≠ b) (hz0 : ¬ z < 0) (hz1 : z.toInt ≤ 100) (hf : ∀ i, ¬ (255 : Int32) < f i) (hcz : ¬ (cz = (0 : Int32))) (hh : Jvm.Lit.constHeld Z "java/lang/String" 7) (hcw : Jvm.Lit.compactW.before a0 Z = true) (hkp : ∀ (b : Addr) (cl : Cell), Z.heap[b]? = some cl → h0[b]? = some cl) : MeetsB l Z true (⟨"java/lang/String", "<init>", "([CIILjava/lang/Void;)V"⟩ : MethodName) jdk_42_method_149_code 6 none ws ({ frames := 2, cells := 2, slots := 100, locals := 35 } : Room) #[(.ref a), (.ref b), (.int (0 : Int32)), (.int z), .null] h0 (fun v h L => v = none ∧ Fr n0 L ∧ Keep h0 h [a] ∧ Exa Z h a "java/lang/String") := by
  refine meetsB_of (plainFor_of_name own_k92) ?_
  intro p e s m below meth c s₁ X0 hx hZ hby hml hret hlk hown hnm e0 hs0 hI
  replace hml : c.maxLocals = 6 := hml
  replace hown : s.vm.findClass "java/lang/String" = some m.cls := hown
  refine GoB.cast (own_k60 m a b z) ?_
  have N0 := Fr.nil n0
  have K0 : Keep h0 h0 [a] := Keep.refl h0 _
  refine GoB.via (U' := s₁.setTop (mkF m 1 #[.val (.ref a), .val (.ref b), .val (.int (0 : Int32)), .val (.int z), .val .null, .unset] [(.ref a)])) (fun tG kG => XS.aloadN X0.here hx rfl (hb hby own_k61) rfl rfl kG) ?_
  obtain ⟨T1, X1, e1, st1⟩ := initO X0 hx hZ hown (hw _ (List.mem_of_getElem? (i := 15) rfl)) (hw _ (List.mem_of_getElem? (i := 16) rfl)) (hw _ (List.mem_of_getElem? (i := 17) rfl)) e0 (g := (mkF m 1 #[.val (.ref a), .val (.ref b), .val (.int (0 : Int32)), .val (.int z), .val .null, .unset] [(.ref a)])) rfl (by rw [hml]; rfl) rfl (hb hby own_k62) (by decide) (W := 0) (by show 2 * 0 + _ ≤ _; exact Nat.le_of_eq rfl) (by decide)
  refine GoB.via (U' := T1.setTop (mkF m 4 #[.val (.ref a), .val (.ref b), .val (.int (0 : Int32)), .val (.int z), .val .null, .unset] [])) (fun tG kG => st1 tG kG) ?_
  refine GoB.via (U' := T1.setTop (mkF m 5 #[.val (.ref a), .val (.ref b), .val (.int (0 : Int32)), .val (.int z), .val .null, .unset] [(.int z)])) (fun tG kG => XS.iloadN X1.here hx rfl (hb hby own_k63) rfl kG) ?_
  by_cases hc5 : z = (0 : Int32)
  · refine GoB.via (U' := T1.setTop (mkF m 8 #[.val (.ref a), .val (.ref b), .val (.int (0 : Int32)), .val (.int z), .val .null, .unset] [])) (fun tG kG => XS.ifNo X1.here hx rfl (hb hby own_k64) rfl ((if0 _ _).trans (teq hc5).2) kG) ?_
    refine GoB.via (U' := T1.setTop (mkF m 9 #[.val (.ref a), .val (.ref b), .val (.int (0 : Int32)), .val (.int z), .val .null, .unset] [(.ref a)])) (fun tG kG => XS.aloadN X1.here hx rfl (hb hby own_k65) rfl rfl kG) ?_
    have wS2 : ∀ a ∈ Bundle.stringAtoms, a.before a0 Z = true := own_consC (hw _ (List.mem_of_getElem? (i := 6) rfl)) (own_consC (hw _ (List.mem_of_getElem? (i := 5) rfl)) (own_consC (hw _ (List.mem_of_getElem? (i := 19) rfl)) (own_consC (hw _ (List.mem_of_getElem? (i := 20) rfl)) (own_consC (hw _ (List.mem_of_getElem? (i := 21) rfl)) (own_consC (hw _ (List.mem_of_getElem? (i := 22) rfl)) (own_consC (hw _ (List.mem_of_getElem? (i := 23) rfl)) (own_nilC)))))))
    obtain ⟨b2, bb2, s, T2, h2, X2, e2, E2, ⟨hZ, hown, reb2⟩, A2, Fc2, Fv2, Li2, st2⟩ := own_ldcE X1 hx hZ hown (hw _ (List.mem_of_getElem? (i := 18) rfl)) wS2 e1 (Fr.nil _) (fun b_ cl_ q_ => by rw [hs0]; exact hkp b_ cl_ q_) (hI rfl) hh hcw (pc := 9) (Ls := #[.val (.ref a), .val (.ref b), .val (.int (0 : Int32)), .val (.int z), .val .null, .unset]) (rest := [(.ref a)]) (hb hby own_k66) (by decide) (by decide)
    have f3 := E_a.ext E2
    have f4 := F_a_value.ext E2
    have f5 := F_a_coder.ext E2
    have f6 := V_b.ext E2
    have f7 := S_COMPACT_STRINGS.ext E2
    have K2 := K0.ext E2
    have Z2 := Nat.le_trans hn0 E2.1
    have Zk2 := Nat.le_trans (Nat.zero_le _) E2.1
    have ne_b2_a : b2 ≠ a := own_neF Fv2 f4 (fun q => nomatch q)
    refine GoB.via (U' := T2.setTop (mkF m 11 #[.val (.ref a), .val (.ref b), .val (.int (0 : Int32)), .val (.int z), .val .null, .unset] [(.ref b2), (.ref a)])) (fun tG kG => st2 tG kG) ?_
    refine reb2 _ _ _ _ _ Zk2 ?_
    obtain ⟨T8, X8, e8, st8⟩ := getF X2 hx hZ hown (host := "") (Or.inl (hw _ (List.mem_of_getElem? (i := 24) rfl))) Via.refl e2 Fv2 (g := (mkF m 11 #[.val (.ref a), .val (.ref b), .val (.int (0 : Int32)), .val (.int z), .val .null, .unset] [(.ref b2), (.ref a)])) rfl rfl (hb hby own_k67)
    refine GoB.via (U' := T8.setTop (mkF m 14 #[.val (.ref a), .val (.ref b), .val (.int (0 : Int32)), .val (.int z), .val .null, .unset] [(.ref bb2), (.ref a)])) (fun tG kG => st8 tG kG) ?_
    obtain ⟨T9, h9, X9, e9, W9, st9⟩ := putF X8 hx hZ hown (host := "") (Or.inl (hw _ (List.mem_of_getElem? (i := 24) rfl))) Via.refl e8 f4 f3 (Or.inr ⟨(hw _ (List.mem_of_getElem? (i := 20) rfl)), rfl, hnm⟩) (hw _ (List.mem_of_getElem? (i := 5) rfl)) (ty := (.array .byte)) (by decide) rfl rfl (g := (mkF m 14 #[.val (.ref a), .val (.ref b), .val (.int (0 : Int32)), .val (.int z), .val .null, .unset] [(.ref bb2), (.ref a)])) rfl rfl (hb hby own_k68)
    have f10 := f3.wr W9
    have f11 := f4.same W9
    have f12 := f5.other W9 (Or.inr (slot_ne (Or.inr (hw _ (List.mem_of_getElem? (i := 21) rfl))) (Or.inr (hw _ (List.mem_of_getElem? (i := 20) rfl))) (by decide) (t := .byte) (t' := (.array .byte)) (by decide) (by decide)))
    have f13 := f6.other W9 (Ne.symm ne_a_b)
    have f14 := f7.wr W9
    have f15 := A2.wr W9
    have f16 := Fc2.other W9 (Or.inl ne_b2_a)
    have f17 := Fv2.other W9 (Or.inl ne_b2_a)
    have K9 := K2.wr W9 (Or.inl (List.mem_of_getElem? (i := 0) rfl))
    have N9 := Fr.snoc X9 N0 g_a
    have Z9 := Nat.le_trans Z2 (Keep.of_wr W9).1
    have Zk9 := Nat.le_trans (Nat.le_refl _) (Keep.of_wr W9).1
    refine GoB.via (U' := T9.setTop (mkF m 17 #[.val (.ref a), .val (.ref b), .val (.int (0 : Int32)), .val (.int z), .val .null, .unset] [])) (fun tG kG => st9 tG kG) ?_
    refine GoB.via (U' := T9.setTop (mkF m 18 #[.val (.ref a), .val (.ref b), .val (.int (0 : Int32)), .val (.int z), .val .null, .unset] [(.ref a)])) (fun tG kG => XS.aloadN X9.here hx rfl (hb hby own_k69) rfl rfl kG) ?_
    have wS18 : ∀ a ∈ Bundle.stringAtoms, a.before a0 Z = true := own_consC (hw _ (List.mem_of_getElem? (i := 6) rfl)) (own_consC (hw _ (List.mem_of_getElem? (i := 5) rfl)) (own_consC (hw _ (List.mem_of_getElem? (i := 19) rfl)) (own_consC (hw _ (List.mem_of_getElem? (i := 20) rfl)) (own_consC (hw _ (List.mem_of_getElem? (i := 21) rfl)) (own_consC (hw _ (List.mem_of_getElem? (i := 22) rfl)) (own_consC (hw _ (List.mem_of_getElem? (i := 23) rfl)) (own_nilC)))))))
    refine GoB.via (U' := T9.setTop (mkF m 20 #[.val (.ref a), .val (.ref b), .val (.int (0 : Int32)), .val (.int z), .val .null, .unset] [(.ref b2), (.ref a)])) (fun tG kG => own_ldcA X9 hx hZ hown (hw _ (List.mem_of_getElem? (i := 18) rfl)) Li2 (pc := 18) (Ls := #[.val (.ref a), .val (.ref b), .val (.int (0 : Int32)), .val (.int z), .val .null, .unset]) (rest := [(.ref a)]) (hb hby own_k70) tG kG) ?_
    obtain ⟨T19, X19, e19, st19⟩ := getF X9 hx hZ hown (host := "") (Or.inl (hw _ (List.mem_of_getElem? (i := 25) rfl))) Via.refl e9 f16 (g := (mkF m 20 #[.val (.ref a), .val (.ref b), .val (.int (0 : Int32)), .val (.int z), .val .null, .unset] [(.ref b2), (.ref a)])) rfl rfl (hb hby own_k71)
    refine GoB.via (U' := T19.setTop (mkF m 23 #[.val (.ref a), .val (.ref b), .val (.int (0 : Int32)), .val (.int z), .val .null, .unset] [(.int (0 : Int32)), (.ref a)])) (fun tG kG => st19 tG kG) ?_
    obtain ⟨T20, h20, X20, e20, W20, st20⟩ := putFN X19 hx hZ hown (hw _ (List.mem_of_getElem? (i := 25) rfl)) Via.refl e19 f12 f10 (Or.inr ⟨(hw _ (List.mem_of_getElem? (i := 21) rfl)), rfl, hnm⟩) (hw _ (List.mem_of_getElem? (i := 5) rfl)) (ty := .byte) (v' := (.int (nar .byte (0 : Int32)))) (by decide) rfl (fits_nar_byte _) (g := (mkF m 23 #[.val (.ref a), .val (.ref b), .val (.int (0 : Int32)), .val (.int z), .val .null, .unset] [(.int (0 : Int32)), (.ref a)])) rfl rfl (hb hby own_k72)
    have f21 := f10.wr W20
    have f22 := f11.other W20 (Or.inr (slot_ne (Or.inr (hw _ (List.mem_of_getElem? (i := 20) rfl))) (Or.inr (hw _ (List.mem_of_getElem? (i := 21) rfl))) (by decide) (t := (.array .byte)) (t' := .byte) (by decide) (by decide)))
    have f23 := f12.same W20
    have f24 := f13.other W20 (Ne.symm ne_a_b)
    have f25 := f14.wr W20
    have f26 := f15.wr W20
    have f27 := f16.other W20 (Or.inl ne_b2_a)
    have f28 := f17.other W20 (Or.inl ne_b2_a)
    have K20 := K9.wr W20 (Or.inl (List.mem_of_getElem? (i := 0) rfl))
    have N20 := Fr.snoc X20 N9 g_a
    have Z20 := Nat.le_trans Z9 (Keep.of_wr W20).1
    have Zk20 := Nat.le_trans Zk9 (Keep.of_wr W20).1
    refine GoB.via (U' := T20.setTop (mkF m 26 #[.val (.ref a), .val (.ref b), .val (.int (0 : Int32)), .val (.int z), .val .null, .unset] [])) (fun tG kG => st20 tG kG) ?_
    refine GoB.ofGo ?_
    exact go_retV X20 hx hlk hret (hb hby own_k73) e20 ⟨⟨rfl, N20, K20, f21⟩, Zk20⟩ (by decide) (by decide)
  · refine GoB.via (U' := T1.setTop (mkF m 27 #[.val (.ref a), .val (.ref b), .val (.int (0 : Int32)), .val (.int z), .val .null, .unset] [])) (fun tG kG => XS.ifYes X1.here hx rfl (pc0 := 5) (pc' := 27) rfl (hb hby own_k64) rfl ((if0 _ _).trans (feq hc5).2) (by decide) (by decide) kG) ?_
    obtain ⟨T29, X29, e29, st29⟩ := getS2 X1 hx hZ hown (host := "") (Or.inl (hw _ (List.mem_of_getElem? (i := 29) rfl))) Via.refl e1 S_COMPACT_STRINGS (g := (mkF m 27 #[.val (.ref a), .val (.ref b), .val (.int (0 : Int32)), .val (.int z), .val .null, .unset] [])) rfl (hb hby own_k74)
    refine GoB.via (U' := T29.setTop (mkF m 30 #[.val (.ref a), .val (.ref b), .val (.int (0 : Int32)), .val (.int z), .val .null, .unset] [(.int cz)])) (fun tG kG => st29 tG kG) ?_
    have hc30 : ¬ (cz = (0 : Int32)) := hcz
    refine GoB.via (U' := T29.setTop (mkF m 33 #[.val (.ref a), .val (.ref b), .val (.int (0 : Int32)), .val (.int z), .val .null, .unset] [])) (fun tG kG => XS.ifNo X29.here hx rfl (hb hby own_k75) rfl ((if0 _ _).trans (feq hc30).1) kG) ?_
    refine GoB.via (U' := T29.setTop (mkF m 34 #[.val (.ref a), .val (.ref b), .val (.int (0 : Int32)), .val (.int z), .val .null, .unset] [(.ref b)])) (fun tG kG => XS.aloadN X29.here hx rfl (hb hby own_k76) rfl rfl kG) ?_
    refine GoB.via (U' := T29.setTop (mkF m 35 #[.val (.ref a), .val (.ref b), .val (.int (0 : Int32)), .val (.int z), .val .null, .unset] [(.int (0 : Int32)), (.ref b)])) (fun tG kG => XS.iloadN X29.here hx rfl (hb hby own_k77) rfl kG) ?_
    refine GoB.via (U' := T29.setTop (mkF m 36 #[.val (.ref a), .val (.ref b), .val (.int (0 : Int32)), .val (.int z), .val .null, .unset] [(.int z), (.int (0 : Int32)), (.ref b)])) (fun tG kG => XS.iloadN X29.here hx rfl (hb hby own_k78) rfl kG) ?_
    obtain ⟨_, T30, L30, X30, ⟨b31, gb31, zb31, k32, rfl, N30q, K30q, f33, f34⟩, st30⟩ := callSQ X29 hx hZ hown (hw _ (List.mem_of_getElem? (i := 139) rfl)) (hw _ (List.mem_of_getElem? (i := 140) rfl)) (hw _ (List.mem_of_getElem? (i := 141) rfl)) (hw _ (List.mem_of_getElem? (i := 142) rfl)) (by decide) (av := [(.ref b), (.int (0 : Int32)), (.int z)]) (own_rm24 l Z a0 hw [] b z k_b f h0 n0 hn0 V_b hz0 hz1 hf) e29 (pc := 36) (Ls := #[.val (.ref a), .val (.ref b), .val (.int (0 : Int32)), .val (.int z), .val .null, .unset]) (rest := []) (by rw [hml]; rfl) own_k79 rfl 0 (Nat.le_of_eq rfl) (by decide) (by decide) (by decide) (by decide) (hb hby own_k80)
    have f35 := E_a.keep K30q
    have f36 := F_a_value.keep K30q nin0
    have f37 := F_a_coder.keep K30q nin0
    have f38 := V_b.keep K30q nin0
    have f39 := own_staKeep S_COMPACT_STRINGS K30q all0
    have N30 := Fr.app N0 N30q
    have Z30 := Nat.le_trans hn0 K30q.1
    have Zk30 := Nat.le_trans (Nat.zero_le _) K30q.1
    have K30 := K0.trans K30q all0
    have sb31 : h0.size ≤ b31 := Nat.le_trans K0.1 zb31
    have ne_b_b31 : b ≠ b31 := Nat.ne_of_lt (Nat.lt_of_lt_of_le V_b.lt zb31)
    have ne_a_b31 : a ≠ b31 := Nat.ne_of_lt (Nat.lt_of_lt_of_le E_a.lt zb31)
    refine GoB.via (U' := T30.setTop (mkF m 39 #[.val (.ref a), .val (.ref b), .val (.int (0 : Int32)), .val (.int z), .val .null, .unset] [(.ref b31)])) (fun tG kG => st30 tG kG) ?_
    refine GoB.via (U' := T30.setTop (mkF m 41 #[.val (.ref a), .val (.ref b), .val (.int (0 : Int32)), .val (.int z), .val .null, .val (.ref b31)] [])) (fun tG kG => XS.astore X30.here hx rfl (hb hby own_k81) rfl rfl (l' := #[.val (.ref a), .val (.ref b), .val (.int (0 : Int32)), .val (.int z), .val .null, .val (.ref b31)]) rfl kG) ?_
    refine GoB.via (U' := T30.setTop (mkF m 42 #[.val (.ref a), .val (.ref b), .val (.int (0 : Int32)), .val (.int z), .val .null, .val (.ref b31)] [(.ref a)])) (fun tG kG => XS.aloadN X30.here hx rfl (hb hby own_k82) rfl rfl kG) ?_
    refine GoB.via (U' := T30.setTop (mkF m 44 #[.val (.ref a), .val (.ref b), .val (.int (0 : Int32)), .val (.int z), .val .null, .val (.ref b31)] [(.ref b31), (.ref a)])) (fun tG kG => XS.aload X30.here hx rfl (hb hby own_k83) rfl rfl kG) ?_
    refine GoB.via (U' := T30.setTop (mkF m 45 #[.val (.ref a), .val (.ref b), .val (.int (0 : Int32)), .val (.int z), .val .null, .val (.ref b31)] [(.int z), (.ref b31), (.ref a)])) (fun tG kG => XS.iloadN X30.here hx rfl (hb hby own_k84) rfl kG) ?_
    obtain ⟨T40, X40, e40, st40⟩ := callS0 X30 hx hZ hown (hw _ (List.mem_of_getElem? (i := 146) rfl)) (hw _ (List.mem_of_getElem? (i := 147) rfl)) (hw _ (List.mem_of_getElem? (i := 141) rfl)) (hw _ (List.mem_of_getElem? (i := 148) rfl)) (by decide) (av := [(.ref b31), (.int z)]) (own_rm26 l Z a0 hw [] b31 z k32 (own_q24_b1 z f) T30.heap f34) rfl (pc := 45) (Ls := #[.val (.ref a), .val (.ref b), .val (.int (0 : Int32)), .val (.int z), .val .null, .val (.ref b31)]) (rest := [(.ref a)]) (by rw [hml]; rfl) own_k85 rfl 1 (Nat.le_of_eq rfl) (by decide) (by decide) (by decide) (by decide) (hb hby own_k86)
    refine GoB.via (U' := T40.setTop (mkF m 48 #[.val (.ref a), .val (.ref b), .val (.int (0 : Int32)), .val (.int z), .val .null, .val (.ref b31)] [(.int (own_f26 z)), (.ref a)])) (fun tG kG => st40 tG kG) ?_
    obtain ⟨T41, h41, X41, e41, W41, st41⟩ := putFN X40 hx hZ hown (hw _ (List.mem_of_getElem? (i := 25) rfl)) Via.refl e40 f37 f35 (Or.inr ⟨(hw _ (List.mem_of_getElem? (i := 21) rfl)), rfl, hnm⟩) (hw _ (List.mem_of_getElem? (i := 5) rfl)) (ty := .byte) (v' := (.int (nar .byte (own_f26 z)))) (by decide) rfl (fits_nar_byte _) (g := (mkF m 48 #[.val (.ref a), .val (.ref b), .val (.int (0 : Int32)), .val (.int z), .val .null, .val (.ref b31)] [(.int (own_f26 z)), (.ref a)])) rfl rfl (hb hby own_k87)
    have f42 := f35.wr W41
    have f43 := f36.other W41 (Or.inr (slot_ne (Or.inr (hw _ (List.mem_of_getElem? (i := 20) rfl))) (Or.inr (hw _ (List.mem_of_getElem? (i := 21) rfl))) (by decide) (t := (.array .byte)) (t' := .byte) (by decide) (by decide)))
    have f44 := f37.same W41
    have f45 := f38.other W41 (Ne.symm ne_a_b)
    have f46 := f39.wr W41
    have f47 := f33.wr W41
    have f48 := f34.other W41 (Ne.symm ne_a_b31)
    have K41 := K30.wr W41 (Or.inl (List.mem_of_getElem? (i := 0) rfl))
    have N41 := Fr.snoc X41 N30 g_a
    have Z41 := Nat.le_trans Z30 (Keep.of_wr W41).1
    have Zk41 := Nat.le_trans Zk30 (Keep.of_wr W41).1
    refine GoB.via (U' := T41.setTop (mkF m 51 #[.val (.ref a), .val (.ref b), .val (.int (0 : Int32)), .val (.int z), .val .null, .val (.ref b31)] [])) (fun tG kG => st41 tG kG) ?_
    refine GoB.via (U' := T41.setTop (mkF m 52 #[.val (.ref a), .val (.ref b), .val (.int (0 : Int32)), .val (.int z), .val .null, .val (.ref b31)] [(.ref a)])) (fun tG kG => XS.aloadN X41.here hx rfl (hb hby own_k88) rfl rfl kG) ?_
    refine GoB.via (U' := T41.setTop (mkF m 54 #[.val (.ref a), .val (.ref b), .val (.int (0 : Int32)), .val (.int z), .val .null, .val (.ref b31)] [(.ref b31), (.ref a)])) (fun tG kG => XS.aload X41.here hx rfl (hb hby own_k89) rfl rfl kG) ?_
    obtain ⟨T49, h49, X49, e49, W49, st49⟩ := putF X41 hx hZ hown (host := "") (Or.inl (hw _ (List.mem_of_getElem? (i := 24) rfl))) Via.refl e41 f43 f42 (Or.inr ⟨(hw _ (List.mem_of_getElem? (i := 20) rfl)), rfl, hnm⟩) (hw _ (List.mem_of_getElem? (i := 5) rfl)) (ty := (.array .byte)) (by decide) rfl rfl (g := (mkF m 54 #[.val (.ref a), .val (.ref b), .val (.int (0 : Int32)), .val (.int z), .val .null, .val (.ref b31)] [(.ref b31), (.ref a)])) rfl rfl (hb hby own_k90)
    have f50 := f42.wr W49
    have f51 := f43.same W49
    have f52 := f44.other W49 (Or.inr (slot_ne (Or.inr (hw _ (List.mem_of_getElem? (i := 21) rfl))) (Or.inr (hw _ (List.mem_of_getElem? (i := 20) rfl))) (by decide) (t := .byte) (t' := (.array .byte)) (by decide) (by decide)))
    have f53 := f45.other W49 (Ne.symm ne_a_b)
    have f54 := f46.wr W49
    have f55 := f47.wr W49
    have f56 := f48.other W49 (Ne.symm ne_a_b31)
    have K49 := K41.wr W49 (Or.inl (List.mem_of_getElem? (i := 0) rfl))
    have N49 := Fr.snoc X49 N41 g_a
    have Z49 := Nat.le_trans Z41 (Keep.of_wr W49).1
    have Zk49 := Nat.le_trans Zk41 (Keep.of_wr W49).1
    refine GoB.via (U' := T49.setTop (mkF m 57 #[.val (.ref a), .val (.ref b), .val (.int (0 : Int32)), .val (.int z), .val .null, .val (.ref b31)] [])) (fun tG kG => st49 tG kG) ?_
    refine GoB.ofGo ?_
    exact go_retV X49 hx hlk hret (hb hby own_k91) e49 ⟨⟨rfl, N49, K49, f50⟩, Zk49⟩ (by decide) (by decide)
theorem own_k93 (m : MethodId) (a : Addr) (b : Addr) : entryFrame m #[(.ref a), (.ref b)] 2 = mkF m 0 #[.val (.ref a), .val (.ref b)] [] := by first | (simp [entryFrame, mkF, argsToLocals, Value.category]; done) | rfl
theorem own_k94 : decode jdk_42_method_3_code 0 = .ok (.aload_n 0, 1) := by decide +kernel
theorem own_k95 : decode jdk_42_method_3_code 1 = .ok (.aload_n 1, 1) := by decide +kernel
theorem own_k96 : decode jdk_42_method_3_code 2 = .ok (.iconst 0, 1) := by decide +kernel
theorem own_k97 : decode jdk_42_method_3_code 3 = .ok (.aload_n 1, 1) := by decide +kernel
theorem own_k98 : decode jdk_42_method_3_code 4 = .ok (.arraylength, 1) := by decide +kernel
theorem own_k99 : decode jdk_42_method_3_code 5 = .ok (.aconst_null, 1) := by decide +kernel
theorem own_k100 : parseMethodDescriptor "([CIILjava/lang/Void;)V" = some ⟨[(.array .char), .int, .int, (.object "java/lang/Void")], none⟩ := by decide +kernel
theorem own_k101 : decode jdk_42_method_3_code 6 = .ok (.invokespecial 27, 3) := by decide +kernel
theorem own_k102 : decode jdk_42_method_3_code 9 = .ok (.return_, 1) := by decide +kernel
set_option maxRecDepth 65536 in
set_option maxHeartbeats 40000000 in
theorem own_rm2 (l : Launch) (Z : State) (a0 : Array Value) (hw : ∀ d ∈ tables_1, d.before a0 Z = true) (ws : List Jvm.Cond) (a : Addr) (b : Addr) (k_b : ClassId) (z : Int32) (f : Nat → Int32) (cz : Int32) (h0 : Heap) (n0 : Nat) (hn0 : n0 ≤ h0.size) (E_a : Exa Z h0 a "java/lang/String") (F_a_value : Fld Z h0 a "java/lang/String" "value" "[B" .null) (F_a_coder : Fld Z h0 a "java/lang/String" "coder" "B" (.int (0 : Int32))) (V_b : Arf Z h0 b k_b .char z f) (S_COMPACT_STRINGS : Sta Z h0 "java/lang/String" "COMPACT_STRINGS" "Z" (.int cz)) (g_a : n0 ≤ a) (ne_a_b : a ≠ b) (hz0 : ¬ z < 0) (hz1 : z.toInt ≤ 100) (hf : ∀ i, ¬ (255 : Int32) < f i) (hcz : ¬ (cz = (0 : Int32))) (hh : Jvm.Lit.constHeld Z "java/lang/String" 7) (hcw : Jvm.Lit.compactW.before a0 Z = true) (hkp : ∀ (b : Addr) (cl : Cell), Z.heap[b]? = some cl → h0[b]? = some cl) : MeetsB l Z true (⟨"java/lang/String", "<init>", "([C)V"⟩ : MethodName) jdk_42_method_3_code 2 none ws ({ frames := 3, cells := 2, slots := 100, locals := 52 } : Room) #[(.ref a), (.ref b)] h0 (fun v h L => v = none ∧ Fr n0 L ∧ Keep h0 h [a] ∧ Exa Z h a "java/lang/String") := by
  refine meetsB_of (plainFor_of_name own_k92) ?_
  intro p e s m below meth c s₁ X0 hx hZ hby hml hret hlk hown hnm e0 hs0 hI
  replace hml : c.maxLocals = 2 := hml
  replace hown : s.vm.findClass "java/lang/String" = some m.cls := hown
  refine GoB.cast (own_k93 m a b) ?_
  have N0 := Fr.nil n0
  have K0 : Keep h0 h0 [a] := Keep.refl h0 _
  refine GoB.via (U' := s₁.setTop (mkF m 1 #[.val (.ref a), .val (.ref b)] [(.ref a)])) (fun tG kG => XS.aloadN X0.here hx rfl (hb hby own_k94) rfl rfl kG) ?_
  refine GoB.via (U' := s₁.setTop (mkF m 2 #[.val (.ref a), .val (.ref b)] [(.ref b), (.ref a)])) (fun tG kG => XS.aloadN X0.here hx rfl (hb hby own_k95) rfl rfl kG) ?_
  refine GoB.via (U' := s₁.setTop (mkF m 3 #[.val (.ref a), .val (.ref b)] [(.int (0 : Int32)), (.ref b), (.ref a)])) (fun tG kG => XS.iconst X0.here hx rfl (hb hby own_k96) kG) ?_
  refine GoB.via (U' := s₁.setTop (mkF m 4 #[.val (.ref a), .val (.ref b)] [(.ref b), (.int (0 : Int32)), (.ref b), (.ref a)])) (fun tG kG => XS.aloadN X0.here hx rfl (hb hby own_k97) rfl rfl kG) ?_
  refine GoB.via (U' := s₁.setTop (mkF m 5 #[.val (.ref a), .val (.ref b)] [(.int z), (.int (0 : Int32)), (.ref b), (.ref a)])) (fun tG kG => own_len X0 hx hZ e0 V_b (hb hby own_k98) tG kG) ?_
  refine GoB.via (U' := s₁.setTop (mkF m 6 #[.val (.ref a), .val (.ref b)] [.null, (.int z), (.int (0 : Int32)), (.ref b), (.ref a)])) (fun tG kG => XS.aconstNull X0.here hx rfl (hb hby own_k99) kG) ?_
  obtain ⟨_, s, T1, L1, X1, ⟨hZ, hown, reb1⟩, ⟨rfl, N1q, K1q, f2⟩, st1⟩ := callIB X0 hx hZ rfl hown (hw _ (List.mem_of_getElem? (i := 11) rfl)) (hw _ (List.mem_of_getElem? (i := 12) rfl)) (hw _ (List.mem_of_getElem? (i := 6) rfl)) (hw _ (List.mem_of_getElem? (i := 14) rfl)) (by decide) (b := a) (I := true) hI (av := [(.ref b), (.int (0 : Int32)), (.int z), .null]) (own_rm3 l Z a0 hw [] a b z k_b f cz h0 n0 hn0 E_a F_a_value F_a_coder V_b S_COMPACT_STRINGS g_a ne_a_b hz0 hz1 hf hcz hh hcw hkp) e0 (pc := 6) (Ls := #[.val (.ref a), .val (.ref b)]) (rest := []) (by rw [hml]; rfl) own_k100 rfl 0 (Nat.le_of_eq rfl) (by decide) (by decide) (by decide) (by decide) (hb hby own_k101)
  have f3 := E_a.keep K1q
  have f4 := V_b.keep K1q (ninS (Ne.symm ne_a_b) nin0)
  have f5 := own_staKeep S_COMPACT_STRINGS K1q ((allS (own_plainE E_a) all0))
  have N1 := Fr.app N0 N1q
  have Z1 := Nat.le_trans hn0 K1q.1
  have Zk1 := Nat.le_trans (Nat.zero_le _) K1q.1
  have K1 := K0.trans K1q (allS (Or.inl (List.mem_of_getElem? (i := 0) rfl)) all0)
  refine GoB.via (U' := T1.setTop (mkF m 9 #[.val (.ref a), .val (.ref b)] [])) (fun tG kG => st1 tG kG) ?_
  refine reb1 _ _ _ _ _ Zk1 ?_
  refine GoB.ofGo ?_
  exact go_retV X1 hx hlk hret (hb hby own_k102) rfl ⟨⟨rfl, N1, K1, f2⟩, (Nat.le_refl _)⟩ (by decide) (by decide)
theorem own_k103 (m : MethodId) (x0 : Int32) (x1 : Int32) (x2 : Int32) (x3 : Int32) : entryFrame m #[(.int x0), (.int x1), (.int x2), (.int x3)] 7 = mkF m 0 #[.val (.int x0), .val (.int x1), .val (.int x2), .val (.int x3), .unset, .unset, .unset] [] := by first | (simp [entryFrame, mkF, argsToLocals, Value.category]; done) | rfl
theorem own_k104 : decode method_2_code 0 = .ok (.iload_n 1, 1) := by decide +kernel
theorem own_k105 : decode method_2_code 1 = .ok (.sipush 255, 3) := by decide +kernel
theorem own_k106 : decode method_2_code 4 = .ok (.iand, 1) := by decide +kernel
theorem own_k107 : decode method_2_code 5 = .ok (.i2c, 1) := by decide +kernel
theorem own_k108 : decode method_2_code 6 = .ok (.istore 4, 2) := by decide +kernel
theorem own_k109 : decode method_2_code 8 = .ok (.iload_n 2, 1) := by decide +kernel
theorem own_k110 : decode method_2_code 9 = .ok (.sipush 255, 3) := by decide +kernel
theorem own_k111 : decode method_2_code 12 = .ok (.iand, 1) := by decide +kernel
theorem own_k112 : decode method_2_code 13 = .ok (.i2c, 1) := by decide +kernel
theorem own_k113 : decode method_2_code 14 = .ok (.istore 5, 2) := by decide +kernel
theorem own_k114 : decode method_2_code 16 = .ok (.iload_n 3, 1) := by decide +kernel
theorem own_k115 : decode method_2_code 17 = .ok (.sipush 255, 3) := by decide +kernel
theorem own_k116 : decode method_2_code 20 = .ok (.iand, 1) := by decide +kernel
theorem own_k117 : decode method_2_code 21 = .ok (.i2c, 1) := by decide +kernel
theorem own_k118 : decode method_2_code 22 = .ok (.istore 6, 2) := by decide +kernel
theorem own_k119 : decode method_2_code 24 = .ok (.iload_n 0, 1) := by decide +kernel
theorem own_k120 : decode method_2_code 25 = .ok (.ifCond .ne 14, 3) := by decide +kernel
theorem own_k121 : decode method_2_code 28 = .ok (.new 7, 3) := by decide +kernel
theorem own_k122 : decode method_2_code 31 = .ok (.dup, 1) := by decide +kernel
theorem own_k123 : decode method_2_code 32 = .ok (.iconst 0, 1) := by decide +kernel
theorem own_k124 : decode method_2_code 33 = .ok (.newarray .char, 2) := by decide +kernel
theorem own_k125 : parseMethodDescriptor "([C)V" = some ⟨[(.array .char)], none⟩ := by decide +kernel
theorem own_k126 : decode method_2_code 35 = .ok (.invokespecial 9, 3) := by decide +kernel
theorem own_k127 : decode method_2_code 38 = .ok (.areturn, 1) := by decide +kernel
theorem own_k128 : decode method_2_code 39 = .ok (.iload_n 0, 1) := by decide +kernel
theorem own_k129 : decode method_2_code 40 = .ok (.iconst 1, 1) := by decide +kernel
theorem own_k130 : decode method_2_code 41 = .ok (.if_icmp .ne 19, 3) := by decide +kernel
theorem own_k131 : decode method_2_code 44 = .ok (.new 7, 3) := by decide +kernel
theorem own_k132 : decode method_2_code 47 = .ok (.dup, 1) := by decide +kernel
theorem own_k133 : decode method_2_code 48 = .ok (.iconst 1, 1) := by decide +kernel
theorem own_k134 : decode method_2_code 49 = .ok (.newarray .char, 2) := by decide +kernel
theorem own_k135 : decode method_2_code 51 = .ok (.dup, 1) := by decide +kernel
theorem own_k136 : decode method_2_code 52 = .ok (.iconst 0, 1) := by decide +kernel
theorem own_k137 : decode method_2_code 53 = .ok (.iload 4, 2) := by decide +kernel
theorem own_k138 : decode method_2_code 55 = .ok (.castore, 1) := by decide +kernel
theorem own_k139 : decode method_2_code 56 = .ok (.invokespecial 9, 3) := by decide +kernel
theorem own_k140 : decode method_2_code 59 = .ok (.areturn, 1) := by decide +kernel
theorem own_k141 : decode method_2_code 60 = .ok (.iload_n 0, 1) := by decide +kernel
theorem own_k142 : decode method_2_code 61 = .ok (.iconst 2, 1) := by decide +kernel
theorem own_k143 : decode method_2_code 62 = .ok (.if_icmp .ne 24, 3) := by decide +kernel
theorem own_k144 : decode method_2_code 65 = .ok (.new 7, 3) := by decide +kernel
theorem own_k145 : decode method_2_code 68 = .ok (.dup, 1) := by decide +kernel
theorem own_k146 : decode method_2_code 69 = .ok (.iconst 2, 1) := by decide +kernel
theorem own_k147 : decode method_2_code 70 = .ok (.newarray .char, 2) := by decide +kernel
theorem own_k148 : decode method_2_code 72 = .ok (.dup, 1) := by decide +kernel
theorem own_k149 : decode method_2_code 73 = .ok (.iconst 0, 1) := by decide +kernel
theorem own_k150 : decode method_2_code 74 = .ok (.iload 4, 2) := by decide +kernel
theorem own_k151 : decode method_2_code 76 = .ok (.castore, 1) := by decide +kernel
theorem own_k152 : decode method_2_code 77 = .ok (.dup, 1) := by decide +kernel
theorem own_k153 : decode method_2_code 78 = .ok (.iconst 1, 1) := by decide +kernel
theorem own_k154 : decode method_2_code 79 = .ok (.iload 5, 2) := by decide +kernel
theorem own_k155 : decode method_2_code 81 = .ok (.castore, 1) := by decide +kernel
theorem own_k156 : decode method_2_code 82 = .ok (.invokespecial 9, 3) := by decide +kernel
theorem own_k157 : decode method_2_code 85 = .ok (.areturn, 1) := by decide +kernel
theorem own_k158 : decode method_2_code 86 = .ok (.new 7, 3) := by decide +kernel
theorem own_k159 : decode method_2_code 89 = .ok (.dup, 1) := by decide +kernel
theorem own_k160 : decode method_2_code 90 = .ok (.iconst 3, 1) := by decide +kernel
theorem own_k161 : decode method_2_code 91 = .ok (.newarray .char, 2) := by decide +kernel
theorem own_k162 : decode method_2_code 93 = .ok (.dup, 1) := by decide +kernel
theorem own_k163 : decode method_2_code 94 = .ok (.iconst 0, 1) := by decide +kernel
theorem own_k164 : decode method_2_code 95 = .ok (.iload 4, 2) := by decide +kernel
theorem own_k165 : decode method_2_code 97 = .ok (.castore, 1) := by decide +kernel
theorem own_k166 : decode method_2_code 98 = .ok (.dup, 1) := by decide +kernel
theorem own_k167 : decode method_2_code 99 = .ok (.iconst 1, 1) := by decide +kernel
theorem own_k168 : decode method_2_code 100 = .ok (.iload 5, 2) := by decide +kernel
theorem own_k169 : decode method_2_code 102 = .ok (.castore, 1) := by decide +kernel
theorem own_k170 : decode method_2_code 103 = .ok (.dup, 1) := by decide +kernel
theorem own_k171 : decode method_2_code 104 = .ok (.iconst 2, 1) := by decide +kernel
theorem own_k172 : decode method_2_code 105 = .ok (.iload 6, 2) := by decide +kernel
theorem own_k173 : decode method_2_code 107 = .ok (.castore, 1) := by decide +kernel
theorem own_k174 : decode method_2_code 108 = .ok (.invokespecial 9, 3) := by decide +kernel
theorem own_k175 : decode method_2_code 111 = .ok (.areturn, 1) := by decide +kernel
theorem own_k176 : plainName "com/example/orgwarden/orgwarden/server/http/CallerOperatorPinLaw" = true := by first | (simp [plainName, overriddenIn]; done) | decide +kernel
set_option maxRecDepth 65536 in
set_option maxHeartbeats 40000000 in
theorem own_rm1 (l : Launch) (Z : State) (a0 : Array Value) (hw : ∀ d ∈ tables_1, d.before a0 Z = true) (ws : List Jvm.Cond) (x0 : Int32) (x1 : Int32) (x2 : Int32) (x3 : Int32) (cz : Int32) (h0 : Heap) (n0 : Nat) (hn0 : n0 ≤ h0.size) (S_COMPACT_STRINGS : Sta Z h0 "java/lang/String" "COMPACT_STRINGS" "Z" (.int cz)) (hcz : ¬ (cz = (0 : Int32))) (hh : Jvm.Lit.constHeld Z "java/lang/String" 7) (hcw : Jvm.Lit.compactW.before a0 Z = true) (hkp : ∀ (b : Addr) (cl : Cell), Z.heap[b]? = some cl → h0[b]? = some cl) : MeetsB l Z true (⟨"com/example/orgwarden/orgwarden/server/http/CallerOperatorPinLaw", "subject", "(IIII)Ljava/lang/String;"⟩ : MethodName) method_2_code 7 (some (.object "java/lang/String")) ws ({ frames := 4, cells := 4, slots := 107, locals := 66 } : Room) #[(.int x0), (.int x1), (.int x2), (.int x3)] h0 (fun v h L => ∃ rr : Addr, n0 ≤ rr ∧ h0.size ≤ rr ∧ v = some (.ref rr) ∧ Fr n0 L ∧ Keep h0 h [] ∧ Exa Z h rr "java/lang/String") := by
  refine meetsB_of (plainFor_of_name own_k176) ?_
  intro p e s m below meth c s₁ X0 hx hZ hby hml hret hlk hown hnm e0 hs0 hI
  replace hml : c.maxLocals = 7 := hml
  replace hown : s.vm.findClass "com/example/orgwarden/orgwarden/server/http/CallerOperatorPinLaw" = some m.cls := hown
  refine GoB.cast (own_k103 m x0 x1 x2 x3) ?_
  have N0 := Fr.nil n0
  have K0 : Keep h0 h0 [] := Keep.refl h0 _
  refine GoB.via (U' := s₁.setTop (mkF m 1 #[.val (.int x0), .val (.int x1), .val (.int x2), .val (.int x3), .unset, .unset, .unset] [(.int x1)])) (fun tG kG => XS.iloadN X0.here hx rfl (hb hby own_k104) rfl kG) ?_
  refine GoB.via (U' := s₁.setTop (mkF m 4 #[.val (.int x0), .val (.int x1), .val (.int x2), .val (.int x3), .unset, .unset, .unset] [(.int (255 : Int32)), (.int x1)])) (fun tG kG => XS.sipush X0.here hx rfl (hb hby own_k105) kG) ?_
  refine GoB.via (U' := s₁.setTop (mkF m 5 #[.val (.int x0), .val (.int x1), .val (.int x2), .val (.int x3), .unset, .unset, .unset] [(.int (x1 &&& (255 : Int32)))])) (fun tG kG => XS.iand X0.here hx rfl (hb hby own_k106) rfl kG) ?_
  refine GoB.via (U' := s₁.setTop (mkF m 6 #[.val (.int x0), .val (.int x1), .val (.int x2), .val (.int x3), .unset, .unset, .unset] [(.int ((x1 &&& (255 : Int32)).toUInt32.toUInt16.toUInt32.toInt32))])) (fun tG kG => XS.i2c X0.here hx rfl (hb hby own_k107) rfl kG) ?_
  refine GoB.via (U' := s₁.setTop (mkF m 8 #[.val (.int x0), .val (.int x1), .val (.int x2), .val (.int x3), .val (.int ((x1 &&& (255 : Int32)).toUInt32.toUInt16.toUInt32.toInt32)), .unset, .unset] [])) (fun tG kG => XS.istore X0.here hx rfl (hb hby own_k108) rfl (l' := #[.val (.int x0), .val (.int x1), .val (.int x2), .val (.int x3), .val (.int ((x1 &&& (255 : Int32)).toUInt32.toUInt16.toUInt32.toInt32)), .unset, .unset]) rfl kG) ?_
  refine GoB.via (U' := s₁.setTop (mkF m 9 #[.val (.int x0), .val (.int x1), .val (.int x2), .val (.int x3), .val (.int ((x1 &&& (255 : Int32)).toUInt32.toUInt16.toUInt32.toInt32)), .unset, .unset] [(.int x2)])) (fun tG kG => XS.iloadN X0.here hx rfl (hb hby own_k109) rfl kG) ?_
  refine GoB.via (U' := s₁.setTop (mkF m 12 #[.val (.int x0), .val (.int x1), .val (.int x2), .val (.int x3), .val (.int ((x1 &&& (255 : Int32)).toUInt32.toUInt16.toUInt32.toInt32)), .unset, .unset] [(.int (255 : Int32)), (.int x2)])) (fun tG kG => XS.sipush X0.here hx rfl (hb hby own_k110) kG) ?_
  refine GoB.via (U' := s₁.setTop (mkF m 13 #[.val (.int x0), .val (.int x1), .val (.int x2), .val (.int x3), .val (.int ((x1 &&& (255 : Int32)).toUInt32.toUInt16.toUInt32.toInt32)), .unset, .unset] [(.int (x2 &&& (255 : Int32)))])) (fun tG kG => XS.iand X0.here hx rfl (hb hby own_k111) rfl kG) ?_
  refine GoB.via (U' := s₁.setTop (mkF m 14 #[.val (.int x0), .val (.int x1), .val (.int x2), .val (.int x3), .val (.int ((x1 &&& (255 : Int32)).toUInt32.toUInt16.toUInt32.toInt32)), .unset, .unset] [(.int ((x2 &&& (255 : Int32)).toUInt32.toUInt16.toUInt32.toInt32))])) (fun tG kG => XS.i2c X0.here hx rfl (hb hby own_k112) rfl kG) ?_
  refine GoB.via (U' := s₁.setTop (mkF m 16 #[.val (.int x0), .val (.int x1), .val (.int x2), .val (.int x3), .val (.int ((x1 &&& (255 : Int32)).toUInt32.toUInt16.toUInt32.toInt32)), .val (.int ((x2 &&& (255 : Int32)).toUInt32.toUInt16.toUInt32.toInt32)), .unset] [])) (fun tG kG => XS.istore X0.here hx rfl (hb hby own_k113) rfl (l' := #[.val (.int x0), .val (.int x1), .val (.int x2), .val (.int x3), .val (.int ((x1 &&& (255 : Int32)).toUInt32.toUInt16.toUInt32.toInt32)), .val (.int ((x2 &&& (255 : Int32)).toUInt32.toUInt16.toUInt32.toInt32)), .unset]) rfl kG) ?_
  refine GoB.via (U' := s₁.setTop (mkF m 17 #[.val (.int x0), .val (.int x1), .val (.int x2), .val (.int x3), .val (.int ((x1 &&& (255 : Int32)).toUInt32.toUInt16.toUInt32.toInt32)), .val (.int ((x2 &&& (255 : Int32)).toUInt32.toUInt16.toUInt32.toInt32)), .unset] [(.int x3)])) (fun tG kG => XS.iloadN X0.here hx rfl (hb hby own_k114) rfl kG) ?_
  refine GoB.via (U' := s₁.setTop (mkF m 20 #[.val (.int x0), .val (.int x1), .val (.int x2), .val (.int x3), .val (.int ((x1 &&& (255 : Int32)).toUInt32.toUInt16.toUInt32.toInt32)), .val (.int ((x2 &&& (255 : Int32)).toUInt32.toUInt16.toUInt32.toInt32)), .unset] [(.int (255 : Int32)), (.int x3)])) (fun tG kG => XS.sipush X0.here hx rfl (hb hby own_k115) kG) ?_
  refine GoB.via (U' := s₁.setTop (mkF m 21 #[.val (.int x0), .val (.int x1), .val (.int x2), .val (.int x3), .val (.int ((x1 &&& (255 : Int32)).toUInt32.toUInt16.toUInt32.toInt32)), .val (.int ((x2 &&& (255 : Int32)).toUInt32.toUInt16.toUInt32.toInt32)), .unset] [(.int (x3 &&& (255 : Int32)))])) (fun tG kG => XS.iand X0.here hx rfl (hb hby own_k116) rfl kG) ?_
  refine GoB.via (U' := s₁.setTop (mkF m 22 #[.val (.int x0), .val (.int x1), .val (.int x2), .val (.int x3), .val (.int ((x1 &&& (255 : Int32)).toUInt32.toUInt16.toUInt32.toInt32)), .val (.int ((x2 &&& (255 : Int32)).toUInt32.toUInt16.toUInt32.toInt32)), .unset] [(.int ((x3 &&& (255 : Int32)).toUInt32.toUInt16.toUInt32.toInt32))])) (fun tG kG => XS.i2c X0.here hx rfl (hb hby own_k117) rfl kG) ?_
  refine GoB.via (U' := s₁.setTop (mkF m 24 #[.val (.int x0), .val (.int x1), .val (.int x2), .val (.int x3), .val (.int ((x1 &&& (255 : Int32)).toUInt32.toUInt16.toUInt32.toInt32)), .val (.int ((x2 &&& (255 : Int32)).toUInt32.toUInt16.toUInt32.toInt32)), .val (.int ((x3 &&& (255 : Int32)).toUInt32.toUInt16.toUInt32.toInt32))] [])) (fun tG kG => XS.istore X0.here hx rfl (hb hby own_k118) rfl (l' := #[.val (.int x0), .val (.int x1), .val (.int x2), .val (.int x3), .val (.int ((x1 &&& (255 : Int32)).toUInt32.toUInt16.toUInt32.toInt32)), .val (.int ((x2 &&& (255 : Int32)).toUInt32.toUInt16.toUInt32.toInt32)), .val (.int ((x3 &&& (255 : Int32)).toUInt32.toUInt16.toUInt32.toInt32))]) rfl kG) ?_
  refine GoB.via (U' := s₁.setTop (mkF m 25 #[.val (.int x0), .val (.int x1), .val (.int x2), .val (.int x3), .val (.int ((x1 &&& (255 : Int32)).toUInt32.toUInt16.toUInt32.toInt32)), .val (.int ((x2 &&& (255 : Int32)).toUInt32.toUInt16.toUInt32.toInt32)), .val (.int ((x3 &&& (255 : Int32)).toUInt32.toUInt16.toUInt32.toInt32))] [(.int x0)])) (fun tG kG => XS.iloadN X0.here hx rfl (hb hby own_k119) rfl kG) ?_
  by_cases hc25 : x0 = (0 : Int32)
  · refine GoB.via (U' := s₁.setTop (mkF m 28 #[.val (.int x0), .val (.int x1), .val (.int x2), .val (.int x3), .val (.int ((x1 &&& (255 : Int32)).toUInt32.toUInt16.toUInt32.toInt32)), .val (.int ((x2 &&& (255 : Int32)).toUInt32.toUInt16.toUInt32.toInt32)), .val (.int ((x3 &&& (255 : Int32)).toUInt32.toUInt16.toUInt32.toInt32))] [])) (fun tG kG => XS.ifNo X0.here hx rfl (hb hby own_k120) rfl ((if0 _ _).trans (teq hc25).2) kG) ?_
    obtain ⟨T1, h1, X1, e1, E1, A1, D1, -, st1⟩ := newO X0 hx hZ hown (hw _ (List.mem_of_getElem? (i := 4) rfl)) (hw _ (List.mem_of_getElem? (i := 5) rfl)) (hw _ (List.mem_of_getElem? (i := 6) rfl)) e0 (g := (mkF m 28 #[.val (.int x0), .val (.int x1), .val (.int x2), .val (.int x3), .val (.int ((x1 &&& (255 : Int32)).toUInt32.toUInt16.toUInt32.toInt32)), .val (.int ((x2 &&& (255 : Int32)).toUInt32.toUInt16.toUInt32.toInt32)), .val (.int ((x3 &&& (255 : Int32)).toUInt32.toUInt16.toUInt32.toInt32))] [])) rfl (hb hby own_k121) (by decide) (by decide)
    obtain ⟨b1, g1⟩ : ∃ z, z = h0.size := ⟨_, rfl⟩
    rw [← g1] at A1 D1 st1
    have g_b1 : n0 ≤ b1 := Nat.le_trans hn0 (Nat.le_of_eq g1.symm)
    have sz_b1 : h0.size ≤ b1 := Nat.le_trans K0.1 (Nat.le_of_eq g1.symm)
    have f2 := S_COMPACT_STRINGS.ext E1
    have K1 := K0.ext E1
    have Z1 := Nat.le_trans hn0 E1.1
    have Zk1 := Nat.le_trans (Nat.zero_le _) E1.1
    have f3 : Fld Z h1 b1 "java/lang/String" "value" "[B" .null := D1 (Or.inr (hw _ (List.mem_of_getElem? (i := 20) rfl))) (ty := (.array .byte)) (by decide)
    have f4 : Fld Z h1 b1 "java/lang/String" "coder" "B" (.int (0 : Int32)) := D1 (Or.inr (hw _ (List.mem_of_getElem? (i := 21) rfl))) (ty := .byte) (by decide)
    refine GoB.via (U' := T1.setTop (mkF m 31 #[.val (.int x0), .val (.int x1), .val (.int x2), .val (.int x3), .val (.int ((x1 &&& (255 : Int32)).toUInt32.toUInt16.toUInt32.toInt32)), .val (.int ((x2 &&& (255 : Int32)).toUInt32.toUInt16.toUInt32.toInt32)), .val (.int ((x3 &&& (255 : Int32)).toUInt32.toUInt16.toUInt32.toInt32))] [(.ref b1)])) (fun tG kG => st1 tG kG) ?_
    refine GoB.via (U' := T1.setTop (mkF m 32 #[.val (.int x0), .val (.int x1), .val (.int x2), .val (.int x3), .val (.int ((x1 &&& (255 : Int32)).toUInt32.toUInt16.toUInt32.toInt32)), .val (.int ((x2 &&& (255 : Int32)).toUInt32.toUInt16.toUInt32.toInt32)), .val (.int ((x3 &&& (255 : Int32)).toUInt32.toUInt16.toUInt32.toInt32))] [(.ref b1), (.ref b1)])) (fun tG kG => XS.dup X1.here hx rfl (hb hby own_k122) rfl rfl kG) ?_
    refine GoB.via (U' := T1.setTop (mkF m 33 #[.val (.int x0), .val (.int x1), .val (.int x2), .val (.int x3), .val (.int ((x1 &&& (255 : Int32)).toUInt32.toUInt16.toUInt32.toInt32)), .val (.int ((x2 &&& (255 : Int32)).toUInt32.toUInt16.toUInt32.toInt32)), .val (.int ((x3 &&& (255 : Int32)).toUInt32.toUInt16.toUInt32.toInt32))] [(.int (0 : Int32)), (.ref b1), (.ref b1)])) (fun tG kG => XS.iconst X1.here hx rfl (hb hby own_k123) kG) ?_
    obtain ⟨T5, h5, k5, X5, e5, E5, A5, B5, st5⟩ := newPE X1 hx hZ (hw _ (List.mem_of_getElem? (i := 7) rfl)) e1 (g := (mkF m 33 #[.val (.int x0), .val (.int x1), .val (.int x2), .val (.int x3), .val (.int ((x1 &&& (255 : Int32)).toUInt32.toUInt16.toUInt32.toInt32)), .val (.int ((x2 &&& (255 : Int32)).toUInt32.toUInt16.toUInt32.toInt32)), .val (.int ((x3 &&& (255 : Int32)).toUInt32.toUInt16.toUInt32.toInt32))] [(.int (0 : Int32)), (.ref b1), (.ref b1)])) rfl (hb hby own_k124) rfl (by decide) (cap := 0) (by decide) (by decide) (by decide) (by decide) (ad := "[C") (by decide)
    obtain ⟨b5, g5⟩ : ∃ z, z = h1.size := ⟨_, rfl⟩
    rw [← g5] at A5 B5 st5
    have g_b5 : n0 ≤ b5 := Nat.le_trans Z1 (Nat.le_of_eq g5.symm)
    have sz_b5 : h0.size ≤ b5 := Nat.le_trans K1.1 (Nat.le_of_eq g5.symm)
    have ne_b1_b5 : b1 ≠ b5 := Nat.ne_of_lt (Nat.lt_of_lt_of_le A1.lt (Nat.le_of_eq g5.symm))
    have f6 := f2.ext E5
    have f7 := A1.ext E5
    have f8 := f3.ext E5
    have f9 := f4.ext E5
    have K5 := K1.ext E5
    have Z5 := Nat.le_trans Z1 E5.1
    have Zk5 := Nat.le_trans Zk1 E5.1
    have V5 : Arf Z h5 b5 k5 .char (0 : Int32) (fun _ => 0) := Arf.new A5 (by decide) rfl rfl
    refine GoB.via (U' := T5.setTop (mkF m 35 #[.val (.int x0), .val (.int x1), .val (.int x2), .val (.int x3), .val (.int ((x1 &&& (255 : Int32)).toUInt32.toUInt16.toUInt32.toInt32)), .val (.int ((x2 &&& (255 : Int32)).toUInt32.toUInt16.toUInt32.toInt32)), .val (.int ((x3 &&& (255 : Int32)).toUInt32.toUInt16.toUInt32.toInt32))] [(.ref b5), (.ref b1), (.ref b1)])) (fun tG kG => st5 tG kG) ?_
    obtain ⟨_, s, T10, L10, X10, ⟨hZ, hown, reb10⟩, ⟨rfl, N10q, K10q, f11⟩, st10⟩ := callIB X5 hx hZ rfl hown (hw _ (List.mem_of_getElem? (i := 8) rfl)) (hw _ (List.mem_of_getElem? (i := 9) rfl)) (hw _ (List.mem_of_getElem? (i := 6) rfl)) (hw _ (List.mem_of_getElem? (i := 10) rfl)) (by decide) (b := b1) (I := true) hI (av := [(.ref b5)]) (own_rm2 l Z a0 hw [] b1 b5 k5 (0 : Int32) (fun _ => (0 : Int32)) cz h5 n0 Z5 f7 f8 f9 V5 f6 g_b1 ne_b1_b5 (by decide) (by decide) (by repeat' (first | exact own_c0 | exact own_cV _ | apply own_cU)) hcz hh hcw (fun b_ cl_ q_ => K5.2.1 b_ cl_ (hkp b_ cl_ q_) nin0)) e5 (pc := 35) (Ls := #[.val (.int x0), .val (.int x1), .val (.int x2), .val (.int x3), .val (.int ((x1 &&& (255 : Int32)).toUInt32.toUInt16.toUInt32.toInt32)), .val (.int ((x2 &&& (255 : Int32)).toUInt32.toUInt16.toUInt32.toInt32)), .val (.int ((x3 &&& (255 : Int32)).toUInt32.toUInt16.toUInt32.toInt32))]) (rest := [(.ref b1)]) (by rw [hml]; rfl) own_k125 rfl 1 (Nat.le_of_eq rfl) (by decide) (by decide) (by decide) (by decide) (hb hby own_k126)
    have f12 := own_staKeep f6 K10q ((allS (own_plainE f7) all0))
    have f13 := f7.keep K10q
    have f14 := V5.keep K10q (ninS (Ne.symm ne_b1_b5) nin0)
    have f15 := B5.keep K10q
    have N10 := Fr.app N0 N10q
    have Z10 := Nat.le_trans Z5 K10q.1
    have Zk10 := Nat.le_trans Zk5 K10q.1
    have K10 := K5.trans K10q (allS (Or.inr sz_b1) all0)
    refine GoB.via (U' := T10.setTop (mkF m 38 #[.val (.int x0), .val (.int x1), .val (.int x2), .val (.int x3), .val (.int ((x1 &&& (255 : Int32)).toUInt32.toUInt16.toUInt32.toInt32)), .val (.int ((x2 &&& (255 : Int32)).toUInt32.toUInt16.toUInt32.toInt32)), .val (.int ((x3 &&& (255 : Int32)).toUInt32.toUInt16.toUInt32.toInt32))] [(.ref b1)])) (fun tG kG => st10 tG kG) ?_
    refine reb10 _ _ _ _ _ Zk10 ?_
    refine GoB.ofGo ?_
    exact go_retA X10 hx hlk hret rfl rfl rfl (hb hby own_k127) rfl ⟨⟨b1, g_b1, sz_b1, rfl, N10, K10, f11⟩, (Nat.le_refl _)⟩ (by decide) (by decide)
  · refine GoB.via (U' := s₁.setTop (mkF m 39 #[.val (.int x0), .val (.int x1), .val (.int x2), .val (.int x3), .val (.int ((x1 &&& (255 : Int32)).toUInt32.toUInt16.toUInt32.toInt32)), .val (.int ((x2 &&& (255 : Int32)).toUInt32.toUInt16.toUInt32.toInt32)), .val (.int ((x3 &&& (255 : Int32)).toUInt32.toUInt16.toUInt32.toInt32))] [])) (fun tG kG => XS.ifYes X0.here hx rfl (pc0 := 25) (pc' := 39) rfl (hb hby own_k120) rfl ((if0 _ _).trans (feq hc25).2) (by decide) (by decide) kG) ?_
    refine GoB.via (U' := s₁.setTop (mkF m 40 #[.val (.int x0), .val (.int x1), .val (.int x2), .val (.int x3), .val (.int ((x1 &&& (255 : Int32)).toUInt32.toUInt16.toUInt32.toInt32)), .val (.int ((x2 &&& (255 : Int32)).toUInt32.toUInt16.toUInt32.toInt32)), .val (.int ((x3 &&& (255 : Int32)).toUInt32.toUInt16.toUInt32.toInt32))] [(.int x0)])) (fun tG kG => XS.iloadN X0.here hx rfl (hb hby own_k128) rfl kG) ?_
    refine GoB.via (U' := s₁.setTop (mkF m 41 #[.val (.int x0), .val (.int x1), .val (.int x2), .val (.int x3), .val (.int ((x1 &&& (255 : Int32)).toUInt32.toUInt16.toUInt32.toInt32)), .val (.int ((x2 &&& (255 : Int32)).toUInt32.toUInt16.toUInt32.toInt32)), .val (.int ((x3 &&& (255 : Int32)).toUInt32.toUInt16.toUInt32.toInt32))] [(.int (1 : Int32)), (.int x0)])) (fun tG kG => XS.iconst X0.here hx rfl (hb hby own_k129) kG) ?_
    by_cases hc41 : x0 = (1 : Int32)
    · refine GoB.via (U' := s₁.setTop (mkF m 44 #[.val (.int x0), .val (.int x1), .val (.int x2), .val (.int x3), .val (.int ((x1 &&& (255 : Int32)).toUInt32.toUInt16.toUInt32.toInt32)), .val (.int ((x2 &&& (255 : Int32)).toUInt32.toUInt16.toUInt32.toInt32)), .val (.int ((x3 &&& (255 : Int32)).toUInt32.toUInt16.toUInt32.toInt32))] [])) (fun tG kG => XS.icmpNo X0.here hx rfl (hb hby own_k130) rfl (teq hc41).2 kG) ?_
      obtain ⟨T16, h16, X16, e16, E16, A16, D16, -, st16⟩ := newO X0 hx hZ hown (hw _ (List.mem_of_getElem? (i := 4) rfl)) (hw _ (List.mem_of_getElem? (i := 5) rfl)) (hw _ (List.mem_of_getElem? (i := 6) rfl)) e0 (g := (mkF m 44 #[.val (.int x0), .val (.int x1), .val (.int x2), .val (.int x3), .val (.int ((x1 &&& (255 : Int32)).toUInt32.toUInt16.toUInt32.toInt32)), .val (.int ((x2 &&& (255 : Int32)).toUInt32.toUInt16.toUInt32.toInt32)), .val (.int ((x3 &&& (255 : Int32)).toUInt32.toUInt16.toUInt32.toInt32))] [])) rfl (hb hby own_k131) (by decide) (by decide)
      obtain ⟨b16, g16⟩ : ∃ z, z = h0.size := ⟨_, rfl⟩
      rw [← g16] at A16 D16 st16
      have g_b16 : n0 ≤ b16 := Nat.le_trans hn0 (Nat.le_of_eq g16.symm)
      have sz_b16 : h0.size ≤ b16 := Nat.le_trans K0.1 (Nat.le_of_eq g16.symm)
      have f17 := S_COMPACT_STRINGS.ext E16
      have K16 := K0.ext E16
      have Z16 := Nat.le_trans hn0 E16.1
      have Zk16 := Nat.le_trans (Nat.zero_le _) E16.1
      have f18 : Fld Z h16 b16 "java/lang/String" "value" "[B" .null := D16 (Or.inr (hw _ (List.mem_of_getElem? (i := 20) rfl))) (ty := (.array .byte)) (by decide)
      have f19 : Fld Z h16 b16 "java/lang/String" "coder" "B" (.int (0 : Int32)) := D16 (Or.inr (hw _ (List.mem_of_getElem? (i := 21) rfl))) (ty := .byte) (by decide)
      refine GoB.via (U' := T16.setTop (mkF m 47 #[.val (.int x0), .val (.int x1), .val (.int x2), .val (.int x3), .val (.int ((x1 &&& (255 : Int32)).toUInt32.toUInt16.toUInt32.toInt32)), .val (.int ((x2 &&& (255 : Int32)).toUInt32.toUInt16.toUInt32.toInt32)), .val (.int ((x3 &&& (255 : Int32)).toUInt32.toUInt16.toUInt32.toInt32))] [(.ref b16)])) (fun tG kG => st16 tG kG) ?_
      refine GoB.via (U' := T16.setTop (mkF m 48 #[.val (.int x0), .val (.int x1), .val (.int x2), .val (.int x3), .val (.int ((x1 &&& (255 : Int32)).toUInt32.toUInt16.toUInt32.toInt32)), .val (.int ((x2 &&& (255 : Int32)).toUInt32.toUInt16.toUInt32.toInt32)), .val (.int ((x3 &&& (255 : Int32)).toUInt32.toUInt16.toUInt32.toInt32))] [(.ref b16), (.ref b16)])) (fun tG kG => XS.dup X16.here hx rfl (hb hby own_k132) rfl rfl kG) ?_
      refine GoB.via (U' := T16.setTop (mkF m 49 #[.val (.int x0), .val (.int x1), .val (.int x2), .val (.int x3), .val (.int ((x1 &&& (255 : Int32)).toUInt32.toUInt16.toUInt32.toInt32)), .val (.int ((x2 &&& (255 : Int32)).toUInt32.toUInt16.toUInt32.toInt32)), .val (.int ((x3 &&& (255 : Int32)).toUInt32.toUInt16.toUInt32.toInt32))] [(.int (1 : Int32)), (.ref b16), (.ref b16)])) (fun tG kG => XS.iconst X16.here hx rfl (hb hby own_k133) kG) ?_
      obtain ⟨T20, h20, k20, X20, e20, E20, A20, B20, st20⟩ := newPE X16 hx hZ (hw _ (List.mem_of_getElem? (i := 7) rfl)) e16 (g := (mkF m 49 #[.val (.int x0), .val (.int x1), .val (.int x2), .val (.int x3), .val (.int ((x1 &&& (255 : Int32)).toUInt32.toUInt16.toUInt32.toInt32)), .val (.int ((x2 &&& (255 : Int32)).toUInt32.toUInt16.toUInt32.toInt32)), .val (.int ((x3 &&& (255 : Int32)).toUInt32.toUInt16.toUInt32.toInt32))] [(.int (1 : Int32)), (.ref b16), (.ref b16)])) rfl (hb hby own_k134) rfl (by decide) (cap := 1) (by decide) (by decide) (by decide) (by decide) (ad := "[C") (by decide)
      obtain ⟨b20, g20⟩ : ∃ z, z = h16.size := ⟨_, rfl⟩
      rw [← g20] at A20 B20 st20
      have g_b20 : n0 ≤ b20 := Nat.le_trans Z16 (Nat.le_of_eq g20.symm)
      have sz_b20 : h0.size ≤ b20 := Nat.le_trans K16.1 (Nat.le_of_eq g20.symm)
      have ne_b16_b20 : b16 ≠ b20 := Nat.ne_of_lt (Nat.lt_of_lt_of_le A16.lt (Nat.le_of_eq g20.symm))
      have f21 := f17.ext E20
      have f22 := A16.ext E20
      have f23 := f18.ext E20
      have f24 := f19.ext E20
      have K20 := K16.ext E20
      have Z20 := Nat.le_trans Z16 E20.1
      have Zk20 := Nat.le_trans Zk16 E20.1
      have V20 : Arf Z h20 b20 k20 .char (1 : Int32) (fun _ => 0) := Arf.new A20 (by decide) rfl rfl
      refine GoB.via (U' := T20.setTop (mkF m 51 #[.val (.int x0), .val (.int x1), .val (.int x2), .val (.int x3), .val (.int ((x1 &&& (255 : Int32)).toUInt32.toUInt16.toUInt32.toInt32)), .val (.int ((x2 &&& (255 : Int32)).toUInt32.toUInt16.toUInt32.toInt32)), .val (.int ((x3 &&& (255 : Int32)).toUInt32.toUInt16.toUInt32.toInt32))] [(.ref b20), (.ref b16), (.ref b16)])) (fun tG kG => st20 tG kG) ?_
      refine GoB.via (U' := T20.setTop (mkF m 52 #[.val (.int x0), .val (.int x1), .val (.int x2), .val (.int x3), .val (.int ((x1 &&& (255 : Int32)).toUInt32.toUInt16.toUInt32.toInt32)), .val (.int ((x2 &&& (255 : Int32)).toUInt32.toUInt16.toUInt32.toInt32)), .val (.int ((x3 &&& (255 : Int32)).toUInt32.toUInt16.toUInt32.toInt32))] [(.ref b20), (.ref b20), (.ref b16), (.ref b16)])) (fun tG kG => XS.dup X20.here hx rfl (hb hby own_k135) rfl rfl kG) ?_
      refine GoB.via (U' := T20.setTop (mkF m 53 #[.val (.int x0), .val (.int x1), .val (.int x2), .val (.int x3), .val (.int ((x1 &&& (255 : Int32)).toUInt32.toUInt16.toUInt32.toInt32)), .val (.int ((x2 &&& (255 : Int32)).toUInt32.toUInt16.toUInt32.toInt32)), .val (.int ((x3 &&& (255 : Int32)).toUInt32.toUInt16.toUInt32.toInt32))] [(.int (0 : Int32)), (.ref b20), (.ref b20), (.ref b16), (.ref b16)])) (fun tG kG => XS.iconst X20.here hx rfl (hb hby own_k136) kG) ?_
      refine GoB.via (U' := T20.setTop (mkF m 55 #[.val (.int x0), .val (.int x1), .val (.int x2), .val (.int x3), .val (.int ((x1 &&& (255 : Int32)).toUInt32.toUInt16.toUInt32.toInt32)), .val (.int ((x2 &&& (255 : Int32)).toUInt32.toUInt16.toUInt32.toInt32)), .val (.int ((x3 &&& (255 : Int32)).toUInt32.toUInt16.toUInt32.toInt32))] [(.int ((x1 &&& (255 : Int32)).toUInt32.toUInt16.toUInt32.toInt32)), (.int (0 : Int32)), (.ref b20), (.ref b20), (.ref b16), (.ref b16)])) (fun tG kG => XS.iload X20.here hx rfl (hb hby own_k137) rfl kG) ?_
      obtain ⟨T25, h25, X25, e25, W25, A25, st25⟩ := own_stC X20 hx hZ e20 V20 (j := (0 : Int32)) (x := ((x1 &&& (255 : Int32)).toUInt32.toUInt16.toUInt32.toInt32)) ⟨by decide, by decide⟩ (pc := 55) (Ls := #[.val (.int x0), .val (.int x1), .val (.int x2), .val (.int x3), .val (.int ((x1 &&& (255 : Int32)).toUInt32.toUInt16.toUInt32.toInt32)), .val (.int ((x2 &&& (255 : Int32)).toUInt32.toUInt16.toUInt32.toInt32)), .val (.int ((x3 &&& (255 : Int32)).toUInt32.toUInt16.toUInt32.toInt32))]) (rest := [(.ref b20), (.ref b16), (.ref b16)]) (hb hby own_k138)
      have f26 := f21.wr W25
      have f27 := f22.wr W25
      have f28 := f23.other W25 (Or.inl ne_b16_b20)
      have f29 := f24.other W25 (Or.inl ne_b16_b20)
      have f30 := B20.wr W25
      replace A25 : Arf Z h25 b20 k20 .char (1 : Int32) (own_upd (fun _ => (0 : Int32)) 0 (nar .char ((x1 &&& (255 : Int32)).toUInt32.toUInt16.toUInt32.toInt32))) := A25
      have K25 := K20.wr W25 (Or.inr sz_b20)
      have N25 := Fr.snoc X25 N0 g_b20
      have Z25 := Nat.le_trans Z20 (Keep.of_wr W25).1
      have Zk25 := Nat.le_trans Zk20 (Keep.of_wr W25).1
      refine GoB.via (U' := T25.setTop (mkF m 56 #[.val (.int x0), .val (.int x1), .val (.int x2), .val (.int x3), .val (.int ((x1 &&& (255 : Int32)).toUInt32.toUInt16.toUInt32.toInt32)), .val (.int ((x2 &&& (255 : Int32)).toUInt32.toUInt16.toUInt32.toInt32)), .val (.int ((x3 &&& (255 : Int32)).toUInt32.toUInt16.toUInt32.toInt32))] [(.ref b20), (.ref b16), (.ref b16)])) (fun tG kG => st25 tG kG) ?_
      obtain ⟨_, s, T31, L31, X31, ⟨hZ, hown, reb31⟩, ⟨rfl, N31q, K31q, f32⟩, st31⟩ := callIB X25 hx hZ rfl hown (hw _ (List.mem_of_getElem? (i := 8) rfl)) (hw _ (List.mem_of_getElem? (i := 9) rfl)) (hw _ (List.mem_of_getElem? (i := 6) rfl)) (hw _ (List.mem_of_getElem? (i := 10) rfl)) (by decide) (b := b16) (I := true) hI (av := [(.ref b20)]) (own_rm2 l Z a0 hw [] b16 b20 k20 (1 : Int32) (own_upd (fun _ => (0 : Int32)) 0 (nar .char ((x1 &&& (255 : Int32)).toUInt32.toUInt16.toUInt32.toInt32))) cz h25 n0 Z25 f27 f28 f29 A25 f26 g_b16 ne_b16_b20 (by decide) (by decide) (by repeat' (first | exact own_c0 | exact own_cV _ | apply own_cU)) hcz hh hcw (fun b_ cl_ q_ => K25.2.1 b_ cl_ (hkp b_ cl_ q_) nin0)) e25 (pc := 56) (Ls := #[.val (.int x0), .val (.int x1), .val (.int x2), .val (.int x3), .val (.int ((x1 &&& (255 : Int32)).toUInt32.toUInt16.toUInt32.toInt32)), .val (.int ((x2 &&& (255 : Int32)).toUInt32.toUInt16.toUInt32.toInt32)), .val (.int ((x3 &&& (255 : Int32)).toUInt32.toUInt16.toUInt32.toInt32))]) (rest := [(.ref b16)]) (by rw [hml]; rfl) own_k125 rfl 1 (Nat.le_of_eq rfl) (by decide) (by decide) (by decide) (by decide) (hb hby own_k139)
      have f33 := own_staKeep f26 K31q ((allS (own_plainE f27) all0))
      have f34 := f27.keep K31q
      have f35 := f30.keep K31q
      have f36 := A25.keep K31q (ninS (Ne.symm ne_b16_b20) nin0)
      have N31 := Fr.app N25 N31q
      have Z31 := Nat.le_trans Z25 K31q.1
      have Zk31 := Nat.le_trans Zk25 K31q.1
      have K31 := K25.trans K31q (allS (Or.inr sz_b16) all0)
      refine GoB.via (U' := T31.setTop (mkF m 59 #[.val (.int x0), .val (.int x1), .val (.int x2), .val (.int x3), .val (.int ((x1 &&& (255 : Int32)).toUInt32.toUInt16.toUInt32.toInt32)), .val (.int ((x2 &&& (255 : Int32)).toUInt32.toUInt16.toUInt32.toInt32)), .val (.int ((x3 &&& (255 : Int32)).toUInt32.toUInt16.toUInt32.toInt32))] [(.ref b16)])) (fun tG kG => st31 tG kG) ?_
      refine reb31 _ _ _ _ _ Zk31 ?_
      refine GoB.ofGo ?_
      exact go_retA X31 hx hlk hret rfl rfl rfl (hb hby own_k140) rfl ⟨⟨b16, g_b16, sz_b16, rfl, N31, K31, f32⟩, (Nat.le_refl _)⟩ (by decide) (by decide)
    · refine GoB.via (U' := s₁.setTop (mkF m 60 #[.val (.int x0), .val (.int x1), .val (.int x2), .val (.int x3), .val (.int ((x1 &&& (255 : Int32)).toUInt32.toUInt16.toUInt32.toInt32)), .val (.int ((x2 &&& (255 : Int32)).toUInt32.toUInt16.toUInt32.toInt32)), .val (.int ((x3 &&& (255 : Int32)).toUInt32.toUInt16.toUInt32.toInt32))] [])) (fun tG kG => XS.icmpYes X0.here hx rfl (pc0 := 41) (pc' := 60) rfl (hb hby own_k130) rfl (feq hc41).2 (by decide) (by decide) kG) ?_
      refine GoB.via (U' := s₁.setTop (mkF m 61 #[.val (.int x0), .val (.int x1), .val (.int x2), .val (.int x3), .val (.int ((x1 &&& (255 : Int32)).toUInt32.toUInt16.toUInt32.toInt32)), .val (.int ((x2 &&& (255 : Int32)).toUInt32.toUInt16.toUInt32.toInt32)), .val (.int ((x3 &&& (255 : Int32)).toUInt32.toUInt16.toUInt32.toInt32))] [(.int x0)])) (fun tG kG => XS.iloadN X0.here hx rfl (hb hby own_k141) rfl kG) ?_
      refine GoB.via (U' := s₁.setTop (mkF m 62 #[.val (.int x0), .val (.int x1), .val (.int x2), .val (.int x3), .val (.int ((x1 &&& (255 : Int32)).toUInt32.toUInt16.toUInt32.toInt32)), .val (.int ((x2 &&& (255 : Int32)).toUInt32.toUInt16.toUInt32.toInt32)), .val (.int ((x3 &&& (255 : Int32)).toUInt32.toUInt16.toUInt32.toInt32))] [(.int (2 : Int32)), (.int x0)])) (fun tG kG => XS.iconst X0.here hx rfl (hb hby own_k142) kG) ?_
      by_cases hc62 : x0 = (2 : Int32)
      · refine GoB.via (U' := s₁.setTop (mkF m 65 #[.val (.int x0), .val (.int x1), .val (.int x2), .val (.int x3), .val (.int ((x1 &&& (255 : Int32)).toUInt32.toUInt16.toUInt32.toInt32)), .val (.int ((x2 &&& (255 : Int32)).toUInt32.toUInt16.toUInt32.toInt32)), .val (.int ((x3 &&& (255 : Int32)).toUInt32.toUInt16.toUInt32.toInt32))] [])) (fun tG kG => XS.icmpNo X0.here hx rfl (hb hby own_k143) rfl (teq hc62).2 kG) ?_
        obtain ⟨T37, h37, X37, e37, E37, A37, D37, -, st37⟩ := newO X0 hx hZ hown (hw _ (List.mem_of_getElem? (i := 4) rfl)) (hw _ (List.mem_of_getElem? (i := 5) rfl)) (hw _ (List.mem_of_getElem? (i := 6) rfl)) e0 (g := (mkF m 65 #[.val (.int x0), .val (.int x1), .val (.int x2), .val (.int x3), .val (.int ((x1 &&& (255 : Int32)).toUInt32.toUInt16.toUInt32.toInt32)), .val (.int ((x2 &&& (255 : Int32)).toUInt32.toUInt16.toUInt32.toInt32)), .val (.int ((x3 &&& (255 : Int32)).toUInt32.toUInt16.toUInt32.toInt32))] [])) rfl (hb hby own_k144) (by decide) (by decide)
        obtain ⟨b37, g37⟩ : ∃ z, z = h0.size := ⟨_, rfl⟩
        rw [← g37] at A37 D37 st37
        have g_b37 : n0 ≤ b37 := Nat.le_trans hn0 (Nat.le_of_eq g37.symm)
        have sz_b37 : h0.size ≤ b37 := Nat.le_trans K0.1 (Nat.le_of_eq g37.symm)
        have f38 := S_COMPACT_STRINGS.ext E37
        have K37 := K0.ext E37
        have Z37 := Nat.le_trans hn0 E37.1
        have Zk37 := Nat.le_trans (Nat.zero_le _) E37.1
        have f39 : Fld Z h37 b37 "java/lang/String" "value" "[B" .null := D37 (Or.inr (hw _ (List.mem_of_getElem? (i := 20) rfl))) (ty := (.array .byte)) (by decide)
        have f40 : Fld Z h37 b37 "java/lang/String" "coder" "B" (.int (0 : Int32)) := D37 (Or.inr (hw _ (List.mem_of_getElem? (i := 21) rfl))) (ty := .byte) (by decide)
        refine GoB.via (U' := T37.setTop (mkF m 68 #[.val (.int x0), .val (.int x1), .val (.int x2), .val (.int x3), .val (.int ((x1 &&& (255 : Int32)).toUInt32.toUInt16.toUInt32.toInt32)), .val (.int ((x2 &&& (255 : Int32)).toUInt32.toUInt16.toUInt32.toInt32)), .val (.int ((x3 &&& (255 : Int32)).toUInt32.toUInt16.toUInt32.toInt32))] [(.ref b37)])) (fun tG kG => st37 tG kG) ?_
        refine GoB.via (U' := T37.setTop (mkF m 69 #[.val (.int x0), .val (.int x1), .val (.int x2), .val (.int x3), .val (.int ((x1 &&& (255 : Int32)).toUInt32.toUInt16.toUInt32.toInt32)), .val (.int ((x2 &&& (255 : Int32)).toUInt32.toUInt16.toUInt32.toInt32)), .val (.int ((x3 &&& (255 : Int32)).toUInt32.toUInt16.toUInt32.toInt32))] [(.ref b37), (.ref b37)])) (fun tG kG => XS.dup X37.here hx rfl (hb hby own_k145) rfl rfl kG) ?_
        refine GoB.via (U' := T37.setTop (mkF m 70 #[.val (.int x0), .val (.int x1), .val (.int x2), .val (.int x3), .val (.int ((x1 &&& (255 : Int32)).toUInt32.toUInt16.toUInt32.toInt32)), .val (.int ((x2 &&& (255 : Int32)).toUInt32.toUInt16.toUInt32.toInt32)), .val (.int ((x3 &&& (255 : Int32)).toUInt32.toUInt16.toUInt32.toInt32))] [(.int (2 : Int32)), (.ref b37), (.ref b37)])) (fun tG kG => XS.iconst X37.here hx rfl (hb hby own_k146) kG) ?_
        obtain ⟨T41, h41, k41, X41, e41, E41, A41, B41, st41⟩ := newPE X37 hx hZ (hw _ (List.mem_of_getElem? (i := 7) rfl)) e37 (g := (mkF m 70 #[.val (.int x0), .val (.int x1), .val (.int x2), .val (.int x3), .val (.int ((x1 &&& (255 : Int32)).toUInt32.toUInt16.toUInt32.toInt32)), .val (.int ((x2 &&& (255 : Int32)).toUInt32.toUInt16.toUInt32.toInt32)), .val (.int ((x3 &&& (255 : Int32)).toUInt32.toUInt16.toUInt32.toInt32))] [(.int (2 : Int32)), (.ref b37), (.ref b37)])) rfl (hb hby own_k147) rfl (by decide) (cap := 2) (by decide) (by decide) (by decide) (by decide) (ad := "[C") (by decide)
        obtain ⟨b41, g41⟩ : ∃ z, z = h37.size := ⟨_, rfl⟩
        rw [← g41] at A41 B41 st41
        have g_b41 : n0 ≤ b41 := Nat.le_trans Z37 (Nat.le_of_eq g41.symm)
        have sz_b41 : h0.size ≤ b41 := Nat.le_trans K37.1 (Nat.le_of_eq g41.symm)
        have ne_b37_b41 : b37 ≠ b41 := Nat.ne_of_lt (Nat.lt_of_lt_of_le A37.lt (Nat.le_of_eq g41.symm))
        have f42 := f38.ext E41
        have f43 := A37.ext E41
        have f44 := f39.ext E41
        have f45 := f40.ext E41
        have K41 := K37.ext E41
        have Z41 := Nat.le_trans Z37 E41.1
        have Zk41 := Nat.le_trans Zk37 E41.1
        have V41 : Arf Z h41 b41 k41 .char (2 : Int32) (fun _ => 0) := Arf.new A41 (by decide) rfl rfl
        refine GoB.via (U' := T41.setTop (mkF m 72 #[.val (.int x0), .val (.int x1), .val (.int x2), .val (.int x3), .val (.int ((x1 &&& (255 : Int32)).toUInt32.toUInt16.toUInt32.toInt32)), .val (.int ((x2 &&& (255 : Int32)).toUInt32.toUInt16.toUInt32.toInt32)), .val (.int ((x3 &&& (255 : Int32)).toUInt32.toUInt16.toUInt32.toInt32))] [(.ref b41), (.ref b37), (.ref b37)])) (fun tG kG => st41 tG kG) ?_
        refine GoB.via (U' := T41.setTop (mkF m 73 #[.val (.int x0), .val (.int x1), .val (.int x2), .val (.int x3), .val (.int ((x1 &&& (255 : Int32)).toUInt32.toUInt16.toUInt32.toInt32)), .val (.int ((x2 &&& (255 : Int32)).toUInt32.toUInt16.toUInt32.toInt32)), .val (.int ((x3 &&& (255 : Int32)).toUInt32.toUInt16.toUInt32.toInt32))] [(.ref b41), (.ref b41), (.ref b37), (.ref b37)])) (fun tG kG => XS.dup X41.here hx rfl (hb hby own_k148) rfl rfl kG) ?_
        refine GoB.via (U' := T41.setTop (mkF m 74 #[.val (.int x0), .val (.int x1), .val (.int x2), .val (.int x3), .val (.int ((x1 &&& (255 : Int32)).toUInt32.toUInt16.toUInt32.toInt32)), .val (.int ((x2 &&& (255 : Int32)).toUInt32.toUInt16.toUInt32.toInt32)), .val (.int ((x3 &&& (255 : Int32)).toUInt32.toUInt16.toUInt32.toInt32))] [(.int (0 : Int32)), (.ref b41), (.ref b41), (.ref b37), (.ref b37)])) (fun tG kG => XS.iconst X41.here hx rfl (hb hby own_k149) kG) ?_
        refine GoB.via (U' := T41.setTop (mkF m 76 #[.val (.int x0), .val (.int x1), .val (.int x2), .val (.int x3), .val (.int ((x1 &&& (255 : Int32)).toUInt32.toUInt16.toUInt32.toInt32)), .val (.int ((x2 &&& (255 : Int32)).toUInt32.toUInt16.toUInt32.toInt32)), .val (.int ((x3 &&& (255 : Int32)).toUInt32.toUInt16.toUInt32.toInt32))] [(.int ((x1 &&& (255 : Int32)).toUInt32.toUInt16.toUInt32.toInt32)), (.int (0 : Int32)), (.ref b41), (.ref b41), (.ref b37), (.ref b37)])) (fun tG kG => XS.iload X41.here hx rfl (hb hby own_k150) rfl kG) ?_
        obtain ⟨T46, h46, X46, e46, W46, A46, st46⟩ := own_stC X41 hx hZ e41 V41 (j := (0 : Int32)) (x := ((x1 &&& (255 : Int32)).toUInt32.toUInt16.toUInt32.toInt32)) ⟨by decide, by decide⟩ (pc := 76) (Ls := #[.val (.int x0), .val (.int x1), .val (.int x2), .val (.int x3), .val (.int ((x1 &&& (255 : Int32)).toUInt32.toUInt16.toUInt32.toInt32)), .val (.int ((x2 &&& (255 : Int32)).toUInt32.toUInt16.toUInt32.toInt32)), .val (.int ((x3 &&& (255 : Int32)).toUInt32.toUInt16.toUInt32.toInt32))]) (rest := [(.ref b41), (.ref b37), (.ref b37)]) (hb hby own_k151)
        have f47 := f42.wr W46
        have f48 := f43.wr W46
        have f49 := f44.other W46 (Or.inl ne_b37_b41)
        have f50 := f45.other W46 (Or.inl ne_b37_b41)
        have f51 := B41.wr W46
        replace A46 : Arf Z h46 b41 k41 .char (2 : Int32) (own_upd (fun _ => (0 : Int32)) 0 (nar .char ((x1 &&& (255 : Int32)).toUInt32.toUInt16.toUInt32.toInt32))) := A46
        have K46 := K41.wr W46 (Or.inr sz_b41)
        have N46 := Fr.snoc X46 N0 g_b41
        have Z46 := Nat.le_trans Z41 (Keep.of_wr W46).1
        have Zk46 := Nat.le_trans Zk41 (Keep.of_wr W46).1
        refine GoB.via (U' := T46.setTop (mkF m 77 #[.val (.int x0), .val (.int x1), .val (.int x2), .val (.int x3), .val (.int ((x1 &&& (255 : Int32)).toUInt32.toUInt16.toUInt32.toInt32)), .val (.int ((x2 &&& (255 : Int32)).toUInt32.toUInt16.toUInt32.toInt32)), .val (.int ((x3 &&& (255 : Int32)).toUInt32.toUInt16.toUInt32.toInt32))] [(.ref b41), (.ref b37), (.ref b37)])) (fun tG kG => st46 tG kG) ?_
        refine GoB.via (U' := T46.setTop (mkF m 78 #[.val (.int x0), .val (.int x1), .val (.int x2), .val (.int x3), .val (.int ((x1 &&& (255 : Int32)).toUInt32.toUInt16.toUInt32.toInt32)), .val (.int ((x2 &&& (255 : Int32)).toUInt32.toUInt16.toUInt32.toInt32)), .val (.int ((x3 &&& (255 : Int32)).toUInt32.toUInt16.toUInt32.toInt32))] [(.ref b41), (.ref b41), (.ref b37), (.ref b37)])) (fun tG kG => XS.dup X46.here hx rfl (hb hby own_k152) rfl rfl kG) ?_
        refine GoB.via (U' := T46.setTop (mkF m 79 #[.val (.int x0), .val (.int x1), .val (.int x2), .val (.int x3), .val (.int ((x1 &&& (255 : Int32)).toUInt32.toUInt16.toUInt32.toInt32)), .val (.int ((x2 &&& (255 : Int32)).toUInt32.toUInt16.toUInt32.toInt32)), .val (.int ((x3 &&& (255 : Int32)).toUInt32.toUInt16.toUInt32.toInt32))] [(.int (1 : Int32)), (.ref b41), (.ref b41), (.ref b37), (.ref b37)])) (fun tG kG => XS.iconst X46.here hx rfl (hb hby own_k153) kG) ?_
        refine GoB.via (U' := T46.setTop (mkF m 81 #[.val (.int x0), .val (.int x1), .val (.int x2), .val (.int x3), .val (.int ((x1 &&& (255 : Int32)).toUInt32.toUInt16.toUInt32.toInt32)), .val (.int ((x2 &&& (255 : Int32)).toUInt32.toUInt16.toUInt32.toInt32)), .val (.int ((x3 &&& (255 : Int32)).toUInt32.toUInt16.toUInt32.toInt32))] [(.int ((x2 &&& (255 : Int32)).toUInt32.toUInt16.toUInt32.toInt32)), (.int (1 : Int32)), (.ref b41), (.ref b41), (.ref b37), (.ref b37)])) (fun tG kG => XS.iload X46.here hx rfl (hb hby own_k154) rfl kG) ?_
        obtain ⟨T52, h52, X52, e52, W52, A52, st52⟩ := own_stC X46 hx hZ e46 A46 (j := (1 : Int32)) (x := ((x2 &&& (255 : Int32)).toUInt32.toUInt16.toUInt32.toInt32)) ⟨by decide, by decide⟩ (pc := 81) (Ls := #[.val (.int x0), .val (.int x1), .val (.int x2), .val (.int x3), .val (.int ((x1 &&& (255 : Int32)).toUInt32.toUInt16.toUInt32.toInt32)), .val (.int ((x2 &&& (255 : Int32)).toUInt32.toUInt16.toUInt32.toInt32)), .val (.int ((x3 &&& (255 : Int32)).toUInt32.toUInt16.toUInt32.toInt32))]) (rest := [(.ref b41), (.ref b37), (.ref b37)]) (hb hby own_k155)
        have f53 := f47.wr W52
        have f54 := f48.wr W52
        have f55 := f49.other W52 (Or.inl ne_b37_b41)
        have f56 := f50.other W52 (Or.inl ne_b37_b41)
        have f57 := f51.wr W52
        replace A52 : Arf Z h52 b41 k41 .char (2 : Int32) (own_upd (own_upd (fun _ => (0 : Int32)) 0 (nar .char ((x1 &&& (255 : Int32)).toUInt32.toUInt16.toUInt32.toInt32))) 1 (nar .char ((x2 &&& (255 : Int32)).toUInt32.toUInt16.toUInt32.toInt32))) := A52
        have K52 := K46.wr W52 (Or.inr sz_b41)
        have N52 := Fr.snoc X52 N46 g_b41
        have Z52 := Nat.le_trans Z46 (Keep.of_wr W52).1
        have Zk52 := Nat.le_trans Zk46 (Keep.of_wr W52).1
        refine GoB.via (U' := T52.setTop (mkF m 82 #[.val (.int x0), .val (.int x1), .val (.int x2), .val (.int x3), .val (.int ((x1 &&& (255 : Int32)).toUInt32.toUInt16.toUInt32.toInt32)), .val (.int ((x2 &&& (255 : Int32)).toUInt32.toUInt16.toUInt32.toInt32)), .val (.int ((x3 &&& (255 : Int32)).toUInt32.toUInt16.toUInt32.toInt32))] [(.ref b41), (.ref b37), (.ref b37)])) (fun tG kG => st52 tG kG) ?_
        obtain ⟨_, s, T58, L58, X58, ⟨hZ, hown, reb58⟩, ⟨rfl, N58q, K58q, f59⟩, st58⟩ := callIB X52 hx hZ rfl hown (hw _ (List.mem_of_getElem? (i := 8) rfl)) (hw _ (List.mem_of_getElem? (i := 9) rfl)) (hw _ (List.mem_of_getElem? (i := 6) rfl)) (hw _ (List.mem_of_getElem? (i := 10) rfl)) (by decide) (b := b37) (I := true) hI (av := [(.ref b41)]) (own_rm2 l Z a0 hw [] b37 b41 k41 (2 : Int32) (own_upd (own_upd (fun _ => (0 : Int32)) 0 (nar .char ((x1 &&& (255 : Int32)).toUInt32.toUInt16.toUInt32.toInt32))) 1 (nar .char ((x2 &&& (255 : Int32)).toUInt32.toUInt16.toUInt32.toInt32))) cz h52 n0 Z52 f54 f55 f56 A52 f53 g_b37 ne_b37_b41 (by decide) (by decide) (by repeat' (first | exact own_c0 | exact own_cV _ | apply own_cU)) hcz hh hcw (fun b_ cl_ q_ => K52.2.1 b_ cl_ (hkp b_ cl_ q_) nin0)) e52 (pc := 82) (Ls := #[.val (.int x0), .val (.int x1), .val (.int x2), .val (.int x3), .val (.int ((x1 &&& (255 : Int32)).toUInt32.toUInt16.toUInt32.toInt32)), .val (.int ((x2 &&& (255 : Int32)).toUInt32.toUInt16.toUInt32.toInt32)), .val (.int ((x3 &&& (255 : Int32)).toUInt32.toUInt16.toUInt32.toInt32))]) (rest := [(.ref b37)]) (by rw [hml]; rfl) own_k125 rfl 1 (Nat.le_of_eq rfl) (by decide) (by decide) (by decide) (by decide) (hb hby own_k156)
        have f60 := own_staKeep f53 K58q ((allS (own_plainE f54) all0))
        have f61 := f54.keep K58q
        have f62 := f57.keep K58q
        have f63 := A52.keep K58q (ninS (Ne.symm ne_b37_b41) nin0)
        have N58 := Fr.app N52 N58q
        have Z58 := Nat.le_trans Z52 K58q.1
        have Zk58 := Nat.le_trans Zk52 K58q.1
        have K58 := K52.trans K58q (allS (Or.inr sz_b37) all0)
        refine GoB.via (U' := T58.setTop (mkF m 85 #[.val (.int x0), .val (.int x1), .val (.int x2), .val (.int x3), .val (.int ((x1 &&& (255 : Int32)).toUInt32.toUInt16.toUInt32.toInt32)), .val (.int ((x2 &&& (255 : Int32)).toUInt32.toUInt16.toUInt32.toInt32)), .val (.int ((x3 &&& (255 : Int32)).toUInt32.toUInt16.toUInt32.toInt32))] [(.ref b37)])) (fun tG kG => st58 tG kG) ?_
        refine reb58 _ _ _ _ _ Zk58 ?_
        refine GoB.ofGo ?_
        exact go_retA X58 hx hlk hret rfl rfl rfl (hb hby own_k157) rfl ⟨⟨b37, g_b37, sz_b37, rfl, N58, K58, f59⟩, (Nat.le_refl _)⟩ (by decide) (by decide)
      · refine GoB.via (U' := s₁.setTop (mkF m 86 #[.val (.int x0), .val (.int x1), .val (.int x2), .val (.int x3), .val (.int ((x1 &&& (255 : Int32)).toUInt32.toUInt16.toUInt32.toInt32)), .val (.int ((x2 &&& (255 : Int32)).toUInt32.toUInt16.toUInt32.toInt32)), .val (.int ((x3 &&& (255 : Int32)).toUInt32.toUInt16.toUInt32.toInt32))] [])) (fun tG kG => XS.icmpYes X0.here hx rfl (pc0 := 62) (pc' := 86) rfl (hb hby own_k143) rfl (feq hc62).2 (by decide) (by decide) kG) ?_
        obtain ⟨T64, h64, X64, e64, E64, A64, D64, -, st64⟩ := newO X0 hx hZ hown (hw _ (List.mem_of_getElem? (i := 4) rfl)) (hw _ (List.mem_of_getElem? (i := 5) rfl)) (hw _ (List.mem_of_getElem? (i := 6) rfl)) e0 (g := (mkF m 86 #[.val (.int x0), .val (.int x1), .val (.int x2), .val (.int x3), .val (.int ((x1 &&& (255 : Int32)).toUInt32.toUInt16.toUInt32.toInt32)), .val (.int ((x2 &&& (255 : Int32)).toUInt32.toUInt16.toUInt32.toInt32)), .val (.int ((x3 &&& (255 : Int32)).toUInt32.toUInt16.toUInt32.toInt32))] [])) rfl (hb hby own_k158) (by decide) (by decide)
        obtain ⟨b64, g64⟩ : ∃ z, z = h0.size := ⟨_, rfl⟩
        rw [← g64] at A64 D64 st64
        have g_b64 : n0 ≤ b64 := Nat.le_trans hn0 (Nat.le_of_eq g64.symm)
        have sz_b64 : h0.size ≤ b64 := Nat.le_trans K0.1 (Nat.le_of_eq g64.symm)
        have f65 := S_COMPACT_STRINGS.ext E64
        have K64 := K0.ext E64
        have Z64 := Nat.le_trans hn0 E64.1
        have Zk64 := Nat.le_trans (Nat.zero_le _) E64.1
        have f66 : Fld Z h64 b64 "java/lang/String" "value" "[B" .null := D64 (Or.inr (hw _ (List.mem_of_getElem? (i := 20) rfl))) (ty := (.array .byte)) (by decide)
        have f67 : Fld Z h64 b64 "java/lang/String" "coder" "B" (.int (0 : Int32)) := D64 (Or.inr (hw _ (List.mem_of_getElem? (i := 21) rfl))) (ty := .byte) (by decide)
        refine GoB.via (U' := T64.setTop (mkF m 89 #[.val (.int x0), .val (.int x1), .val (.int x2), .val (.int x3), .val (.int ((x1 &&& (255 : Int32)).toUInt32.toUInt16.toUInt32.toInt32)), .val (.int ((x2 &&& (255 : Int32)).toUInt32.toUInt16.toUInt32.toInt32)), .val (.int ((x3 &&& (255 : Int32)).toUInt32.toUInt16.toUInt32.toInt32))] [(.ref b64)])) (fun tG kG => st64 tG kG) ?_
        refine GoB.via (U' := T64.setTop (mkF m 90 #[.val (.int x0), .val (.int x1), .val (.int x2), .val (.int x3), .val (.int ((x1 &&& (255 : Int32)).toUInt32.toUInt16.toUInt32.toInt32)), .val (.int ((x2 &&& (255 : Int32)).toUInt32.toUInt16.toUInt32.toInt32)), .val (.int ((x3 &&& (255 : Int32)).toUInt32.toUInt16.toUInt32.toInt32))] [(.ref b64), (.ref b64)])) (fun tG kG => XS.dup X64.here hx rfl (hb hby own_k159) rfl rfl kG) ?_
        refine GoB.via (U' := T64.setTop (mkF m 91 #[.val (.int x0), .val (.int x1), .val (.int x2), .val (.int x3), .val (.int ((x1 &&& (255 : Int32)).toUInt32.toUInt16.toUInt32.toInt32)), .val (.int ((x2 &&& (255 : Int32)).toUInt32.toUInt16.toUInt32.toInt32)), .val (.int ((x3 &&& (255 : Int32)).toUInt32.toUInt16.toUInt32.toInt32))] [(.int (3 : Int32)), (.ref b64), (.ref b64)])) (fun tG kG => XS.iconst X64.here hx rfl (hb hby own_k160) kG) ?_
        obtain ⟨T68, h68, k68, X68, e68, E68, A68, B68, st68⟩ := newPE X64 hx hZ (hw _ (List.mem_of_getElem? (i := 7) rfl)) e64 (g := (mkF m 91 #[.val (.int x0), .val (.int x1), .val (.int x2), .val (.int x3), .val (.int ((x1 &&& (255 : Int32)).toUInt32.toUInt16.toUInt32.toInt32)), .val (.int ((x2 &&& (255 : Int32)).toUInt32.toUInt16.toUInt32.toInt32)), .val (.int ((x3 &&& (255 : Int32)).toUInt32.toUInt16.toUInt32.toInt32))] [(.int (3 : Int32)), (.ref b64), (.ref b64)])) rfl (hb hby own_k161) rfl (by decide) (cap := 3) (by decide) (by decide) (by decide) (by decide) (ad := "[C") (by decide)
        obtain ⟨b68, g68⟩ : ∃ z, z = h64.size := ⟨_, rfl⟩
        rw [← g68] at A68 B68 st68
        have g_b68 : n0 ≤ b68 := Nat.le_trans Z64 (Nat.le_of_eq g68.symm)
        have sz_b68 : h0.size ≤ b68 := Nat.le_trans K64.1 (Nat.le_of_eq g68.symm)
        have ne_b64_b68 : b64 ≠ b68 := Nat.ne_of_lt (Nat.lt_of_lt_of_le A64.lt (Nat.le_of_eq g68.symm))
        have f69 := f65.ext E68
        have f70 := A64.ext E68
        have f71 := f66.ext E68
        have f72 := f67.ext E68
        have K68 := K64.ext E68
        have Z68 := Nat.le_trans Z64 E68.1
        have Zk68 := Nat.le_trans Zk64 E68.1
        have V68 : Arf Z h68 b68 k68 .char (3 : Int32) (fun _ => 0) := Arf.new A68 (by decide) rfl rfl
        refine GoB.via (U' := T68.setTop (mkF m 93 #[.val (.int x0), .val (.int x1), .val (.int x2), .val (.int x3), .val (.int ((x1 &&& (255 : Int32)).toUInt32.toUInt16.toUInt32.toInt32)), .val (.int ((x2 &&& (255 : Int32)).toUInt32.toUInt16.toUInt32.toInt32)), .val (.int ((x3 &&& (255 : Int32)).toUInt32.toUInt16.toUInt32.toInt32))] [(.ref b68), (.ref b64), (.ref b64)])) (fun tG kG => st68 tG kG) ?_
        refine GoB.via (U' := T68.setTop (mkF m 94 #[.val (.int x0), .val (.int x1), .val (.int x2), .val (.int x3), .val (.int ((x1 &&& (255 : Int32)).toUInt32.toUInt16.toUInt32.toInt32)), .val (.int ((x2 &&& (255 : Int32)).toUInt32.toUInt16.toUInt32.toInt32)), .val (.int ((x3 &&& (255 : Int32)).toUInt32.toUInt16.toUInt32.toInt32))] [(.ref b68), (.ref b68), (.ref b64), (.ref b64)])) (fun tG kG => XS.dup X68.here hx rfl (hb hby own_k162) rfl rfl kG) ?_
        refine GoB.via (U' := T68.setTop (mkF m 95 #[.val (.int x0), .val (.int x1), .val (.int x2), .val (.int x3), .val (.int ((x1 &&& (255 : Int32)).toUInt32.toUInt16.toUInt32.toInt32)), .val (.int ((x2 &&& (255 : Int32)).toUInt32.toUInt16.toUInt32.toInt32)), .val (.int ((x3 &&& (255 : Int32)).toUInt32.toUInt16.toUInt32.toInt32))] [(.int (0 : Int32)), (.ref b68), (.ref b68), (.ref b64), (.ref b64)])) (fun tG kG => XS.iconst X68.here hx rfl (hb hby own_k163) kG) ?_
        refine GoB.via (U' := T68.setTop (mkF m 97 #[.val (.int x0), .val (.int x1), .val (.int x2), .val (.int x3), .val (.int ((x1 &&& (255 : Int32)).toUInt32.toUInt16.toUInt32.toInt32)), .val (.int ((x2 &&& (255 : Int32)).toUInt32.toUInt16.toUInt32.toInt32)), .val (.int ((x3 &&& (255 : Int32)).toUInt32.toUInt16.toUInt32.toInt32))] [(.int ((x1 &&& (255 : Int32)).toUInt32.toUInt16.toUInt32.toInt32)), (.int (0 : Int32)), (.ref b68), (.ref b68), (.ref b64), (.ref b64)])) (fun tG kG => XS.iload X68.here hx rfl (hb hby own_k164) rfl kG) ?_
        obtain ⟨T73, h73, X73, e73, W73, A73, st73⟩ := own_stC X68 hx hZ e68 V68 (j := (0 : Int32)) (x := ((x1 &&& (255 : Int32)).toUInt32.toUInt16.toUInt32.toInt32)) ⟨by decide, by decide⟩ (pc := 97) (Ls := #[.val (.int x0), .val (.int x1), .val (.int x2), .val (.int x3), .val (.int ((x1 &&& (255 : Int32)).toUInt32.toUInt16.toUInt32.toInt32)), .val (.int ((x2 &&& (255 : Int32)).toUInt32.toUInt16.toUInt32.toInt32)), .val (.int ((x3 &&& (255 : Int32)).toUInt32.toUInt16.toUInt32.toInt32))]) (rest := [(.ref b68), (.ref b64), (.ref b64)]) (hb hby own_k165)
        have f74 := f69.wr W73
        have f75 := f70.wr W73
        have f76 := f71.other W73 (Or.inl ne_b64_b68)
        have f77 := f72.other W73 (Or.inl ne_b64_b68)
        have f78 := B68.wr W73
        replace A73 : Arf Z h73 b68 k68 .char (3 : Int32) (own_upd (fun _ => (0 : Int32)) 0 (nar .char ((x1 &&& (255 : Int32)).toUInt32.toUInt16.toUInt32.toInt32))) := A73
        have K73 := K68.wr W73 (Or.inr sz_b68)
        have N73 := Fr.snoc X73 N0 g_b68
        have Z73 := Nat.le_trans Z68 (Keep.of_wr W73).1
        have Zk73 := Nat.le_trans Zk68 (Keep.of_wr W73).1
        refine GoB.via (U' := T73.setTop (mkF m 98 #[.val (.int x0), .val (.int x1), .val (.int x2), .val (.int x3), .val (.int ((x1 &&& (255 : Int32)).toUInt32.toUInt16.toUInt32.toInt32)), .val (.int ((x2 &&& (255 : Int32)).toUInt32.toUInt16.toUInt32.toInt32)), .val (.int ((x3 &&& (255 : Int32)).toUInt32.toUInt16.toUInt32.toInt32))] [(.ref b68), (.ref b64), (.ref b64)])) (fun tG kG => st73 tG kG) ?_
        refine GoB.via (U' := T73.setTop (mkF m 99 #[.val (.int x0), .val (.int x1), .val (.int x2), .val (.int x3), .val (.int ((x1 &&& (255 : Int32)).toUInt32.toUInt16.toUInt32.toInt32)), .val (.int ((x2 &&& (255 : Int32)).toUInt32.toUInt16.toUInt32.toInt32)), .val (.int ((x3 &&& (255 : Int32)).toUInt32.toUInt16.toUInt32.toInt32))] [(.ref b68), (.ref b68), (.ref b64), (.ref b64)])) (fun tG kG => XS.dup X73.here hx rfl (hb hby own_k166) rfl rfl kG) ?_
        refine GoB.via (U' := T73.setTop (mkF m 100 #[.val (.int x0), .val (.int x1), .val (.int x2), .val (.int x3), .val (.int ((x1 &&& (255 : Int32)).toUInt32.toUInt16.toUInt32.toInt32)), .val (.int ((x2 &&& (255 : Int32)).toUInt32.toUInt16.toUInt32.toInt32)), .val (.int ((x3 &&& (255 : Int32)).toUInt32.toUInt16.toUInt32.toInt32))] [(.int (1 : Int32)), (.ref b68), (.ref b68), (.ref b64), (.ref b64)])) (fun tG kG => XS.iconst X73.here hx rfl (hb hby own_k167) kG) ?_
        refine GoB.via (U' := T73.setTop (mkF m 102 #[.val (.int x0), .val (.int x1), .val (.int x2), .val (.int x3), .val (.int ((x1 &&& (255 : Int32)).toUInt32.toUInt16.toUInt32.toInt32)), .val (.int ((x2 &&& (255 : Int32)).toUInt32.toUInt16.toUInt32.toInt32)), .val (.int ((x3 &&& (255 : Int32)).toUInt32.toUInt16.toUInt32.toInt32))] [(.int ((x2 &&& (255 : Int32)).toUInt32.toUInt16.toUInt32.toInt32)), (.int (1 : Int32)), (.ref b68), (.ref b68), (.ref b64), (.ref b64)])) (fun tG kG => XS.iload X73.here hx rfl (hb hby own_k168) rfl kG) ?_
        obtain ⟨T79, h79, X79, e79, W79, A79, st79⟩ := own_stC X73 hx hZ e73 A73 (j := (1 : Int32)) (x := ((x2 &&& (255 : Int32)).toUInt32.toUInt16.toUInt32.toInt32)) ⟨by decide, by decide⟩ (pc := 102) (Ls := #[.val (.int x0), .val (.int x1), .val (.int x2), .val (.int x3), .val (.int ((x1 &&& (255 : Int32)).toUInt32.toUInt16.toUInt32.toInt32)), .val (.int ((x2 &&& (255 : Int32)).toUInt32.toUInt16.toUInt32.toInt32)), .val (.int ((x3 &&& (255 : Int32)).toUInt32.toUInt16.toUInt32.toInt32))]) (rest := [(.ref b68), (.ref b64), (.ref b64)]) (hb hby own_k169)
        have f80 := f74.wr W79
        have f81 := f75.wr W79
        have f82 := f76.other W79 (Or.inl ne_b64_b68)
        have f83 := f77.other W79 (Or.inl ne_b64_b68)
        have f84 := f78.wr W79
        replace A79 : Arf Z h79 b68 k68 .char (3 : Int32) (own_upd (own_upd (fun _ => (0 : Int32)) 0 (nar .char ((x1 &&& (255 : Int32)).toUInt32.toUInt16.toUInt32.toInt32))) 1 (nar .char ((x2 &&& (255 : Int32)).toUInt32.toUInt16.toUInt32.toInt32))) := A79
        have K79 := K73.wr W79 (Or.inr sz_b68)
        have N79 := Fr.snoc X79 N73 g_b68
        have Z79 := Nat.le_trans Z73 (Keep.of_wr W79).1
        have Zk79 := Nat.le_trans Zk73 (Keep.of_wr W79).1
        refine GoB.via (U' := T79.setTop (mkF m 103 #[.val (.int x0), .val (.int x1), .val (.int x2), .val (.int x3), .val (.int ((x1 &&& (255 : Int32)).toUInt32.toUInt16.toUInt32.toInt32)), .val (.int ((x2 &&& (255 : Int32)).toUInt32.toUInt16.toUInt32.toInt32)), .val (.int ((x3 &&& (255 : Int32)).toUInt32.toUInt16.toUInt32.toInt32))] [(.ref b68), (.ref b64), (.ref b64)])) (fun tG kG => st79 tG kG) ?_
        refine GoB.via (U' := T79.setTop (mkF m 104 #[.val (.int x0), .val (.int x1), .val (.int x2), .val (.int x3), .val (.int ((x1 &&& (255 : Int32)).toUInt32.toUInt16.toUInt32.toInt32)), .val (.int ((x2 &&& (255 : Int32)).toUInt32.toUInt16.toUInt32.toInt32)), .val (.int ((x3 &&& (255 : Int32)).toUInt32.toUInt16.toUInt32.toInt32))] [(.ref b68), (.ref b68), (.ref b64), (.ref b64)])) (fun tG kG => XS.dup X79.here hx rfl (hb hby own_k170) rfl rfl kG) ?_
        refine GoB.via (U' := T79.setTop (mkF m 105 #[.val (.int x0), .val (.int x1), .val (.int x2), .val (.int x3), .val (.int ((x1 &&& (255 : Int32)).toUInt32.toUInt16.toUInt32.toInt32)), .val (.int ((x2 &&& (255 : Int32)).toUInt32.toUInt16.toUInt32.toInt32)), .val (.int ((x3 &&& (255 : Int32)).toUInt32.toUInt16.toUInt32.toInt32))] [(.int (2 : Int32)), (.ref b68), (.ref b68), (.ref b64), (.ref b64)])) (fun tG kG => XS.iconst X79.here hx rfl (hb hby own_k171) kG) ?_
        refine GoB.via (U' := T79.setTop (mkF m 107 #[.val (.int x0), .val (.int x1), .val (.int x2), .val (.int x3), .val (.int ((x1 &&& (255 : Int32)).toUInt32.toUInt16.toUInt32.toInt32)), .val (.int ((x2 &&& (255 : Int32)).toUInt32.toUInt16.toUInt32.toInt32)), .val (.int ((x3 &&& (255 : Int32)).toUInt32.toUInt16.toUInt32.toInt32))] [(.int ((x3 &&& (255 : Int32)).toUInt32.toUInt16.toUInt32.toInt32)), (.int (2 : Int32)), (.ref b68), (.ref b68), (.ref b64), (.ref b64)])) (fun tG kG => XS.iload X79.here hx rfl (hb hby own_k172) rfl kG) ?_
        obtain ⟨T85, h85, X85, e85, W85, A85, st85⟩ := own_stC X79 hx hZ e79 A79 (j := (2 : Int32)) (x := ((x3 &&& (255 : Int32)).toUInt32.toUInt16.toUInt32.toInt32)) ⟨by decide, by decide⟩ (pc := 107) (Ls := #[.val (.int x0), .val (.int x1), .val (.int x2), .val (.int x3), .val (.int ((x1 &&& (255 : Int32)).toUInt32.toUInt16.toUInt32.toInt32)), .val (.int ((x2 &&& (255 : Int32)).toUInt32.toUInt16.toUInt32.toInt32)), .val (.int ((x3 &&& (255 : Int32)).toUInt32.toUInt16.toUInt32.toInt32))]) (rest := [(.ref b68), (.ref b64), (.ref b64)]) (hb hby own_k173)
        have f86 := f80.wr W85
        have f87 := f81.wr W85
        have f88 := f82.other W85 (Or.inl ne_b64_b68)
        have f89 := f83.other W85 (Or.inl ne_b64_b68)
        have f90 := f84.wr W85
        replace A85 : Arf Z h85 b68 k68 .char (3 : Int32) (own_upd (own_upd (own_upd (fun _ => (0 : Int32)) 0 (nar .char ((x1 &&& (255 : Int32)).toUInt32.toUInt16.toUInt32.toInt32))) 1 (nar .char ((x2 &&& (255 : Int32)).toUInt32.toUInt16.toUInt32.toInt32))) 2 (nar .char ((x3 &&& (255 : Int32)).toUInt32.toUInt16.toUInt32.toInt32))) := A85
        have K85 := K79.wr W85 (Or.inr sz_b68)
        have N85 := Fr.snoc X85 N79 g_b68
        have Z85 := Nat.le_trans Z79 (Keep.of_wr W85).1
        have Zk85 := Nat.le_trans Zk79 (Keep.of_wr W85).1
        refine GoB.via (U' := T85.setTop (mkF m 108 #[.val (.int x0), .val (.int x1), .val (.int x2), .val (.int x3), .val (.int ((x1 &&& (255 : Int32)).toUInt32.toUInt16.toUInt32.toInt32)), .val (.int ((x2 &&& (255 : Int32)).toUInt32.toUInt16.toUInt32.toInt32)), .val (.int ((x3 &&& (255 : Int32)).toUInt32.toUInt16.toUInt32.toInt32))] [(.ref b68), (.ref b64), (.ref b64)])) (fun tG kG => st85 tG kG) ?_
        obtain ⟨_, s, T91, L91, X91, ⟨hZ, hown, reb91⟩, ⟨rfl, N91q, K91q, f92⟩, st91⟩ := callIB X85 hx hZ rfl hown (hw _ (List.mem_of_getElem? (i := 8) rfl)) (hw _ (List.mem_of_getElem? (i := 9) rfl)) (hw _ (List.mem_of_getElem? (i := 6) rfl)) (hw _ (List.mem_of_getElem? (i := 10) rfl)) (by decide) (b := b64) (I := true) hI (av := [(.ref b68)]) (own_rm2 l Z a0 hw [] b64 b68 k68 (3 : Int32) (own_upd (own_upd (own_upd (fun _ => (0 : Int32)) 0 (nar .char ((x1 &&& (255 : Int32)).toUInt32.toUInt16.toUInt32.toInt32))) 1 (nar .char ((x2 &&& (255 : Int32)).toUInt32.toUInt16.toUInt32.toInt32))) 2 (nar .char ((x3 &&& (255 : Int32)).toUInt32.toUInt16.toUInt32.toInt32))) cz h85 n0 Z85 f87 f88 f89 A85 f86 g_b64 ne_b64_b68 (by decide) (by decide) (by repeat' (first | exact own_c0 | exact own_cV _ | apply own_cU)) hcz hh hcw (fun b_ cl_ q_ => K85.2.1 b_ cl_ (hkp b_ cl_ q_) nin0)) e85 (pc := 108) (Ls := #[.val (.int x0), .val (.int x1), .val (.int x2), .val (.int x3), .val (.int ((x1 &&& (255 : Int32)).toUInt32.toUInt16.toUInt32.toInt32)), .val (.int ((x2 &&& (255 : Int32)).toUInt32.toUInt16.toUInt32.toInt32)), .val (.int ((x3 &&& (255 : Int32)).toUInt32.toUInt16.toUInt32.toInt32))]) (rest := [(.ref b64)]) (by rw [hml]; rfl) own_k125 rfl 1 (Nat.le_of_eq rfl) (by decide) (by decide) (by decide) (by decide) (hb hby own_k174)
        have f93 := own_staKeep f86 K91q ((allS (own_plainE f87) all0))
        have f94 := f87.keep K91q
        have f95 := f90.keep K91q
        have f96 := A85.keep K91q (ninS (Ne.symm ne_b64_b68) nin0)
        have N91 := Fr.app N85 N91q
        have Z91 := Nat.le_trans Z85 K91q.1
        have Zk91 := Nat.le_trans Zk85 K91q.1
        have K91 := K85.trans K91q (allS (Or.inr sz_b64) all0)
        refine GoB.via (U' := T91.setTop (mkF m 111 #[.val (.int x0), .val (.int x1), .val (.int x2), .val (.int x3), .val (.int ((x1 &&& (255 : Int32)).toUInt32.toUInt16.toUInt32.toInt32)), .val (.int ((x2 &&& (255 : Int32)).toUInt32.toUInt16.toUInt32.toInt32)), .val (.int ((x3 &&& (255 : Int32)).toUInt32.toUInt16.toUInt32.toInt32))] [(.ref b64)])) (fun tG kG => st91 tG kG) ?_
        refine reb91 _ _ _ _ _ Zk91 ?_
        refine GoB.ofGo ?_
        exact go_retA X91 hx hlk hret rfl rfl rfl (hb hby own_k175) rfl ⟨⟨b64, g_b64, sz_b64, rfl, N91, K91, f92⟩, (Nat.le_refl _)⟩ (by decide) (by decide)
theorem own_k177 (m : MethodId) (x0 : Int32) : entryFrame m #[(.int x0)] 1 = mkF m 0 #[.val (.int x0)] [] := by first | (simp [entryFrame, mkF, argsToLocals, Value.category]; done) | rfl
theorem own_k178 : decode jdk_43_method_46_code 0 = .ok (.iconst 1, 1) := by decide +kernel
theorem own_k179 : decode jdk_43_method_46_code 1 = .ok (.newarray .byte, 2) := by decide +kernel
theorem own_k180 : decode jdk_43_method_46_code 3 = .ok (.dup, 1) := by decide +kernel
theorem own_k181 : decode jdk_43_method_46_code 4 = .ok (.iconst 0, 1) := by decide +kernel
theorem own_k182 : decode jdk_43_method_46_code 5 = .ok (.iload_n 0, 1) := by decide +kernel
theorem own_k183 : decode jdk_43_method_46_code 6 = .ok (.i2b, 1) := by decide +kernel
theorem own_k184 : decode jdk_43_method_46_code 7 = .ok (.bastore, 1) := by decide +kernel
theorem own_k185 : decode jdk_43_method_46_code 8 = .ok (.areturn, 1) := by decide +kernel
def own_q7_b1 (x0 : Int32) : Nat → Int32 := (own_upd (fun _ => (0 : Int32)) 0 (nar .byte (x0.toInt8.toInt32)))
set_option maxRecDepth 65536 in
set_option maxHeartbeats 40000000 in
theorem own_rm7 (l : Launch) (Z : State) (a0 : Array Value) (hw : ∀ d ∈ tables_1, d.before a0 Z = true) (ws : List Jvm.Cond) (x0 : Int32) (h0 : Heap) (n0 : Nat) (hn0 : n0 ≤ h0.size) : Meets l Z (⟨"java/lang/StringLatin1", "toBytes", "(C)[B"⟩ : MethodName) jdk_43_method_46_code 1 (some (.array .byte)) ws ({ frames := 0, cells := 1, slots := 1, locals := 0 } : Room) #[(.int x0)] h0 (fun v h L => ∃ b1 : Addr, n0 ≤ b1 ∧ h0.size ≤ b1 ∧ ∃ k1 : ClassId, v = some (.ref b1) ∧ Fr n0 L ∧ Keep h0 h [] ∧ Exa Z h b1 "[B" ∧ Arf Z h b1 k1 .byte (1 : Int32) (own_q7_b1 x0)) := by
  refine meets_of (plainFor_of_name own_k8) ?_
  intro p e s m below meth c s₁ X0 hx hZ hby hml hret hlk hown hnm e0
  replace hml : c.maxLocals = 1 := hml
  replace hown : s.vm.findClass "java/lang/StringLatin1" = some m.cls := hown
  refine Go.cast (own_k177 m x0) ?_
  have N0 := Fr.nil n0
  have K0 : Keep h0 h0 [] := Keep.refl h0 _
  refine Go.via (U' := s₁.setTop (mkF m 1 #[.val (.int x0)] [(.int (1 : Int32))])) (fun tG kG => XS.iconst X0.here hx rfl (hb hby own_k178) kG) ?_
  obtain ⟨T1, h1, k1, X1, e1, E1, A1, B1, st1⟩ := newPE X0 hx hZ (hw _ (List.mem_of_getElem? (i := 19) rfl)) e0 (g := (mkF m 1 #[.val (.int x0)] [(.int (1 : Int32))])) rfl (hb hby own_k179) rfl (by decide) (cap := 1) (by decide) (by decide) (by decide) (by decide) (ad := "[B") (by decide)
  obtain ⟨b1, g1⟩ : ∃ z, z = h0.size := ⟨_, rfl⟩
  rw [← g1] at A1 B1 st1
  have g_b1 : n0 ≤ b1 := Nat.le_trans hn0 (Nat.le_of_eq g1.symm)
  have sz_b1 : h0.size ≤ b1 := Nat.le_trans K0.1 (Nat.le_of_eq g1.symm)
  have K1 := K0.ext E1
  have Z1 := Nat.le_trans hn0 E1.1
  have V1 : Arf Z h1 b1 k1 .byte (1 : Int32) (fun _ => 0) := Arf.new A1 (by decide) rfl rfl
  refine Go.via (U' := T1.setTop (mkF m 3 #[.val (.int x0)] [(.ref b1)])) (fun tG kG => st1 tG kG) ?_
  refine Go.via (U' := T1.setTop (mkF m 4 #[.val (.int x0)] [(.ref b1), (.ref b1)])) (fun tG kG => XS.dup X1.here hx rfl (hb hby own_k180) rfl rfl kG) ?_
  refine Go.via (U' := T1.setTop (mkF m 5 #[.val (.int x0)] [(.int (0 : Int32)), (.ref b1), (.ref b1)])) (fun tG kG => XS.iconst X1.here hx rfl (hb hby own_k181) kG) ?_
  refine Go.via (U' := T1.setTop (mkF m 6 #[.val (.int x0)] [(.int x0), (.int (0 : Int32)), (.ref b1), (.ref b1)])) (fun tG kG => XS.iloadN X1.here hx rfl (hb hby own_k182) rfl kG) ?_
  refine Go.via (U' := T1.setTop (mkF m 7 #[.val (.int x0)] [(.int (x0.toInt8.toInt32)), (.int (0 : Int32)), (.ref b1), (.ref b1)])) (fun tG kG => XS.i2b X1.here hx rfl (hb hby own_k183) rfl kG) ?_
  obtain ⟨T2, h2, X2, e2, W2, A2, st2⟩ := own_stB X1 hx hZ e1 V1 (j := (0 : Int32)) (x := (x0.toInt8.toInt32)) ⟨by decide, by decide⟩ (pc := 7) (Ls := #[.val (.int x0)]) (rest := [(.ref b1)]) (hb hby own_k184)
  have f3 := B1.wr W2
  replace A2 : Arf Z h2 b1 k1 .byte (1 : Int32) (own_upd (fun _ => (0 : Int32)) 0 (nar .byte (x0.toInt8.toInt32))) := A2
  have K2 := K1.wr W2 (Or.inr sz_b1)
  have N2 := Fr.snoc X2 N0 g_b1
  have Z2 := Nat.le_trans Z1 (Keep.of_wr W2).1
  refine Go.via (U' := T2.setTop (mkF m 8 #[.val (.int x0)] [(.ref b1)])) (fun tG kG => st2 tG kG) ?_
  exact go_retA X2 hx hlk hret rfl rfl rfl (hb hby own_k185) e2 ⟨b1, g_b1, sz_b1, k1, rfl, N2, K2, f3, (by rw [show (own_q7_b1 x0) = (own_upd (fun _ => (0 : Int32)) 0 (nar .byte (x0.toInt8.toInt32))) from by rfl]; exact A2)⟩ (by decide) (by decide)
theorem own_k186 (m : MethodId) (a : Addr) (b : Addr) (x0 : Int32) : entryFrame m #[(.ref a), (.ref b), (.int x0)] 3 = mkF m 0 #[.val (.ref a), .val (.ref b), .val (.int x0)] [] := by first | (simp [entryFrame, mkF, argsToLocals, Value.category]; done) | rfl
theorem own_k187 : decode jdk_42_method_151_code 0 = .ok (.aload_n 0, 1) := by decide +kernel
theorem own_k188 : decode jdk_42_method_151_code 1 = .ok (.invokespecial 1, 3) := by decide +kernel
theorem own_k189 : decode jdk_42_method_151_code 4 = .ok (.aload_n 0, 1) := by decide +kernel
theorem own_k190 : decode jdk_42_method_151_code 5 = .ok (.aload_n 1, 1) := by decide +kernel
theorem own_k191 : decode jdk_42_method_151_code 6 = .ok (.putfield 9, 3) := by decide +kernel
theorem own_k192 : decode jdk_42_method_151_code 9 = .ok (.aload_n 0, 1) := by decide +kernel
theorem own_k193 : decode jdk_42_method_151_code 10 = .ok (.iload_n 2, 1) := by decide +kernel
theorem own_k194 : decode jdk_42_method_151_code 11 = .ok (.putfield 15, 3) := by decide +kernel
theorem own_k195 : decode jdk_42_method_151_code 14 = .ok (.return_, 1) := by decide +kernel
set_option maxRecDepth 65536 in
set_option maxHeartbeats 40000000 in
theorem own_rm8 (l : Launch) (Z : State) (a0 : Array Value) (hw : ∀ d ∈ tables_1, d.before a0 Z = true) (ws : List Jvm.Cond) (a : Addr) (b : Addr) (x0 : Int32) (h0 : Heap) (n0 : Nat) (hn0 : n0 ≤ h0.size) (E_a : Exa Z h0 a "java/lang/String") (F_a_value : Fld Z h0 a "java/lang/String" "value" "[B" .null) (F_a_coder : Fld Z h0 a "java/lang/String" "coder" "B" (.int (0 : Int32))) (g_a : n0 ≤ a) : Meets l Z (⟨"java/lang/String", "<init>", "([BB)V"⟩ : MethodName) jdk_42_method_151_code 3 none ws ({ frames := 1, cells := 0, slots := 0, locals := 12 } : Room) #[(.ref a), (.ref b), (.int x0)] h0 (fun v h L => v = none ∧ Fr n0 L ∧ Keep h0 h [a] ∧ Exa Z h a "java/lang/String") := by
  refine meets_of (plainFor_of_name own_k92) ?_
  intro p e s m below meth c s₁ X0 hx hZ hby hml hret hlk hown hnm e0
  replace hml : c.maxLocals = 3 := hml
  replace hown : s.vm.findClass "java/lang/String" = some m.cls := hown
  refine Go.cast (own_k186 m a b x0) ?_
  have N0 := Fr.nil n0
  have K0 : Keep h0 h0 [a] := Keep.refl h0 _
  refine Go.via (U' := s₁.setTop (mkF m 1 #[.val (.ref a), .val (.ref b), .val (.int x0)] [(.ref a)])) (fun tG kG => XS.aloadN X0.here hx rfl (hb hby own_k187) rfl rfl kG) ?_
  obtain ⟨T1, X1, e1, st1⟩ := initO X0 hx hZ hown (hw _ (List.mem_of_getElem? (i := 15) rfl)) (hw _ (List.mem_of_getElem? (i := 16) rfl)) (hw _ (List.mem_of_getElem? (i := 17) rfl)) e0 (g := (mkF m 1 #[.val (.ref a), .val (.ref b), .val (.int x0)] [(.ref a)])) rfl (by rw [hml]; rfl) rfl (hb hby own_k188) (by decide) (W := 0) (by show 2 * 0 + _ ≤ _; exact Nat.le_of_eq rfl) (by decide)
  refine Go.via (U' := T1.setTop (mkF m 4 #[.val (.ref a), .val (.ref b), .val (.int x0)] [])) (fun tG kG => st1 tG kG) ?_
  refine Go.via (U' := T1.setTop (mkF m 5 #[.val (.ref a), .val (.ref b), .val (.int x0)] [(.ref a)])) (fun tG kG => XS.aloadN X1.here hx rfl (hb hby own_k189) rfl rfl kG) ?_
  refine Go.via (U' := T1.setTop (mkF m 6 #[.val (.ref a), .val (.ref b), .val (.int x0)] [(.ref b), (.ref a)])) (fun tG kG => XS.aloadN X1.here hx rfl (hb hby own_k190) rfl rfl kG) ?_
  obtain ⟨T2, h2, X2, e2, W2, st2⟩ := putF X1 hx hZ hown (host := "") (Or.inl (hw _ (List.mem_of_getElem? (i := 24) rfl))) Via.refl e1 F_a_value E_a (Or.inr ⟨(hw _ (List.mem_of_getElem? (i := 20) rfl)), rfl, hnm⟩) (hw _ (List.mem_of_getElem? (i := 5) rfl)) (ty := (.array .byte)) (by decide) rfl rfl (g := (mkF m 6 #[.val (.ref a), .val (.ref b), .val (.int x0)] [(.ref b), (.ref a)])) rfl rfl (hb hby own_k191)
  have f3 := E_a.wr W2
  have f4 := F_a_value.same W2
  have f5 := F_a_coder.other W2 (Or.inr (slot_ne (Or.inr (hw _ (List.mem_of_getElem? (i := 21) rfl))) (Or.inr (hw _ (List.mem_of_getElem? (i := 20) rfl))) (by decide) (t := .byte) (t' := (.array .byte)) (by decide) (by decide)))
  have K2 := K0.wr W2 (Or.inl (List.mem_of_getElem? (i := 0) rfl))
  have N2 := Fr.snoc X2 N0 g_a
  have Z2 := Nat.le_trans hn0 (Keep.of_wr W2).1
  refine Go.via (U' := T2.setTop (mkF m 9 #[.val (.ref a), .val (.ref b), .val (.int x0)] [])) (fun tG kG => st2 tG kG) ?_
  refine Go.via (U' := T2.setTop (mkF m 10 #[.val (.ref a), .val (.ref b), .val (.int x0)] [(.ref a)])) (fun tG kG => XS.aloadN X2.here hx rfl (hb hby own_k192) rfl rfl kG) ?_
  refine Go.via (U' := T2.setTop (mkF m 11 #[.val (.ref a), .val (.ref b), .val (.int x0)] [(.int x0), (.ref a)])) (fun tG kG => XS.iloadN X2.here hx rfl (hb hby own_k193) rfl kG) ?_
  obtain ⟨T6, h6, X6, e6, W6, st6⟩ := putFN X2 hx hZ hown (hw _ (List.mem_of_getElem? (i := 25) rfl)) Via.refl e2 f5 f3 (Or.inr ⟨(hw _ (List.mem_of_getElem? (i := 21) rfl)), rfl, hnm⟩) (hw _ (List.mem_of_getElem? (i := 5) rfl)) (ty := .byte) (v' := (.int (nar .byte x0))) (by decide) rfl (fits_nar_byte _) (g := (mkF m 11 #[.val (.ref a), .val (.ref b), .val (.int x0)] [(.int x0), (.ref a)])) rfl rfl (hb hby own_k194)
  have f7 := f3.wr W6
  have f8 := f4.other W6 (Or.inr (slot_ne (Or.inr (hw _ (List.mem_of_getElem? (i := 20) rfl))) (Or.inr (hw _ (List.mem_of_getElem? (i := 21) rfl))) (by decide) (t := (.array .byte)) (t' := .byte) (by decide) (by decide)))
  have f9 := f5.same W6
  have K6 := K2.wr W6 (Or.inl (List.mem_of_getElem? (i := 0) rfl))
  have N6 := Fr.snoc X6 N2 g_a
  have Z6 := Nat.le_trans Z2 (Keep.of_wr W6).1
  refine Go.via (U' := T6.setTop (mkF m 14 #[.val (.ref a), .val (.ref b), .val (.int x0)] [])) (fun tG kG => st6 tG kG) ?_
  exact go_retV X6 hx hlk hret (hb hby own_k195) e6 ⟨rfl, N6, K6, f7⟩ (by decide) (by decide)
theorem own_ce2 (x : Int32) : ¬ ((own_f6 (((own_ushr x (1 : Int32)) &&& (255 : Int32)).toUInt32.toUInt16.toUInt32.toInt32)) = (0 : Int32)) := by
  have m := c_mask (own_ushr x 1) 255 8 (by decide) (by decide)
  have a := c_i2c (own_ushr x 1 &&& 255)
  unfold own_f6
  rw [if_neg (by rw [Int32.lt_iff_toInt_lt, show (255 : Int32).toInt = 255 from rfl]; omega)]
  decide
theorem own_k196 (m : MethodId) (x0 : Int32) : entryFrame m #[(.int x0)] 1 = mkF m 0 #[.val (.int x0)] [] := by first | (simp [entryFrame, mkF, argsToLocals, Value.category]; done) | rfl
theorem own_k197 : decode jdk_42_method_139_code 0 = .ok (.getstatic 38, 3) := by decide +kernel
theorem own_k198 : decode jdk_42_method_139_code 3 = .ok (.ifCond .eq 23, 3) := by decide +kernel
theorem own_k199 : decode jdk_42_method_139_code 6 = .ok (.iload_n 0, 1) := by decide +kernel
theorem own_k200 : parseMethodDescriptor "(C)Z" = some ⟨[.char], some .boolean⟩ := by decide +kernel
theorem own_k201 : decode jdk_42_method_139_code 7 = .ok (.invokestatic 1015, 3) := by decide +kernel
theorem own_k202 : decode jdk_42_method_139_code 10 = .ok (.ifCond .eq 16, 3) := by decide +kernel
theorem own_k203 : decode jdk_42_method_139_code 13 = .ok (.new 10, 3) := by decide +kernel
theorem own_k204 : decode jdk_42_method_139_code 16 = .ok (.dup, 1) := by decide +kernel
theorem own_k205 : decode jdk_42_method_139_code 17 = .ok (.iload_n 0, 1) := by decide +kernel
theorem own_k206 : parseMethodDescriptor "(C)[B" = some ⟨[.char], some (.array .byte)⟩ := by decide +kernel
theorem own_k207 : decode jdk_42_method_139_code 18 = .ok (.invokestatic 1018, 3) := by decide +kernel
theorem own_k208 : decode jdk_42_method_139_code 21 = .ok (.iconst 0, 1) := by decide +kernel
theorem own_k209 : parseMethodDescriptor "([BB)V" = some ⟨[(.array .byte), .byte], none⟩ := by decide +kernel
theorem own_k210 : decode jdk_42_method_139_code 22 = .ok (.invokespecial 209, 3) := by decide +kernel
theorem own_k211 : decode jdk_42_method_139_code 25 = .ok (.areturn, 1) := by decide +kernel
set_option maxRecDepth 65536 in
set_option maxHeartbeats 40000000 in
theorem own_rm5 (l : Launch) (Z : State) (a0 : Array Value) (hw : ∀ d ∈ tables_1, d.before a0 Z = true) (ws : List Jvm.Cond) (x0 : Int32) (cz : Int32) (h0 : Heap) (n0 : Nat) (hn0 : n0 ≤ h0.size) (S_COMPACT_STRINGS : Sta Z h0 "java/lang/String" "COMPACT_STRINGS" "Z" (.int cz)) (hcz : ¬ (cz = (0 : Int32))) (hce : ¬ ((own_f6 x0) = (0 : Int32))) : Meets l Z (⟨"java/lang/String", "valueOf", "(C)Ljava/lang/String;"⟩ : MethodName) jdk_42_method_139_code 1 (some (.object "java/lang/String")) ws ({ frames := 2, cells := 2, slots := 5, locals := 27 } : Room) #[(.int x0)] h0 (fun v h L => ∃ rr : Addr, n0 ≤ rr ∧ h0.size ≤ rr ∧ v = some (.ref rr) ∧ Fr n0 L ∧ Keep h0 h [] ∧ Exa Z h rr "java/lang/String") := by
  refine meets_of (plainFor_of_name own_k92) ?_
  intro p e s m below meth c s₁ X0 hx hZ hby hml hret hlk hown hnm e0
  replace hml : c.maxLocals = 1 := hml
  replace hown : s.vm.findClass "java/lang/String" = some m.cls := hown
  refine Go.cast (own_k196 m x0) ?_
  have N0 := Fr.nil n0
  have K0 : Keep h0 h0 [] := Keep.refl h0 _
  obtain ⟨T1, X1, e1, st1⟩ := getS2 X0 hx hZ hown (host := "") (Or.inl (hw _ (List.mem_of_getElem? (i := 29) rfl))) Via.refl e0 S_COMPACT_STRINGS (g := (mkF m 0 #[.val (.int x0)] [])) rfl (hb hby own_k197)
  refine Go.via (U' := T1.setTop (mkF m 3 #[.val (.int x0)] [(.int cz)])) (fun tG kG => st1 tG kG) ?_
  have hc3 : ¬ (cz = (0 : Int32)) := hcz
  refine Go.via (U' := T1.setTop (mkF m 6 #[.val (.int x0)] [])) (fun tG kG => XS.ifNo X1.here hx rfl (hb hby own_k198) rfl ((if0 _ _).trans (feq hc3).1) kG) ?_
  refine Go.via (U' := T1.setTop (mkF m 7 #[.val (.int x0)] [(.int x0)])) (fun tG kG => XS.iloadN X1.here hx rfl (hb hby own_k199) rfl kG) ?_
  obtain ⟨T2, X2, e2, st2⟩ := callS0 X1 hx hZ hown (hw _ (List.mem_of_getElem? (i := 30) rfl)) (hw _ (List.mem_of_getElem? (i := 31) rfl)) (hw _ (List.mem_of_getElem? (i := 32) rfl)) (hw _ (List.mem_of_getElem? (i := 33) rfl)) (by decide) (av := [(.int x0)]) (own_rm6 l Z a0 hw [] x0  h0) e1 (pc := 7) (Ls := #[.val (.int x0)]) (rest := []) (by rw [hml]; rfl) own_k200 rfl 0 (Nat.le_of_eq rfl) (by decide) (by decide) (by decide) (by decide) (hb hby own_k201)
  refine Go.via (U' := T2.setTop (mkF m 10 #[.val (.int x0)] [(.int (own_f6 x0))])) (fun tG kG => st2 tG kG) ?_
  have hc10 : ¬ ((own_f6 x0) = (0 : Int32)) := hce
  refine Go.via (U' := T2.setTop (mkF m 13 #[.val (.int x0)] [])) (fun tG kG => XS.ifNo X2.here hx rfl (hb hby own_k202) rfl ((if0 _ _).trans (feq hc10).1) kG) ?_
  obtain ⟨T3, h3, X3, e3, E3, A3, D3, -, st3⟩ := newO X2 hx hZ hown (hw _ (List.mem_of_getElem? (i := 34) rfl)) (hw _ (List.mem_of_getElem? (i := 5) rfl)) (hw _ (List.mem_of_getElem? (i := 6) rfl)) e2 (g := (mkF m 13 #[.val (.int x0)] [])) rfl (hb hby own_k203) (by decide) (by decide)
  obtain ⟨b3, g3⟩ : ∃ z, z = h0.size := ⟨_, rfl⟩
  rw [← g3] at A3 D3 st3
  have g_b3 : n0 ≤ b3 := Nat.le_trans hn0 (Nat.le_of_eq g3.symm)
  have sz_b3 : h0.size ≤ b3 := Nat.le_trans K0.1 (Nat.le_of_eq g3.symm)
  have f4 := S_COMPACT_STRINGS.ext E3
  have K3 := K0.ext E3
  have Z3 := Nat.le_trans hn0 E3.1
  have f5 : Fld Z h3 b3 "java/lang/String" "value" "[B" .null := D3 (Or.inr (hw _ (List.mem_of_getElem? (i := 20) rfl))) (ty := (.array .byte)) (by decide)
  have f6 : Fld Z h3 b3 "java/lang/String" "coder" "B" (.int (0 : Int32)) := D3 (Or.inr (hw _ (List.mem_of_getElem? (i := 21) rfl))) (ty := .byte) (by decide)
  refine Go.via (U' := T3.setTop (mkF m 16 #[.val (.int x0)] [(.ref b3)])) (fun tG kG => st3 tG kG) ?_
  refine Go.via (U' := T3.setTop (mkF m 17 #[.val (.int x0)] [(.ref b3), (.ref b3)])) (fun tG kG => XS.dup X3.here hx rfl (hb hby own_k204) rfl rfl kG) ?_
  refine Go.via (U' := T3.setTop (mkF m 18 #[.val (.int x0)] [(.int x0), (.ref b3), (.ref b3)])) (fun tG kG => XS.iloadN X3.here hx rfl (hb hby own_k205) rfl kG) ?_
  obtain ⟨_, T7, L7, X7, ⟨b8, gb8, zb8, k9, rfl, N7q, K7q, f10, f11⟩, st7⟩ := callSQ X3 hx hZ hown (hw _ (List.mem_of_getElem? (i := 35) rfl)) (hw _ (List.mem_of_getElem? (i := 36) rfl)) (hw _ (List.mem_of_getElem? (i := 32) rfl)) (hw _ (List.mem_of_getElem? (i := 37) rfl)) (by decide) (av := [(.int x0)]) (own_rm7 l Z a0 hw [] x0  h3 n0 Z3 ) e3 (pc := 18) (Ls := #[.val (.int x0)]) (rest := [(.ref b3), (.ref b3)]) (by rw [hml]; rfl) own_k206 rfl 2 (Nat.le_of_eq rfl) (by decide) (by decide) (by decide) (by decide) (hb hby own_k207)
  have f12 := own_staKeep f4 K7q all0
  have f13 := A3.keep K7q
  have f14 := f5.keep K7q nin0
  have f15 := f6.keep K7q nin0
  have N7 := Fr.app N0 N7q
  have Z7 := Nat.le_trans Z3 K7q.1
  have K7 := K3.trans K7q all0
  have sb8 : h0.size ≤ b8 := Nat.le_trans K3.1 zb8
  have ne_b3_b8 : b3 ≠ b8 := Nat.ne_of_lt (Nat.lt_of_lt_of_le A3.lt zb8)
  refine Go.via (U' := T7.setTop (mkF m 21 #[.val (.int x0)] [(.ref b8), (.ref b3), (.ref b3)])) (fun tG kG => st7 tG kG) ?_
  refine Go.via (U' := T7.setTop (mkF m 22 #[.val (.int x0)] [(.int (0 : Int32)), (.ref b8), (.ref b3), (.ref b3)])) (fun tG kG => XS.iconst X7.here hx rfl (hb hby own_k208) kG) ?_
  obtain ⟨_, T16, L16, X16, ⟨rfl, N16q, K16q, f17⟩, st16⟩ := callIQ X7 hx hZ rfl hown (hw _ (List.mem_of_getElem? (i := 38) rfl)) (hw _ (List.mem_of_getElem? (i := 39) rfl)) (hw _ (List.mem_of_getElem? (i := 6) rfl)) (hw _ (List.mem_of_getElem? (i := 40) rfl)) (by decide) (b := b3) (av := [(.ref b8), (.int (0 : Int32))]) (own_rm8 l Z a0 hw [] b3 b8 (0 : Int32)  T7.heap n0 Z7 f13 f14 f15 g_b3) rfl (pc := 22) (Ls := #[.val (.int x0)]) (rest := [(.ref b3)]) (by rw [hml]; rfl) own_k209 rfl 1 (Nat.le_of_eq rfl) (by decide) (by decide) (by decide) (by decide) (hb hby own_k210)
  have f18 := own_staKeep f12 K16q ((allS (own_plainE f13) all0))
  have f19 := f13.keep K16q
  have f20 := f10.keep K16q
  have f21 := f11.keep K16q (ninS (Ne.symm ne_b3_b8) nin0)
  have N16 := Fr.app N7 N16q
  have Z16 := Nat.le_trans Z7 K16q.1
  have K16 := K7.trans K16q (allS (Or.inr sz_b3) all0)
  refine Go.via (U' := T16.setTop (mkF m 25 #[.val (.int x0)] [(.ref b3)])) (fun tG kG => st16 tG kG) ?_
  exact go_retA X16 hx hlk hret rfl rfl rfl (hb hby own_k211) rfl ⟨b3, g_b3, sz_b3, rfl, N16, K16, f17⟩ (by decide) (by decide)
theorem own_k212 (m : MethodId) (s_ : Addr) (q_ : Addr) : entryFrame m #[(.ref s_), (.ref q_)] 2 = mkF m 0 #[.val (.ref s_), .val (.ref q_)] [] := by first | (simp [entryFrame, mkF, argsToLocals, Value.category]; done) | rfl
theorem own_k213 : decode jdk_31_method_11_code 0 = .ok (.aload_n 0, 1) := by decide +kernel
theorem own_k214 : decode jdk_31_method_11_code 1 = .ok (.ifnonnull 12, 3) := by decide +kernel
theorem own_k215 : decode jdk_31_method_11_code 13 = .ok (.aload_n 0, 1) := by decide +kernel
theorem own_k216 : decode jdk_31_method_11_code 14 = .ok (.areturn, 1) := by decide +kernel
theorem own_k217 : plainName "java/util/Objects" = true := by first | (simp [plainName, overriddenIn]; done) | decide +kernel
set_option maxRecDepth 65536 in
set_option maxHeartbeats 40000000 in
theorem own_rm10 (l : Launch) (Z : State) (a0 : Array Value) (hw : ∀ d ∈ tables_1, d.before a0 Z = true) (ws : List Jvm.Cond) (s_ : Addr) (q_ : Addr) (h0 : Heap) : Meets l Z (⟨"java/util/Objects", "requireNonNull", "(Ljava/lang/Object;Ljava/lang/String;)Ljava/lang/Object;"⟩ : MethodName) jdk_31_method_11_code 2 (some (.object "java/lang/Object")) ws ({ frames := 0, cells := 0, slots := 0, locals := 0 } : Room) #[(.ref s_), (.ref q_)] h0 (PureR (some (.ref s_)) h0) := by
  refine meets_of (plainFor_of_name own_k217) ?_
  intro p e s m below meth c s₁ X0 hx hZ hby hml hret hlk hown hnm e0
  replace hml : c.maxLocals = 2 := hml
  replace hown : s.vm.findClass "java/util/Objects" = some m.cls := hown
  refine Go.cast (own_k212 m s_ q_) ?_
  refine Go.via (U' := s₁.setTop (mkF m 1 #[.val (.ref s_), .val (.ref q_)] [(.ref s_)])) (fun tG kG => XS.aloadN X0.here hx rfl (hb hby own_k213) rfl rfl kG) ?_
  refine Go.via (U' := s₁.setTop (mkF m 13 #[.val (.ref s_), .val (.ref q_)] [])) (fun tG kG => XS.ifnonnullYes X0.here hx rfl (pc0 := 1) (pc' := 13) rfl (hb hby own_k214) rfl (by decide) (by decide) kG) ?_
  refine Go.via (U' := s₁.setTop (mkF m 14 #[.val (.ref s_), .val (.ref q_)] [(.ref s_)])) (fun tG kG => XS.aloadN X0.here hx rfl (hb hby own_k215) rfl rfl kG) ?_
  exact go_retA X0 hx hlk hret rfl rfl rfl (hb hby own_k216) e0 ⟨(congrArg (fun z => some (Value.ref z)) (show s_ = s_ from rfl)), rfl, rfl⟩ (by decide) (by decide)
theorem own_k218 (m : MethodId) (a : Addr) (s_ : Addr) (n_ : Addr) : entryFrame m #[(.ref a), (.ref s_), (.ref n_)] 3 = mkF m 0 #[.val (.ref a), .val (.ref s_), .val (.ref n_)] [] := by first | (simp [entryFrame, mkF, argsToLocals, Value.category]; done) | rfl
theorem own_k219 : decode prog_55_method_1_code 0 = .ok (.aload_n 0, 1) := by decide +kernel
theorem own_k220 : decode prog_55_method_1_code 1 = .ok (.invokespecial 1, 3) := by decide +kernel
theorem own_k221 : decode prog_55_method_1_code 4 = .ok (.aload_n 0, 1) := by decide +kernel
theorem own_k222 : decode prog_55_method_1_code 5 = .ok (.aload_n 1, 1) := by decide +kernel
theorem own_k223 : decode prog_55_method_1_code 6 = .ok (.ldc 7, 2) := by decide +kernel
theorem own_k224 : parseMethodDescriptor "(Ljava/lang/Object;Ljava/lang/String;)Ljava/lang/Object;" = some ⟨[(.object "java/lang/Object"), (.object "java/lang/String")], some (.object "java/lang/Object")⟩ := by decide +kernel
theorem own_k225 : decode prog_55_method_1_code 8 = .ok (.invokestatic 9, 3) := by decide +kernel
theorem own_k226 : decode prog_55_method_1_code 11 = .ok (.checkcast 15, 3) := by decide +kernel
theorem own_k227 : decode prog_55_method_1_code 14 = .ok (.putfield 17, 3) := by decide +kernel
theorem own_k228 : decode prog_55_method_1_code 17 = .ok (.aload_n 0, 1) := by decide +kernel
theorem own_k229 : decode prog_55_method_1_code 18 = .ok (.aload_n 2, 1) := by decide +kernel
theorem own_k230 : decode prog_55_method_1_code 19 = .ok (.putfield 23, 3) := by decide +kernel
theorem own_k231 : decode prog_55_method_1_code 22 = .ok (.return_, 1) := by decide +kernel
theorem own_k232 : plainName "com/example/orgwarden/orgwarden/server/oidc/Operator" = true := by first | (simp [plainName, overriddenIn]; done) | decide +kernel
set_option maxRecDepth 65536 in
set_option maxHeartbeats 40000000 in
theorem own_rm9a (l : Launch) (Z : State) (a0 : Array Value) (hw : ∀ d ∈ tables_1, d.before a0 Z = true) (ws : List Jvm.Cond) (a : Addr) (s_ : Addr) (n_ : Addr) (h0 : Heap) (n0 : Nat) (hn0 : n0 ≤ h0.size) (E_a : Exa Z h0 a "com/example/orgwarden/orgwarden/server/oidc/Operator") (F_a_m_sSubject : Fld Z h0 a "com/example/orgwarden/orgwarden/server/oidc/Operator" "m_sSubject" "Ljava/lang/String;" .null) (F_a_m_sName : Fld Z h0 a "com/example/orgwarden/orgwarden/server/oidc/Operator" "m_sName" "Ljava/lang/String;" .null) (E_s_ : Exa Z h0 s_ "java/lang/String") (g_a : n0 ≤ a) : MeetsB l Z false (⟨"com/example/orgwarden/orgwarden/server/oidc/Operator", "<init>", "(Ljava/lang/String;Ljava/lang/String;)V"⟩ : MethodName) prog_55_method_1_code 3 none ws ({ frames := 1, cells := 2, slots := 32, locals := 14 } : Room) #[(.ref a), (.ref s_), (.ref n_)] h0 (fun v h L => v = none ∧ Fr n0 L ∧ Keep h0 h [a] ∧ Exa Z h a "com/example/orgwarden/orgwarden/server/oidc/Operator" ∧ Fld Z h a "com/example/orgwarden/orgwarden/server/oidc/Operator" "m_sSubject" "Ljava/lang/String;" (.ref s_) ∧ Fld Z h a "com/example/orgwarden/orgwarden/server/oidc/Operator" "m_sName" "Ljava/lang/String;" (.ref n_)) := by
  refine meetsB_of (plainFor_of_name own_k232) ?_
  intro p e s m below meth c s₁ X0 hx hZ hby hml hret hlk hown hnm e0 hs0 hI
  replace hml : c.maxLocals = 3 := hml
  replace hown : s.vm.findClass "com/example/orgwarden/orgwarden/server/oidc/Operator" = some m.cls := hown
  refine GoB.cast (own_k218 m a s_ n_) ?_
  have N0 := Fr.nil n0
  have K0 : Keep h0 h0 [a] := Keep.refl h0 _
  refine GoB.via (U' := s₁.setTop (mkF m 1 #[.val (.ref a), .val (.ref s_), .val (.ref n_)] [(.ref a)])) (fun tG kG => XS.aloadN X0.here hx rfl (hb hby own_k219) rfl rfl kG) ?_
  obtain ⟨T1, X1, e1, st1⟩ := initO X0 hx hZ hown (hw _ (List.mem_of_getElem? (i := 47) rfl)) (hw _ (List.mem_of_getElem? (i := 16) rfl)) (hw _ (List.mem_of_getElem? (i := 17) rfl)) e0 (g := (mkF m 1 #[.val (.ref a), .val (.ref s_), .val (.ref n_)] [(.ref a)])) rfl (by rw [hml]; rfl) rfl (hb hby own_k220) (by decide) (W := 0) (by show 2 * 0 + _ ≤ _; exact Nat.le_of_eq rfl) (by decide)
  refine GoB.via (U' := T1.setTop (mkF m 4 #[.val (.ref a), .val (.ref s_), .val (.ref n_)] [])) (fun tG kG => st1 tG kG) ?_
  refine GoB.via (U' := T1.setTop (mkF m 5 #[.val (.ref a), .val (.ref s_), .val (.ref n_)] [(.ref a)])) (fun tG kG => XS.aloadN X1.here hx rfl (hb hby own_k221) rfl rfl kG) ?_
  refine GoB.via (U' := T1.setTop (mkF m 6 #[.val (.ref a), .val (.ref s_), .val (.ref n_)] [(.ref s_), (.ref a)])) (fun tG kG => XS.aloadN X1.here hx rfl (hb hby own_k222) rfl rfl kG) ?_
  have wS2 : ∀ a ∈ Bundle.stringAtoms, a.before a0 Z = true := own_consC (hw _ (List.mem_of_getElem? (i := 6) rfl)) (own_consC (hw _ (List.mem_of_getElem? (i := 5) rfl)) (own_consC (hw _ (List.mem_of_getElem? (i := 19) rfl)) (own_consC (hw _ (List.mem_of_getElem? (i := 20) rfl)) (own_consC (hw _ (List.mem_of_getElem? (i := 21) rfl)) (own_consC (hw _ (List.mem_of_getElem? (i := 22) rfl)) (own_consC (hw _ (List.mem_of_getElem? (i := 23) rfl)) (own_nilC)))))))
  obtain ⟨b2, s, T2, h2, X2, e2, E2, ⟨hZ, hown, reb2⟩, st2⟩ := own_ldcB X1 hx hZ hown (hw _ (List.mem_of_getElem? (i := 48) rfl)) wS2 e1 (pc := 6) (Ls := #[.val (.ref a), .val (.ref s_), .val (.ref n_)]) (rest := [(.ref s_), (.ref a)]) (hb hby own_k223) 28 (by decide) (by decide) (by decide) (by decide)
  have f3 := E_a.ext E2
  have f4 := F_a_m_sSubject.ext E2
  have f5 := F_a_m_sName.ext E2
  have f6 := E_s_.ext E2
  have K2 := K0.ext E2
  have Z2 := Nat.le_trans hn0 E2.1
  have Zk2 := Nat.le_trans (Nat.zero_le _) E2.1
  refine GoB.via (U' := T2.setTop (mkF m 8 #[.val (.ref a), .val (.ref s_), .val (.ref n_)] [(.ref b2), (.ref s_), (.ref a)])) (fun tG kG => st2 tG kG) ?_
  refine reb2 _ _ _ _ _ Zk2 ?_
  obtain ⟨T7, X7, e7, st7⟩ := callS0 X2 hx hZ hown (hw _ (List.mem_of_getElem? (i := 49) rfl)) (hw _ (List.mem_of_getElem? (i := 50) rfl)) (hw _ (List.mem_of_getElem? (i := 51) rfl)) (hw _ (List.mem_of_getElem? (i := 52) rfl)) (by decide) (av := [(.ref s_), (.ref b2)]) (own_rm10 l Z a0 hw [] s_ b2  h2) e2 (pc := 8) (Ls := #[.val (.ref a), .val (.ref s_), .val (.ref n_)]) (rest := [(.ref a)]) (by rw [hml]; rfl) own_k224 rfl 1 (Nat.le_of_eq rfl) (by decide) (by decide) (by decide) (by decide) (hb hby own_k225)
  refine GoB.via (U' := T7.setTop (mkF m 11 #[.val (.ref a), .val (.ref s_), .val (.ref n_)] [(.ref s_), (.ref a)])) (fun tG kG => st7 tG kG) ?_
  obtain ⟨T8, X8, e8, st8⟩ := castY X7 hx hZ hown (hw _ (List.mem_of_getElem? (i := 53) rfl)) e7 (Ins.self f6) (g := (mkF m 11 #[.val (.ref a), .val (.ref s_), .val (.ref n_)] [(.ref s_), (.ref a)])) rfl rfl (hb hby own_k226)
  refine GoB.via (U' := T8.setTop (mkF m 14 #[.val (.ref a), .val (.ref s_), .val (.ref n_)] [(.ref s_), (.ref a)])) (fun tG kG => st8 tG kG) ?_
  obtain ⟨T9, h9, X9, e9, W9, st9⟩ := putF X8 hx hZ hown (host := "") (Or.inl (hw _ (List.mem_of_getElem? (i := 54) rfl))) Via.refl e8 f4 f3 (Or.inr ⟨(hw _ (List.mem_of_getElem? (i := 55) rfl)), rfl, hnm⟩) (hw _ (List.mem_of_getElem? (i := 42) rfl)) (ty := (.object "java/lang/String")) (by decide) rfl rfl (g := (mkF m 14 #[.val (.ref a), .val (.ref s_), .val (.ref n_)] [(.ref s_), (.ref a)])) rfl rfl (hb hby own_k227)
  have f10 := f3.wr W9
  have f11 := f4.same W9
  have f12 := f5.other W9 (Or.inr (slot_ne (Or.inr (hw _ (List.mem_of_getElem? (i := 57) rfl))) (Or.inr (hw _ (List.mem_of_getElem? (i := 55) rfl))) (by decide) (t := (.object "java/lang/String")) (t' := (.object "java/lang/String")) (by decide) (by decide)))
  have f13 := f6.wr W9
  have K9 := K2.wr W9 (Or.inl (List.mem_of_getElem? (i := 0) rfl))
  have N9 := Fr.snoc X9 N0 g_a
  have Z9 := Nat.le_trans Z2 (Keep.of_wr W9).1
  have Zk9 := Nat.le_trans (Nat.le_refl _) (Keep.of_wr W9).1
  refine GoB.via (U' := T9.setTop (mkF m 17 #[.val (.ref a), .val (.ref s_), .val (.ref n_)] [])) (fun tG kG => st9 tG kG) ?_
  refine GoB.via (U' := T9.setTop (mkF m 18 #[.val (.ref a), .val (.ref s_), .val (.ref n_)] [(.ref a)])) (fun tG kG => XS.aloadN X9.here hx rfl (hb hby own_k228) rfl rfl kG) ?_
  refine GoB.via (U' := T9.setTop (mkF m 19 #[.val (.ref a), .val (.ref s_), .val (.ref n_)] [(.ref n_), (.ref a)])) (fun tG kG => XS.aloadN X9.here hx rfl (hb hby own_k229) rfl rfl kG) ?_
  obtain ⟨T14, h14, X14, e14, W14, st14⟩ := putF X9 hx hZ hown (host := "") (Or.inl (hw _ (List.mem_of_getElem? (i := 56) rfl))) Via.refl e9 f12 f10 (Or.inr ⟨(hw _ (List.mem_of_getElem? (i := 57) rfl)), rfl, hnm⟩) (hw _ (List.mem_of_getElem? (i := 42) rfl)) (ty := (.object "java/lang/String")) (by decide) rfl rfl (g := (mkF m 19 #[.val (.ref a), .val (.ref s_), .val (.ref n_)] [(.ref n_), (.ref a)])) rfl rfl (hb hby own_k230)
  have f15 := f10.wr W14
  have f16 := f11.other W14 (Or.inr (slot_ne (Or.inr (hw _ (List.mem_of_getElem? (i := 55) rfl))) (Or.inr (hw _ (List.mem_of_getElem? (i := 57) rfl))) (by decide) (t := (.object "java/lang/String")) (t' := (.object "java/lang/String")) (by decide) (by decide)))
  have f17 := f12.same W14
  have f18 := f13.wr W14
  have K14 := K9.wr W14 (Or.inl (List.mem_of_getElem? (i := 0) rfl))
  have N14 := Fr.snoc X14 N9 g_a
  have Z14 := Nat.le_trans Z9 (Keep.of_wr W14).1
  have Zk14 := Nat.le_trans Zk9 (Keep.of_wr W14).1
  refine GoB.via (U' := T14.setTop (mkF m 22 #[.val (.ref a), .val (.ref s_), .val (.ref n_)] [])) (fun tG kG => st14 tG kG) ?_
  refine GoB.ofGo ?_
  exact go_retV X14 hx hlk hret (hb hby own_k231) e14 ⟨⟨rfl, N14, K14, f15, f16, f17⟩, Zk14⟩ (by decide) (by decide)
theorem own_k233 (m : MethodId) (a : Addr) (s_ : Addr) : entryFrame m #[(.ref a), (.ref s_), .null] 3 = mkF m 0 #[.val (.ref a), .val (.ref s_), .val .null] [] := by first | (simp [entryFrame, mkF, argsToLocals, Value.category]; done) | rfl
set_option maxRecDepth 65536 in
set_option maxHeartbeats 40000000 in
theorem own_rm9b (l : Launch) (Z : State) (a0 : Array Value) (hw : ∀ d ∈ tables_1, d.before a0 Z = true) (ws : List Jvm.Cond) (a : Addr) (s_ : Addr) (h0 : Heap) (n0 : Nat) (hn0 : n0 ≤ h0.size) (E_a : Exa Z h0 a "com/example/orgwarden/orgwarden/server/oidc/Operator") (F_a_m_sSubject : Fld Z h0 a "com/example/orgwarden/orgwarden/server/oidc/Operator" "m_sSubject" "Ljava/lang/String;" .null) (F_a_m_sName : Fld Z h0 a "com/example/orgwarden/orgwarden/server/oidc/Operator" "m_sName" "Ljava/lang/String;" .null) (E_s_ : Exa Z h0 s_ "java/lang/String") (g_a : n0 ≤ a) : MeetsB l Z false (⟨"com/example/orgwarden/orgwarden/server/oidc/Operator", "<init>", "(Ljava/lang/String;Ljava/lang/String;)V"⟩ : MethodName) prog_55_method_1_code 3 none ws ({ frames := 1, cells := 2, slots := 32, locals := 14 } : Room) #[(.ref a), (.ref s_), .null] h0 (fun v h L => v = none ∧ Fr n0 L ∧ Keep h0 h [a] ∧ Exa Z h a "com/example/orgwarden/orgwarden/server/oidc/Operator" ∧ Fld Z h a "com/example/orgwarden/orgwarden/server/oidc/Operator" "m_sSubject" "Ljava/lang/String;" (.ref s_) ∧ Fld Z h a "com/example/orgwarden/orgwarden/server/oidc/Operator" "m_sName" "Ljava/lang/String;" .null) := by
  refine meetsB_of (plainFor_of_name own_k232) ?_
  intro p e s m below meth c s₁ X0 hx hZ hby hml hret hlk hown hnm e0 hs0 hI
  replace hml : c.maxLocals = 3 := hml
  replace hown : s.vm.findClass "com/example/orgwarden/orgwarden/server/oidc/Operator" = some m.cls := hown
  refine GoB.cast (own_k233 m a s_) ?_
  have N0 := Fr.nil n0
  have K0 : Keep h0 h0 [a] := Keep.refl h0 _
  refine GoB.via (U' := s₁.setTop (mkF m 1 #[.val (.ref a), .val (.ref s_), .val .null] [(.ref a)])) (fun tG kG => XS.aloadN X0.here hx rfl (hb hby own_k219) rfl rfl kG) ?_
  obtain ⟨T1, X1, e1, st1⟩ := initO X0 hx hZ hown (hw _ (List.mem_of_getElem? (i := 47) rfl)) (hw _ (List.mem_of_getElem? (i := 16) rfl)) (hw _ (List.mem_of_getElem? (i := 17) rfl)) e0 (g := (mkF m 1 #[.val (.ref a), .val (.ref s_), .val .null] [(.ref a)])) rfl (by rw [hml]; rfl) rfl (hb hby own_k220) (by decide) (W := 0) (by show 2 * 0 + _ ≤ _; exact Nat.le_of_eq rfl) (by decide)
  refine GoB.via (U' := T1.setTop (mkF m 4 #[.val (.ref a), .val (.ref s_), .val .null] [])) (fun tG kG => st1 tG kG) ?_
  refine GoB.via (U' := T1.setTop (mkF m 5 #[.val (.ref a), .val (.ref s_), .val .null] [(.ref a)])) (fun tG kG => XS.aloadN X1.here hx rfl (hb hby own_k221) rfl rfl kG) ?_
  refine GoB.via (U' := T1.setTop (mkF m 6 #[.val (.ref a), .val (.ref s_), .val .null] [(.ref s_), (.ref a)])) (fun tG kG => XS.aloadN X1.here hx rfl (hb hby own_k222) rfl rfl kG) ?_
  have wS2 : ∀ a ∈ Bundle.stringAtoms, a.before a0 Z = true := own_consC (hw _ (List.mem_of_getElem? (i := 6) rfl)) (own_consC (hw _ (List.mem_of_getElem? (i := 5) rfl)) (own_consC (hw _ (List.mem_of_getElem? (i := 19) rfl)) (own_consC (hw _ (List.mem_of_getElem? (i := 20) rfl)) (own_consC (hw _ (List.mem_of_getElem? (i := 21) rfl)) (own_consC (hw _ (List.mem_of_getElem? (i := 22) rfl)) (own_consC (hw _ (List.mem_of_getElem? (i := 23) rfl)) (own_nilC)))))))
  obtain ⟨b2, s, T2, h2, X2, e2, E2, ⟨hZ, hown, reb2⟩, st2⟩ := own_ldcB X1 hx hZ hown (hw _ (List.mem_of_getElem? (i := 48) rfl)) wS2 e1 (pc := 6) (Ls := #[.val (.ref a), .val (.ref s_), .val .null]) (rest := [(.ref s_), (.ref a)]) (hb hby own_k223) 28 (by decide) (by decide) (by decide) (by decide)
  have f3 := E_a.ext E2
  have f4 := F_a_m_sSubject.ext E2
  have f5 := F_a_m_sName.ext E2
  have f6 := E_s_.ext E2
  have K2 := K0.ext E2
  have Z2 := Nat.le_trans hn0 E2.1
  have Zk2 := Nat.le_trans (Nat.zero_le _) E2.1
  refine GoB.via (U' := T2.setTop (mkF m 8 #[.val (.ref a), .val (.ref s_), .val .null] [(.ref b2), (.ref s_), (.ref a)])) (fun tG kG => st2 tG kG) ?_
  refine reb2 _ _ _ _ _ Zk2 ?_
  obtain ⟨T7, X7, e7, st7⟩ := callS0 X2 hx hZ hown (hw _ (List.mem_of_getElem? (i := 49) rfl)) (hw _ (List.mem_of_getElem? (i := 50) rfl)) (hw _ (List.mem_of_getElem? (i := 51) rfl)) (hw _ (List.mem_of_getElem? (i := 52) rfl)) (by decide) (av := [(.ref s_), (.ref b2)]) (own_rm10 l Z a0 hw [] s_ b2  h2) e2 (pc := 8) (Ls := #[.val (.ref a), .val (.ref s_), .val .null]) (rest := [(.ref a)]) (by rw [hml]; rfl) own_k224 rfl 1 (Nat.le_of_eq rfl) (by decide) (by decide) (by decide) (by decide) (hb hby own_k225)
  refine GoB.via (U' := T7.setTop (mkF m 11 #[.val (.ref a), .val (.ref s_), .val .null] [(.ref s_), (.ref a)])) (fun tG kG => st7 tG kG) ?_
  obtain ⟨T8, X8, e8, st8⟩ := castY X7 hx hZ hown (hw _ (List.mem_of_getElem? (i := 53) rfl)) e7 (Ins.self f6) (g := (mkF m 11 #[.val (.ref a), .val (.ref s_), .val .null] [(.ref s_), (.ref a)])) rfl rfl (hb hby own_k226)
  refine GoB.via (U' := T8.setTop (mkF m 14 #[.val (.ref a), .val (.ref s_), .val .null] [(.ref s_), (.ref a)])) (fun tG kG => st8 tG kG) ?_
  obtain ⟨T9, h9, X9, e9, W9, st9⟩ := putF X8 hx hZ hown (host := "") (Or.inl (hw _ (List.mem_of_getElem? (i := 54) rfl))) Via.refl e8 f4 f3 (Or.inr ⟨(hw _ (List.mem_of_getElem? (i := 55) rfl)), rfl, hnm⟩) (hw _ (List.mem_of_getElem? (i := 42) rfl)) (ty := (.object "java/lang/String")) (by decide) rfl rfl (g := (mkF m 14 #[.val (.ref a), .val (.ref s_), .val .null] [(.ref s_), (.ref a)])) rfl rfl (hb hby own_k227)
  have f10 := f3.wr W9
  have f11 := f4.same W9
  have f12 := f5.other W9 (Or.inr (slot_ne (Or.inr (hw _ (List.mem_of_getElem? (i := 57) rfl))) (Or.inr (hw _ (List.mem_of_getElem? (i := 55) rfl))) (by decide) (t := (.object "java/lang/String")) (t' := (.object "java/lang/String")) (by decide) (by decide)))
  have f13 := f6.wr W9
  have K9 := K2.wr W9 (Or.inl (List.mem_of_getElem? (i := 0) rfl))
  have N9 := Fr.snoc X9 N0 g_a
  have Z9 := Nat.le_trans Z2 (Keep.of_wr W9).1
  have Zk9 := Nat.le_trans (Nat.le_refl _) (Keep.of_wr W9).1
  refine GoB.via (U' := T9.setTop (mkF m 17 #[.val (.ref a), .val (.ref s_), .val .null] [])) (fun tG kG => st9 tG kG) ?_
  refine GoB.via (U' := T9.setTop (mkF m 18 #[.val (.ref a), .val (.ref s_), .val .null] [(.ref a)])) (fun tG kG => XS.aloadN X9.here hx rfl (hb hby own_k228) rfl rfl kG) ?_
  refine GoB.via (U' := T9.setTop (mkF m 19 #[.val (.ref a), .val (.ref s_), .val .null] [.null, (.ref a)])) (fun tG kG => XS.aloadN X9.here hx rfl (hb hby own_k229) rfl rfl kG) ?_
  obtain ⟨T14, h14, X14, e14, W14, st14⟩ := putF X9 hx hZ hown (host := "") (Or.inl (hw _ (List.mem_of_getElem? (i := 56) rfl))) Via.refl e9 f12 f10 (Or.inr ⟨(hw _ (List.mem_of_getElem? (i := 57) rfl)), rfl, hnm⟩) (hw _ (List.mem_of_getElem? (i := 42) rfl)) (ty := (.object "java/lang/String")) (by decide) rfl rfl (g := (mkF m 19 #[.val (.ref a), .val (.ref s_), .val .null] [.null, (.ref a)])) rfl rfl (hb hby own_k230)
  have f15 := f10.wr W14
  have f16 := f11.other W14 (Or.inr (slot_ne (Or.inr (hw _ (List.mem_of_getElem? (i := 55) rfl))) (Or.inr (hw _ (List.mem_of_getElem? (i := 57) rfl))) (by decide) (t := (.object "java/lang/String")) (t' := (.object "java/lang/String")) (by decide) (by decide)))
  have f17 := f12.same W14
  have f18 := f13.wr W14
  have K14 := K9.wr W14 (Or.inl (List.mem_of_getElem? (i := 0) rfl))
  have N14 := Fr.snoc X14 N9 g_a
  have Z14 := Nat.le_trans Z9 (Keep.of_wr W14).1
  have Zk14 := Nat.le_trans Zk9 (Keep.of_wr W14).1
  refine GoB.via (U' := T14.setTop (mkF m 22 #[.val (.ref a), .val (.ref s_), .val .null] [])) (fun tG kG => st14 tG kG) ?_
  refine GoB.ofGo ?_
  exact go_retV X14 hx hlk hret (hb hby own_k231) e14 ⟨⟨rfl, N14, K14, f15, f16, f17⟩, Zk14⟩ (by decide) (by decide)
theorem own_k234 (m : MethodId) (a : Addr) : entryFrame m #[(.ref a)] 1 = mkF m 0 #[.val (.ref a)] [] := by first | (simp [entryFrame, mkF, argsToLocals, Value.category]; done) | rfl
theorem own_k235 : decode prog_55_method_2_code 0 = .ok (.aload_n 0, 1) := by decide +kernel
theorem own_k236 : decode prog_55_method_2_code 1 = .ok (.getfield 17, 3) := by decide +kernel
theorem own_k237 : decode prog_55_method_2_code 4 = .ok (.areturn, 1) := by decide +kernel
set_option maxRecDepth 65536 in
set_option maxHeartbeats 40000000 in
theorem own_rm12 (l : Launch) (Z : State) (a0 : Array Value) (hw : ∀ d ∈ tables_1, d.before a0 Z = true) (ws : List Jvm.Cond) (a : Addr) (s_ : Addr) (h0 : Heap) (F_a_m_sSubject : Fld Z h0 a "com/example/orgwarden/orgwarden/server/oidc/Operator" "m_sSubject" "Ljava/lang/String;" (.ref s_)) : Meets l Z (⟨"com/example/orgwarden/orgwarden/server/oidc/Operator", "getSubject", "()Ljava/lang/String;"⟩ : MethodName) prog_55_method_2_code 1 (some (.object "java/lang/String")) ws ({ frames := 0, cells := 0, slots := 0, locals := 0 } : Room) #[(.ref a)] h0 (PureR (some (.ref s_)) h0) := by
  refine meets_of (plainFor_of_name own_k232) ?_
  intro p e s m below meth c s₁ X0 hx hZ hby hml hret hlk hown hnm e0
  replace hml : c.maxLocals = 1 := hml
  replace hown : s.vm.findClass "com/example/orgwarden/orgwarden/server/oidc/Operator" = some m.cls := hown
  refine Go.cast (own_k234 m a) ?_
  refine Go.via (U' := s₁.setTop (mkF m 1 #[.val (.ref a)] [(.ref a)])) (fun tG kG => XS.aloadN X0.here hx rfl (hb hby own_k235) rfl rfl kG) ?_
  obtain ⟨T1, X1, e1, st1⟩ := getF X0 hx hZ hown (host := "") (Or.inl (hw _ (List.mem_of_getElem? (i := 54) rfl))) Via.refl e0 F_a_m_sSubject (g := (mkF m 1 #[.val (.ref a)] [(.ref a)])) rfl rfl (hb hby own_k236)
  refine Go.via (U' := T1.setTop (mkF m 4 #[.val (.ref a)] [(.ref s_)])) (fun tG kG => st1 tG kG) ?_
  exact go_retA X1 hx hlk hret rfl rfl rfl (hb hby own_k237) e1 ⟨(congrArg (fun z => some (Value.ref z)) (show s_ = s_ from rfl)), rfl, rfl⟩ (by decide) (by decide)
theorem own_k238 (m : MethodId) (a : Addr) (s_ : Addr) : entryFrame m #[(.ref a), (.ref s_), .null] 3 = mkF m 0 #[.val (.ref a), .val (.ref s_), .val .null] [] := by first | (simp [entryFrame, mkF, argsToLocals, Value.category]; done) | rfl
theorem own_k239 : decode prog_57_method_1_code 0 = .ok (.aload_n 0, 1) := by decide +kernel
theorem own_k240 : decode prog_57_method_1_code 1 = .ok (.invokespecial 1, 3) := by decide +kernel
theorem own_k241 : decode prog_57_method_1_code 4 = .ok (.aload_n 0, 1) := by decide +kernel
theorem own_k242 : decode prog_57_method_1_code 5 = .ok (.aload_n 1, 1) := by decide +kernel
theorem own_k243 : decode prog_57_method_1_code 6 = .ok (.putfield 7, 3) := by decide +kernel
theorem own_k244 : decode prog_57_method_1_code 9 = .ok (.aload_n 0, 1) := by decide +kernel
theorem own_k245 : decode prog_57_method_1_code 10 = .ok (.aload_n 2, 1) := by decide +kernel
theorem own_k246 : decode prog_57_method_1_code 11 = .ok (.putfield 13, 3) := by decide +kernel
theorem own_k247 : decode prog_57_method_1_code 14 = .ok (.return_, 1) := by decide +kernel
theorem own_k248 : plainName "com/example/orgwarden/orgwarden/trail/Actor" = true := by first | (simp [plainName, overriddenIn]; done) | decide +kernel
set_option maxRecDepth 65536 in
set_option maxHeartbeats 40000000 in
theorem own_rm14 (l : Launch) (Z : State) (a0 : Array Value) (hw : ∀ d ∈ tables_1, d.before a0 Z = true) (ws : List Jvm.Cond) (a : Addr) (s_ : Addr) (h0 : Heap) (n0 : Nat) (hn0 : n0 ≤ h0.size) (E_a : Exa Z h0 a "com/example/orgwarden/orgwarden/trail/Actor") (F_a_m_sSubject : Fld Z h0 a "com/example/orgwarden/orgwarden/trail/Actor" "m_sSubject" "Ljava/lang/String;" .null) (F_a_m_aCredentialID : Fld Z h0 a "com/example/orgwarden/orgwarden/trail/Actor" "m_aCredentialID" "Ljava/util/UUID;" .null) (g_a : n0 ≤ a) : Meets l Z (⟨"com/example/orgwarden/orgwarden/trail/Actor", "<init>", "(Ljava/lang/String;Ljava/util/UUID;)V"⟩ : MethodName) prog_57_method_1_code 3 none ws ({ frames := 1, cells := 0, slots := 0, locals := 12 } : Room) #[(.ref a), (.ref s_), .null] h0 (fun v h L => v = none ∧ Fr n0 L ∧ Keep h0 h [a] ∧ Exa Z h a "com/example/orgwarden/orgwarden/trail/Actor" ∧ Fld Z h a "com/example/orgwarden/orgwarden/trail/Actor" "m_sSubject" "Ljava/lang/String;" (.ref s_) ∧ Fld Z h a "com/example/orgwarden/orgwarden/trail/Actor" "m_aCredentialID" "Ljava/util/UUID;" .null) := by
  refine meets_of (plainFor_of_name own_k248) ?_
  intro p e s m below meth c s₁ X0 hx hZ hby hml hret hlk hown hnm e0
  replace hml : c.maxLocals = 3 := hml
  replace hown : s.vm.findClass "com/example/orgwarden/orgwarden/trail/Actor" = some m.cls := hown
  refine Go.cast (own_k238 m a s_) ?_
  have N0 := Fr.nil n0
  have K0 : Keep h0 h0 [a] := Keep.refl h0 _
  refine Go.via (U' := s₁.setTop (mkF m 1 #[.val (.ref a), .val (.ref s_), .val .null] [(.ref a)])) (fun tG kG => XS.aloadN X0.here hx rfl (hb hby own_k239) rfl rfl kG) ?_
  obtain ⟨T1, X1, e1, st1⟩ := initO X0 hx hZ hown (hw _ (List.mem_of_getElem? (i := 78) rfl)) (hw _ (List.mem_of_getElem? (i := 16) rfl)) (hw _ (List.mem_of_getElem? (i := 17) rfl)) e0 (g := (mkF m 1 #[.val (.ref a), .val (.ref s_), .val .null] [(.ref a)])) rfl (by rw [hml]; rfl) rfl (hb hby own_k240) (by decide) (W := 0) (by show 2 * 0 + _ ≤ _; exact Nat.le_of_eq rfl) (by decide)
  refine Go.via (U' := T1.setTop (mkF m 4 #[.val (.ref a), .val (.ref s_), .val .null] [])) (fun tG kG => st1 tG kG) ?_
  refine Go.via (U' := T1.setTop (mkF m 5 #[.val (.ref a), .val (.ref s_), .val .null] [(.ref a)])) (fun tG kG => XS.aloadN X1.here hx rfl (hb hby own_k241) rfl rfl kG) ?_
  refine Go.via (U' := T1.setTop (mkF m 6 #[.val (.ref a), .val (.ref s_), .val .null] [(.ref s_), (.ref a)])) (fun tG kG => XS.aloadN X1.here hx rfl (hb hby own_k242) rfl rfl kG) ?_
  obtain ⟨T2, h2, X2, e2, W2, st2⟩ := putF X1 hx hZ hown (host := "") (Or.inl (hw _ (List.mem_of_getElem? (i := 79) rfl))) Via.refl e1 F_a_m_sSubject E_a (Or.inr ⟨(hw _ (List.mem_of_getElem? (i := 80) rfl)), rfl, hnm⟩) (hw _ (List.mem_of_getElem? (i := 74) rfl)) (ty := (.object "java/lang/String")) (by decide) rfl rfl (g := (mkF m 6 #[.val (.ref a), .val (.ref s_), .val .null] [(.ref s_), (.ref a)])) rfl rfl (hb hby own_k243)
  have f3 := E_a.wr W2
  have f4 := F_a_m_sSubject.same W2
  have f5 := F_a_m_aCredentialID.other W2 (Or.inr (slot_ne (Or.inr (hw _ (List.mem_of_getElem? (i := 82) rfl))) (Or.inr (hw _ (List.mem_of_getElem? (i := 80) rfl))) (by decide) (t := (.object "java/util/UUID")) (t' := (.object "java/lang/String")) (by decide) (by decide)))
  have K2 := K0.wr W2 (Or.inl (List.mem_of_getElem? (i := 0) rfl))
  have N2 := Fr.snoc X2 N0 g_a
  have Z2 := Nat.le_trans hn0 (Keep.of_wr W2).1
  refine Go.via (U' := T2.setTop (mkF m 9 #[.val (.ref a), .val (.ref s_), .val .null] [])) (fun tG kG => st2 tG kG) ?_
  refine Go.via (U' := T2.setTop (mkF m 10 #[.val (.ref a), .val (.ref s_), .val .null] [(.ref a)])) (fun tG kG => XS.aloadN X2.here hx rfl (hb hby own_k244) rfl rfl kG) ?_
  refine Go.via (U' := T2.setTop (mkF m 11 #[.val (.ref a), .val (.ref s_), .val .null] [.null, (.ref a)])) (fun tG kG => XS.aloadN X2.here hx rfl (hb hby own_k245) rfl rfl kG) ?_
  obtain ⟨T6, h6, X6, e6, W6, st6⟩ := putF X2 hx hZ hown (host := "") (Or.inl (hw _ (List.mem_of_getElem? (i := 81) rfl))) Via.refl e2 f5 f3 (Or.inr ⟨(hw _ (List.mem_of_getElem? (i := 82) rfl)), rfl, hnm⟩) (hw _ (List.mem_of_getElem? (i := 74) rfl)) (ty := (.object "java/util/UUID")) (by decide) rfl rfl (g := (mkF m 11 #[.val (.ref a), .val (.ref s_), .val .null] [.null, (.ref a)])) rfl rfl (hb hby own_k246)
  have f7 := f3.wr W6
  have f8 := f4.other W6 (Or.inr (slot_ne (Or.inr (hw _ (List.mem_of_getElem? (i := 80) rfl))) (Or.inr (hw _ (List.mem_of_getElem? (i := 82) rfl))) (by decide) (t := (.object "java/lang/String")) (t' := (.object "java/util/UUID")) (by decide) (by decide)))
  have f9 := f5.same W6
  have K6 := K2.wr W6 (Or.inl (List.mem_of_getElem? (i := 0) rfl))
  have N6 := Fr.snoc X6 N2 g_a
  have Z6 := Nat.le_trans Z2 (Keep.of_wr W6).1
  refine Go.via (U' := T6.setTop (mkF m 14 #[.val (.ref a), .val (.ref s_), .val .null] [])) (fun tG kG => st6 tG kG) ?_
  exact go_retV X6 hx hlk hret (hb hby own_k247) e6 ⟨rfl, N6, K6, f7, f8, f9⟩ (by decide) (by decide)
theorem own_k249 (m : MethodId) (s_ : Addr) : entryFrame m #[(.ref s_), .null] 2 = mkF m 0 #[.val (.ref s_), .val .null] [] := by first | (simp [entryFrame, mkF, argsToLocals, Value.category]; done) | rfl
theorem own_k250 : decode prog_57_method_2_code 0 = .ok (.aload_n 0, 1) := by decide +kernel
theorem own_k251 : decode prog_57_method_2_code 1 = .ok (.ifnonnull 13, 3) := by decide +kernel
theorem own_k252 : decode prog_57_method_2_code 14 = .ok (.new 8, 3) := by decide +kernel
theorem own_k253 : decode prog_57_method_2_code 17 = .ok (.dup, 1) := by decide +kernel
theorem own_k254 : decode prog_57_method_2_code 18 = .ok (.aload_n 0, 1) := by decide +kernel
theorem own_k255 : decode prog_57_method_2_code 19 = .ok (.aload_n 1, 1) := by decide +kernel
theorem own_k256 : parseMethodDescriptor "(Ljava/lang/String;Ljava/util/UUID;)V" = some ⟨[(.object "java/lang/String"), (.object "java/util/UUID")], none⟩ := by decide +kernel
theorem own_k257 : decode prog_57_method_2_code 20 = .ok (.invokespecial 21, 3) := by decide +kernel
theorem own_k258 : decode prog_57_method_2_code 23 = .ok (.areturn, 1) := by decide +kernel
set_option maxRecDepth 65536 in
set_option maxHeartbeats 40000000 in
theorem own_rm13 (l : Launch) (Z : State) (a0 : Array Value) (hw : ∀ d ∈ tables_1, d.before a0 Z = true) (ws : List Jvm.Cond) (s_ : Addr) (h0 : Heap) (n0 : Nat) (hn0 : n0 ≤ h0.size) : Meets l Z (⟨"com/example/orgwarden/orgwarden/trail/Actor", "of", "(Ljava/lang/String;Ljava/util/UUID;)Lcom/example/orgwarden/orgwarden/trail/Actor;"⟩ : MethodName) prog_57_method_2_code 2 (some (.object "com/example/orgwarden/orgwarden/trail/Actor")) ws ({ frames := 2, cells := 1, slots := 2, locals := 27 } : Room) #[(.ref s_), .null] h0 (fun v h L => ∃ b1 : Addr, n0 ≤ b1 ∧ h0.size ≤ b1 ∧ v = some (.ref b1) ∧ Fr n0 L ∧ Keep h0 h [] ∧ Exa Z h b1 "com/example/orgwarden/orgwarden/trail/Actor" ∧ Fld Z h b1 "com/example/orgwarden/orgwarden/trail/Actor" "m_sSubject" "Ljava/lang/String;" (.ref s_) ∧ Fld Z h b1 "com/example/orgwarden/orgwarden/trail/Actor" "m_aCredentialID" "Ljava/util/UUID;" .null) := by
  refine meets_of (plainFor_of_name own_k248) ?_
  intro p e s m below meth c s₁ X0 hx hZ hby hml hret hlk hown hnm e0
  replace hml : c.maxLocals = 2 := hml
  replace hown : s.vm.findClass "com/example/orgwarden/orgwarden/trail/Actor" = some m.cls := hown
  refine Go.cast (own_k249 m s_) ?_
  have N0 := Fr.nil n0
  have K0 : Keep h0 h0 [] := Keep.refl h0 _
  refine Go.via (U' := s₁.setTop (mkF m 1 #[.val (.ref s_), .val .null] [(.ref s_)])) (fun tG kG => XS.aloadN X0.here hx rfl (hb hby own_k250) rfl rfl kG) ?_
  refine Go.via (U' := s₁.setTop (mkF m 14 #[.val (.ref s_), .val .null] [])) (fun tG kG => XS.ifnonnullYes X0.here hx rfl (pc0 := 1) (pc' := 14) rfl (hb hby own_k251) rfl (by decide) (by decide) kG) ?_
  obtain ⟨T1, h1, X1, e1, E1, A1, D1, -, st1⟩ := newO X0 hx hZ hown (hw _ (List.mem_of_getElem? (i := 73) rfl)) (hw _ (List.mem_of_getElem? (i := 74) rfl)) (hw _ (List.mem_of_getElem? (i := 71) rfl)) e0 (g := (mkF m 14 #[.val (.ref s_), .val .null] [])) rfl (hb hby own_k252) (by decide) (by decide)
  obtain ⟨b1, g1⟩ : ∃ z, z = h0.size := ⟨_, rfl⟩
  rw [← g1] at A1 D1 st1
  have g_b1 : n0 ≤ b1 := Nat.le_trans hn0 (Nat.le_of_eq g1.symm)
  have sz_b1 : h0.size ≤ b1 := Nat.le_trans K0.1 (Nat.le_of_eq g1.symm)
  have K1 := K0.ext E1
  have Z1 := Nat.le_trans hn0 E1.1
  have f2 : Fld Z h1 b1 "com/example/orgwarden/orgwarden/trail/Actor" "m_sSubject" "Ljava/lang/String;" .null := D1 (Or.inr (hw _ (List.mem_of_getElem? (i := 80) rfl))) (ty := (.object "java/lang/String")) (by decide)
  have f3 : Fld Z h1 b1 "com/example/orgwarden/orgwarden/trail/Actor" "m_aCredentialID" "Ljava/util/UUID;" .null := D1 (Or.inr (hw _ (List.mem_of_getElem? (i := 82) rfl))) (ty := (.object "java/util/UUID")) (by decide)
  refine Go.via (U' := T1.setTop (mkF m 17 #[.val (.ref s_), .val .null] [(.ref b1)])) (fun tG kG => st1 tG kG) ?_
  refine Go.via (U' := T1.setTop (mkF m 18 #[.val (.ref s_), .val .null] [(.ref b1), (.ref b1)])) (fun tG kG => XS.dup X1.here hx rfl (hb hby own_k253) rfl rfl kG) ?_
  refine Go.via (U' := T1.setTop (mkF m 19 #[.val (.ref s_), .val .null] [(.ref s_), (.ref b1), (.ref b1)])) (fun tG kG => XS.aloadN X1.here hx rfl (hb hby own_k254) rfl rfl kG) ?_
  refine Go.via (U' := T1.setTop (mkF m 20 #[.val (.ref s_), .val .null] [.null, (.ref s_), (.ref b1), (.ref b1)])) (fun tG kG => XS.aloadN X1.here hx rfl (hb hby own_k255) rfl rfl kG) ?_
  obtain ⟨_, T4, L4, X4, ⟨rfl, N4q, K4q, f5, f6, f7⟩, st4⟩ := callIQ X1 hx hZ rfl hown (hw _ (List.mem_of_getElem? (i := 75) rfl)) (hw _ (List.mem_of_getElem? (i := 76) rfl)) (hw _ (List.mem_of_getElem? (i := 71) rfl)) (hw _ (List.mem_of_getElem? (i := 77) rfl)) (by decide) (b := b1) (av := [(.ref s_), .null]) (own_rm14 l Z a0 hw [] b1 s_  h1 n0 Z1 A1 f2 f3 g_b1) e1 (pc := 20) (Ls := #[.val (.ref s_), .val .null]) (rest := [(.ref b1)]) (by rw [hml]; rfl) own_k256 rfl 1 (Nat.le_of_eq rfl) (by decide) (by decide) (by decide) (by decide) (hb hby own_k257)
  have f8 := A1.keep K4q
  have N4 := Fr.app N0 N4q
  have Z4 := Nat.le_trans Z1 K4q.1
  have K4 := K1.trans K4q (allS (Or.inr sz_b1) all0)
  refine Go.via (U' := T4.setTop (mkF m 23 #[.val (.ref s_), .val .null] [(.ref b1)])) (fun tG kG => st4 tG kG) ?_
  exact go_retA X4 hx hlk hret rfl rfl rfl (hb hby own_k258) rfl ⟨b1, g_b1, sz_b1, rfl, N4, K4, f5, f6, f7⟩ (by decide) (by decide)
theorem own_k259 (m : MethodId) (a : Addr) (t_ : Addr) (o_ : Addr) : entryFrame m #[(.ref a), (.ref t_), (.ref o_)] 3 = mkF m 0 #[.val (.ref a), .val (.ref t_), .val (.ref o_)] [] := by first | (simp [entryFrame, mkF, argsToLocals, Value.category]; done) | rfl
theorem own_k260 : decode prog_52_method_1_code 0 = .ok (.aload_n 0, 1) := by decide +kernel
theorem own_k261 : decode prog_52_method_1_code 1 = .ok (.invokespecial 1, 3) := by decide +kernel
theorem own_k262 : decode prog_52_method_1_code 4 = .ok (.aload_n 0, 1) := by decide +kernel
theorem own_k263 : decode prog_52_method_1_code 5 = .ok (.aload_n 1, 1) := by decide +kernel
theorem own_k264 : decode prog_52_method_1_code 6 = .ok (.putfield 7, 3) := by decide +kernel
theorem own_k265 : decode prog_52_method_1_code 9 = .ok (.aload_n 0, 1) := by decide +kernel
theorem own_k266 : decode prog_52_method_1_code 10 = .ok (.aload_n 2, 1) := by decide +kernel
theorem own_k267 : decode prog_52_method_1_code 11 = .ok (.putfield 13, 3) := by decide +kernel
theorem own_k268 : decode prog_52_method_1_code 14 = .ok (.return_, 1) := by decide +kernel
theorem own_k269 : plainName "com/example/orgwarden/orgwarden/server/http/Caller" = true := by first | (simp [plainName, overriddenIn]; done) | decide +kernel
set_option maxRecDepth 65536 in
set_option maxHeartbeats 40000000 in
theorem own_rm15 (l : Launch) (Z : State) (a0 : Array Value) (hw : ∀ d ∈ tables_1, d.before a0 Z = true) (ws : List Jvm.Cond) (a : Addr) (t_ : Addr) (o_ : Addr) (h0 : Heap) (n0 : Nat) (hn0 : n0 ≤ h0.size) (E_a : Exa Z h0 a "com/example/orgwarden/orgwarden/server/http/Caller") (F_a_m_aActor : Fld Z h0 a "com/example/orgwarden/orgwarden/server/http/Caller" "m_aActor" "Lcom/example/orgwarden/orgwarden/trail/Actor;" .null) (F_a_m_aOperator : Fld Z h0 a "com/example/orgwarden/orgwarden/server/http/Caller" "m_aOperator" "Lcom/example/orgwarden/orgwarden/server/oidc/Operator;" .null) (g_a : n0 ≤ a) : Meets l Z (⟨"com/example/orgwarden/orgwarden/server/http/Caller", "<init>", "(Lcom/example/orgwarden/orgwarden/trail/Actor;Lcom/example/orgwarden/orgwarden/server/oidc/Operator;)V"⟩ : MethodName) prog_52_method_1_code 3 none ws ({ frames := 1, cells := 0, slots := 0, locals := 12 } : Room) #[(.ref a), (.ref t_), (.ref o_)] h0 (fun v h L => v = none ∧ Fr n0 L ∧ Keep h0 h [a] ∧ Exa Z h a "com/example/orgwarden/orgwarden/server/http/Caller" ∧ Fld Z h a "com/example/orgwarden/orgwarden/server/http/Caller" "m_aActor" "Lcom/example/orgwarden/orgwarden/trail/Actor;" (.ref t_) ∧ Fld Z h a "com/example/orgwarden/orgwarden/server/http/Caller" "m_aOperator" "Lcom/example/orgwarden/orgwarden/server/oidc/Operator;" (.ref o_)) := by
  refine meets_of (plainFor_of_name own_k269) ?_
  intro p e s m below meth c s₁ X0 hx hZ hby hml hret hlk hown hnm e0
  replace hml : c.maxLocals = 3 := hml
  replace hown : s.vm.findClass "com/example/orgwarden/orgwarden/server/http/Caller" = some m.cls := hown
  refine Go.cast (own_k259 m a t_ o_) ?_
  have N0 := Fr.nil n0
  have K0 : Keep h0 h0 [a] := Keep.refl h0 _
  refine Go.via (U' := s₁.setTop (mkF m 1 #[.val (.ref a), .val (.ref t_), .val (.ref o_)] [(.ref a)])) (fun tG kG => XS.aloadN X0.here hx rfl (hb hby own_k260) rfl rfl kG) ?_
  obtain ⟨T1, X1, e1, st1⟩ := initO X0 hx hZ hown (hw _ (List.mem_of_getElem? (i := 86) rfl)) (hw _ (List.mem_of_getElem? (i := 16) rfl)) (hw _ (List.mem_of_getElem? (i := 17) rfl)) e0 (g := (mkF m 1 #[.val (.ref a), .val (.ref t_), .val (.ref o_)] [(.ref a)])) rfl (by rw [hml]; rfl) rfl (hb hby own_k261) (by decide) (W := 0) (by show 2 * 0 + _ ≤ _; exact Nat.le_of_eq rfl) (by decide)
  refine Go.via (U' := T1.setTop (mkF m 4 #[.val (.ref a), .val (.ref t_), .val (.ref o_)] [])) (fun tG kG => st1 tG kG) ?_
  refine Go.via (U' := T1.setTop (mkF m 5 #[.val (.ref a), .val (.ref t_), .val (.ref o_)] [(.ref a)])) (fun tG kG => XS.aloadN X1.here hx rfl (hb hby own_k262) rfl rfl kG) ?_
  refine Go.via (U' := T1.setTop (mkF m 6 #[.val (.ref a), .val (.ref t_), .val (.ref o_)] [(.ref t_), (.ref a)])) (fun tG kG => XS.aloadN X1.here hx rfl (hb hby own_k263) rfl rfl kG) ?_
  obtain ⟨T2, h2, X2, e2, W2, st2⟩ := putF X1 hx hZ hown (host := "") (Or.inl (hw _ (List.mem_of_getElem? (i := 87) rfl))) Via.refl e1 F_a_m_aActor E_a (Or.inr ⟨(hw _ (List.mem_of_getElem? (i := 88) rfl)), rfl, hnm⟩) (hw _ (List.mem_of_getElem? (i := 63) rfl)) (ty := (.object "com/example/orgwarden/orgwarden/trail/Actor")) (by decide) rfl rfl (g := (mkF m 6 #[.val (.ref a), .val (.ref t_), .val (.ref o_)] [(.ref t_), (.ref a)])) rfl rfl (hb hby own_k264)
  have f3 := E_a.wr W2
  have f4 := F_a_m_aActor.same W2
  have f5 := F_a_m_aOperator.other W2 (Or.inr (slot_ne (Or.inr (hw _ (List.mem_of_getElem? (i := 90) rfl))) (Or.inr (hw _ (List.mem_of_getElem? (i := 88) rfl))) (by decide) (t := (.object "com/example/orgwarden/orgwarden/server/oidc/Operator")) (t' := (.object "com/example/orgwarden/orgwarden/trail/Actor")) (by decide) (by decide)))
  have K2 := K0.wr W2 (Or.inl (List.mem_of_getElem? (i := 0) rfl))
  have N2 := Fr.snoc X2 N0 g_a
  have Z2 := Nat.le_trans hn0 (Keep.of_wr W2).1
  refine Go.via (U' := T2.setTop (mkF m 9 #[.val (.ref a), .val (.ref t_), .val (.ref o_)] [])) (fun tG kG => st2 tG kG) ?_
  refine Go.via (U' := T2.setTop (mkF m 10 #[.val (.ref a), .val (.ref t_), .val (.ref o_)] [(.ref a)])) (fun tG kG => XS.aloadN X2.here hx rfl (hb hby own_k265) rfl rfl kG) ?_
  refine Go.via (U' := T2.setTop (mkF m 11 #[.val (.ref a), .val (.ref t_), .val (.ref o_)] [(.ref o_), (.ref a)])) (fun tG kG => XS.aloadN X2.here hx rfl (hb hby own_k266) rfl rfl kG) ?_
  obtain ⟨T6, h6, X6, e6, W6, st6⟩ := putF X2 hx hZ hown (host := "") (Or.inl (hw _ (List.mem_of_getElem? (i := 89) rfl))) Via.refl e2 f5 f3 (Or.inr ⟨(hw _ (List.mem_of_getElem? (i := 90) rfl)), rfl, hnm⟩) (hw _ (List.mem_of_getElem? (i := 63) rfl)) (ty := (.object "com/example/orgwarden/orgwarden/server/oidc/Operator")) (by decide) rfl rfl (g := (mkF m 11 #[.val (.ref a), .val (.ref t_), .val (.ref o_)] [(.ref o_), (.ref a)])) rfl rfl (hb hby own_k267)
  have f7 := f3.wr W6
  have f8 := f4.other W6 (Or.inr (slot_ne (Or.inr (hw _ (List.mem_of_getElem? (i := 88) rfl))) (Or.inr (hw _ (List.mem_of_getElem? (i := 90) rfl))) (by decide) (t := (.object "com/example/orgwarden/orgwarden/trail/Actor")) (t' := (.object "com/example/orgwarden/orgwarden/server/oidc/Operator")) (by decide) (by decide)))
  have f9 := f5.same W6
  have K6 := K2.wr W6 (Or.inl (List.mem_of_getElem? (i := 0) rfl))
  have N6 := Fr.snoc X6 N2 g_a
  have Z6 := Nat.le_trans Z2 (Keep.of_wr W6).1
  refine Go.via (U' := T6.setTop (mkF m 14 #[.val (.ref a), .val (.ref t_), .val (.ref o_)] [])) (fun tG kG => st6 tG kG) ?_
  exact go_retV X6 hx hlk hret (hb hby own_k268) e6 ⟨rfl, N6, K6, f7, f8, f9⟩ (by decide) (by decide)
theorem own_k270 (m : MethodId) (o_ : Addr) : entryFrame m #[(.ref o_)] 1 = mkF m 0 #[.val (.ref o_)] [] := by first | (simp [entryFrame, mkF, argsToLocals, Value.category]; done) | rfl
theorem own_k271 : decode prog_52_method_3_code 0 = .ok (.new 8, 3) := by decide +kernel
theorem own_k272 : decode prog_52_method_3_code 3 = .ok (.dup, 1) := by decide +kernel
theorem own_k273 : decode prog_52_method_3_code 4 = .ok (.aload_n 0, 1) := by decide +kernel
theorem own_k274 : parseMethodDescriptor "()Ljava/lang/String;" = some ⟨[], some (.object "java/lang/String")⟩ := by decide +kernel
theorem own_k275 : decode prog_52_method_3_code 5 = .ok (.invokevirtual 26, 3) := by decide +kernel
theorem own_k276 : decode prog_52_method_3_code 8 = .ok (.aconst_null, 1) := by decide +kernel
theorem own_k277 : parseMethodDescriptor "(Ljava/lang/String;Ljava/util/UUID;)Lcom/example/orgwarden/orgwarden/trail/Actor;" = some ⟨[(.object "java/lang/String"), (.object "java/util/UUID")], some (.object "com/example/orgwarden/orgwarden/trail/Actor")⟩ := by decide +kernel
theorem own_k278 : decode prog_52_method_3_code 9 = .ok (.invokestatic 17, 3) := by decide +kernel
theorem own_k279 : decode prog_52_method_3_code 12 = .ok (.aload_n 0, 1) := by decide +kernel
theorem own_k280 : parseMethodDescriptor "(Lcom/example/orgwarden/orgwarden/trail/Actor;Lcom/example/orgwarden/orgwarden/server/oidc/Operator;)V" = some ⟨[(.object "com/example/orgwarden/orgwarden/trail/Actor"), (.object "com/example/orgwarden/orgwarden/server/oidc/Operator")], none⟩ := by decide +kernel
theorem own_k281 : decode prog_52_method_3_code 13 = .ok (.invokespecial 23, 3) := by decide +kernel
theorem own_k282 : decode prog_52_method_3_code 16 = .ok (.areturn, 1) := by decide +kernel
set_option maxRecDepth 65536 in
set_option maxHeartbeats 40000000 in
theorem own_rm11 (l : Launch) (Z : State) (a0 : Array Value) (hw : ∀ d ∈ tables_1, d.before a0 Z = true) (ws : List Jvm.Cond) (o_ : Addr) (s_ : Addr) (h0 : Heap) (n0 : Nat) (hn0 : n0 ≤ h0.size) (E_o_ : Exa Z h0 o_ "com/example/orgwarden/orgwarden/server/oidc/Operator") (F_o__m_sSubject : Fld Z h0 o_ "com/example/orgwarden/orgwarden/server/oidc/Operator" "m_sSubject" "Ljava/lang/String;" (.ref s_)) : Meets l Z (⟨"com/example/orgwarden/orgwarden/server/http/Caller", "operator", "(Lcom/example/orgwarden/orgwarden/server/oidc/Operator;)Lcom/example/orgwarden/orgwarden/server/http/Caller;"⟩ : MethodName) prog_52_method_3_code 1 (some (.object "com/example/orgwarden/orgwarden/server/http/Caller")) ws ({ frames := 3, cells := 2, slots := 4, locals := 42 } : Room) #[(.ref o_)] h0 (fun v h L => ∃ b1 : Addr, n0 ≤ b1 ∧ h0.size ≤ b1 ∧ ∃ b8 : Addr, n0 ≤ b8 ∧ h0.size ≤ b8 ∧ v = some (.ref b1) ∧ Fr n0 L ∧ Keep h0 h [] ∧ Exa Z h b1 "com/example/orgwarden/orgwarden/server/http/Caller" ∧ Exa Z h b8 "com/example/orgwarden/orgwarden/trail/Actor" ∧ Fld Z h b8 "com/example/orgwarden/orgwarden/trail/Actor" "m_sSubject" "Ljava/lang/String;" (.ref s_) ∧ Fld Z h b8 "com/example/orgwarden/orgwarden/trail/Actor" "m_aCredentialID" "Ljava/util/UUID;" .null ∧ Fld Z h b1 "com/example/orgwarden/orgwarden/server/http/Caller" "m_aActor" "Lcom/example/orgwarden/orgwarden/trail/Actor;" (.ref b8) ∧ Fld Z h b1 "com/example/orgwarden/orgwarden/server/http/Caller" "m_aOperator" "Lcom/example/orgwarden/orgwarden/server/oidc/Operator;" (.ref o_) ∧ b1 ≠ b8) := by
  refine meets_of (plainFor_of_name own_k269) ?_
  intro p e s m below meth c s₁ X0 hx hZ hby hml hret hlk hown hnm e0
  replace hml : c.maxLocals = 1 := hml
  replace hown : s.vm.findClass "com/example/orgwarden/orgwarden/server/http/Caller" = some m.cls := hown
  refine Go.cast (own_k270 m o_) ?_
  have N0 := Fr.nil n0
  have K0 : Keep h0 h0 [] := Keep.refl h0 _
  obtain ⟨T1, h1, X1, e1, E1, A1, D1, -, st1⟩ := newO X0 hx hZ hown (hw _ (List.mem_of_getElem? (i := 62) rfl)) (hw _ (List.mem_of_getElem? (i := 63) rfl)) (hw _ (List.mem_of_getElem? (i := 60) rfl)) e0 (g := (mkF m 0 #[.val (.ref o_)] [])) rfl (hb hby own_k271) (by decide) (by decide)
  obtain ⟨b1, g1⟩ : ∃ z, z = h0.size := ⟨_, rfl⟩
  rw [← g1] at A1 D1 st1
  have g_b1 : n0 ≤ b1 := Nat.le_trans hn0 (Nat.le_of_eq g1.symm)
  have sz_b1 : h0.size ≤ b1 := Nat.le_trans K0.1 (Nat.le_of_eq g1.symm)
  have ne_o__b1 : o_ ≠ b1 := Nat.ne_of_lt (Nat.lt_of_lt_of_le E_o_.lt (Nat.le_of_eq g1.symm))
  have f2 := E_o_.ext E1
  have f3 := F_o__m_sSubject.ext E1
  have K1 := K0.ext E1
  have Z1 := Nat.le_trans hn0 E1.1
  have f4 : Fld Z h1 b1 "com/example/orgwarden/orgwarden/server/http/Caller" "m_aActor" "Lcom/example/orgwarden/orgwarden/trail/Actor;" .null := D1 (Or.inr (hw _ (List.mem_of_getElem? (i := 88) rfl))) (ty := (.object "com/example/orgwarden/orgwarden/trail/Actor")) (by decide)
  have f5 : Fld Z h1 b1 "com/example/orgwarden/orgwarden/server/http/Caller" "m_aOperator" "Lcom/example/orgwarden/orgwarden/server/oidc/Operator;" .null := D1 (Or.inr (hw _ (List.mem_of_getElem? (i := 90) rfl))) (ty := (.object "com/example/orgwarden/orgwarden/server/oidc/Operator")) (by decide)
  refine Go.via (U' := T1.setTop (mkF m 3 #[.val (.ref o_)] [(.ref b1)])) (fun tG kG => st1 tG kG) ?_
  refine Go.via (U' := T1.setTop (mkF m 4 #[.val (.ref o_)] [(.ref b1), (.ref b1)])) (fun tG kG => XS.dup X1.here hx rfl (hb hby own_k272) rfl rfl kG) ?_
  refine Go.via (U' := T1.setTop (mkF m 5 #[.val (.ref o_)] [(.ref o_), (.ref b1), (.ref b1)])) (fun tG kG => XS.aloadN X1.here hx rfl (hb hby own_k273) rfl rfl kG) ?_
  obtain ⟨T6, X6, e6, st6⟩ := callV0 X1 hx hZ hown (hw _ (List.mem_of_getElem? (i := 64) rfl)) (hw _ (List.mem_of_getElem? (i := 65) rfl)) (hw _ (List.mem_of_getElem? (i := 67) rfl)) (hw _ (List.mem_of_getElem? (i := 66) rfl)) (hw _ (List.mem_of_getElem? (i := 43) rfl)) (hw _ (List.mem_of_getElem? (i := 68) rfl)) (by decide) (b := o_) (av := []) f2 (own_rm12 l Z a0 hw [] o_ s_ h1 f3) e1 (pc := 5) (Ls := #[.val (.ref o_)]) (rest := [(.ref b1), (.ref b1)]) (by rw [hml]; rfl) own_k274 rfl 2 (Nat.le_of_eq rfl) (by decide) (by decide) (by decide) (by decide) (hb hby own_k275)
  refine Go.via (U' := T6.setTop (mkF m 8 #[.val (.ref o_)] [(.ref s_), (.ref b1), (.ref b1)])) (fun tG kG => st6 tG kG) ?_
  refine Go.via (U' := T6.setTop (mkF m 9 #[.val (.ref o_)] [.null, (.ref s_), (.ref b1), (.ref b1)])) (fun tG kG => XS.aconstNull X6.here hx rfl (hb hby own_k276) kG) ?_
  obtain ⟨_, T7, L7, X7, ⟨b8, gb8, zb8, rfl, N7q, K7q, f9, f10, f11⟩, st7⟩ := callSQ X6 hx hZ hown (hw _ (List.mem_of_getElem? (i := 69) rfl)) (hw _ (List.mem_of_getElem? (i := 70) rfl)) (hw _ (List.mem_of_getElem? (i := 71) rfl)) (hw _ (List.mem_of_getElem? (i := 72) rfl)) (by decide) (av := [(.ref s_), .null]) (own_rm13 l Z a0 hw [] s_  h1 n0 Z1 ) e6 (pc := 9) (Ls := #[.val (.ref o_)]) (rest := [(.ref b1), (.ref b1)]) (by rw [hml]; rfl) own_k277 rfl 2 (Nat.le_of_eq rfl) (by decide) (by decide) (by decide) (by decide) (hb hby own_k278)
  have f12 := f2.keep K7q
  have f13 := f3.keep K7q nin0
  have f14 := A1.keep K7q
  have f15 := f4.keep K7q nin0
  have f16 := f5.keep K7q nin0
  have N7 := Fr.app N0 N7q
  have Z7 := Nat.le_trans Z1 K7q.1
  have K7 := K1.trans K7q all0
  have sb8 : h0.size ≤ b8 := Nat.le_trans K1.1 zb8
  have ne_b1_b8 : b1 ≠ b8 := Nat.ne_of_lt (Nat.lt_of_lt_of_le A1.lt zb8)
  have ne_o__b8 : o_ ≠ b8 := Nat.ne_of_lt (Nat.lt_of_lt_of_le f2.lt zb8)
  refine Go.via (U' := T7.setTop (mkF m 12 #[.val (.ref o_)] [(.ref b8), (.ref b1), (.ref b1)])) (fun tG kG => st7 tG kG) ?_
  refine Go.via (U' := T7.setTop (mkF m 13 #[.val (.ref o_)] [(.ref o_), (.ref b8), (.ref b1), (.ref b1)])) (fun tG kG => XS.aloadN X7.here hx rfl (hb hby own_k279) rfl rfl kG) ?_
  obtain ⟨_, T17, L17, X17, ⟨rfl, N17q, K17q, f18, f19, f20⟩, st17⟩ := callIQ X7 hx hZ rfl hown (hw _ (List.mem_of_getElem? (i := 83) rfl)) (hw _ (List.mem_of_getElem? (i := 84) rfl)) (hw _ (List.mem_of_getElem? (i := 60) rfl)) (hw _ (List.mem_of_getElem? (i := 85) rfl)) (by decide) (b := b1) (av := [(.ref b8), (.ref o_)]) (own_rm15 l Z a0 hw [] b1 b8 o_  T7.heap n0 Z7 f14 f15 f16 g_b1) rfl (pc := 13) (Ls := #[.val (.ref o_)]) (rest := [(.ref b1)]) (by rw [hml]; rfl) own_k280 rfl 1 (Nat.le_of_eq rfl) (by decide) (by decide) (by decide) (by decide) (hb hby own_k281)
  have f21 := f12.keep K17q
  have f22 := f13.keep K17q (ninS ne_o__b1 nin0)
  have f23 := f14.keep K17q
  have f24 := f9.keep K17q
  have f25 := f10.keep K17q (ninS (Ne.symm ne_b1_b8) nin0)
  have f26 := f11.keep K17q (ninS (Ne.symm ne_b1_b8) nin0)
  have N17 := Fr.app N7 N17q
  have Z17 := Nat.le_trans Z7 K17q.1
  have K17 := K7.trans K17q (allS (Or.inr sz_b1) all0)
  refine Go.via (U' := T17.setTop (mkF m 16 #[.val (.ref o_)] [(.ref b1)])) (fun tG kG => st17 tG kG) ?_
  exact go_retA X17 hx hlk hret rfl rfl rfl (hb hby own_k282) rfl ⟨b1, g_b1, sz_b1, b8, gb8, sb8, rfl, N17, K17, f18, f24, f25, f26, f19, f20, ne_b1_b8⟩ (by decide) (by decide)
theorem own_k283 (m : MethodId) (a : Addr) (v_ : Addr) : entryFrame m #[(.ref a), (.ref v_)] 2 = mkF m 0 #[.val (.ref a), .val (.ref v_)] [] := by first | (simp [entryFrame, mkF, argsToLocals, Value.category]; done) | rfl
theorem own_k284 : decode jdk_32_method_2_code 0 = .ok (.aload_n 0, 1) := by decide +kernel
theorem own_k285 : decode jdk_32_method_2_code 1 = .ok (.invokespecial 7, 3) := by decide +kernel
theorem own_k286 : decode jdk_32_method_2_code 4 = .ok (.aload_n 0, 1) := by decide +kernel
theorem own_k287 : decode jdk_32_method_2_code 5 = .ok (.aload_n 1, 1) := by decide +kernel
theorem own_k288 : decode jdk_32_method_2_code 6 = .ok (.putfield 13, 3) := by decide +kernel
theorem own_k289 : decode jdk_32_method_2_code 9 = .ok (.return_, 1) := by decide +kernel
theorem own_k290 : plainName "java/util/Optional" = true := by first | (simp [plainName, overriddenIn]; done) | decide +kernel
set_option maxRecDepth 65536 in
set_option maxHeartbeats 40000000 in
theorem own_rm18 (l : Launch) (Z : State) (a0 : Array Value) (hw : ∀ d ∈ tables_1, d.before a0 Z = true) (ws : List Jvm.Cond) (a : Addr) (v_ : Addr) (h0 : Heap) (n0 : Nat) (hn0 : n0 ≤ h0.size) (E_a : Exa Z h0 a "java/util/Optional") (F_a_value : Fld Z h0 a "java/util/Optional" "value" "Ljava/lang/Object;" .null) (g_a : n0 ≤ a) : Meets l Z (⟨"java/util/Optional", "<init>", "(Ljava/lang/Object;)V"⟩ : MethodName) jdk_32_method_2_code 2 none ws ({ frames := 1, cells := 0, slots := 0, locals := 12 } : Room) #[(.ref a), (.ref v_)] h0 (fun v h L => v = none ∧ Fr n0 L ∧ Keep h0 h [a] ∧ Exa Z h a "java/util/Optional" ∧ Fld Z h a "java/util/Optional" "value" "Ljava/lang/Object;" (.ref v_)) := by
  refine meets_of (plainFor_of_name own_k290) ?_
  intro p e s m below meth c s₁ X0 hx hZ hby hml hret hlk hown hnm e0
  replace hml : c.maxLocals = 2 := hml
  replace hown : s.vm.findClass "java/util/Optional" = some m.cls := hown
  refine Go.cast (own_k283 m a v_) ?_
  have N0 := Fr.nil n0
  have K0 : Keep h0 h0 [a] := Keep.refl h0 _
  refine Go.via (U' := s₁.setTop (mkF m 1 #[.val (.ref a), .val (.ref v_)] [(.ref a)])) (fun tG kG => XS.aloadN X0.here hx rfl (hb hby own_k284) rfl rfl kG) ?_
  obtain ⟨T1, X1, e1, st1⟩ := initO X0 hx hZ hown (hw _ (List.mem_of_getElem? (i := 106) rfl)) (hw _ (List.mem_of_getElem? (i := 16) rfl)) (hw _ (List.mem_of_getElem? (i := 17) rfl)) e0 (g := (mkF m 1 #[.val (.ref a), .val (.ref v_)] [(.ref a)])) rfl (by rw [hml]; rfl) rfl (hb hby own_k285) (by decide) (W := 0) (by show 2 * 0 + _ ≤ _; exact Nat.le_of_eq rfl) (by decide)
  refine Go.via (U' := T1.setTop (mkF m 4 #[.val (.ref a), .val (.ref v_)] [])) (fun tG kG => st1 tG kG) ?_
  refine Go.via (U' := T1.setTop (mkF m 5 #[.val (.ref a), .val (.ref v_)] [(.ref a)])) (fun tG kG => XS.aloadN X1.here hx rfl (hb hby own_k286) rfl rfl kG) ?_
  refine Go.via (U' := T1.setTop (mkF m 6 #[.val (.ref a), .val (.ref v_)] [(.ref v_), (.ref a)])) (fun tG kG => XS.aloadN X1.here hx rfl (hb hby own_k287) rfl rfl kG) ?_
  obtain ⟨T2, h2, X2, e2, W2, st2⟩ := putF X1 hx hZ hown (host := "") (Or.inl (hw _ (List.mem_of_getElem? (i := 107) rfl))) Via.refl e1 F_a_value E_a (Or.inr ⟨(hw _ (List.mem_of_getElem? (i := 108) rfl)), rfl, hnm⟩) (hw _ (List.mem_of_getElem? (i := 101) rfl)) (ty := (.object "java/lang/Object")) (by decide) rfl rfl (g := (mkF m 6 #[.val (.ref a), .val (.ref v_)] [(.ref v_), (.ref a)])) rfl rfl (hb hby own_k288)
  have f3 := E_a.wr W2
  have f4 := F_a_value.same W2
  have K2 := K0.wr W2 (Or.inl (List.mem_of_getElem? (i := 0) rfl))
  have N2 := Fr.snoc X2 N0 g_a
  have Z2 := Nat.le_trans hn0 (Keep.of_wr W2).1
  refine Go.via (U' := T2.setTop (mkF m 9 #[.val (.ref a), .val (.ref v_)] [])) (fun tG kG => st2 tG kG) ?_
  exact go_retV X2 hx hlk hret (hb hby own_k289) e2 ⟨rfl, N2, K2, f3, f4⟩ (by decide) (by decide)
theorem own_k291 (m : MethodId) (v_ : Addr) : entryFrame m #[(.ref v_)] 1 = mkF m 0 #[.val (.ref v_)] [] := by first | (simp [entryFrame, mkF, argsToLocals, Value.category]; done) | rfl
theorem own_k292 : decode jdk_32_method_4_code 0 = .ok (.aload_n 0, 1) := by decide +kernel
theorem own_k293 : decode jdk_32_method_4_code 1 = .ok (.ifnonnull 9, 3) := by decide +kernel
theorem own_k294 : decode jdk_32_method_4_code 10 = .ok (.new 2, 3) := by decide +kernel
theorem own_k295 : decode jdk_32_method_4_code 13 = .ok (.dup, 1) := by decide +kernel
theorem own_k296 : decode jdk_32_method_4_code 14 = .ok (.aload_n 0, 1) := by decide +kernel
theorem own_k297 : parseMethodDescriptor "(Ljava/lang/Object;)V" = some ⟨[(.object "java/lang/Object")], none⟩ := by decide +kernel
theorem own_k298 : decode jdk_32_method_4_code 15 = .ok (.invokespecial 23, 3) := by decide +kernel
theorem own_k299 : decode jdk_32_method_4_code 18 = .ok (.areturn, 1) := by decide +kernel
set_option maxRecDepth 65536 in
set_option maxHeartbeats 40000000 in
theorem own_rm17a (l : Launch) (Z : State) (a0 : Array Value) (hw : ∀ d ∈ tables_1, d.before a0 Z = true) (ws : List Jvm.Cond) (v_ : Addr) (h0 : Heap) (n0 : Nat) (hn0 : n0 ≤ h0.size) : Meets l Z (⟨"java/util/Optional", "ofNullable", "(Ljava/lang/Object;)Ljava/util/Optional;"⟩ : MethodName) jdk_32_method_4_code 1 (some (.object "java/util/Optional")) ws ({ frames := 2, cells := 1, slots := 1, locals := 26 } : Room) #[(.ref v_)] h0 (fun v h L => ∃ b1 : Addr, n0 ≤ b1 ∧ h0.size ≤ b1 ∧ v = some (.ref b1) ∧ Fr n0 L ∧ Keep h0 h [] ∧ Exa Z h b1 "java/util/Optional" ∧ Fld Z h b1 "java/util/Optional" "value" "Ljava/lang/Object;" (.ref v_)) := by
  refine meets_of (plainFor_of_name own_k290) ?_
  intro p e s m below meth c s₁ X0 hx hZ hby hml hret hlk hown hnm e0
  replace hml : c.maxLocals = 1 := hml
  replace hown : s.vm.findClass "java/util/Optional" = some m.cls := hown
  refine Go.cast (own_k291 m v_) ?_
  have N0 := Fr.nil n0
  have K0 : Keep h0 h0 [] := Keep.refl h0 _
  refine Go.via (U' := s₁.setTop (mkF m 1 #[.val (.ref v_)] [(.ref v_)])) (fun tG kG => XS.aloadN X0.here hx rfl (hb hby own_k292) rfl rfl kG) ?_
  refine Go.via (U' := s₁.setTop (mkF m 10 #[.val (.ref v_)] [])) (fun tG kG => XS.ifnonnullYes X0.here hx rfl (pc0 := 1) (pc' := 10) rfl (hb hby own_k293) rfl (by decide) (by decide) kG) ?_
  obtain ⟨T1, h1, X1, e1, E1, A1, D1, -, st1⟩ := newO X0 hx hZ hown (hw _ (List.mem_of_getElem? (i := 100) rfl)) (hw _ (List.mem_of_getElem? (i := 101) rfl)) (hw _ (List.mem_of_getElem? (i := 98) rfl)) e0 (g := (mkF m 10 #[.val (.ref v_)] [])) rfl (hb hby own_k294) (by decide) (by decide)
  obtain ⟨b1, g1⟩ : ∃ z, z = h0.size := ⟨_, rfl⟩
  rw [← g1] at A1 D1 st1
  have g_b1 : n0 ≤ b1 := Nat.le_trans hn0 (Nat.le_of_eq g1.symm)
  have sz_b1 : h0.size ≤ b1 := Nat.le_trans K0.1 (Nat.le_of_eq g1.symm)
  have K1 := K0.ext E1
  have Z1 := Nat.le_trans hn0 E1.1
  have f2 : Fld Z h1 b1 "java/util/Optional" "value" "Ljava/lang/Object;" .null := D1 (Or.inr (hw _ (List.mem_of_getElem? (i := 108) rfl))) (ty := (.object "java/lang/Object")) (by decide)
  refine Go.via (U' := T1.setTop (mkF m 13 #[.val (.ref v_)] [(.ref b1)])) (fun tG kG => st1 tG kG) ?_
  refine Go.via (U' := T1.setTop (mkF m 14 #[.val (.ref v_)] [(.ref b1), (.ref b1)])) (fun tG kG => XS.dup X1.here hx rfl (hb hby own_k295) rfl rfl kG) ?_
  refine Go.via (U' := T1.setTop (mkF m 15 #[.val (.ref v_)] [(.ref v_), (.ref b1), (.ref b1)])) (fun tG kG => XS.aloadN X1.here hx rfl (hb hby own_k296) rfl rfl kG) ?_
  obtain ⟨_, T3, L3, X3, ⟨rfl, N3q, K3q, f4, f5⟩, st3⟩ := callIQ X1 hx hZ rfl hown (hw _ (List.mem_of_getElem? (i := 102) rfl)) (hw _ (List.mem_of_getElem? (i := 103) rfl)) (hw _ (List.mem_of_getElem? (i := 98) rfl)) (hw _ (List.mem_of_getElem? (i := 105) rfl)) (by decide) (b := b1) (av := [(.ref v_)]) (own_rm18 l Z a0 hw [] b1 v_  h1 n0 Z1 A1 f2 g_b1) e1 (pc := 15) (Ls := #[.val (.ref v_)]) (rest := [(.ref b1)]) (by rw [hml]; rfl) own_k297 rfl 1 (Nat.le_of_eq rfl) (by decide) (by decide) (by decide) (by decide) (hb hby own_k298)
  have f6 := A1.keep K3q
  have N3 := Fr.app N0 N3q
  have Z3 := Nat.le_trans Z1 K3q.1
  have K3 := K1.trans K3q (allS (Or.inr sz_b1) all0)
  refine Go.via (U' := T3.setTop (mkF m 18 #[.val (.ref v_)] [(.ref b1)])) (fun tG kG => st3 tG kG) ?_
  exact go_retA X3 hx hlk hret rfl rfl rfl (hb hby own_k299) rfl ⟨b1, g_b1, sz_b1, rfl, N3, K3, f4, f5⟩ (by decide) (by decide)
theorem own_k300 (m : MethodId)  : entryFrame m #[.null] 1 = mkF m 0 #[.val .null] [] := by first | (simp [entryFrame, mkF, argsToLocals, Value.category]; done) | rfl
theorem own_k301 : decode jdk_32_method_4_code 4 = .ok (.getstatic 1, 3) := by decide +kernel
theorem own_k302 : decode jdk_32_method_4_code 7 = .ok (.goto 11, 3) := by decide +kernel
set_option maxRecDepth 65536 in
set_option maxHeartbeats 40000000 in
theorem own_rm17b (l : Launch) (Z : State) (a0 : Array Value) (hw : ∀ d ∈ tables_1, d.before a0 Z = true) (ws : List Jvm.Cond) (em : Addr) (h0 : Heap) (S_EMPTY : Sta Z h0 "java/util/Optional" "EMPTY" "Ljava/util/Optional;" (.ref em)) : Meets l Z (⟨"java/util/Optional", "ofNullable", "(Ljava/lang/Object;)Ljava/util/Optional;"⟩ : MethodName) jdk_32_method_4_code 1 (some (.object "java/util/Optional")) ws ({ frames := 0, cells := 0, slots := 0, locals := 0 } : Room) #[.null] h0 (PureR (some (.ref em)) h0) := by
  refine meets_of (plainFor_of_name own_k290) ?_
  intro p e s m below meth c s₁ X0 hx hZ hby hml hret hlk hown hnm e0
  replace hml : c.maxLocals = 1 := hml
  replace hown : s.vm.findClass "java/util/Optional" = some m.cls := hown
  refine Go.cast (own_k300 m ) ?_
  refine Go.via (U' := s₁.setTop (mkF m 1 #[.val .null] [.null])) (fun tG kG => XS.aloadN X0.here hx rfl (hb hby own_k292) rfl rfl kG) ?_
  refine Go.via (U' := s₁.setTop (mkF m 4 #[.val .null] [])) (fun tG kG => XS.ifnonnullNo X0.here hx rfl (hb hby own_k293) rfl kG) ?_
  obtain ⟨T1, X1, e1, st1⟩ := getS2 X0 hx hZ hown (host := "") (Or.inl (hw _ (List.mem_of_getElem? (i := 130) rfl))) Via.refl e0 S_EMPTY (g := (mkF m 4 #[.val .null] [])) rfl (hb hby own_k301)
  refine Go.via (U' := T1.setTop (mkF m 7 #[.val .null] [(.ref em)])) (fun tG kG => st1 tG kG) ?_
  refine Go.via (U' := T1.setTop (mkF m 18 #[.val .null] [(.ref em)])) (fun tG kG => XS.goto X1.here hx rfl (pc0 := 7) (pc' := 18) rfl (hb hby own_k302) (by decide) (by decide) kG) ?_
  exact go_retA X1 hx hlk hret rfl rfl rfl (hb hby own_k299) e1 ⟨(congrArg (fun z => some (Value.ref z)) (show em = em from rfl)), rfl, rfl⟩ (by decide) (by decide)
theorem own_k303 (m : MethodId) (a : Addr) : entryFrame m #[(.ref a), .null] 2 = mkF m 0 #[.val (.ref a), .val .null] [] := by first | (simp [entryFrame, mkF, argsToLocals, Value.category]; done) | rfl
theorem own_k304 : decode jdk_32_method_15_code 0 = .ok (.aload_n 0, 1) := by decide +kernel
theorem own_k305 : decode jdk_32_method_15_code 1 = .ok (.getfield 13, 3) := by decide +kernel
theorem own_k306 : decode jdk_32_method_15_code 4 = .ok (.ifnull 10, 3) := by decide +kernel
theorem own_k307 : decode jdk_32_method_15_code 7 = .ok (.aload_n 0, 1) := by decide +kernel
theorem own_k308 : decode jdk_32_method_15_code 8 = .ok (.getfield 13, 3) := by decide +kernel
theorem own_k309 : decode jdk_32_method_15_code 11 = .ok (.goto 4, 3) := by decide +kernel
theorem own_k310 : decode jdk_32_method_15_code 15 = .ok (.areturn, 1) := by decide +kernel
set_option maxRecDepth 65536 in
set_option maxHeartbeats 40000000 in
theorem own_rm19a (l : Launch) (Z : State) (a0 : Array Value) (hw : ∀ d ∈ tables_1, d.before a0 Z = true) (ws : List Jvm.Cond) (a : Addr) (v_ : Addr) (h0 : Heap) (F_a_value : Fld Z h0 a "java/util/Optional" "value" "Ljava/lang/Object;" (.ref v_)) : Meets l Z (⟨"java/util/Optional", "orElse", "(Ljava/lang/Object;)Ljava/lang/Object;"⟩ : MethodName) jdk_32_method_15_code 2 (some (.object "java/lang/Object")) ws ({ frames := 0, cells := 0, slots := 0, locals := 0 } : Room) #[(.ref a), .null] h0 (PureR (some (.ref v_)) h0) := by
  refine meets_of (plainFor_of_name own_k290) ?_
  intro p e s m below meth c s₁ X0 hx hZ hby hml hret hlk hown hnm e0
  replace hml : c.maxLocals = 2 := hml
  replace hown : s.vm.findClass "java/util/Optional" = some m.cls := hown
  refine Go.cast (own_k303 m a) ?_
  refine Go.via (U' := s₁.setTop (mkF m 1 #[.val (.ref a), .val .null] [(.ref a)])) (fun tG kG => XS.aloadN X0.here hx rfl (hb hby own_k304) rfl rfl kG) ?_
  obtain ⟨T1, X1, e1, st1⟩ := getF X0 hx hZ hown (host := "") (Or.inl (hw _ (List.mem_of_getElem? (i := 107) rfl))) Via.refl e0 F_a_value (g := (mkF m 1 #[.val (.ref a), .val .null] [(.ref a)])) rfl rfl (hb hby own_k305)
  refine Go.via (U' := T1.setTop (mkF m 4 #[.val (.ref a), .val .null] [(.ref v_)])) (fun tG kG => st1 tG kG) ?_
  refine Go.via (U' := T1.setTop (mkF m 7 #[.val (.ref a), .val .null] [])) (fun tG kG => XS.ifnullNo X1.here hx rfl (hb hby own_k306) rfl kG) ?_
  refine Go.via (U' := T1.setTop (mkF m 8 #[.val (.ref a), .val .null] [(.ref a)])) (fun tG kG => XS.aloadN X1.here hx rfl (hb hby own_k307) rfl rfl kG) ?_
  obtain ⟨T2, X2, e2, st2⟩ := getF X1 hx hZ hown (host := "") (Or.inl (hw _ (List.mem_of_getElem? (i := 107) rfl))) Via.refl e1 F_a_value (g := (mkF m 8 #[.val (.ref a), .val .null] [(.ref a)])) rfl rfl (hb hby own_k308)
  refine Go.via (U' := T2.setTop (mkF m 11 #[.val (.ref a), .val .null] [(.ref v_)])) (fun tG kG => st2 tG kG) ?_
  refine Go.via (U' := T2.setTop (mkF m 15 #[.val (.ref a), .val .null] [(.ref v_)])) (fun tG kG => XS.goto X2.here hx rfl (pc0 := 11) (pc' := 15) rfl (hb hby own_k309) (by decide) (by decide) kG) ?_
  exact go_retA X2 hx hlk hret rfl rfl rfl (hb hby own_k310) e2 ⟨(congrArg (fun z => some (Value.ref z)) (show v_ = v_ from rfl)), rfl, rfl⟩ (by decide) (by decide)
theorem own_k311 : decode jdk_32_method_15_code 14 = .ok (.aload_n 1, 1) := by decide +kernel
set_option maxRecDepth 65536 in
set_option maxHeartbeats 40000000 in
theorem own_rm19b (l : Launch) (Z : State) (a0 : Array Value) (hw : ∀ d ∈ tables_1, d.before a0 Z = true) (ws : List Jvm.Cond) (a : Addr) (h0 : Heap) (F_a_value : Fld Z h0 a "java/util/Optional" "value" "Ljava/lang/Object;" .null) : Meets l Z (⟨"java/util/Optional", "orElse", "(Ljava/lang/Object;)Ljava/lang/Object;"⟩ : MethodName) jdk_32_method_15_code 2 (some (.object "java/lang/Object")) ws ({ frames := 0, cells := 0, slots := 0, locals := 0 } : Room) #[(.ref a), .null] h0 (PureR (some .null) h0) := by
  refine meets_of (plainFor_of_name own_k290) ?_
  intro p e s m below meth c s₁ X0 hx hZ hby hml hret hlk hown hnm e0
  replace hml : c.maxLocals = 2 := hml
  replace hown : s.vm.findClass "java/util/Optional" = some m.cls := hown
  refine Go.cast (own_k303 m a) ?_
  refine Go.via (U' := s₁.setTop (mkF m 1 #[.val (.ref a), .val .null] [(.ref a)])) (fun tG kG => XS.aloadN X0.here hx rfl (hb hby own_k304) rfl rfl kG) ?_
  obtain ⟨T1, X1, e1, st1⟩ := getF X0 hx hZ hown (host := "") (Or.inl (hw _ (List.mem_of_getElem? (i := 107) rfl))) Via.refl e0 F_a_value (g := (mkF m 1 #[.val (.ref a), .val .null] [(.ref a)])) rfl rfl (hb hby own_k305)
  refine Go.via (U' := T1.setTop (mkF m 4 #[.val (.ref a), .val .null] [.null])) (fun tG kG => st1 tG kG) ?_
  refine Go.via (U' := T1.setTop (mkF m 14 #[.val (.ref a), .val .null] [])) (fun tG kG => XS.ifnullYes X1.here hx rfl (pc0 := 4) (pc' := 14) rfl (hb hby own_k306) rfl (by decide) (by decide) kG) ?_
  refine Go.via (U' := T1.setTop (mkF m 15 #[.val (.ref a), .val .null] [.null])) (fun tG kG => XS.aloadN X1.here hx rfl (hb hby own_k311) rfl rfl kG) ?_
  exact go_retA X1 hx hlk hret rfl rfl rfl (hb hby own_k310) e1 ⟨rfl, rfl, rfl⟩ (by decide) (by decide)
theorem own_k312 (m : MethodId) (a : Addr) : entryFrame m #[(.ref a)] 1 = mkF m 0 #[.val (.ref a)] [] := by first | (simp [entryFrame, mkF, argsToLocals, Value.category]; done) | rfl
theorem own_k313 : decode prog_52_method_5_code 0 = .ok (.aload_n 0, 1) := by decide +kernel
theorem own_k314 : decode prog_52_method_5_code 1 = .ok (.getfield 13, 3) := by decide +kernel
theorem own_k315 : parseMethodDescriptor "(Ljava/lang/Object;)Ljava/util/Optional;" = some ⟨[(.object "java/lang/Object")], some (.object "java/util/Optional")⟩ := by decide +kernel
theorem own_k316 : decode prog_52_method_5_code 4 = .ok (.invokestatic 32, 3) := by decide +kernel
theorem own_k317 : decode prog_52_method_5_code 7 = .ok (.areturn, 1) := by decide +kernel
set_option maxRecDepth 65536 in
set_option maxHeartbeats 40000000 in
theorem own_rm16 (l : Launch) (Z : State) (a0 : Array Value) (hw : ∀ d ∈ tables_1, d.before a0 Z = true) (ws : List Jvm.Cond) (a : Addr) (o_ : Addr) (h0 : Heap) (n0 : Nat) (hn0 : n0 ≤ h0.size) (F_a_m_aOperator : Fld Z h0 a "com/example/orgwarden/orgwarden/server/http/Caller" "m_aOperator" "Lcom/example/orgwarden/orgwarden/server/oidc/Operator;" (.ref o_)) : Meets l Z (⟨"com/example/orgwarden/orgwarden/server/http/Caller", "getOperator", "()Ljava/util/Optional;"⟩ : MethodName) prog_52_method_5_code 1 (some (.object "java/util/Optional")) ws ({ frames := 3, cells := 1, slots := 1, locals := 38 } : Room) #[(.ref a)] h0 (fun v h L => ∃ b3 : Addr, n0 ≤ b3 ∧ h0.size ≤ b3 ∧ v = some (.ref b3) ∧ Fr n0 L ∧ Keep h0 h [] ∧ Exa Z h b3 "java/util/Optional" ∧ Fld Z h b3 "java/util/Optional" "value" "Ljava/lang/Object;" (.ref o_)) := by
  refine meets_of (plainFor_of_name own_k269) ?_
  intro p e s m below meth c s₁ X0 hx hZ hby hml hret hlk hown hnm e0
  replace hml : c.maxLocals = 1 := hml
  replace hown : s.vm.findClass "com/example/orgwarden/orgwarden/server/http/Caller" = some m.cls := hown
  refine Go.cast (own_k312 m a) ?_
  have N0 := Fr.nil n0
  have K0 : Keep h0 h0 [] := Keep.refl h0 _
  refine Go.via (U' := s₁.setTop (mkF m 1 #[.val (.ref a)] [(.ref a)])) (fun tG kG => XS.aloadN X0.here hx rfl (hb hby own_k313) rfl rfl kG) ?_
  obtain ⟨T1, X1, e1, st1⟩ := getF X0 hx hZ hown (host := "") (Or.inl (hw _ (List.mem_of_getElem? (i := 89) rfl))) Via.refl e0 F_a_m_aOperator (g := (mkF m 1 #[.val (.ref a)] [(.ref a)])) rfl rfl (hb hby own_k314)
  refine Go.via (U' := T1.setTop (mkF m 4 #[.val (.ref a)] [(.ref o_)])) (fun tG kG => st1 tG kG) ?_
  obtain ⟨_, T2, L2, X2, ⟨b3, gb3, zb3, rfl, N2q, K2q, f4, f5⟩, st2⟩ := callSQ X1 hx hZ hown (hw _ (List.mem_of_getElem? (i := 96) rfl)) (hw _ (List.mem_of_getElem? (i := 97) rfl)) (hw _ (List.mem_of_getElem? (i := 98) rfl)) (hw _ (List.mem_of_getElem? (i := 99) rfl)) (by decide) (av := [(.ref o_)]) (own_rm17a l Z a0 hw [] o_  h0 n0 hn0 ) e1 (pc := 4) (Ls := #[.val (.ref a)]) (rest := []) (by rw [hml]; rfl) own_k315 rfl 0 (Nat.le_of_eq rfl) (by decide) (by decide) (by decide) (by decide) (hb hby own_k316)
  have f6 := F_a_m_aOperator.keep K2q nin0
  have N2 := Fr.app N0 N2q
  have Z2 := Nat.le_trans hn0 K2q.1
  have K2 := K0.trans K2q all0
  have sb3 : h0.size ≤ b3 := Nat.le_trans K0.1 zb3
  have ne_a_b3 : a ≠ b3 := Nat.ne_of_lt (Nat.lt_of_lt_of_le F_a_m_aOperator.lt zb3)
  refine Go.via (U' := T2.setTop (mkF m 7 #[.val (.ref a)] [(.ref b3)])) (fun tG kG => st2 tG kG) ?_
  exact go_retA X2 hx hlk hret rfl rfl rfl (hb hby own_k317) rfl ⟨b3, gb3, sb3, rfl, N2, K2, f4, f5⟩ (by decide) (by decide)
theorem own_k318 (m : MethodId) (a : Addr) : entryFrame m #[(.ref a)] 1 = mkF m 0 #[.val (.ref a)] [] := by first | (simp [entryFrame, mkF, argsToLocals, Value.category]; done) | rfl
theorem own_k319 : decode prog_52_method_4_code 0 = .ok (.aload_n 0, 1) := by decide +kernel
theorem own_k320 : decode prog_52_method_4_code 1 = .ok (.getfield 7, 3) := by decide +kernel
theorem own_k321 : decode prog_52_method_4_code 4 = .ok (.areturn, 1) := by decide +kernel
set_option maxRecDepth 65536 in
set_option maxHeartbeats 40000000 in
theorem own_rm20 (l : Launch) (Z : State) (a0 : Array Value) (hw : ∀ d ∈ tables_1, d.before a0 Z = true) (ws : List Jvm.Cond) (a : Addr) (t_ : Addr) (h0 : Heap) (F_a_m_aActor : Fld Z h0 a "com/example/orgwarden/orgwarden/server/http/Caller" "m_aActor" "Lcom/example/orgwarden/orgwarden/trail/Actor;" (.ref t_)) : Meets l Z (⟨"com/example/orgwarden/orgwarden/server/http/Caller", "getActor", "()Lcom/example/orgwarden/orgwarden/trail/Actor;"⟩ : MethodName) prog_52_method_4_code 1 (some (.object "com/example/orgwarden/orgwarden/trail/Actor")) ws ({ frames := 0, cells := 0, slots := 0, locals := 0 } : Room) #[(.ref a)] h0 (PureR (some (.ref t_)) h0) := by
  refine meets_of (plainFor_of_name own_k269) ?_
  intro p e s m below meth c s₁ X0 hx hZ hby hml hret hlk hown hnm e0
  replace hml : c.maxLocals = 1 := hml
  replace hown : s.vm.findClass "com/example/orgwarden/orgwarden/server/http/Caller" = some m.cls := hown
  refine Go.cast (own_k318 m a) ?_
  refine Go.via (U' := s₁.setTop (mkF m 1 #[.val (.ref a)] [(.ref a)])) (fun tG kG => XS.aloadN X0.here hx rfl (hb hby own_k319) rfl rfl kG) ?_
  obtain ⟨T1, X1, e1, st1⟩ := getF X0 hx hZ hown (host := "") (Or.inl (hw _ (List.mem_of_getElem? (i := 87) rfl))) Via.refl e0 F_a_m_aActor (g := (mkF m 1 #[.val (.ref a)] [(.ref a)])) rfl rfl (hb hby own_k320)
  refine Go.via (U' := T1.setTop (mkF m 4 #[.val (.ref a)] [(.ref t_)])) (fun tG kG => st1 tG kG) ?_
  exact go_retA X1 hx hlk hret rfl rfl rfl (hb hby own_k321) e1 ⟨(congrArg (fun z => some (Value.ref z)) (show t_ = t_ from rfl)), rfl, rfl⟩ (by decide) (by decide)
theorem own_k322 (m : MethodId) (a : Addr) : entryFrame m #[(.ref a)] 1 = mkF m 0 #[.val (.ref a)] [] := by first | (simp [entryFrame, mkF, argsToLocals, Value.category]; done) | rfl
theorem own_k323 : decode prog_57_method_3_code 0 = .ok (.aload_n 0, 1) := by decide +kernel
theorem own_k324 : decode prog_57_method_3_code 1 = .ok (.getfield 7, 3) := by decide +kernel
theorem own_k325 : decode prog_57_method_3_code 4 = .ok (.invokestatic 24, 3) := by decide +kernel
theorem own_k326 : decode prog_57_method_3_code 7 = .ok (.areturn, 1) := by decide +kernel
set_option maxRecDepth 65536 in
set_option maxHeartbeats 40000000 in
theorem own_rm21 (l : Launch) (Z : State) (a0 : Array Value) (hw : ∀ d ∈ tables_1, d.before a0 Z = true) (ws : List Jvm.Cond) (a : Addr) (s_ : Addr) (h0 : Heap) (n0 : Nat) (hn0 : n0 ≤ h0.size) (F_a_m_sSubject : Fld Z h0 a "com/example/orgwarden/orgwarden/trail/Actor" "m_sSubject" "Ljava/lang/String;" (.ref s_)) : Meets l Z (⟨"com/example/orgwarden/orgwarden/trail/Actor", "getSubject", "()Ljava/util/Optional;"⟩ : MethodName) prog_57_method_3_code 1 (some (.object "java/util/Optional")) ws ({ frames := 3, cells := 1, slots := 1, locals := 38 } : Room) #[(.ref a)] h0 (fun v h L => ∃ b3 : Addr, n0 ≤ b3 ∧ h0.size ≤ b3 ∧ v = some (.ref b3) ∧ Fr n0 L ∧ Keep h0 h [] ∧ Exa Z h b3 "java/util/Optional" ∧ Fld Z h b3 "java/util/Optional" "value" "Ljava/lang/Object;" (.ref s_)) := by
  refine meets_of (plainFor_of_name own_k248) ?_
  intro p e s m below meth c s₁ X0 hx hZ hby hml hret hlk hown hnm e0
  replace hml : c.maxLocals = 1 := hml
  replace hown : s.vm.findClass "com/example/orgwarden/orgwarden/trail/Actor" = some m.cls := hown
  refine Go.cast (own_k322 m a) ?_
  have N0 := Fr.nil n0
  have K0 : Keep h0 h0 [] := Keep.refl h0 _
  refine Go.via (U' := s₁.setTop (mkF m 1 #[.val (.ref a)] [(.ref a)])) (fun tG kG => XS.aloadN X0.here hx rfl (hb hby own_k323) rfl rfl kG) ?_
  obtain ⟨T1, X1, e1, st1⟩ := getF X0 hx hZ hown (host := "") (Or.inl (hw _ (List.mem_of_getElem? (i := 79) rfl))) Via.refl e0 F_a_m_sSubject (g := (mkF m 1 #[.val (.ref a)] [(.ref a)])) rfl rfl (hb hby own_k324)
  refine Go.via (U' := T1.setTop (mkF m 4 #[.val (.ref a)] [(.ref s_)])) (fun tG kG => st1 tG kG) ?_
  obtain ⟨_, T2, L2, X2, ⟨b3, gb3, zb3, rfl, N2q, K2q, f4, f5⟩, st2⟩ := callSQ X1 hx hZ hown (hw _ (List.mem_of_getElem? (i := 124) rfl)) (hw _ (List.mem_of_getElem? (i := 97) rfl)) (hw _ (List.mem_of_getElem? (i := 98) rfl)) (hw _ (List.mem_of_getElem? (i := 99) rfl)) (by decide) (av := [(.ref s_)]) (own_rm17a l Z a0 hw [] s_  h0 n0 hn0 ) e1 (pc := 4) (Ls := #[.val (.ref a)]) (rest := []) (by rw [hml]; rfl) own_k315 rfl 0 (Nat.le_of_eq rfl) (by decide) (by decide) (by decide) (by decide) (hb hby own_k325)
  have f6 := F_a_m_sSubject.keep K2q nin0
  have N2 := Fr.app N0 N2q
  have Z2 := Nat.le_trans hn0 K2q.1
  have K2 := K0.trans K2q all0
  have sb3 : h0.size ≤ b3 := Nat.le_trans K0.1 zb3
  have ne_a_b3 : a ≠ b3 := Nat.ne_of_lt (Nat.lt_of_lt_of_le F_a_m_sSubject.lt zb3)
  refine Go.via (U' := T2.setTop (mkF m 7 #[.val (.ref a)] [(.ref b3)])) (fun tG kG => st2 tG kG) ?_
  exact go_retA X2 hx hlk hret rfl rfl rfl (hb hby own_k326) rfl ⟨b3, gb3, sb3, rfl, N2, K2, f4, f5⟩ (by decide) (by decide)
theorem own_k327 (m : MethodId) (a : Addr) : entryFrame m #[(.ref a)] 1 = mkF m 0 #[.val (.ref a)] [] := by first | (simp [entryFrame, mkF, argsToLocals, Value.category]; done) | rfl
theorem own_k328 : decode prog_57_method_4_code 0 = .ok (.aload_n 0, 1) := by decide +kernel
theorem own_k329 : decode prog_57_method_4_code 1 = .ok (.getfield 13, 3) := by decide +kernel
theorem own_k330 : decode prog_57_method_4_code 4 = .ok (.invokestatic 24, 3) := by decide +kernel
theorem own_k331 : decode prog_57_method_4_code 7 = .ok (.areturn, 1) := by decide +kernel
set_option maxRecDepth 65536 in
set_option maxHeartbeats 40000000 in
theorem own_rm22 (l : Launch) (Z : State) (a0 : Array Value) (hw : ∀ d ∈ tables_1, d.before a0 Z = true) (ws : List Jvm.Cond) (a : Addr) (em : Addr) (h0 : Heap) (F_a_m_aCredentialID : Fld Z h0 a "com/example/orgwarden/orgwarden/trail/Actor" "m_aCredentialID" "Ljava/util/UUID;" .null) (S_EMPTY : Sta Z h0 "java/util/Optional" "EMPTY" "Ljava/util/Optional;" (.ref em)) : Meets l Z (⟨"com/example/orgwarden/orgwarden/trail/Actor", "getCredentialID", "()Ljava/util/Optional;"⟩ : MethodName) prog_57_method_4_code 1 (some (.object "java/util/Optional")) ws ({ frames := 1, cells := 0, slots := 0, locals := 12 } : Room) #[(.ref a)] h0 (PureR (some (.ref em)) h0) := by
  refine meets_of (plainFor_of_name own_k248) ?_
  intro p e s m below meth c s₁ X0 hx hZ hby hml hret hlk hown hnm e0
  replace hml : c.maxLocals = 1 := hml
  replace hown : s.vm.findClass "com/example/orgwarden/orgwarden/trail/Actor" = some m.cls := hown
  refine Go.cast (own_k327 m a) ?_
  refine Go.via (U' := s₁.setTop (mkF m 1 #[.val (.ref a)] [(.ref a)])) (fun tG kG => XS.aloadN X0.here hx rfl (hb hby own_k328) rfl rfl kG) ?_
  obtain ⟨T1, X1, e1, st1⟩ := getF X0 hx hZ hown (host := "") (Or.inl (hw _ (List.mem_of_getElem? (i := 81) rfl))) Via.refl e0 F_a_m_aCredentialID (g := (mkF m 1 #[.val (.ref a)] [(.ref a)])) rfl rfl (hb hby own_k329)
  refine Go.via (U' := T1.setTop (mkF m 4 #[.val (.ref a)] [.null])) (fun tG kG => st1 tG kG) ?_
  obtain ⟨T2, X2, e2, st2⟩ := callS0 X1 hx hZ hown (hw _ (List.mem_of_getElem? (i := 124) rfl)) (hw _ (List.mem_of_getElem? (i := 97) rfl)) (hw _ (List.mem_of_getElem? (i := 98) rfl)) (hw _ (List.mem_of_getElem? (i := 99) rfl)) (by decide) (av := [.null]) (own_rm17b l Z a0 hw []  em h0 S_EMPTY) e1 (pc := 4) (Ls := #[.val (.ref a)]) (rest := []) (by rw [hml]; rfl) own_k315 rfl 0 (Nat.le_of_eq rfl) (by decide) (by decide) (by decide) (by decide) (hb hby own_k330)
  refine Go.via (U' := T2.setTop (mkF m 7 #[.val (.ref a)] [(.ref em)])) (fun tG kG => st2 tG kG) ?_
  exact go_retA X2 hx hlk hret rfl rfl rfl (hb hby own_k331) e2 ⟨(congrArg (fun z => some (Value.ref z)) (show em = em from rfl)), rfl, rfl⟩ (by decide) (by decide)
theorem own_k332 (m : MethodId) (a : Addr) (a : Addr) : entryFrame m #[(.ref a), (.ref a)] 3 = mkF m 0 #[.val (.ref a), .val (.ref a), .unset] [] := by first | (simp [entryFrame, mkF, argsToLocals, Value.category]; done) | rfl
theorem own_k333 : decode jdk_42_method_66_code 0 = .ok (.aload_n 0, 1) := by decide +kernel
theorem own_k334 : decode jdk_42_method_66_code 1 = .ok (.aload_n 1, 1) := by decide +kernel
theorem own_k335 : decode jdk_42_method_66_code 2 = .ok (.if_acmp .ne 5, 3) := by decide +kernel
theorem own_k336 : decode jdk_42_method_66_code 5 = .ok (.iconst 1, 1) := by decide +kernel
theorem own_k337 : decode jdk_42_method_66_code 6 = .ok (.ireturn, 1) := by decide +kernel
set_option maxRecDepth 65536 in
set_option maxHeartbeats 40000000 in
theorem own_rm23 (l : Launch) (Z : State) (a0 : Array Value) (hw : ∀ d ∈ tables_1, d.before a0 Z = true) (ws : List Jvm.Cond) (a : Addr) (h0 : Heap) : Meets l Z (⟨"java/lang/String", "equals", "(Ljava/lang/Object;)Z"⟩ : MethodName) jdk_42_method_66_code 3 (some .boolean) ws ({ frames := 0, cells := 0, slots := 0, locals := 0 } : Room) #[(.ref a), (.ref a)] h0 (PureR (some (.int (1 : Int32))) h0) := by
  refine meets_of (plainFor_of_name own_k92) ?_
  intro p e s m below meth c s₁ X0 hx hZ hby hml hret hlk hown hnm e0
  replace hml : c.maxLocals = 3 := hml
  replace hown : s.vm.findClass "java/lang/String" = some m.cls := hown
  refine Go.cast (own_k332 m a a) ?_
  refine Go.via (U' := s₁.setTop (mkF m 1 #[.val (.ref a), .val (.ref a), .unset] [(.ref a)])) (fun tG kG => XS.aloadN X0.here hx rfl (hb hby own_k333) rfl rfl kG) ?_
  refine Go.via (U' := s₁.setTop (mkF m 2 #[.val (.ref a), .val (.ref a), .unset] [(.ref a), (.ref a)])) (fun tG kG => XS.aloadN X0.here hx rfl (hb hby own_k334) rfl rfl kG) ?_
  refine Go.via (U' := s₁.setTop (mkF m 5 #[.val (.ref a), .val (.ref a), .unset] [])) (fun tG kG => Jvm.RoadKit.acmp (g := (mkF m 2 #[.val (.ref a), .val (.ref a), .unset] [(.ref a), (.ref a)])) X0 hx rfl rfl rfl (pc0 := 2) (pc' := 5) (same := true) rfl (hb hby own_k335) rfl (decide_eq_true rfl) (by decide) (by decide) kG) ?_
  refine Go.via (U' := s₁.setTop (mkF m 6 #[.val (.ref a), .val (.ref a), .unset] [(.int (1 : Int32))])) (fun tG kG => XS.iconst X0.here hx rfl (hb hby own_k336) kG) ?_
  exact go_retN X0 hx hlk (t := .boolean) hret (by simp) (hb hby own_k337) e0 ⟨(congrArg (fun z => some (Value.int z)) (show nar .boolean (1 : Int32) = (1 : Int32) from rfl)), rfl, rfl⟩ (by decide) (by decide)
theorem own_k338 (m : MethodId) (x0 : Int32) (x1 : Int32) (x2 : Int32) (x3 : Int32) (x4 : Int32) : entryFrame m #[(.int x0), (.int x1), (.int x2), (.int x3), (.int x4)] maxLocals = mkF m 0 #[.val (.int x0), .val (.int x1), .val (.int x2), .val (.int x3), .val (.int x4), .unset, .unset, .unset, .unset, .unset, .unset, .unset, .unset, .unset] [] := by first | (simp [entryFrame, mkF, argsToLocals, Value.category, maxLocals]; done) | rfl
theorem own_k339 : parseMethodDescriptor "(IIII)Ljava/lang/String;" = some ⟨[.int, .int, .int, .int], some (.object "java/lang/String")⟩ := by decide +kernel
theorem own_k340 : parseMethodDescriptor "(C)Ljava/lang/String;" = some ⟨[.char], some (.object "java/lang/String")⟩ := by decide +kernel
theorem own_k341 : parseMethodDescriptor "(Ljava/lang/String;Ljava/lang/String;)V" = some ⟨[(.object "java/lang/String"), (.object "java/lang/String")], none⟩ := by decide +kernel
theorem own_k342 : parseMethodDescriptor "(Lcom/example/orgwarden/orgwarden/server/oidc/Operator;)Lcom/example/orgwarden/orgwarden/server/http/Caller;" = some ⟨[(.object "com/example/orgwarden/orgwarden/server/oidc/Operator")], some (.object "com/example/orgwarden/orgwarden/server/http/Caller")⟩ := by decide +kernel
theorem own_k343 : parseMethodDescriptor "()Ljava/util/Optional;" = some ⟨[], some (.object "java/util/Optional")⟩ := by decide +kernel
theorem own_k344 : parseMethodDescriptor "(Ljava/lang/Object;)Ljava/lang/Object;" = some ⟨[(.object "java/lang/Object")], some (.object "java/lang/Object")⟩ := by decide +kernel
theorem own_k345 : parseMethodDescriptor "()Lcom/example/orgwarden/orgwarden/trail/Actor;" = some ⟨[], some (.object "com/example/orgwarden/orgwarden/trail/Actor")⟩ := by decide +kernel
theorem own_k346 : parseMethodDescriptor "(Ljava/lang/Object;)Z" = some ⟨[(.object "java/lang/Object")], some .boolean⟩ := by decide +kernel
set_option maxRecDepth 65536 in
set_option maxHeartbeats 40000000 in
theorem own_rm0 (l : Launch) (Z : State) (a0 : Array Value) (hw : ∀ d ∈ tables_1, d.before a0 Z = true) (ws : List Jvm.Cond) (x0 : Int32) (x1 : Int32) (x2 : Int32) (x3 : Int32) (x4 : Int32) (cz : Int32) (a_UNATTRIBUTED : Addr) (em : Addr) (h0 : Heap) (n0 : Nat) (hn0 : n0 ≤ h0.size) (E_a_UNATTRIBUTED : Exa Z h0 a_UNATTRIBUTED "com/example/orgwarden/orgwarden/trail/Actor") (E_em : Exa Z h0 em "java/util/Optional") (F_em_value : Fld Z h0 em "java/util/Optional" "value" "Ljava/lang/Object;" .null) (S_COMPACT_STRINGS : Sta Z h0 "java/lang/String" "COMPACT_STRINGS" "Z" (.int cz)) (S_UNATTRIBUTED : Sta Z h0 "com/example/orgwarden/orgwarden/trail/Actor" "UNATTRIBUTED" "Lcom/example/orgwarden/orgwarden/trail/Actor;" (.ref a_UNATTRIBUTED)) (S_EMPTY : Sta Z h0 "java/util/Optional" "EMPTY" "Ljava/util/Optional;" (.ref em)) (hcz : ¬ (cz = (0 : Int32))) (hh : Jvm.Lit.constHeld Z "java/lang/String" 7) (hcw : Jvm.Lit.compactW.before a0 Z = true) (hkp : ∀ (b : Addr) (cl : Cell), Z.heap[b]? = some cl → h0[b]? = some cl) : MeetsB l Z true x code maxLocals ret ws room_1 #[(.int x0), (.int x1), (.int x2), (.int x3), (.int x4)] h0 (fun v h L => v = some (.int (1 : Int32)) ∧ Fr n0 L ∧ Keep h0 h []) := by
  refine meetsB_of (plainFor_of_name own_k176) ?_
  intro p e s m below meth c s₁ X0 hx hZ hby hml hret hlk hown hnm e0 hs0 hI
  replace hml : c.maxLocals = 14 := hml
  replace hown : s.vm.findClass "com/example/orgwarden/orgwarden/server/http/CallerOperatorPinLaw" = some m.cls := hown
  refine GoB.cast (own_k338 m x0 x1 x2 x3 x4) ?_
  have N0 := Fr.nil n0
  have K0 : Keep h0 h0 [] := Keep.refl h0 _
  refine GoB.via (U' := s₁.setTop (mkF m 1 #[.val (.int x0), .val (.int x1), .val (.int x2), .val (.int x3), .val (.int x4), .unset, .unset, .unset, .unset, .unset, .unset, .unset, .unset, .unset] [(.int x0)])) (fun tG kG => XS.iloadN X0.here hx rfl (hb hby at_0) rfl kG) ?_
  refine GoB.via (U' := s₁.setTop (mkF m 2 #[.val (.int x0), .val (.int x1), .val (.int x2), .val (.int x3), .val (.int x4), .unset, .unset, .unset, .unset, .unset, .unset, .unset, .unset, .unset] [(.int (3 : Int32)), (.int x0)])) (fun tG kG => XS.iconst X0.here hx rfl (hb hby at_1) kG) ?_
  refine GoB.via (U' := s₁.setTop (mkF m 3 #[.val (.int x0), .val (.int x1), .val (.int x2), .val (.int x3), .val (.int x4), .unset, .unset, .unset, .unset, .unset, .unset, .unset, .unset, .unset] [(.int (x0 &&& (3 : Int32)))])) (fun tG kG => XS.iand X0.here hx rfl (hb hby at_2) rfl kG) ?_
  refine GoB.via (U' := s₁.setTop (mkF m 4 #[.val (.int x0), .val (.int x1), .val (.int x2), .val (.int x3), .val (.int x4), .unset, .unset, .unset, .unset, .unset, .unset, .unset, .unset, .unset] [(.int x1), (.int (x0 &&& (3 : Int32)))])) (fun tG kG => XS.iloadN X0.here hx rfl (hb hby at_3) rfl kG) ?_
  refine GoB.via (U' := s₁.setTop (mkF m 5 #[.val (.int x0), .val (.int x1), .val (.int x2), .val (.int x3), .val (.int x4), .unset, .unset, .unset, .unset, .unset, .unset, .unset, .unset, .unset] [(.int x2), (.int x1), (.int (x0 &&& (3 : Int32)))])) (fun tG kG => XS.iloadN X0.here hx rfl (hb hby at_4) rfl kG) ?_
  refine GoB.via (U' := s₁.setTop (mkF m 6 #[.val (.int x0), .val (.int x1), .val (.int x2), .val (.int x3), .val (.int x4), .unset, .unset, .unset, .unset, .unset, .unset, .unset, .unset, .unset] [(.int x3), (.int x2), (.int x1), (.int (x0 &&& (3 : Int32)))])) (fun tG kG => XS.iloadN X0.here hx rfl (hb hby at_5) rfl kG) ?_
  obtain ⟨_, s, T1, L1, X1, ⟨hZ, hown, reb1⟩, ⟨b2, gb2, zb2, rfl, N1q, K1q, f3⟩, st1⟩ := callSB X0 hx hZ hown (hw _ (List.mem_of_getElem? (i := 0) rfl)) (hw _ (List.mem_of_getElem? (i := 1) rfl)) (hw _ (List.mem_of_getElem? (i := 2) rfl)) (hw _ (List.mem_of_getElem? (i := 3) rfl)) (by decide) (I := true) hI (av := [(.int (x0 &&& (3 : Int32))), (.int x1), (.int x2), (.int x3)]) (own_rm1 l Z a0 hw [] (x0 &&& (3 : Int32)) x1 x2 x3 cz h0 n0 hn0 S_COMPACT_STRINGS hcz hh hcw hkp) e0 (pc := 6) (Ls := #[.val (.int x0), .val (.int x1), .val (.int x2), .val (.int x3), .val (.int x4), .unset, .unset, .unset, .unset, .unset, .unset, .unset, .unset, .unset]) (rest := []) (by rw [hml]; rfl) own_k339 rfl 0 (Nat.le_of_eq rfl) (by decide) (by decide) (by decide) (by decide) (hb hby at_6)
  have f4 := E_a_UNATTRIBUTED.keep K1q
  have f5 := E_em.keep K1q
  have f6 := F_em_value.keep K1q nin0
  have f7 := own_staKeep S_COMPACT_STRINGS K1q all0
  have f8 := own_staKeep S_UNATTRIBUTED K1q all0
  have f9 := own_staKeep S_EMPTY K1q all0
  have N1 := Fr.app N0 N1q
  have Z1 := Nat.le_trans hn0 K1q.1
  have Zk1 := Nat.le_trans (Nat.zero_le _) K1q.1
  have K1 := K0.trans K1q all0
  have sb2 : h0.size ≤ b2 := Nat.le_trans K0.1 zb2
  have ne_a_UNATTRIBUTED_b2 : a_UNATTRIBUTED ≠ b2 := Nat.ne_of_lt (Nat.lt_of_lt_of_le E_a_UNATTRIBUTED.lt zb2)
  have ne_em_b2 : em ≠ b2 := Nat.ne_of_lt (Nat.lt_of_lt_of_le E_em.lt zb2)
  refine GoB.via (U' := T1.setTop (mkF m 9 #[.val (.int x0), .val (.int x1), .val (.int x2), .val (.int x3), .val (.int x4), .unset, .unset, .unset, .unset, .unset, .unset, .unset, .unset, .unset] [(.ref b2)])) (fun tG kG => st1 tG kG) ?_
  refine reb1 _ _ _ _ _ Zk1 ?_
  refine GoB.via (U' := T1.setTop (mkF m 11 #[.val (.int x0), .val (.int x1), .val (.int x2), .val (.int x3), .val (.int x4), .val (.ref b2), .unset, .unset, .unset, .unset, .unset, .unset, .unset, .unset] [])) (fun tG kG => XS.astore X1.here hx rfl (hb hby at_9) rfl rfl (l' := #[.val (.int x0), .val (.int x1), .val (.int x2), .val (.int x3), .val (.int x4), .val (.ref b2), .unset, .unset, .unset, .unset, .unset, .unset, .unset, .unset]) rfl kG) ?_
  refine GoB.via (U' := T1.setTop (mkF m 13 #[.val (.int x0), .val (.int x1), .val (.int x2), .val (.int x3), .val (.int x4), .val (.ref b2), .unset, .unset, .unset, .unset, .unset, .unset, .unset, .unset] [(.int x4)])) (fun tG kG => XS.iload X1.here hx rfl (hb hby at_11) rfl kG) ?_
  refine GoB.via (U' := T1.setTop (mkF m 14 #[.val (.int x0), .val (.int x1), .val (.int x2), .val (.int x3), .val (.int x4), .val (.ref b2), .unset, .unset, .unset, .unset, .unset, .unset, .unset, .unset] [(.int (1 : Int32)), (.int x4)])) (fun tG kG => XS.iconst X1.here hx rfl (hb hby at_13) kG) ?_
  refine GoB.via (U' := T1.setTop (mkF m 15 #[.val (.int x0), .val (.int x1), .val (.int x2), .val (.int x3), .val (.int x4), .val (.ref b2), .unset, .unset, .unset, .unset, .unset, .unset, .unset, .unset] [(.int (x4 &&& (1 : Int32)))])) (fun tG kG => XS.iand X1.here hx rfl (hb hby at_14) rfl kG) ?_
  by_cases hc15 : (x4 &&& (1 : Int32)) = (0 : Int32)
  · refine GoB.via (U' := T1.setTop (mkF m 22 #[.val (.int x0), .val (.int x1), .val (.int x2), .val (.int x3), .val (.int x4), .val (.ref b2), .unset, .unset, .unset, .unset, .unset, .unset, .unset, .unset] [])) (fun tG kG => XS.ifYes X1.here hx rfl (pc0 := 15) (pc' := 22) rfl (hb hby at_15) rfl ((if0 _ _).trans (teq hc15).1) (by decide) (by decide) kG) ?_
    refine GoB.via (U' := T1.setTop (mkF m 24 #[.val (.int x0), .val (.int x1), .val (.int x2), .val (.int x3), .val (.int x4), .val (.ref b2), .unset, .unset, .unset, .unset, .unset, .unset, .unset, .unset] [(.int x4)])) (fun tG kG => XS.iload X1.here hx rfl (hb hby at_22) rfl kG) ?_
    refine GoB.via (U' := T1.setTop (mkF m 25 #[.val (.int x0), .val (.int x1), .val (.int x2), .val (.int x3), .val (.int x4), .val (.ref b2), .unset, .unset, .unset, .unset, .unset, .unset, .unset, .unset] [(.int (1 : Int32)), (.int x4)])) (fun tG kG => XS.iconst X1.here hx rfl (hb hby at_24) kG) ?_
    refine GoB.via (U' := T1.setTop (mkF m 26 #[.val (.int x0), .val (.int x1), .val (.int x2), .val (.int x3), .val (.int x4), .val (.ref b2), .unset, .unset, .unset, .unset, .unset, .unset, .unset, .unset] [(.int (own_ushr x4 (1 : Int32)))])) (fun tG kG => XS.iushr X1.here hx rfl (hb hby at_25) rfl kG) ?_
    refine GoB.via (U' := T1.setTop (mkF m 29 #[.val (.int x0), .val (.int x1), .val (.int x2), .val (.int x3), .val (.int x4), .val (.ref b2), .unset, .unset, .unset, .unset, .unset, .unset, .unset, .unset] [(.int (255 : Int32)), (.int (own_ushr x4 (1 : Int32)))])) (fun tG kG => XS.sipush X1.here hx rfl (hb hby at_26) kG) ?_
    refine GoB.via (U' := T1.setTop (mkF m 30 #[.val (.int x0), .val (.int x1), .val (.int x2), .val (.int x3), .val (.int x4), .val (.ref b2), .unset, .unset, .unset, .unset, .unset, .unset, .unset, .unset] [(.int ((own_ushr x4 (1 : Int32)) &&& (255 : Int32)))])) (fun tG kG => XS.iand X1.here hx rfl (hb hby at_29) rfl kG) ?_
    refine GoB.via (U' := T1.setTop (mkF m 31 #[.val (.int x0), .val (.int x1), .val (.int x2), .val (.int x3), .val (.int x4), .val (.ref b2), .unset, .unset, .unset, .unset, .unset, .unset, .unset, .unset] [(.int (((own_ushr x4 (1 : Int32)) &&& (255 : Int32)).toUInt32.toUInt16.toUInt32.toInt32))])) (fun tG kG => XS.i2c X1.here hx rfl (hb hby at_30) rfl kG) ?_
    obtain ⟨_, T10, L10, X10, ⟨b11, gb11, zb11, rfl, N10q, K10q, f12⟩, st10⟩ := callSQ X1 hx hZ hown (hw _ (List.mem_of_getElem? (i := 26) rfl)) (hw _ (List.mem_of_getElem? (i := 27) rfl)) (hw _ (List.mem_of_getElem? (i := 6) rfl)) (hw _ (List.mem_of_getElem? (i := 28) rfl)) (by decide) (av := [(.int (((own_ushr x4 (1 : Int32)) &&& (255 : Int32)).toUInt32.toUInt16.toUInt32.toInt32))]) (own_rm5 l Z a0 hw [] (((own_ushr x4 (1 : Int32)) &&& (255 : Int32)).toUInt32.toUInt16.toUInt32.toInt32) cz T1.heap n0 Z1 f7 hcz (own_ce2 _)) rfl (pc := 31) (Ls := #[.val (.int x0), .val (.int x1), .val (.int x2), .val (.int x3), .val (.int x4), .val (.ref b2), .unset, .unset, .unset, .unset, .unset, .unset, .unset, .unset]) (rest := []) (by rw [hml]; rfl) own_k340 rfl 0 (Nat.le_of_eq rfl) (by decide) (by decide) (by decide) (by decide) (hb hby at_31)
    have f13 := f4.keep K10q
    have f14 := f5.keep K10q
    have f15 := f6.keep K10q nin0
    have f16 := own_staKeep f7 K10q all0
    have f17 := own_staKeep f8 K10q all0
    have f18 := own_staKeep f9 K10q all0
    have f19 := f3.keep K10q
    have N10 := Fr.app N1 N10q
    have Z10 := Nat.le_trans Z1 K10q.1
    have Zk10 := Nat.le_trans (Nat.le_refl _) K10q.1
    have K10 := K1.trans K10q all0
    have sb11 : h0.size ≤ b11 := Nat.le_trans K1.1 zb11
    have ne_b2_b11 : b2 ≠ b11 := Nat.ne_of_lt (Nat.lt_of_lt_of_le f3.lt zb11)
    have ne_a_UNATTRIBUTED_b11 : a_UNATTRIBUTED ≠ b11 := Nat.ne_of_lt (Nat.lt_of_lt_of_le f4.lt zb11)
    have ne_em_b11 : em ≠ b11 := Nat.ne_of_lt (Nat.lt_of_lt_of_le f5.lt zb11)
    refine GoB.via (U' := T10.setTop (mkF m 34 #[.val (.int x0), .val (.int x1), .val (.int x2), .val (.int x3), .val (.int x4), .val (.ref b2), .unset, .unset, .unset, .unset, .unset, .unset, .unset, .unset] [(.ref b11)])) (fun tG kG => st10 tG kG) ?_
    refine GoB.via (U' := T10.setTop (mkF m 36 #[.val (.int x0), .val (.int x1), .val (.int x2), .val (.int x3), .val (.int x4), .val (.ref b2), .val (.ref b11), .unset, .unset, .unset, .unset, .unset, .unset, .unset] [])) (fun tG kG => XS.astore X10.here hx rfl (hb hby at_34) rfl rfl (l' := #[.val (.int x0), .val (.int x1), .val (.int x2), .val (.int x3), .val (.int x4), .val (.ref b2), .val (.ref b11), .unset, .unset, .unset, .unset, .unset, .unset, .unset]) rfl kG) ?_
    obtain ⟨T20, h20, X20, e20, E20, A20, D20, -, st20⟩ := newO X10 hx hZ hown (hw _ (List.mem_of_getElem? (i := 41) rfl)) (hw _ (List.mem_of_getElem? (i := 42) rfl)) (hw _ (List.mem_of_getElem? (i := 43) rfl)) rfl (g := (mkF m 36 #[.val (.int x0), .val (.int x1), .val (.int x2), .val (.int x3), .val (.int x4), .val (.ref b2), .val (.ref b11), .unset, .unset, .unset, .unset, .unset, .unset, .unset] [])) rfl (hb hby at_36) (by decide) (by decide)
    obtain ⟨b20, g20⟩ : ∃ z, z = T10.heap.size := ⟨_, rfl⟩
    rw [← g20] at A20 D20 st20
    have g_b20 : n0 ≤ b20 := Nat.le_trans Z10 (Nat.le_of_eq g20.symm)
    have sz_b20 : h0.size ≤ b20 := Nat.le_trans K10.1 (Nat.le_of_eq g20.symm)
    have ne_a_UNATTRIBUTED_b20 : a_UNATTRIBUTED ≠ b20 := Nat.ne_of_lt (Nat.lt_of_lt_of_le f13.lt (Nat.le_of_eq g20.symm))
    have ne_b11_b20 : b11 ≠ b20 := Nat.ne_of_lt (Nat.lt_of_lt_of_le f12.lt (Nat.le_of_eq g20.symm))
    have ne_b2_b20 : b2 ≠ b20 := Nat.ne_of_lt (Nat.lt_of_lt_of_le f19.lt (Nat.le_of_eq g20.symm))
    have ne_em_b20 : em ≠ b20 := Nat.ne_of_lt (Nat.lt_of_lt_of_le f14.lt (Nat.le_of_eq g20.symm))
    have f21 := f13.ext E20
    have f22 := f14.ext E20
    have f23 := f15.ext E20
    have f24 := f16.ext E20
    have f25 := f17.ext E20
    have f26 := f18.ext E20
    have f27 := f19.ext E20
    have f28 := f12.ext E20
    have K20 := K10.ext E20
    have Z20 := Nat.le_trans Z10 E20.1
    have Zk20 := Nat.le_trans Zk10 E20.1
    have f29 : Fld Z h20 b20 "com/example/orgwarden/orgwarden/server/oidc/Operator" "m_sSubject" "Ljava/lang/String;" .null := D20 (Or.inr (hw _ (List.mem_of_getElem? (i := 55) rfl))) (ty := (.object "java/lang/String")) (by decide)
    have f30 : Fld Z h20 b20 "com/example/orgwarden/orgwarden/server/oidc/Operator" "m_sName" "Ljava/lang/String;" .null := D20 (Or.inr (hw _ (List.mem_of_getElem? (i := 57) rfl))) (ty := (.object "java/lang/String")) (by decide)
    refine GoB.via (U' := T20.setTop (mkF m 39 #[.val (.int x0), .val (.int x1), .val (.int x2), .val (.int x3), .val (.int x4), .val (.ref b2), .val (.ref b11), .unset, .unset, .unset, .unset, .unset, .unset, .unset] [(.ref b20)])) (fun tG kG => st20 tG kG) ?_
    refine GoB.via (U' := T20.setTop (mkF m 40 #[.val (.int x0), .val (.int x1), .val (.int x2), .val (.int x3), .val (.int x4), .val (.ref b2), .val (.ref b11), .unset, .unset, .unset, .unset, .unset, .unset, .unset] [(.ref b20), (.ref b20)])) (fun tG kG => XS.dup X20.here hx rfl (hb hby at_39) rfl rfl kG) ?_
    refine GoB.via (U' := T20.setTop (mkF m 42 #[.val (.int x0), .val (.int x1), .val (.int x2), .val (.int x3), .val (.int x4), .val (.ref b2), .val (.ref b11), .unset, .unset, .unset, .unset, .unset, .unset, .unset] [(.ref b2), (.ref b20), (.ref b20)])) (fun tG kG => XS.aload X20.here hx rfl (hb hby at_40) rfl rfl kG) ?_
    refine GoB.via (U' := T20.setTop (mkF m 44 #[.val (.int x0), .val (.int x1), .val (.int x2), .val (.int x3), .val (.int x4), .val (.ref b2), .val (.ref b11), .unset, .unset, .unset, .unset, .unset, .unset, .unset] [(.ref b11), (.ref b2), (.ref b20), (.ref b20)])) (fun tG kG => XS.aload X20.here hx rfl (hb hby at_42) rfl rfl kG) ?_
    obtain ⟨_, s, T31, L31, X31, ⟨hZ, hown, reb31⟩, ⟨rfl, N31q, K31q, f32, f33, f34⟩, st31⟩ := callIB X20 hx hZ rfl hown (hw _ (List.mem_of_getElem? (i := 44) rfl)) (hw _ (List.mem_of_getElem? (i := 45) rfl)) (hw _ (List.mem_of_getElem? (i := 43) rfl)) (hw _ (List.mem_of_getElem? (i := 46) rfl)) (by decide) (b := b20) (I := false) (fun q => nomatch q) (av := [(.ref b2), (.ref b11)]) (own_rm9a l Z a0 hw [] b20 b2 b11  h20 n0 Z20 A20 f29 f30 f27 g_b20) e20 (pc := 44) (Ls := #[.val (.int x0), .val (.int x1), .val (.int x2), .val (.int x3), .val (.int x4), .val (.ref b2), .val (.ref b11), .unset, .unset, .unset, .unset, .unset, .unset, .unset]) (rest := [(.ref b20)]) (by rw [hml]; rfl) own_k341 rfl 1 (Nat.le_of_eq rfl) (by decide) (by decide) (by decide) (by decide) (hb hby at_44)
    have f35 := f21.keep K31q
    have f36 := f22.keep K31q
    have f37 := f23.keep K31q (ninS ne_em_b20 nin0)
    have f38 := own_staKeep f24 K31q ((allS (own_plainE A20) all0))
    have f39 := own_staKeep f25 K31q ((allS (own_plainE A20) all0))
    have f40 := own_staKeep f26 K31q ((allS (own_plainE A20) all0))
    have f41 := f27.keep K31q
    have f42 := f28.keep K31q
    have f43 := A20.keep K31q
    have N31 := Fr.app N10 N31q
    have Z31 := Nat.le_trans Z20 K31q.1
    have Zk31 := Nat.le_trans Zk20 K31q.1
    have K31 := K20.trans K31q (allS (Or.inr sz_b20) all0)
    refine GoB.via (U' := T31.setTop (mkF m 47 #[.val (.int x0), .val (.int x1), .val (.int x2), .val (.int x3), .val (.int x4), .val (.ref b2), .val (.ref b11), .unset, .unset, .unset, .unset, .unset, .unset, .unset] [(.ref b20)])) (fun tG kG => st31 tG kG) ?_
    refine reb31 _ _ _ _ _ Zk31 ?_
    refine GoB.via (U' := T31.setTop (mkF m 49 #[.val (.int x0), .val (.int x1), .val (.int x2), .val (.int x3), .val (.int x4), .val (.ref b2), .val (.ref b11), .val (.ref b20), .unset, .unset, .unset, .unset, .unset, .unset] [])) (fun tG kG => XS.astore X31.here hx rfl (hb hby at_47) rfl rfl (l' := #[.val (.int x0), .val (.int x1), .val (.int x2), .val (.int x3), .val (.int x4), .val (.ref b2), .val (.ref b11), .val (.ref b20), .unset, .unset, .unset, .unset, .unset, .unset]) rfl kG) ?_
    refine GoB.via (U' := T31.setTop (mkF m 51 #[.val (.int x0), .val (.int x1), .val (.int x2), .val (.int x3), .val (.int x4), .val (.ref b2), .val (.ref b11), .val (.ref b20), .unset, .unset, .unset, .unset, .unset, .unset] [(.ref b20)])) (fun tG kG => XS.aload X31.here hx rfl (hb hby at_49) rfl rfl kG) ?_
    obtain ⟨_, T44, L44, X44, ⟨b45, gb45, zb45, b46, gb46, zb46, rfl, N44q, K44q, f47, f48, f49, f50, f51, f52, ne_b45_b46⟩, st44⟩ := callSQ X31 hx hZ hown (hw _ (List.mem_of_getElem? (i := 58) rfl)) (hw _ (List.mem_of_getElem? (i := 59) rfl)) (hw _ (List.mem_of_getElem? (i := 60) rfl)) (hw _ (List.mem_of_getElem? (i := 61) rfl)) (by decide) (av := [(.ref b20)]) (own_rm11 l Z a0 hw [] b20 b2 T31.heap n0 Z31 f32 f33) rfl (pc := 51) (Ls := #[.val (.int x0), .val (.int x1), .val (.int x2), .val (.int x3), .val (.int x4), .val (.ref b2), .val (.ref b11), .val (.ref b20), .unset, .unset, .unset, .unset, .unset, .unset]) (rest := []) (by rw [hml]; rfl) own_k342 rfl 0 (Nat.le_of_eq rfl) (by decide) (by decide) (by decide) (by decide) (hb hby at_51)
    have f53 := f35.keep K44q
    have f54 := f36.keep K44q
    have f55 := f37.keep K44q nin0
    have f56 := own_staKeep f38 K44q all0
    have f57 := own_staKeep f39 K44q all0
    have f58 := own_staKeep f40 K44q all0
    have f59 := f41.keep K44q
    have f60 := f42.keep K44q
    have f61 := f32.keep K44q
    have f62 := f33.keep K44q nin0
    have f63 := f34.keep K44q nin0
    have N44 := Fr.app N31 N44q
    have Z44 := Nat.le_trans Z31 K44q.1
    have Zk44 := Nat.le_trans (Nat.le_refl _) K44q.1
    have K44 := K31.trans K44q all0
    have sb45 : h0.size ≤ b45 := Nat.le_trans K31.1 zb45
    have ne_a_UNATTRIBUTED_b45 : a_UNATTRIBUTED ≠ b45 := Nat.ne_of_lt (Nat.lt_of_lt_of_le f35.lt zb45)
    have ne_em_b45 : em ≠ b45 := Nat.ne_of_lt (Nat.lt_of_lt_of_le f36.lt zb45)
    have ne_b11_b45 : b11 ≠ b45 := Nat.ne_of_lt (Nat.lt_of_lt_of_le f42.lt zb45)
    have ne_b2_b45 : b2 ≠ b45 := Nat.ne_of_lt (Nat.lt_of_lt_of_le f41.lt zb45)
    have ne_b20_b45 : b20 ≠ b45 := Nat.ne_of_lt (Nat.lt_of_lt_of_le f32.lt zb45)
    have sb46 : h0.size ≤ b46 := Nat.le_trans K31.1 zb46
    have ne_a_UNATTRIBUTED_b46 : a_UNATTRIBUTED ≠ b46 := Nat.ne_of_lt (Nat.lt_of_lt_of_le f35.lt zb46)
    have ne_em_b46 : em ≠ b46 := Nat.ne_of_lt (Nat.lt_of_lt_of_le f36.lt zb46)
    have ne_b11_b46 : b11 ≠ b46 := Nat.ne_of_lt (Nat.lt_of_lt_of_le f42.lt zb46)
    have ne_b2_b46 : b2 ≠ b46 := Nat.ne_of_lt (Nat.lt_of_lt_of_le f41.lt zb46)
    have ne_b20_b46 : b20 ≠ b46 := Nat.ne_of_lt (Nat.lt_of_lt_of_le f32.lt zb46)
    refine GoB.via (U' := T44.setTop (mkF m 54 #[.val (.int x0), .val (.int x1), .val (.int x2), .val (.int x3), .val (.int x4), .val (.ref b2), .val (.ref b11), .val (.ref b20), .unset, .unset, .unset, .unset, .unset, .unset] [(.ref b45)])) (fun tG kG => st44 tG kG) ?_
    refine GoB.via (U' := T44.setTop (mkF m 56 #[.val (.int x0), .val (.int x1), .val (.int x2), .val (.int x3), .val (.int x4), .val (.ref b2), .val (.ref b11), .val (.ref b20), .val (.ref b45), .unset, .unset, .unset, .unset, .unset] [])) (fun tG kG => XS.astore X44.here hx rfl (hb hby at_54) rfl rfl (l' := #[.val (.int x0), .val (.int x1), .val (.int x2), .val (.int x3), .val (.int x4), .val (.ref b2), .val (.ref b11), .val (.ref b20), .val (.ref b45), .unset, .unset, .unset, .unset, .unset]) rfl kG) ?_
    refine GoB.via (U' := T44.setTop (mkF m 58 #[.val (.int x0), .val (.int x1), .val (.int x2), .val (.int x3), .val (.int x4), .val (.ref b2), .val (.ref b11), .val (.ref b20), .val (.ref b45), .unset, .unset, .unset, .unset, .unset] [(.ref b45)])) (fun tG kG => XS.aload X44.here hx rfl (hb hby at_56) rfl rfl kG) ?_
    obtain ⟨_, T64, L64, X64, ⟨b65, gb65, zb65, rfl, N64q, K64q, f66, f67⟩, st64⟩ := callVQ X44 hx hZ hown (hw _ (List.mem_of_getElem? (i := 91) rfl)) (hw _ (List.mem_of_getElem? (i := 92) rfl)) (hw _ (List.mem_of_getElem? (i := 94) rfl)) (hw _ (List.mem_of_getElem? (i := 93) rfl)) (hw _ (List.mem_of_getElem? (i := 60) rfl)) (hw _ (List.mem_of_getElem? (i := 95) rfl)) (by decide) (b := b45) (av := []) f47 (own_rm16 l Z a0 hw [] b45 b20 T44.heap n0 Z44 f52) rfl (pc := 58) (Ls := #[.val (.int x0), .val (.int x1), .val (.int x2), .val (.int x3), .val (.int x4), .val (.ref b2), .val (.ref b11), .val (.ref b20), .val (.ref b45), .unset, .unset, .unset, .unset, .unset]) (rest := []) (by rw [hml]; rfl) own_k343 rfl 0 (Nat.le_of_eq rfl) (by decide) (by decide) (by decide) (by decide) (hb hby at_58)
    have f68 := f53.keep K64q
    have f69 := f54.keep K64q
    have f70 := f55.keep K64q nin0
    have f71 := own_staKeep f56 K64q all0
    have f72 := own_staKeep f57 K64q all0
    have f73 := own_staKeep f58 K64q all0
    have f74 := f59.keep K64q
    have f75 := f60.keep K64q
    have f76 := f61.keep K64q
    have f77 := f62.keep K64q nin0
    have f78 := f63.keep K64q nin0
    have f79 := f47.keep K64q
    have f80 := f48.keep K64q
    have f81 := f49.keep K64q nin0
    have f82 := f50.keep K64q nin0
    have f83 := f51.keep K64q nin0
    have f84 := f52.keep K64q nin0
    have N64 := Fr.app N44 N64q
    have Z64 := Nat.le_trans Z44 K64q.1
    have Zk64 := Nat.le_trans Zk44 K64q.1
    have K64 := K44.trans K64q all0
    have sb65 : h0.size ≤ b65 := Nat.le_trans K44.1 zb65
    have ne_b45_b65 : b45 ≠ b65 := Nat.ne_of_lt (Nat.lt_of_lt_of_le f47.lt zb65)
    have ne_a_UNATTRIBUTED_b65 : a_UNATTRIBUTED ≠ b65 := Nat.ne_of_lt (Nat.lt_of_lt_of_le f53.lt zb65)
    have ne_em_b65 : em ≠ b65 := Nat.ne_of_lt (Nat.lt_of_lt_of_le f54.lt zb65)
    have ne_b11_b65 : b11 ≠ b65 := Nat.ne_of_lt (Nat.lt_of_lt_of_le f60.lt zb65)
    have ne_b2_b65 : b2 ≠ b65 := Nat.ne_of_lt (Nat.lt_of_lt_of_le f59.lt zb65)
    have ne_b46_b65 : b46 ≠ b65 := Nat.ne_of_lt (Nat.lt_of_lt_of_le f48.lt zb65)
    have ne_b20_b65 : b20 ≠ b65 := Nat.ne_of_lt (Nat.lt_of_lt_of_le f61.lt zb65)
    refine GoB.via (U' := T64.setTop (mkF m 61 #[.val (.int x0), .val (.int x1), .val (.int x2), .val (.int x3), .val (.int x4), .val (.ref b2), .val (.ref b11), .val (.ref b20), .val (.ref b45), .unset, .unset, .unset, .unset, .unset] [(.ref b65)])) (fun tG kG => st64 tG kG) ?_
    refine GoB.via (U' := T64.setTop (mkF m 62 #[.val (.int x0), .val (.int x1), .val (.int x2), .val (.int x3), .val (.int x4), .val (.ref b2), .val (.ref b11), .val (.ref b20), .val (.ref b45), .unset, .unset, .unset, .unset, .unset] [.null, (.ref b65)])) (fun tG kG => XS.aconstNull X64.here hx rfl (hb hby at_61) kG) ?_
    obtain ⟨T85, X85, e85, st85⟩ := callV0 X64 hx hZ hown (hw _ (List.mem_of_getElem? (i := 109) rfl)) (hw _ (List.mem_of_getElem? (i := 110) rfl)) (hw _ (List.mem_of_getElem? (i := 112) rfl)) (hw _ (List.mem_of_getElem? (i := 111) rfl)) (hw _ (List.mem_of_getElem? (i := 98) rfl)) (hw _ (List.mem_of_getElem? (i := 113) rfl)) (by decide) (b := b65) (av := [.null]) f66 (own_rm19a l Z a0 hw [] b65 b20 T64.heap f67) rfl (pc := 62) (Ls := #[.val (.int x0), .val (.int x1), .val (.int x2), .val (.int x3), .val (.int x4), .val (.ref b2), .val (.ref b11), .val (.ref b20), .val (.ref b45), .unset, .unset, .unset, .unset, .unset]) (rest := []) (by rw [hml]; rfl) own_k344 rfl 0 (Nat.le_of_eq rfl) (by decide) (by decide) (by decide) (by decide) (hb hby at_62)
    refine GoB.via (U' := T85.setTop (mkF m 65 #[.val (.int x0), .val (.int x1), .val (.int x2), .val (.int x3), .val (.int x4), .val (.ref b2), .val (.ref b11), .val (.ref b20), .val (.ref b45), .unset, .unset, .unset, .unset, .unset] [(.ref b20)])) (fun tG kG => st85 tG kG) ?_
    refine GoB.via (U' := T85.setTop (mkF m 67 #[.val (.int x0), .val (.int x1), .val (.int x2), .val (.int x3), .val (.int x4), .val (.ref b2), .val (.ref b11), .val (.ref b20), .val (.ref b45), .val (.ref b20), .unset, .unset, .unset, .unset] [])) (fun tG kG => XS.astore X85.here hx rfl (hb hby at_65) rfl rfl (l' := #[.val (.int x0), .val (.int x1), .val (.int x2), .val (.int x3), .val (.int x4), .val (.ref b2), .val (.ref b11), .val (.ref b20), .val (.ref b45), .val (.ref b20), .unset, .unset, .unset, .unset]) rfl kG) ?_
    refine GoB.via (U' := T85.setTop (mkF m 69 #[.val (.int x0), .val (.int x1), .val (.int x2), .val (.int x3), .val (.int x4), .val (.ref b2), .val (.ref b11), .val (.ref b20), .val (.ref b45), .val (.ref b20), .unset, .unset, .unset, .unset] [(.ref b45)])) (fun tG kG => XS.aload X85.here hx rfl (hb hby at_67) rfl rfl kG) ?_
    obtain ⟨T86, X86, e86, st86⟩ := callV0 X85 hx hZ hown (hw _ (List.mem_of_getElem? (i := 114) rfl)) (hw _ (List.mem_of_getElem? (i := 115) rfl)) (hw _ (List.mem_of_getElem? (i := 117) rfl)) (hw _ (List.mem_of_getElem? (i := 116) rfl)) (hw _ (List.mem_of_getElem? (i := 60) rfl)) (hw _ (List.mem_of_getElem? (i := 118) rfl)) (by decide) (b := b45) (av := []) f79 (own_rm20 l Z a0 hw [] b45 b46 T64.heap f83) e85 (pc := 69) (Ls := #[.val (.int x0), .val (.int x1), .val (.int x2), .val (.int x3), .val (.int x4), .val (.ref b2), .val (.ref b11), .val (.ref b20), .val (.ref b45), .val (.ref b20), .unset, .unset, .unset, .unset]) (rest := []) (by rw [hml]; rfl) own_k345 rfl 0 (Nat.le_of_eq rfl) (by decide) (by decide) (by decide) (by decide) (hb hby at_69)
    refine GoB.via (U' := T86.setTop (mkF m 72 #[.val (.int x0), .val (.int x1), .val (.int x2), .val (.int x3), .val (.int x4), .val (.ref b2), .val (.ref b11), .val (.ref b20), .val (.ref b45), .val (.ref b20), .unset, .unset, .unset, .unset] [(.ref b46)])) (fun tG kG => st86 tG kG) ?_
    refine GoB.via (U' := T86.setTop (mkF m 74 #[.val (.int x0), .val (.int x1), .val (.int x2), .val (.int x3), .val (.int x4), .val (.ref b2), .val (.ref b11), .val (.ref b20), .val (.ref b45), .val (.ref b20), .val (.ref b46), .unset, .unset, .unset] [])) (fun tG kG => XS.astore X86.here hx rfl (hb hby at_72) rfl rfl (l' := #[.val (.int x0), .val (.int x1), .val (.int x2), .val (.int x3), .val (.int x4), .val (.ref b2), .val (.ref b11), .val (.ref b20), .val (.ref b45), .val (.ref b20), .val (.ref b46), .unset, .unset, .unset]) rfl kG) ?_
    refine GoB.via (U' := T86.setTop (mkF m 76 #[.val (.int x0), .val (.int x1), .val (.int x2), .val (.int x3), .val (.int x4), .val (.ref b2), .val (.ref b11), .val (.ref b20), .val (.ref b45), .val (.ref b20), .val (.ref b46), .unset, .unset, .unset] [(.ref b46)])) (fun tG kG => XS.aload X86.here hx rfl (hb hby at_74) rfl rfl kG) ?_
    obtain ⟨_, T87, L87, X87, ⟨b88, gb88, zb88, rfl, N87q, K87q, f89, f90⟩, st87⟩ := callVQ X86 hx hZ hown (hw _ (List.mem_of_getElem? (i := 119) rfl)) (hw _ (List.mem_of_getElem? (i := 120) rfl)) (hw _ (List.mem_of_getElem? (i := 122) rfl)) (hw _ (List.mem_of_getElem? (i := 121) rfl)) (hw _ (List.mem_of_getElem? (i := 71) rfl)) (hw _ (List.mem_of_getElem? (i := 123) rfl)) (by decide) (b := b46) (av := []) f80 (own_rm21 l Z a0 hw [] b46 b2 T64.heap n0 Z64 f81) e86 (pc := 76) (Ls := #[.val (.int x0), .val (.int x1), .val (.int x2), .val (.int x3), .val (.int x4), .val (.ref b2), .val (.ref b11), .val (.ref b20), .val (.ref b45), .val (.ref b20), .val (.ref b46), .unset, .unset, .unset]) (rest := []) (by rw [hml]; rfl) own_k343 rfl 0 (Nat.le_of_eq rfl) (by decide) (by decide) (by decide) (by decide) (hb hby at_76)
    have f91 := f68.keep K87q
    have f92 := f69.keep K87q
    have f93 := f70.keep K87q nin0
    have f94 := own_staKeep f71 K87q all0
    have f95 := own_staKeep f72 K87q all0
    have f96 := own_staKeep f73 K87q all0
    have f97 := f74.keep K87q
    have f98 := f75.keep K87q
    have f99 := f76.keep K87q
    have f100 := f77.keep K87q nin0
    have f101 := f78.keep K87q nin0
    have f102 := f79.keep K87q
    have f103 := f80.keep K87q
    have f104 := f81.keep K87q nin0
    have f105 := f82.keep K87q nin0
    have f106 := f83.keep K87q nin0
    have f107 := f84.keep K87q nin0
    have f108 := f66.keep K87q
    have f109 := f67.keep K87q nin0
    have N87 := Fr.app N64 N87q
    have Z87 := Nat.le_trans Z64 K87q.1
    have Zk87 := Nat.le_trans Zk64 K87q.1
    have K87 := K64.trans K87q all0
    have sb88 : h0.size ≤ b88 := Nat.le_trans K64.1 zb88
    have ne_b45_b88 : b45 ≠ b88 := Nat.ne_of_lt (Nat.lt_of_lt_of_le f79.lt zb88)
    have ne_a_UNATTRIBUTED_b88 : a_UNATTRIBUTED ≠ b88 := Nat.ne_of_lt (Nat.lt_of_lt_of_le f68.lt zb88)
    have ne_em_b88 : em ≠ b88 := Nat.ne_of_lt (Nat.lt_of_lt_of_le f69.lt zb88)
    have ne_b65_b88 : b65 ≠ b88 := Nat.ne_of_lt (Nat.lt_of_lt_of_le f66.lt zb88)
    have ne_b11_b88 : b11 ≠ b88 := Nat.ne_of_lt (Nat.lt_of_lt_of_le f75.lt zb88)
    have ne_b2_b88 : b2 ≠ b88 := Nat.ne_of_lt (Nat.lt_of_lt_of_le f74.lt zb88)
    have ne_b46_b88 : b46 ≠ b88 := Nat.ne_of_lt (Nat.lt_of_lt_of_le f80.lt zb88)
    have ne_b20_b88 : b20 ≠ b88 := Nat.ne_of_lt (Nat.lt_of_lt_of_le f76.lt zb88)
    refine GoB.via (U' := T87.setTop (mkF m 79 #[.val (.int x0), .val (.int x1), .val (.int x2), .val (.int x3), .val (.int x4), .val (.ref b2), .val (.ref b11), .val (.ref b20), .val (.ref b45), .val (.ref b20), .val (.ref b46), .unset, .unset, .unset] [(.ref b88)])) (fun tG kG => st87 tG kG) ?_
    refine GoB.via (U' := T87.setTop (mkF m 80 #[.val (.int x0), .val (.int x1), .val (.int x2), .val (.int x3), .val (.int x4), .val (.ref b2), .val (.ref b11), .val (.ref b20), .val (.ref b45), .val (.ref b20), .val (.ref b46), .unset, .unset, .unset] [.null, (.ref b88)])) (fun tG kG => XS.aconstNull X87.here hx rfl (hb hby at_79) kG) ?_
    obtain ⟨T110, X110, e110, st110⟩ := callV0 X87 hx hZ hown (hw _ (List.mem_of_getElem? (i := 109) rfl)) (hw _ (List.mem_of_getElem? (i := 110) rfl)) (hw _ (List.mem_of_getElem? (i := 112) rfl)) (hw _ (List.mem_of_getElem? (i := 111) rfl)) (hw _ (List.mem_of_getElem? (i := 98) rfl)) (hw _ (List.mem_of_getElem? (i := 113) rfl)) (by decide) (b := b88) (av := [.null]) f89 (own_rm19a l Z a0 hw [] b88 b2 T87.heap f90) rfl (pc := 80) (Ls := #[.val (.int x0), .val (.int x1), .val (.int x2), .val (.int x3), .val (.int x4), .val (.ref b2), .val (.ref b11), .val (.ref b20), .val (.ref b45), .val (.ref b20), .val (.ref b46), .unset, .unset, .unset]) (rest := []) (by rw [hml]; rfl) own_k344 rfl 0 (Nat.le_of_eq rfl) (by decide) (by decide) (by decide) (by decide) (hb hby at_80)
    refine GoB.via (U' := T110.setTop (mkF m 83 #[.val (.int x0), .val (.int x1), .val (.int x2), .val (.int x3), .val (.int x4), .val (.ref b2), .val (.ref b11), .val (.ref b20), .val (.ref b45), .val (.ref b20), .val (.ref b46), .unset, .unset, .unset] [(.ref b2)])) (fun tG kG => st110 tG kG) ?_
    obtain ⟨T111, X111, e111, st111⟩ := castY X110 hx hZ hown (hw _ (List.mem_of_getElem? (i := 4) rfl)) e110 (Ins.self f97) (g := (mkF m 83 #[.val (.int x0), .val (.int x1), .val (.int x2), .val (.int x3), .val (.int x4), .val (.ref b2), .val (.ref b11), .val (.ref b20), .val (.ref b45), .val (.ref b20), .val (.ref b46), .unset, .unset, .unset] [(.ref b2)])) rfl rfl (hb hby at_83)
    refine GoB.via (U' := T111.setTop (mkF m 86 #[.val (.int x0), .val (.int x1), .val (.int x2), .val (.int x3), .val (.int x4), .val (.ref b2), .val (.ref b11), .val (.ref b20), .val (.ref b45), .val (.ref b20), .val (.ref b46), .unset, .unset, .unset] [(.ref b2)])) (fun tG kG => st111 tG kG) ?_
    refine GoB.via (U' := T111.setTop (mkF m 88 #[.val (.int x0), .val (.int x1), .val (.int x2), .val (.int x3), .val (.int x4), .val (.ref b2), .val (.ref b11), .val (.ref b20), .val (.ref b45), .val (.ref b20), .val (.ref b46), .val (.ref b2), .unset, .unset] [])) (fun tG kG => XS.astore X111.here hx rfl (hb hby at_86) rfl rfl (l' := #[.val (.int x0), .val (.int x1), .val (.int x2), .val (.int x3), .val (.int x4), .val (.ref b2), .val (.ref b11), .val (.ref b20), .val (.ref b45), .val (.ref b20), .val (.ref b46), .val (.ref b2), .unset, .unset]) rfl kG) ?_
    refine GoB.via (U' := T111.setTop (mkF m 90 #[.val (.int x0), .val (.int x1), .val (.int x2), .val (.int x3), .val (.int x4), .val (.ref b2), .val (.ref b11), .val (.ref b20), .val (.ref b45), .val (.ref b20), .val (.ref b46), .val (.ref b2), .unset, .unset] [(.ref b46)])) (fun tG kG => XS.aload X111.here hx rfl (hb hby at_88) rfl rfl kG) ?_
    obtain ⟨T112, X112, e112, st112⟩ := callV0 X111 hx hZ hown (hw _ (List.mem_of_getElem? (i := 125) rfl)) (hw _ (List.mem_of_getElem? (i := 126) rfl)) (hw _ (List.mem_of_getElem? (i := 128) rfl)) (hw _ (List.mem_of_getElem? (i := 127) rfl)) (hw _ (List.mem_of_getElem? (i := 71) rfl)) (hw _ (List.mem_of_getElem? (i := 129) rfl)) (by decide) (b := b46) (av := []) f103 (own_rm22 l Z a0 hw [] b46 em T87.heap f105 f96) e111 (pc := 90) (Ls := #[.val (.int x0), .val (.int x1), .val (.int x2), .val (.int x3), .val (.int x4), .val (.ref b2), .val (.ref b11), .val (.ref b20), .val (.ref b45), .val (.ref b20), .val (.ref b46), .val (.ref b2), .unset, .unset]) (rest := []) (by rw [hml]; rfl) own_k343 rfl 0 (Nat.le_of_eq rfl) (by decide) (by decide) (by decide) (by decide) (hb hby at_90)
    refine GoB.via (U' := T112.setTop (mkF m 93 #[.val (.int x0), .val (.int x1), .val (.int x2), .val (.int x3), .val (.int x4), .val (.ref b2), .val (.ref b11), .val (.ref b20), .val (.ref b45), .val (.ref b20), .val (.ref b46), .val (.ref b2), .unset, .unset] [(.ref em)])) (fun tG kG => st112 tG kG) ?_
    refine GoB.via (U' := T112.setTop (mkF m 94 #[.val (.int x0), .val (.int x1), .val (.int x2), .val (.int x3), .val (.int x4), .val (.ref b2), .val (.ref b11), .val (.ref b20), .val (.ref b45), .val (.ref b20), .val (.ref b46), .val (.ref b2), .unset, .unset] [.null, (.ref em)])) (fun tG kG => XS.aconstNull X112.here hx rfl (hb hby at_93) kG) ?_
    obtain ⟨T113, X113, e113, st113⟩ := callV0 X112 hx hZ hown (hw _ (List.mem_of_getElem? (i := 109) rfl)) (hw _ (List.mem_of_getElem? (i := 110) rfl)) (hw _ (List.mem_of_getElem? (i := 112) rfl)) (hw _ (List.mem_of_getElem? (i := 111) rfl)) (hw _ (List.mem_of_getElem? (i := 98) rfl)) (hw _ (List.mem_of_getElem? (i := 113) rfl)) (by decide) (b := em) (av := [.null]) f92 (own_rm19b l Z a0 hw [] em  T87.heap f93) e112 (pc := 94) (Ls := #[.val (.int x0), .val (.int x1), .val (.int x2), .val (.int x3), .val (.int x4), .val (.ref b2), .val (.ref b11), .val (.ref b20), .val (.ref b45), .val (.ref b20), .val (.ref b46), .val (.ref b2), .unset, .unset]) (rest := []) (by rw [hml]; rfl) own_k344 rfl 0 (Nat.le_of_eq rfl) (by decide) (by decide) (by decide) (by decide) (hb hby at_94)
    refine GoB.via (U' := T113.setTop (mkF m 97 #[.val (.int x0), .val (.int x1), .val (.int x2), .val (.int x3), .val (.int x4), .val (.ref b2), .val (.ref b11), .val (.ref b20), .val (.ref b45), .val (.ref b20), .val (.ref b46), .val (.ref b2), .unset, .unset] [.null])) (fun tG kG => st113 tG kG) ?_
    refine GoB.via (U' := T113.setTop (mkF m 99 #[.val (.int x0), .val (.int x1), .val (.int x2), .val (.int x3), .val (.int x4), .val (.ref b2), .val (.ref b11), .val (.ref b20), .val (.ref b45), .val (.ref b20), .val (.ref b46), .val (.ref b2), .val .null, .unset] [])) (fun tG kG => XS.astore X113.here hx rfl (hb hby at_97) rfl rfl (l' := #[.val (.int x0), .val (.int x1), .val (.int x2), .val (.int x3), .val (.int x4), .val (.ref b2), .val (.ref b11), .val (.ref b20), .val (.ref b45), .val (.ref b20), .val (.ref b46), .val (.ref b2), .val .null, .unset]) rfl kG) ?_
    refine GoB.via (U' := T113.setTop (mkF m 101 #[.val (.int x0), .val (.int x1), .val (.int x2), .val (.int x3), .val (.int x4), .val (.ref b2), .val (.ref b11), .val (.ref b20), .val (.ref b45), .val (.ref b20), .val (.ref b46), .val (.ref b2), .val .null, .unset] [(.ref b20)])) (fun tG kG => XS.aload X113.here hx rfl (hb hby at_99) rfl rfl kG) ?_
    obtain ⟨T114, X114, e114, st114⟩ := callV0 X113 hx hZ hown (hw _ (List.mem_of_getElem? (i := 131) rfl)) (hw _ (List.mem_of_getElem? (i := 65) rfl)) (hw _ (List.mem_of_getElem? (i := 67) rfl)) (hw _ (List.mem_of_getElem? (i := 66) rfl)) (hw _ (List.mem_of_getElem? (i := 43) rfl)) (hw _ (List.mem_of_getElem? (i := 68) rfl)) (by decide) (b := b20) (av := []) f99 (own_rm12 l Z a0 hw [] b20 b2 T87.heap f100) e113 (pc := 101) (Ls := #[.val (.int x0), .val (.int x1), .val (.int x2), .val (.int x3), .val (.int x4), .val (.ref b2), .val (.ref b11), .val (.ref b20), .val (.ref b45), .val (.ref b20), .val (.ref b46), .val (.ref b2), .val .null, .unset]) (rest := []) (by rw [hml]; rfl) own_k274 rfl 0 (Nat.le_of_eq rfl) (by decide) (by decide) (by decide) (by decide) (hb hby at_101)
    refine GoB.via (U' := T114.setTop (mkF m 104 #[.val (.int x0), .val (.int x1), .val (.int x2), .val (.int x3), .val (.int x4), .val (.ref b2), .val (.ref b11), .val (.ref b20), .val (.ref b45), .val (.ref b20), .val (.ref b46), .val (.ref b2), .val .null, .unset] [(.ref b2)])) (fun tG kG => st114 tG kG) ?_
    refine GoB.via (U' := T114.setTop (mkF m 106 #[.val (.int x0), .val (.int x1), .val (.int x2), .val (.int x3), .val (.int x4), .val (.ref b2), .val (.ref b11), .val (.ref b20), .val (.ref b45), .val (.ref b20), .val (.ref b46), .val (.ref b2), .val .null, .val (.ref b2)] [])) (fun tG kG => XS.astore X114.here hx rfl (hb hby at_104) rfl rfl (l' := #[.val (.int x0), .val (.int x1), .val (.int x2), .val (.int x3), .val (.int x4), .val (.ref b2), .val (.ref b11), .val (.ref b20), .val (.ref b45), .val (.ref b20), .val (.ref b46), .val (.ref b2), .val .null, .val (.ref b2)]) rfl kG) ?_
    refine GoB.via (U' := T114.setTop (mkF m 108 #[.val (.int x0), .val (.int x1), .val (.int x2), .val (.int x3), .val (.int x4), .val (.ref b2), .val (.ref b11), .val (.ref b20), .val (.ref b45), .val (.ref b20), .val (.ref b46), .val (.ref b2), .val .null, .val (.ref b2)] [(.ref b20)])) (fun tG kG => XS.aload X114.here hx rfl (hb hby at_106) rfl rfl kG) ?_
    refine GoB.via (U' := T114.setTop (mkF m 110 #[.val (.int x0), .val (.int x1), .val (.int x2), .val (.int x3), .val (.int x4), .val (.ref b2), .val (.ref b11), .val (.ref b20), .val (.ref b45), .val (.ref b20), .val (.ref b46), .val (.ref b2), .val .null, .val (.ref b2)] [(.ref b20), (.ref b20)])) (fun tG kG => XS.aload X114.here hx rfl (hb hby at_108) rfl rfl kG) ?_
    refine GoB.via (U' := T114.setTop (mkF m 113 #[.val (.int x0), .val (.int x1), .val (.int x2), .val (.int x3), .val (.int x4), .val (.ref b2), .val (.ref b11), .val (.ref b20), .val (.ref b45), .val (.ref b20), .val (.ref b46), .val (.ref b2), .val .null, .val (.ref b2)] [])) (fun tG kG => Jvm.RoadKit.acmp (g := (mkF m 110 #[.val (.int x0), .val (.int x1), .val (.int x2), .val (.int x3), .val (.int x4), .val (.ref b2), .val (.ref b11), .val (.ref b20), .val (.ref b45), .val (.ref b20), .val (.ref b46), .val (.ref b2), .val .null, .val (.ref b2)] [(.ref b20), (.ref b20)])) X114 hx rfl rfl rfl (pc0 := 110) (pc' := 113) (same := true) rfl (hb hby at_110) rfl (decide_eq_true rfl) (by decide) (by decide) kG) ?_
    refine GoB.via (U' := T114.setTop (mkF m 115 #[.val (.int x0), .val (.int x1), .val (.int x2), .val (.int x3), .val (.int x4), .val (.ref b2), .val (.ref b11), .val (.ref b20), .val (.ref b45), .val (.ref b20), .val (.ref b46), .val (.ref b2), .val .null, .val (.ref b2)] [(.ref b2)])) (fun tG kG => XS.aload X114.here hx rfl (hb hby at_113) rfl rfl kG) ?_
    refine GoB.via (U' := T114.setTop (mkF m 118 #[.val (.int x0), .val (.int x1), .val (.int x2), .val (.int x3), .val (.int x4), .val (.ref b2), .val (.ref b11), .val (.ref b20), .val (.ref b45), .val (.ref b20), .val (.ref b46), .val (.ref b2), .val .null, .val (.ref b2)] [])) (fun tG kG => XS.ifnullNo X114.here hx rfl (hb hby at_115) rfl kG) ?_
    refine GoB.via (U' := T114.setTop (mkF m 120 #[.val (.int x0), .val (.int x1), .val (.int x2), .val (.int x3), .val (.int x4), .val (.ref b2), .val (.ref b11), .val (.ref b20), .val (.ref b45), .val (.ref b20), .val (.ref b46), .val (.ref b2), .val .null, .val (.ref b2)] [(.ref b2)])) (fun tG kG => XS.aload X114.here hx rfl (hb hby at_118) rfl rfl kG) ?_
    refine GoB.via (U' := T114.setTop (mkF m 122 #[.val (.int x0), .val (.int x1), .val (.int x2), .val (.int x3), .val (.int x4), .val (.ref b2), .val (.ref b11), .val (.ref b20), .val (.ref b45), .val (.ref b20), .val (.ref b46), .val (.ref b2), .val .null, .val (.ref b2)] [(.ref b2), (.ref b2)])) (fun tG kG => XS.aload X114.here hx rfl (hb hby at_120) rfl rfl kG) ?_
    obtain ⟨T115, X115, e115, st115⟩ := callV0 X114 hx hZ hown (hw _ (List.mem_of_getElem? (i := 132) rfl)) (hw _ (List.mem_of_getElem? (i := 133) rfl)) (hw _ (List.mem_of_getElem? (i := 135) rfl)) (hw _ (List.mem_of_getElem? (i := 134) rfl)) (hw _ (List.mem_of_getElem? (i := 6) rfl)) (hw _ (List.mem_of_getElem? (i := 136) rfl)) (by decide) (b := b2) (av := [(.ref b2)]) f97 (own_rm23 l Z a0 hw [] b2  T87.heap ) e114 (pc := 122) (Ls := #[.val (.int x0), .val (.int x1), .val (.int x2), .val (.int x3), .val (.int x4), .val (.ref b2), .val (.ref b11), .val (.ref b20), .val (.ref b45), .val (.ref b20), .val (.ref b46), .val (.ref b2), .val .null, .val (.ref b2)]) (rest := []) (by rw [hml]; rfl) own_k346 rfl 0 (Nat.le_of_eq rfl) (by decide) (by decide) (by decide) (by decide) (hb hby at_122)
    refine GoB.via (U' := T115.setTop (mkF m 125 #[.val (.int x0), .val (.int x1), .val (.int x2), .val (.int x3), .val (.int x4), .val (.ref b2), .val (.ref b11), .val (.ref b20), .val (.ref b45), .val (.ref b20), .val (.ref b46), .val (.ref b2), .val .null, .val (.ref b2)] [(.int (1 : Int32))])) (fun tG kG => st115 tG kG) ?_
    have hc125_116 : ¬ ((1 : Int32) = (0 : Int32)) := by decide
    refine GoB.via (U' := T115.setTop (mkF m 128 #[.val (.int x0), .val (.int x1), .val (.int x2), .val (.int x3), .val (.int x4), .val (.ref b2), .val (.ref b11), .val (.ref b20), .val (.ref b45), .val (.ref b20), .val (.ref b46), .val (.ref b2), .val .null, .val (.ref b2)] [])) (fun tG kG => XS.ifNo X115.here hx rfl (hb hby at_125) rfl ((if0 _ _).trans (feq hc125_116).1) kG) ?_
    refine GoB.via (U' := T115.setTop (mkF m 130 #[.val (.int x0), .val (.int x1), .val (.int x2), .val (.int x3), .val (.int x4), .val (.ref b2), .val (.ref b11), .val (.ref b20), .val (.ref b45), .val (.ref b20), .val (.ref b46), .val (.ref b2), .val .null, .val (.ref b2)] [.null])) (fun tG kG => XS.aload X115.here hx rfl (hb hby at_128) rfl rfl kG) ?_
    refine GoB.via (U' := T115.setTop (mkF m 133 #[.val (.int x0), .val (.int x1), .val (.int x2), .val (.int x3), .val (.int x4), .val (.ref b2), .val (.ref b11), .val (.ref b20), .val (.ref b45), .val (.ref b20), .val (.ref b46), .val (.ref b2), .val .null, .val (.ref b2)] [])) (fun tG kG => XS.ifnonnullNo X115.here hx rfl (hb hby at_130) rfl kG) ?_
    refine GoB.via (U' := T115.setTop (mkF m 135 #[.val (.int x0), .val (.int x1), .val (.int x2), .val (.int x3), .val (.int x4), .val (.ref b2), .val (.ref b11), .val (.ref b20), .val (.ref b45), .val (.ref b20), .val (.ref b46), .val (.ref b2), .val .null, .val (.ref b2)] [(.ref b46)])) (fun tG kG => XS.aload X115.here hx rfl (hb hby at_133) rfl rfl kG) ?_
    obtain ⟨T117, X117, e117, st117⟩ := getS2 X115 hx hZ hown (host := "") (Or.inl (hw _ (List.mem_of_getElem? (i := 137) rfl))) Via.refl e115 f95 (g := (mkF m 135 #[.val (.int x0), .val (.int x1), .val (.int x2), .val (.int x3), .val (.int x4), .val (.ref b2), .val (.ref b11), .val (.ref b20), .val (.ref b45), .val (.ref b20), .val (.ref b46), .val (.ref b2), .val .null, .val (.ref b2)] [(.ref b46)])) rfl (hb hby at_135)
    refine GoB.via (U' := T117.setTop (mkF m 138 #[.val (.int x0), .val (.int x1), .val (.int x2), .val (.int x3), .val (.int x4), .val (.ref b2), .val (.ref b11), .val (.ref b20), .val (.ref b45), .val (.ref b20), .val (.ref b46), .val (.ref b2), .val .null, .val (.ref b2)] [(.ref a_UNATTRIBUTED), (.ref b46)])) (fun tG kG => st117 tG kG) ?_
    refine GoB.via (U' := T117.setTop (mkF m 141 #[.val (.int x0), .val (.int x1), .val (.int x2), .val (.int x3), .val (.int x4), .val (.ref b2), .val (.ref b11), .val (.ref b20), .val (.ref b45), .val (.ref b20), .val (.ref b46), .val (.ref b2), .val .null, .val (.ref b2)] [])) (fun tG kG => Jvm.RoadKit.acmp (g := (mkF m 138 #[.val (.int x0), .val (.int x1), .val (.int x2), .val (.int x3), .val (.int x4), .val (.ref b2), .val (.ref b11), .val (.ref b20), .val (.ref b45), .val (.ref b20), .val (.ref b46), .val (.ref b2), .val .null, .val (.ref b2)] [(.ref a_UNATTRIBUTED), (.ref b46)])) X117 hx rfl rfl rfl (pc0 := 138) (pc' := 141) (same := false) rfl (hb hby at_138) rfl (decide_eq_false fun q => (Ne.symm ne_a_UNATTRIBUTED_b46) (Value.ref.inj q)) (by decide) (by decide) kG) ?_
    refine GoB.via (U' := T117.setTop (mkF m 143 #[.val (.int x0), .val (.int x1), .val (.int x2), .val (.int x3), .val (.int x4), .val (.ref b2), .val (.ref b11), .val (.ref b20), .val (.ref b45), .val (.ref b20), .val (.ref b46), .val (.ref b2), .val .null, .val (.ref b2)] [(.ref b2)])) (fun tG kG => XS.aload X117.here hx rfl (hb hby at_141) rfl rfl kG) ?_
    refine GoB.via (U' := T117.setTop (mkF m 145 #[.val (.int x0), .val (.int x1), .val (.int x2), .val (.int x3), .val (.int x4), .val (.ref b2), .val (.ref b11), .val (.ref b20), .val (.ref b45), .val (.ref b20), .val (.ref b46), .val (.ref b2), .val .null, .val (.ref b2)] [(.ref b2), (.ref b2)])) (fun tG kG => XS.aload X117.here hx rfl (hb hby at_143) rfl rfl kG) ?_
    refine GoB.via (U' := T117.setTop (mkF m 148 #[.val (.int x0), .val (.int x1), .val (.int x2), .val (.int x3), .val (.int x4), .val (.ref b2), .val (.ref b11), .val (.ref b20), .val (.ref b45), .val (.ref b20), .val (.ref b46), .val (.ref b2), .val .null, .val (.ref b2)] [])) (fun tG kG => Jvm.RoadKit.acmp (g := (mkF m 145 #[.val (.int x0), .val (.int x1), .val (.int x2), .val (.int x3), .val (.int x4), .val (.ref b2), .val (.ref b11), .val (.ref b20), .val (.ref b45), .val (.ref b20), .val (.ref b46), .val (.ref b2), .val .null, .val (.ref b2)] [(.ref b2), (.ref b2)])) X117 hx rfl rfl rfl (pc0 := 145) (pc' := 148) (same := true) rfl (hb hby at_145) rfl (decide_eq_true rfl) (by decide) (by decide) kG) ?_
    refine GoB.via (U' := T117.setTop (mkF m 149 #[.val (.int x0), .val (.int x1), .val (.int x2), .val (.int x3), .val (.int x4), .val (.ref b2), .val (.ref b11), .val (.ref b20), .val (.ref b45), .val (.ref b20), .val (.ref b46), .val (.ref b2), .val .null, .val (.ref b2)] [(.int (1 : Int32))])) (fun tG kG => XS.iconst X117.here hx rfl (hb hby at_148) kG) ?_
    refine GoB.via (U' := T117.setTop (mkF m 153 #[.val (.int x0), .val (.int x1), .val (.int x2), .val (.int x3), .val (.int x4), .val (.ref b2), .val (.ref b11), .val (.ref b20), .val (.ref b45), .val (.ref b20), .val (.ref b46), .val (.ref b2), .val .null, .val (.ref b2)] [(.int (1 : Int32))])) (fun tG kG => XS.goto X117.here hx rfl (pc0 := 149) (pc' := 153) rfl (hb hby at_149) (by decide) (by decide) kG) ?_
    refine GoB.ofGo ?_
    exact go_retN X117 hx hlk (t := .boolean) hret (by simp) (hb hby at_153) e117 ⟨⟨(congrArg (fun z => some (Value.int z)) (show nar .boolean (1 : Int32) = (1 : Int32) from rfl)), N87, K87⟩, Zk87⟩ (by decide) (by decide)
  · refine GoB.via (U' := T1.setTop (mkF m 18 #[.val (.int x0), .val (.int x1), .val (.int x2), .val (.int x3), .val (.int x4), .val (.ref b2), .unset, .unset, .unset, .unset, .unset, .unset, .unset, .unset] [])) (fun tG kG => XS.ifNo X1.here hx rfl (hb hby at_15) rfl ((if0 _ _).trans (feq hc15).1) kG) ?_
    refine GoB.via (U' := T1.setTop (mkF m 19 #[.val (.int x0), .val (.int x1), .val (.int x2), .val (.int x3), .val (.int x4), .val (.ref b2), .unset, .unset, .unset, .unset, .unset, .unset, .unset, .unset] [.null])) (fun tG kG => XS.aconstNull X1.here hx rfl (hb hby at_18) kG) ?_
    refine GoB.via (U' := T1.setTop (mkF m 34 #[.val (.int x0), .val (.int x1), .val (.int x2), .val (.int x3), .val (.int x4), .val (.ref b2), .unset, .unset, .unset, .unset, .unset, .unset, .unset, .unset] [.null])) (fun tG kG => XS.goto X1.here hx rfl (pc0 := 19) (pc' := 34) rfl (hb hby at_19) (by decide) (by decide) kG) ?_
    refine GoB.via (U' := T1.setTop (mkF m 36 #[.val (.int x0), .val (.int x1), .val (.int x2), .val (.int x3), .val (.int x4), .val (.ref b2), .val .null, .unset, .unset, .unset, .unset, .unset, .unset, .unset] [])) (fun tG kG => XS.astore X1.here hx rfl (hb hby at_34) rfl rfl (l' := #[.val (.int x0), .val (.int x1), .val (.int x2), .val (.int x3), .val (.int x4), .val (.ref b2), .val .null, .unset, .unset, .unset, .unset, .unset, .unset, .unset]) rfl kG) ?_
    obtain ⟨T118, h118, X118, e118, E118, A118, D118, -, st118⟩ := newO X1 hx hZ hown (hw _ (List.mem_of_getElem? (i := 41) rfl)) (hw _ (List.mem_of_getElem? (i := 42) rfl)) (hw _ (List.mem_of_getElem? (i := 43) rfl)) rfl (g := (mkF m 36 #[.val (.int x0), .val (.int x1), .val (.int x2), .val (.int x3), .val (.int x4), .val (.ref b2), .val .null, .unset, .unset, .unset, .unset, .unset, .unset, .unset] [])) rfl (hb hby at_36) (by decide) (by decide)
    obtain ⟨b118, g118⟩ : ∃ z, z = T1.heap.size := ⟨_, rfl⟩
    rw [← g118] at A118 D118 st118
    have g_b118 : n0 ≤ b118 := Nat.le_trans Z1 (Nat.le_of_eq g118.symm)
    have sz_b118 : h0.size ≤ b118 := Nat.le_trans K1.1 (Nat.le_of_eq g118.symm)
    have ne_a_UNATTRIBUTED_b118 : a_UNATTRIBUTED ≠ b118 := Nat.ne_of_lt (Nat.lt_of_lt_of_le f4.lt (Nat.le_of_eq g118.symm))
    have ne_b2_b118 : b2 ≠ b118 := Nat.ne_of_lt (Nat.lt_of_lt_of_le f3.lt (Nat.le_of_eq g118.symm))
    have ne_em_b118 : em ≠ b118 := Nat.ne_of_lt (Nat.lt_of_lt_of_le f5.lt (Nat.le_of_eq g118.symm))
    have f119 := f4.ext E118
    have f120 := f5.ext E118
    have f121 := f6.ext E118
    have f122 := f7.ext E118
    have f123 := f8.ext E118
    have f124 := f9.ext E118
    have f125 := f3.ext E118
    have K118 := K1.ext E118
    have Z118 := Nat.le_trans Z1 E118.1
    have Zk118 := Nat.le_trans (Nat.le_refl _) E118.1
    have f126 : Fld Z h118 b118 "com/example/orgwarden/orgwarden/server/oidc/Operator" "m_sSubject" "Ljava/lang/String;" .null := D118 (Or.inr (hw _ (List.mem_of_getElem? (i := 55) rfl))) (ty := (.object "java/lang/String")) (by decide)
    have f127 : Fld Z h118 b118 "com/example/orgwarden/orgwarden/server/oidc/Operator" "m_sName" "Ljava/lang/String;" .null := D118 (Or.inr (hw _ (List.mem_of_getElem? (i := 57) rfl))) (ty := (.object "java/lang/String")) (by decide)
    refine GoB.via (U' := T118.setTop (mkF m 39 #[.val (.int x0), .val (.int x1), .val (.int x2), .val (.int x3), .val (.int x4), .val (.ref b2), .val .null, .unset, .unset, .unset, .unset, .unset, .unset, .unset] [(.ref b118)])) (fun tG kG => st118 tG kG) ?_
    refine GoB.via (U' := T118.setTop (mkF m 40 #[.val (.int x0), .val (.int x1), .val (.int x2), .val (.int x3), .val (.int x4), .val (.ref b2), .val .null, .unset, .unset, .unset, .unset, .unset, .unset, .unset] [(.ref b118), (.ref b118)])) (fun tG kG => XS.dup X118.here hx rfl (hb hby at_39) rfl rfl kG) ?_
    refine GoB.via (U' := T118.setTop (mkF m 42 #[.val (.int x0), .val (.int x1), .val (.int x2), .val (.int x3), .val (.int x4), .val (.ref b2), .val .null, .unset, .unset, .unset, .unset, .unset, .unset, .unset] [(.ref b2), (.ref b118), (.ref b118)])) (fun tG kG => XS.aload X118.here hx rfl (hb hby at_40) rfl rfl kG) ?_
    refine GoB.via (U' := T118.setTop (mkF m 44 #[.val (.int x0), .val (.int x1), .val (.int x2), .val (.int x3), .val (.int x4), .val (.ref b2), .val .null, .unset, .unset, .unset, .unset, .unset, .unset, .unset] [.null, (.ref b2), (.ref b118), (.ref b118)])) (fun tG kG => XS.aload X118.here hx rfl (hb hby at_42) rfl rfl kG) ?_
    obtain ⟨_, s, T128, L128, X128, ⟨hZ, hown, reb128⟩, ⟨rfl, N128q, K128q, f129, f130, f131⟩, st128⟩ := callIB X118 hx hZ rfl hown (hw _ (List.mem_of_getElem? (i := 44) rfl)) (hw _ (List.mem_of_getElem? (i := 45) rfl)) (hw _ (List.mem_of_getElem? (i := 43) rfl)) (hw _ (List.mem_of_getElem? (i := 46) rfl)) (by decide) (b := b118) (I := false) (fun q => nomatch q) (av := [(.ref b2), .null]) (own_rm9b l Z a0 hw [] b118 b2  h118 n0 Z118 A118 f126 f127 f125 g_b118) e118 (pc := 44) (Ls := #[.val (.int x0), .val (.int x1), .val (.int x2), .val (.int x3), .val (.int x4), .val (.ref b2), .val .null, .unset, .unset, .unset, .unset, .unset, .unset, .unset]) (rest := [(.ref b118)]) (by rw [hml]; rfl) own_k341 rfl 1 (Nat.le_of_eq rfl) (by decide) (by decide) (by decide) (by decide) (hb hby at_44)
    have f132 := f119.keep K128q
    have f133 := f120.keep K128q
    have f134 := f121.keep K128q (ninS ne_em_b118 nin0)
    have f135 := own_staKeep f122 K128q ((allS (own_plainE A118) all0))
    have f136 := own_staKeep f123 K128q ((allS (own_plainE A118) all0))
    have f137 := own_staKeep f124 K128q ((allS (own_plainE A118) all0))
    have f138 := f125.keep K128q
    have f139 := A118.keep K128q
    have N128 := Fr.app N1 N128q
    have Z128 := Nat.le_trans Z118 K128q.1
    have Zk128 := Nat.le_trans Zk118 K128q.1
    have K128 := K118.trans K128q (allS (Or.inr sz_b118) all0)
    refine GoB.via (U' := T128.setTop (mkF m 47 #[.val (.int x0), .val (.int x1), .val (.int x2), .val (.int x3), .val (.int x4), .val (.ref b2), .val .null, .unset, .unset, .unset, .unset, .unset, .unset, .unset] [(.ref b118)])) (fun tG kG => st128 tG kG) ?_
    refine reb128 _ _ _ _ _ Zk128 ?_
    refine GoB.via (U' := T128.setTop (mkF m 49 #[.val (.int x0), .val (.int x1), .val (.int x2), .val (.int x3), .val (.int x4), .val (.ref b2), .val .null, .val (.ref b118), .unset, .unset, .unset, .unset, .unset, .unset] [])) (fun tG kG => XS.astore X128.here hx rfl (hb hby at_47) rfl rfl (l' := #[.val (.int x0), .val (.int x1), .val (.int x2), .val (.int x3), .val (.int x4), .val (.ref b2), .val .null, .val (.ref b118), .unset, .unset, .unset, .unset, .unset, .unset]) rfl kG) ?_
    refine GoB.via (U' := T128.setTop (mkF m 51 #[.val (.int x0), .val (.int x1), .val (.int x2), .val (.int x3), .val (.int x4), .val (.ref b2), .val .null, .val (.ref b118), .unset, .unset, .unset, .unset, .unset, .unset] [(.ref b118)])) (fun tG kG => XS.aload X128.here hx rfl (hb hby at_49) rfl rfl kG) ?_
    obtain ⟨_, T140, L140, X140, ⟨b141, gb141, zb141, b142, gb142, zb142, rfl, N140q, K140q, f143, f144, f145, f146, f147, f148, ne_b141_b142⟩, st140⟩ := callSQ X128 hx hZ hown (hw _ (List.mem_of_getElem? (i := 58) rfl)) (hw _ (List.mem_of_getElem? (i := 59) rfl)) (hw _ (List.mem_of_getElem? (i := 60) rfl)) (hw _ (List.mem_of_getElem? (i := 61) rfl)) (by decide) (av := [(.ref b118)]) (own_rm11 l Z a0 hw [] b118 b2 T128.heap n0 Z128 f129 f130) rfl (pc := 51) (Ls := #[.val (.int x0), .val (.int x1), .val (.int x2), .val (.int x3), .val (.int x4), .val (.ref b2), .val .null, .val (.ref b118), .unset, .unset, .unset, .unset, .unset, .unset]) (rest := []) (by rw [hml]; rfl) own_k342 rfl 0 (Nat.le_of_eq rfl) (by decide) (by decide) (by decide) (by decide) (hb hby at_51)
    have f149 := f132.keep K140q
    have f150 := f133.keep K140q
    have f151 := f134.keep K140q nin0
    have f152 := own_staKeep f135 K140q all0
    have f153 := own_staKeep f136 K140q all0
    have f154 := own_staKeep f137 K140q all0
    have f155 := f138.keep K140q
    have f156 := f129.keep K140q
    have f157 := f130.keep K140q nin0
    have f158 := f131.keep K140q nin0
    have N140 := Fr.app N128 N140q
    have Z140 := Nat.le_trans Z128 K140q.1
    have Zk140 := Nat.le_trans (Nat.le_refl _) K140q.1
    have K140 := K128.trans K140q all0
    have sb141 : h0.size ≤ b141 := Nat.le_trans K128.1 zb141
    have ne_b118_b141 : b118 ≠ b141 := Nat.ne_of_lt (Nat.lt_of_lt_of_le f129.lt zb141)
    have ne_b2_b141 : b2 ≠ b141 := Nat.ne_of_lt (Nat.lt_of_lt_of_le f138.lt zb141)
    have ne_a_UNATTRIBUTED_b141 : a_UNATTRIBUTED ≠ b141 := Nat.ne_of_lt (Nat.lt_of_lt_of_le f132.lt zb141)
    have ne_em_b141 : em ≠ b141 := Nat.ne_of_lt (Nat.lt_of_lt_of_le f133.lt zb141)
    have sb142 : h0.size ≤ b142 := Nat.le_trans K128.1 zb142
    have ne_b118_b142 : b118 ≠ b142 := Nat.ne_of_lt (Nat.lt_of_lt_of_le f129.lt zb142)
    have ne_b2_b142 : b2 ≠ b142 := Nat.ne_of_lt (Nat.lt_of_lt_of_le f138.lt zb142)
    have ne_a_UNATTRIBUTED_b142 : a_UNATTRIBUTED ≠ b142 := Nat.ne_of_lt (Nat.lt_of_lt_of_le f132.lt zb142)
    have ne_em_b142 : em ≠ b142 := Nat.ne_of_lt (Nat.lt_of_lt_of_le f133.lt zb142)
    refine GoB.via (U' := T140.setTop (mkF m 54 #[.val (.int x0), .val (.int x1), .val (.int x2), .val (.int x3), .val (.int x4), .val (.ref b2), .val .null, .val (.ref b118), .unset, .unset, .unset, .unset, .unset, .unset] [(.ref b141)])) (fun tG kG => st140 tG kG) ?_
    refine GoB.via (U' := T140.setTop (mkF m 56 #[.val (.int x0), .val (.int x1), .val (.int x2), .val (.int x3), .val (.int x4), .val (.ref b2), .val .null, .val (.ref b118), .val (.ref b141), .unset, .unset, .unset, .unset, .unset] [])) (fun tG kG => XS.astore X140.here hx rfl (hb hby at_54) rfl rfl (l' := #[.val (.int x0), .val (.int x1), .val (.int x2), .val (.int x3), .val (.int x4), .val (.ref b2), .val .null, .val (.ref b118), .val (.ref b141), .unset, .unset, .unset, .unset, .unset]) rfl kG) ?_
    refine GoB.via (U' := T140.setTop (mkF m 58 #[.val (.int x0), .val (.int x1), .val (.int x2), .val (.int x3), .val (.int x4), .val (.ref b2), .val .null, .val (.ref b118), .val (.ref b141), .unset, .unset, .unset, .unset, .unset] [(.ref b141)])) (fun tG kG => XS.aload X140.here hx rfl (hb hby at_56) rfl rfl kG) ?_
    obtain ⟨_, T159, L159, X159, ⟨b160, gb160, zb160, rfl, N159q, K159q, f161, f162⟩, st159⟩ := callVQ X140 hx hZ hown (hw _ (List.mem_of_getElem? (i := 91) rfl)) (hw _ (List.mem_of_getElem? (i := 92) rfl)) (hw _ (List.mem_of_getElem? (i := 94) rfl)) (hw _ (List.mem_of_getElem? (i := 93) rfl)) (hw _ (List.mem_of_getElem? (i := 60) rfl)) (hw _ (List.mem_of_getElem? (i := 95) rfl)) (by decide) (b := b141) (av := []) f143 (own_rm16 l Z a0 hw [] b141 b118 T140.heap n0 Z140 f148) rfl (pc := 58) (Ls := #[.val (.int x0), .val (.int x1), .val (.int x2), .val (.int x3), .val (.int x4), .val (.ref b2), .val .null, .val (.ref b118), .val (.ref b141), .unset, .unset, .unset, .unset, .unset]) (rest := []) (by rw [hml]; rfl) own_k343 rfl 0 (Nat.le_of_eq rfl) (by decide) (by decide) (by decide) (by decide) (hb hby at_58)
    have f163 := f149.keep K159q
    have f164 := f150.keep K159q
    have f165 := f151.keep K159q nin0
    have f166 := own_staKeep f152 K159q all0
    have f167 := own_staKeep f153 K159q all0
    have f168 := own_staKeep f154 K159q all0
    have f169 := f155.keep K159q
    have f170 := f156.keep K159q
    have f171 := f157.keep K159q nin0
    have f172 := f158.keep K159q nin0
    have f173 := f143.keep K159q
    have f174 := f144.keep K159q
    have f175 := f145.keep K159q nin0
    have f176 := f146.keep K159q nin0
    have f177 := f147.keep K159q nin0
    have f178 := f148.keep K159q nin0
    have N159 := Fr.app N140 N159q
    have Z159 := Nat.le_trans Z140 K159q.1
    have Zk159 := Nat.le_trans Zk140 K159q.1
    have K159 := K140.trans K159q all0
    have sb160 : h0.size ≤ b160 := Nat.le_trans K140.1 zb160
    have ne_a_UNATTRIBUTED_b160 : a_UNATTRIBUTED ≠ b160 := Nat.ne_of_lt (Nat.lt_of_lt_of_le f149.lt zb160)
    have ne_em_b160 : em ≠ b160 := Nat.ne_of_lt (Nat.lt_of_lt_of_le f150.lt zb160)
    have ne_b118_b160 : b118 ≠ b160 := Nat.ne_of_lt (Nat.lt_of_lt_of_le f156.lt zb160)
    have ne_b2_b160 : b2 ≠ b160 := Nat.ne_of_lt (Nat.lt_of_lt_of_le f155.lt zb160)
    have ne_b142_b160 : b142 ≠ b160 := Nat.ne_of_lt (Nat.lt_of_lt_of_le f144.lt zb160)
    have ne_b141_b160 : b141 ≠ b160 := Nat.ne_of_lt (Nat.lt_of_lt_of_le f143.lt zb160)
    refine GoB.via (U' := T159.setTop (mkF m 61 #[.val (.int x0), .val (.int x1), .val (.int x2), .val (.int x3), .val (.int x4), .val (.ref b2), .val .null, .val (.ref b118), .val (.ref b141), .unset, .unset, .unset, .unset, .unset] [(.ref b160)])) (fun tG kG => st159 tG kG) ?_
    refine GoB.via (U' := T159.setTop (mkF m 62 #[.val (.int x0), .val (.int x1), .val (.int x2), .val (.int x3), .val (.int x4), .val (.ref b2), .val .null, .val (.ref b118), .val (.ref b141), .unset, .unset, .unset, .unset, .unset] [.null, (.ref b160)])) (fun tG kG => XS.aconstNull X159.here hx rfl (hb hby at_61) kG) ?_
    obtain ⟨T179, X179, e179, st179⟩ := callV0 X159 hx hZ hown (hw _ (List.mem_of_getElem? (i := 109) rfl)) (hw _ (List.mem_of_getElem? (i := 110) rfl)) (hw _ (List.mem_of_getElem? (i := 112) rfl)) (hw _ (List.mem_of_getElem? (i := 111) rfl)) (hw _ (List.mem_of_getElem? (i := 98) rfl)) (hw _ (List.mem_of_getElem? (i := 113) rfl)) (by decide) (b := b160) (av := [.null]) f161 (own_rm19a l Z a0 hw [] b160 b118 T159.heap f162) rfl (pc := 62) (Ls := #[.val (.int x0), .val (.int x1), .val (.int x2), .val (.int x3), .val (.int x4), .val (.ref b2), .val .null, .val (.ref b118), .val (.ref b141), .unset, .unset, .unset, .unset, .unset]) (rest := []) (by rw [hml]; rfl) own_k344 rfl 0 (Nat.le_of_eq rfl) (by decide) (by decide) (by decide) (by decide) (hb hby at_62)
    refine GoB.via (U' := T179.setTop (mkF m 65 #[.val (.int x0), .val (.int x1), .val (.int x2), .val (.int x3), .val (.int x4), .val (.ref b2), .val .null, .val (.ref b118), .val (.ref b141), .unset, .unset, .unset, .unset, .unset] [(.ref b118)])) (fun tG kG => st179 tG kG) ?_
    refine GoB.via (U' := T179.setTop (mkF m 67 #[.val (.int x0), .val (.int x1), .val (.int x2), .val (.int x3), .val (.int x4), .val (.ref b2), .val .null, .val (.ref b118), .val (.ref b141), .val (.ref b118), .unset, .unset, .unset, .unset] [])) (fun tG kG => XS.astore X179.here hx rfl (hb hby at_65) rfl rfl (l' := #[.val (.int x0), .val (.int x1), .val (.int x2), .val (.int x3), .val (.int x4), .val (.ref b2), .val .null, .val (.ref b118), .val (.ref b141), .val (.ref b118), .unset, .unset, .unset, .unset]) rfl kG) ?_
    refine GoB.via (U' := T179.setTop (mkF m 69 #[.val (.int x0), .val (.int x1), .val (.int x2), .val (.int x3), .val (.int x4), .val (.ref b2), .val .null, .val (.ref b118), .val (.ref b141), .val (.ref b118), .unset, .unset, .unset, .unset] [(.ref b141)])) (fun tG kG => XS.aload X179.here hx rfl (hb hby at_67) rfl rfl kG) ?_
    obtain ⟨T180, X180, e180, st180⟩ := callV0 X179 hx hZ hown (hw _ (List.mem_of_getElem? (i := 114) rfl)) (hw _ (List.mem_of_getElem? (i := 115) rfl)) (hw _ (List.mem_of_getElem? (i := 117) rfl)) (hw _ (List.mem_of_getElem? (i := 116) rfl)) (hw _ (List.mem_of_getElem? (i := 60) rfl)) (hw _ (List.mem_of_getElem? (i := 118) rfl)) (by decide) (b := b141) (av := []) f173 (own_rm20 l Z a0 hw [] b141 b142 T159.heap f177) e179 (pc := 69) (Ls := #[.val (.int x0), .val (.int x1), .val (.int x2), .val (.int x3), .val (.int x4), .val (.ref b2), .val .null, .val (.ref b118), .val (.ref b141), .val (.ref b118), .unset, .unset, .unset, .unset]) (rest := []) (by rw [hml]; rfl) own_k345 rfl 0 (Nat.le_of_eq rfl) (by decide) (by decide) (by decide) (by decide) (hb hby at_69)
    refine GoB.via (U' := T180.setTop (mkF m 72 #[.val (.int x0), .val (.int x1), .val (.int x2), .val (.int x3), .val (.int x4), .val (.ref b2), .val .null, .val (.ref b118), .val (.ref b141), .val (.ref b118), .unset, .unset, .unset, .unset] [(.ref b142)])) (fun tG kG => st180 tG kG) ?_
    refine GoB.via (U' := T180.setTop (mkF m 74 #[.val (.int x0), .val (.int x1), .val (.int x2), .val (.int x3), .val (.int x4), .val (.ref b2), .val .null, .val (.ref b118), .val (.ref b141), .val (.ref b118), .val (.ref b142), .unset, .unset, .unset] [])) (fun tG kG => XS.astore X180.here hx rfl (hb hby at_72) rfl rfl (l' := #[.val (.int x0), .val (.int x1), .val (.int x2), .val (.int x3), .val (.int x4), .val (.ref b2), .val .null, .val (.ref b118), .val (.ref b141), .val (.ref b118), .val (.ref b142), .unset, .unset, .unset]) rfl kG) ?_
    refine GoB.via (U' := T180.setTop (mkF m 76 #[.val (.int x0), .val (.int x1), .val (.int x2), .val (.int x3), .val (.int x4), .val (.ref b2), .val .null, .val (.ref b118), .val (.ref b141), .val (.ref b118), .val (.ref b142), .unset, .unset, .unset] [(.ref b142)])) (fun tG kG => XS.aload X180.here hx rfl (hb hby at_74) rfl rfl kG) ?_
    obtain ⟨_, T181, L181, X181, ⟨b182, gb182, zb182, rfl, N181q, K181q, f183, f184⟩, st181⟩ := callVQ X180 hx hZ hown (hw _ (List.mem_of_getElem? (i := 119) rfl)) (hw _ (List.mem_of_getElem? (i := 120) rfl)) (hw _ (List.mem_of_getElem? (i := 122) rfl)) (hw _ (List.mem_of_getElem? (i := 121) rfl)) (hw _ (List.mem_of_getElem? (i := 71) rfl)) (hw _ (List.mem_of_getElem? (i := 123) rfl)) (by decide) (b := b142) (av := []) f174 (own_rm21 l Z a0 hw [] b142 b2 T159.heap n0 Z159 f175) e180 (pc := 76) (Ls := #[.val (.int x0), .val (.int x1), .val (.int x2), .val (.int x3), .val (.int x4), .val (.ref b2), .val .null, .val (.ref b118), .val (.ref b141), .val (.ref b118), .val (.ref b142), .unset, .unset, .unset]) (rest := []) (by rw [hml]; rfl) own_k343 rfl 0 (Nat.le_of_eq rfl) (by decide) (by decide) (by decide) (by decide) (hb hby at_76)
    have f185 := f163.keep K181q
    have f186 := f164.keep K181q
    have f187 := f165.keep K181q nin0
    have f188 := own_staKeep f166 K181q all0
    have f189 := own_staKeep f167 K181q all0
    have f190 := own_staKeep f168 K181q all0
    have f191 := f169.keep K181q
    have f192 := f170.keep K181q
    have f193 := f171.keep K181q nin0
    have f194 := f172.keep K181q nin0
    have f195 := f173.keep K181q
    have f196 := f174.keep K181q
    have f197 := f175.keep K181q nin0
    have f198 := f176.keep K181q nin0
    have f199 := f177.keep K181q nin0
    have f200 := f178.keep K181q nin0
    have f201 := f161.keep K181q
    have f202 := f162.keep K181q nin0
    have N181 := Fr.app N159 N181q
    have Z181 := Nat.le_trans Z159 K181q.1
    have Zk181 := Nat.le_trans Zk159 K181q.1
    have K181 := K159.trans K181q all0
    have sb182 : h0.size ≤ b182 := Nat.le_trans K159.1 zb182
    have ne_a_UNATTRIBUTED_b182 : a_UNATTRIBUTED ≠ b182 := Nat.ne_of_lt (Nat.lt_of_lt_of_le f163.lt zb182)
    have ne_em_b182 : em ≠ b182 := Nat.ne_of_lt (Nat.lt_of_lt_of_le f164.lt zb182)
    have ne_b118_b182 : b118 ≠ b182 := Nat.ne_of_lt (Nat.lt_of_lt_of_le f170.lt zb182)
    have ne_b160_b182 : b160 ≠ b182 := Nat.ne_of_lt (Nat.lt_of_lt_of_le f161.lt zb182)
    have ne_b2_b182 : b2 ≠ b182 := Nat.ne_of_lt (Nat.lt_of_lt_of_le f169.lt zb182)
    have ne_b142_b182 : b142 ≠ b182 := Nat.ne_of_lt (Nat.lt_of_lt_of_le f174.lt zb182)
    have ne_b141_b182 : b141 ≠ b182 := Nat.ne_of_lt (Nat.lt_of_lt_of_le f173.lt zb182)
    refine GoB.via (U' := T181.setTop (mkF m 79 #[.val (.int x0), .val (.int x1), .val (.int x2), .val (.int x3), .val (.int x4), .val (.ref b2), .val .null, .val (.ref b118), .val (.ref b141), .val (.ref b118), .val (.ref b142), .unset, .unset, .unset] [(.ref b182)])) (fun tG kG => st181 tG kG) ?_
    refine GoB.via (U' := T181.setTop (mkF m 80 #[.val (.int x0), .val (.int x1), .val (.int x2), .val (.int x3), .val (.int x4), .val (.ref b2), .val .null, .val (.ref b118), .val (.ref b141), .val (.ref b118), .val (.ref b142), .unset, .unset, .unset] [.null, (.ref b182)])) (fun tG kG => XS.aconstNull X181.here hx rfl (hb hby at_79) kG) ?_
    obtain ⟨T203, X203, e203, st203⟩ := callV0 X181 hx hZ hown (hw _ (List.mem_of_getElem? (i := 109) rfl)) (hw _ (List.mem_of_getElem? (i := 110) rfl)) (hw _ (List.mem_of_getElem? (i := 112) rfl)) (hw _ (List.mem_of_getElem? (i := 111) rfl)) (hw _ (List.mem_of_getElem? (i := 98) rfl)) (hw _ (List.mem_of_getElem? (i := 113) rfl)) (by decide) (b := b182) (av := [.null]) f183 (own_rm19a l Z a0 hw [] b182 b2 T181.heap f184) rfl (pc := 80) (Ls := #[.val (.int x0), .val (.int x1), .val (.int x2), .val (.int x3), .val (.int x4), .val (.ref b2), .val .null, .val (.ref b118), .val (.ref b141), .val (.ref b118), .val (.ref b142), .unset, .unset, .unset]) (rest := []) (by rw [hml]; rfl) own_k344 rfl 0 (Nat.le_of_eq rfl) (by decide) (by decide) (by decide) (by decide) (hb hby at_80)
    refine GoB.via (U' := T203.setTop (mkF m 83 #[.val (.int x0), .val (.int x1), .val (.int x2), .val (.int x3), .val (.int x4), .val (.ref b2), .val .null, .val (.ref b118), .val (.ref b141), .val (.ref b118), .val (.ref b142), .unset, .unset, .unset] [(.ref b2)])) (fun tG kG => st203 tG kG) ?_
    obtain ⟨T204, X204, e204, st204⟩ := castY X203 hx hZ hown (hw _ (List.mem_of_getElem? (i := 4) rfl)) e203 (Ins.self f191) (g := (mkF m 83 #[.val (.int x0), .val (.int x1), .val (.int x2), .val (.int x3), .val (.int x4), .val (.ref b2), .val .null, .val (.ref b118), .val (.ref b141), .val (.ref b118), .val (.ref b142), .unset, .unset, .unset] [(.ref b2)])) rfl rfl (hb hby at_83)
    refine GoB.via (U' := T204.setTop (mkF m 86 #[.val (.int x0), .val (.int x1), .val (.int x2), .val (.int x3), .val (.int x4), .val (.ref b2), .val .null, .val (.ref b118), .val (.ref b141), .val (.ref b118), .val (.ref b142), .unset, .unset, .unset] [(.ref b2)])) (fun tG kG => st204 tG kG) ?_
    refine GoB.via (U' := T204.setTop (mkF m 88 #[.val (.int x0), .val (.int x1), .val (.int x2), .val (.int x3), .val (.int x4), .val (.ref b2), .val .null, .val (.ref b118), .val (.ref b141), .val (.ref b118), .val (.ref b142), .val (.ref b2), .unset, .unset] [])) (fun tG kG => XS.astore X204.here hx rfl (hb hby at_86) rfl rfl (l' := #[.val (.int x0), .val (.int x1), .val (.int x2), .val (.int x3), .val (.int x4), .val (.ref b2), .val .null, .val (.ref b118), .val (.ref b141), .val (.ref b118), .val (.ref b142), .val (.ref b2), .unset, .unset]) rfl kG) ?_
    refine GoB.via (U' := T204.setTop (mkF m 90 #[.val (.int x0), .val (.int x1), .val (.int x2), .val (.int x3), .val (.int x4), .val (.ref b2), .val .null, .val (.ref b118), .val (.ref b141), .val (.ref b118), .val (.ref b142), .val (.ref b2), .unset, .unset] [(.ref b142)])) (fun tG kG => XS.aload X204.here hx rfl (hb hby at_88) rfl rfl kG) ?_
    obtain ⟨T205, X205, e205, st205⟩ := callV0 X204 hx hZ hown (hw _ (List.mem_of_getElem? (i := 125) rfl)) (hw _ (List.mem_of_getElem? (i := 126) rfl)) (hw _ (List.mem_of_getElem? (i := 128) rfl)) (hw _ (List.mem_of_getElem? (i := 127) rfl)) (hw _ (List.mem_of_getElem? (i := 71) rfl)) (hw _ (List.mem_of_getElem? (i := 129) rfl)) (by decide) (b := b142) (av := []) f196 (own_rm22 l Z a0 hw [] b142 em T181.heap f198 f190) e204 (pc := 90) (Ls := #[.val (.int x0), .val (.int x1), .val (.int x2), .val (.int x3), .val (.int x4), .val (.ref b2), .val .null, .val (.ref b118), .val (.ref b141), .val (.ref b118), .val (.ref b142), .val (.ref b2), .unset, .unset]) (rest := []) (by rw [hml]; rfl) own_k343 rfl 0 (Nat.le_of_eq rfl) (by decide) (by decide) (by decide) (by decide) (hb hby at_90)
    refine GoB.via (U' := T205.setTop (mkF m 93 #[.val (.int x0), .val (.int x1), .val (.int x2), .val (.int x3), .val (.int x4), .val (.ref b2), .val .null, .val (.ref b118), .val (.ref b141), .val (.ref b118), .val (.ref b142), .val (.ref b2), .unset, .unset] [(.ref em)])) (fun tG kG => st205 tG kG) ?_
    refine GoB.via (U' := T205.setTop (mkF m 94 #[.val (.int x0), .val (.int x1), .val (.int x2), .val (.int x3), .val (.int x4), .val (.ref b2), .val .null, .val (.ref b118), .val (.ref b141), .val (.ref b118), .val (.ref b142), .val (.ref b2), .unset, .unset] [.null, (.ref em)])) (fun tG kG => XS.aconstNull X205.here hx rfl (hb hby at_93) kG) ?_
    obtain ⟨T206, X206, e206, st206⟩ := callV0 X205 hx hZ hown (hw _ (List.mem_of_getElem? (i := 109) rfl)) (hw _ (List.mem_of_getElem? (i := 110) rfl)) (hw _ (List.mem_of_getElem? (i := 112) rfl)) (hw _ (List.mem_of_getElem? (i := 111) rfl)) (hw _ (List.mem_of_getElem? (i := 98) rfl)) (hw _ (List.mem_of_getElem? (i := 113) rfl)) (by decide) (b := em) (av := [.null]) f186 (own_rm19b l Z a0 hw [] em  T181.heap f187) e205 (pc := 94) (Ls := #[.val (.int x0), .val (.int x1), .val (.int x2), .val (.int x3), .val (.int x4), .val (.ref b2), .val .null, .val (.ref b118), .val (.ref b141), .val (.ref b118), .val (.ref b142), .val (.ref b2), .unset, .unset]) (rest := []) (by rw [hml]; rfl) own_k344 rfl 0 (Nat.le_of_eq rfl) (by decide) (by decide) (by decide) (by decide) (hb hby at_94)
    refine GoB.via (U' := T206.setTop (mkF m 97 #[.val (.int x0), .val (.int x1), .val (.int x2), .val (.int x3), .val (.int x4), .val (.ref b2), .val .null, .val (.ref b118), .val (.ref b141), .val (.ref b118), .val (.ref b142), .val (.ref b2), .unset, .unset] [.null])) (fun tG kG => st206 tG kG) ?_
    refine GoB.via (U' := T206.setTop (mkF m 99 #[.val (.int x0), .val (.int x1), .val (.int x2), .val (.int x3), .val (.int x4), .val (.ref b2), .val .null, .val (.ref b118), .val (.ref b141), .val (.ref b118), .val (.ref b142), .val (.ref b2), .val .null, .unset] [])) (fun tG kG => XS.astore X206.here hx rfl (hb hby at_97) rfl rfl (l' := #[.val (.int x0), .val (.int x1), .val (.int x2), .val (.int x3), .val (.int x4), .val (.ref b2), .val .null, .val (.ref b118), .val (.ref b141), .val (.ref b118), .val (.ref b142), .val (.ref b2), .val .null, .unset]) rfl kG) ?_
    refine GoB.via (U' := T206.setTop (mkF m 101 #[.val (.int x0), .val (.int x1), .val (.int x2), .val (.int x3), .val (.int x4), .val (.ref b2), .val .null, .val (.ref b118), .val (.ref b141), .val (.ref b118), .val (.ref b142), .val (.ref b2), .val .null, .unset] [(.ref b118)])) (fun tG kG => XS.aload X206.here hx rfl (hb hby at_99) rfl rfl kG) ?_
    obtain ⟨T207, X207, e207, st207⟩ := callV0 X206 hx hZ hown (hw _ (List.mem_of_getElem? (i := 131) rfl)) (hw _ (List.mem_of_getElem? (i := 65) rfl)) (hw _ (List.mem_of_getElem? (i := 67) rfl)) (hw _ (List.mem_of_getElem? (i := 66) rfl)) (hw _ (List.mem_of_getElem? (i := 43) rfl)) (hw _ (List.mem_of_getElem? (i := 68) rfl)) (by decide) (b := b118) (av := []) f192 (own_rm12 l Z a0 hw [] b118 b2 T181.heap f193) e206 (pc := 101) (Ls := #[.val (.int x0), .val (.int x1), .val (.int x2), .val (.int x3), .val (.int x4), .val (.ref b2), .val .null, .val (.ref b118), .val (.ref b141), .val (.ref b118), .val (.ref b142), .val (.ref b2), .val .null, .unset]) (rest := []) (by rw [hml]; rfl) own_k274 rfl 0 (Nat.le_of_eq rfl) (by decide) (by decide) (by decide) (by decide) (hb hby at_101)
    refine GoB.via (U' := T207.setTop (mkF m 104 #[.val (.int x0), .val (.int x1), .val (.int x2), .val (.int x3), .val (.int x4), .val (.ref b2), .val .null, .val (.ref b118), .val (.ref b141), .val (.ref b118), .val (.ref b142), .val (.ref b2), .val .null, .unset] [(.ref b2)])) (fun tG kG => st207 tG kG) ?_
    refine GoB.via (U' := T207.setTop (mkF m 106 #[.val (.int x0), .val (.int x1), .val (.int x2), .val (.int x3), .val (.int x4), .val (.ref b2), .val .null, .val (.ref b118), .val (.ref b141), .val (.ref b118), .val (.ref b142), .val (.ref b2), .val .null, .val (.ref b2)] [])) (fun tG kG => XS.astore X207.here hx rfl (hb hby at_104) rfl rfl (l' := #[.val (.int x0), .val (.int x1), .val (.int x2), .val (.int x3), .val (.int x4), .val (.ref b2), .val .null, .val (.ref b118), .val (.ref b141), .val (.ref b118), .val (.ref b142), .val (.ref b2), .val .null, .val (.ref b2)]) rfl kG) ?_
    refine GoB.via (U' := T207.setTop (mkF m 108 #[.val (.int x0), .val (.int x1), .val (.int x2), .val (.int x3), .val (.int x4), .val (.ref b2), .val .null, .val (.ref b118), .val (.ref b141), .val (.ref b118), .val (.ref b142), .val (.ref b2), .val .null, .val (.ref b2)] [(.ref b118)])) (fun tG kG => XS.aload X207.here hx rfl (hb hby at_106) rfl rfl kG) ?_
    refine GoB.via (U' := T207.setTop (mkF m 110 #[.val (.int x0), .val (.int x1), .val (.int x2), .val (.int x3), .val (.int x4), .val (.ref b2), .val .null, .val (.ref b118), .val (.ref b141), .val (.ref b118), .val (.ref b142), .val (.ref b2), .val .null, .val (.ref b2)] [(.ref b118), (.ref b118)])) (fun tG kG => XS.aload X207.here hx rfl (hb hby at_108) rfl rfl kG) ?_
    refine GoB.via (U' := T207.setTop (mkF m 113 #[.val (.int x0), .val (.int x1), .val (.int x2), .val (.int x3), .val (.int x4), .val (.ref b2), .val .null, .val (.ref b118), .val (.ref b141), .val (.ref b118), .val (.ref b142), .val (.ref b2), .val .null, .val (.ref b2)] [])) (fun tG kG => Jvm.RoadKit.acmp (g := (mkF m 110 #[.val (.int x0), .val (.int x1), .val (.int x2), .val (.int x3), .val (.int x4), .val (.ref b2), .val .null, .val (.ref b118), .val (.ref b141), .val (.ref b118), .val (.ref b142), .val (.ref b2), .val .null, .val (.ref b2)] [(.ref b118), (.ref b118)])) X207 hx rfl rfl rfl (pc0 := 110) (pc' := 113) (same := true) rfl (hb hby at_110) rfl (decide_eq_true rfl) (by decide) (by decide) kG) ?_
    refine GoB.via (U' := T207.setTop (mkF m 115 #[.val (.int x0), .val (.int x1), .val (.int x2), .val (.int x3), .val (.int x4), .val (.ref b2), .val .null, .val (.ref b118), .val (.ref b141), .val (.ref b118), .val (.ref b142), .val (.ref b2), .val .null, .val (.ref b2)] [(.ref b2)])) (fun tG kG => XS.aload X207.here hx rfl (hb hby at_113) rfl rfl kG) ?_
    refine GoB.via (U' := T207.setTop (mkF m 118 #[.val (.int x0), .val (.int x1), .val (.int x2), .val (.int x3), .val (.int x4), .val (.ref b2), .val .null, .val (.ref b118), .val (.ref b141), .val (.ref b118), .val (.ref b142), .val (.ref b2), .val .null, .val (.ref b2)] [])) (fun tG kG => XS.ifnullNo X207.here hx rfl (hb hby at_115) rfl kG) ?_
    refine GoB.via (U' := T207.setTop (mkF m 120 #[.val (.int x0), .val (.int x1), .val (.int x2), .val (.int x3), .val (.int x4), .val (.ref b2), .val .null, .val (.ref b118), .val (.ref b141), .val (.ref b118), .val (.ref b142), .val (.ref b2), .val .null, .val (.ref b2)] [(.ref b2)])) (fun tG kG => XS.aload X207.here hx rfl (hb hby at_118) rfl rfl kG) ?_
    refine GoB.via (U' := T207.setTop (mkF m 122 #[.val (.int x0), .val (.int x1), .val (.int x2), .val (.int x3), .val (.int x4), .val (.ref b2), .val .null, .val (.ref b118), .val (.ref b141), .val (.ref b118), .val (.ref b142), .val (.ref b2), .val .null, .val (.ref b2)] [(.ref b2), (.ref b2)])) (fun tG kG => XS.aload X207.here hx rfl (hb hby at_120) rfl rfl kG) ?_
    obtain ⟨T208, X208, e208, st208⟩ := callV0 X207 hx hZ hown (hw _ (List.mem_of_getElem? (i := 132) rfl)) (hw _ (List.mem_of_getElem? (i := 133) rfl)) (hw _ (List.mem_of_getElem? (i := 135) rfl)) (hw _ (List.mem_of_getElem? (i := 134) rfl)) (hw _ (List.mem_of_getElem? (i := 6) rfl)) (hw _ (List.mem_of_getElem? (i := 136) rfl)) (by decide) (b := b2) (av := [(.ref b2)]) f191 (own_rm23 l Z a0 hw [] b2  T181.heap ) e207 (pc := 122) (Ls := #[.val (.int x0), .val (.int x1), .val (.int x2), .val (.int x3), .val (.int x4), .val (.ref b2), .val .null, .val (.ref b118), .val (.ref b141), .val (.ref b118), .val (.ref b142), .val (.ref b2), .val .null, .val (.ref b2)]) (rest := []) (by rw [hml]; rfl) own_k346 rfl 0 (Nat.le_of_eq rfl) (by decide) (by decide) (by decide) (by decide) (hb hby at_122)
    refine GoB.via (U' := T208.setTop (mkF m 125 #[.val (.int x0), .val (.int x1), .val (.int x2), .val (.int x3), .val (.int x4), .val (.ref b2), .val .null, .val (.ref b118), .val (.ref b141), .val (.ref b118), .val (.ref b142), .val (.ref b2), .val .null, .val (.ref b2)] [(.int (1 : Int32))])) (fun tG kG => st208 tG kG) ?_
    have hc125_209 : ¬ ((1 : Int32) = (0 : Int32)) := by decide
    refine GoB.via (U' := T208.setTop (mkF m 128 #[.val (.int x0), .val (.int x1), .val (.int x2), .val (.int x3), .val (.int x4), .val (.ref b2), .val .null, .val (.ref b118), .val (.ref b141), .val (.ref b118), .val (.ref b142), .val (.ref b2), .val .null, .val (.ref b2)] [])) (fun tG kG => XS.ifNo X208.here hx rfl (hb hby at_125) rfl ((if0 _ _).trans (feq hc125_209).1) kG) ?_
    refine GoB.via (U' := T208.setTop (mkF m 130 #[.val (.int x0), .val (.int x1), .val (.int x2), .val (.int x3), .val (.int x4), .val (.ref b2), .val .null, .val (.ref b118), .val (.ref b141), .val (.ref b118), .val (.ref b142), .val (.ref b2), .val .null, .val (.ref b2)] [.null])) (fun tG kG => XS.aload X208.here hx rfl (hb hby at_128) rfl rfl kG) ?_
    refine GoB.via (U' := T208.setTop (mkF m 133 #[.val (.int x0), .val (.int x1), .val (.int x2), .val (.int x3), .val (.int x4), .val (.ref b2), .val .null, .val (.ref b118), .val (.ref b141), .val (.ref b118), .val (.ref b142), .val (.ref b2), .val .null, .val (.ref b2)] [])) (fun tG kG => XS.ifnonnullNo X208.here hx rfl (hb hby at_130) rfl kG) ?_
    refine GoB.via (U' := T208.setTop (mkF m 135 #[.val (.int x0), .val (.int x1), .val (.int x2), .val (.int x3), .val (.int x4), .val (.ref b2), .val .null, .val (.ref b118), .val (.ref b141), .val (.ref b118), .val (.ref b142), .val (.ref b2), .val .null, .val (.ref b2)] [(.ref b142)])) (fun tG kG => XS.aload X208.here hx rfl (hb hby at_133) rfl rfl kG) ?_
    obtain ⟨T210, X210, e210, st210⟩ := getS2 X208 hx hZ hown (host := "") (Or.inl (hw _ (List.mem_of_getElem? (i := 137) rfl))) Via.refl e208 f189 (g := (mkF m 135 #[.val (.int x0), .val (.int x1), .val (.int x2), .val (.int x3), .val (.int x4), .val (.ref b2), .val .null, .val (.ref b118), .val (.ref b141), .val (.ref b118), .val (.ref b142), .val (.ref b2), .val .null, .val (.ref b2)] [(.ref b142)])) rfl (hb hby at_135)
    refine GoB.via (U' := T210.setTop (mkF m 138 #[.val (.int x0), .val (.int x1), .val (.int x2), .val (.int x3), .val (.int x4), .val (.ref b2), .val .null, .val (.ref b118), .val (.ref b141), .val (.ref b118), .val (.ref b142), .val (.ref b2), .val .null, .val (.ref b2)] [(.ref a_UNATTRIBUTED), (.ref b142)])) (fun tG kG => st210 tG kG) ?_
    refine GoB.via (U' := T210.setTop (mkF m 141 #[.val (.int x0), .val (.int x1), .val (.int x2), .val (.int x3), .val (.int x4), .val (.ref b2), .val .null, .val (.ref b118), .val (.ref b141), .val (.ref b118), .val (.ref b142), .val (.ref b2), .val .null, .val (.ref b2)] [])) (fun tG kG => Jvm.RoadKit.acmp (g := (mkF m 138 #[.val (.int x0), .val (.int x1), .val (.int x2), .val (.int x3), .val (.int x4), .val (.ref b2), .val .null, .val (.ref b118), .val (.ref b141), .val (.ref b118), .val (.ref b142), .val (.ref b2), .val .null, .val (.ref b2)] [(.ref a_UNATTRIBUTED), (.ref b142)])) X210 hx rfl rfl rfl (pc0 := 138) (pc' := 141) (same := false) rfl (hb hby at_138) rfl (decide_eq_false fun q => (Ne.symm ne_a_UNATTRIBUTED_b142) (Value.ref.inj q)) (by decide) (by decide) kG) ?_
    refine GoB.via (U' := T210.setTop (mkF m 143 #[.val (.int x0), .val (.int x1), .val (.int x2), .val (.int x3), .val (.int x4), .val (.ref b2), .val .null, .val (.ref b118), .val (.ref b141), .val (.ref b118), .val (.ref b142), .val (.ref b2), .val .null, .val (.ref b2)] [(.ref b2)])) (fun tG kG => XS.aload X210.here hx rfl (hb hby at_141) rfl rfl kG) ?_
    refine GoB.via (U' := T210.setTop (mkF m 145 #[.val (.int x0), .val (.int x1), .val (.int x2), .val (.int x3), .val (.int x4), .val (.ref b2), .val .null, .val (.ref b118), .val (.ref b141), .val (.ref b118), .val (.ref b142), .val (.ref b2), .val .null, .val (.ref b2)] [(.ref b2), (.ref b2)])) (fun tG kG => XS.aload X210.here hx rfl (hb hby at_143) rfl rfl kG) ?_
    refine GoB.via (U' := T210.setTop (mkF m 148 #[.val (.int x0), .val (.int x1), .val (.int x2), .val (.int x3), .val (.int x4), .val (.ref b2), .val .null, .val (.ref b118), .val (.ref b141), .val (.ref b118), .val (.ref b142), .val (.ref b2), .val .null, .val (.ref b2)] [])) (fun tG kG => Jvm.RoadKit.acmp (g := (mkF m 145 #[.val (.int x0), .val (.int x1), .val (.int x2), .val (.int x3), .val (.int x4), .val (.ref b2), .val .null, .val (.ref b118), .val (.ref b141), .val (.ref b118), .val (.ref b142), .val (.ref b2), .val .null, .val (.ref b2)] [(.ref b2), (.ref b2)])) X210 hx rfl rfl rfl (pc0 := 145) (pc' := 148) (same := true) rfl (hb hby at_145) rfl (decide_eq_true rfl) (by decide) (by decide) kG) ?_
    refine GoB.via (U' := T210.setTop (mkF m 149 #[.val (.int x0), .val (.int x1), .val (.int x2), .val (.int x3), .val (.int x4), .val (.ref b2), .val .null, .val (.ref b118), .val (.ref b141), .val (.ref b118), .val (.ref b142), .val (.ref b2), .val .null, .val (.ref b2)] [(.int (1 : Int32))])) (fun tG kG => XS.iconst X210.here hx rfl (hb hby at_148) kG) ?_
    refine GoB.via (U' := T210.setTop (mkF m 153 #[.val (.int x0), .val (.int x1), .val (.int x2), .val (.int x3), .val (.int x4), .val (.ref b2), .val .null, .val (.ref b118), .val (.ref b141), .val (.ref b118), .val (.ref b142), .val (.ref b2), .val .null, .val (.ref b2)] [(.int (1 : Int32))])) (fun tG kG => XS.goto X210.here hx rfl (pc0 := 149) (pc' := 153) rfl (hb hby at_149) (by decide) (by decide) kG) ?_
    refine GoB.ofGo ?_
    exact go_retN X210 hx hlk (t := .boolean) hret (by simp) (hb hby at_153) e210 ⟨⟨(congrArg (fun z => some (Value.int z)) (show nar .boolean (1 : Int32) = (1 : Int32) from rfl)), N181, K181⟩, Zk181⟩ (by decide) (by decide)
set_option maxRecDepth 65536 in
set_option maxHeartbeats 40000000 in
theorem own_comes {Post : Tables → Env → Array Value → State → Outcome → State → Prop} (hpost : ∀ tb e args s v u, (limb_1_1.after args s (.returned v) u = true ∧ limb_1_2.after args s (.returned v) u = true) → ReturnedEndW s (.returned v) u (Jvm.fieldLocs frame_1_writes args s ++ Jvm.arrayLocs frame_1_arrays args s ++ Jvm.staticLocs frame_1_statics s) 32 2176 → Post tb e args s (.returned v) u) :
    ArmFor flags0 classFile x code maxLocals ret World_1 tables_1 room_1 Calls_1 rest_1 Pre_1 Post := by
  intro l hfl _ _ p e ha hc hk s m args below hf hA hF happ hP
  obtain ⟨hcalls, hrest, hpre⟩ := hP
  obtain ⟨-, -, -, hnamed, -, -, -, hat⟩ := (Spec.applies_iff hf).mp happ
  obtain ⟨hg, hn⟩ := and_e (Cond.before_iff.mp (show (Jvm.Cond.and given_1 narrow_1).before args s = true from hpre))
  obtain ⟨hcnt, hg⟩ := and_e hg
  obtain ⟨w0, w1, w2, w3, w4, rfl⟩ : ∃ w0 w1 w2 w3 w4 : Value, args = #[w0, w1, w2, w3, w4] := by
    have hs : args.size = 5 := by simpa [Cond.value, given_1] using hcnt
    obtain ⟨L⟩ := args
    match L, hs with
    | [w0, w1, w2, w3, w4], _ => exact ⟨w0, w1, w2, w3, w4, rfl⟩
  have hw := fun d (hd : d ∈ tables_1) => atoms_spec (ws := Jvm.Cond.code x code maxLocals ret :: tables_1) hat d (List.mem_cons_of_mem _ hd)
  have hfit : Fit s := fun {y c} hc i hi => by
    obtain ⟨ha, rfl⟩ := Array.getElem?_eq_some_iff.mp hc
    have q := List.all_eq_true.mp ((Array.all_eq_true_iff_forall_mem.mp hF) _ (Array.getElem_mem ha)) i (List.mem_range.mpr hi)
    simpa [Array.getElem?_eq_getElem hi] using q
  obtain ⟨hsets, hown0⟩ := atoms_of _ (rest_1_c_eq ▸ (show rest_1_c.before _ s = true from hrest))
  have hr0 := Cond.before_iff.mp hown0
  obtain ⟨hg0, hg⟩ := and_e hg
  obtain ⟨i0, ei0⟩ := is_v hg0
  obtain rfl : w0 = (.int i0) := Option.some.inj ei0
  obtain ⟨hg1, hg⟩ := and_e hg
  obtain ⟨i1, ei1⟩ := is_v hg1
  obtain rfl : w1 = (.int i1) := Option.some.inj ei1
  obtain ⟨hg2, hg⟩ := and_e hg
  obtain ⟨i2, ei2⟩ := is_v hg2
  obtain rfl : w2 = (.int i2) := Option.some.inj ei2
  obtain ⟨hg3, hg⟩ := and_e hg
  obtain ⟨i3, ei3⟩ := is_v hg3
  obtain rfl : w3 = (.int i3) := Option.some.inj ei3
  obtain ⟨i4, ei4⟩ := is_v hg
  obtain rfl : w4 = (.int i4) := Option.some.inj ei4
  obtain ⟨a_UNATTRIBUTED, ev_UNATTRIBUTED⟩ := exa_v hn
  have E_UNATTRIBUTED := Exa.start ev_UNATTRIBUTED hn
  have S_UNATTRIBUTED := Sta.start ev_UNATTRIBUTED (Or.inr ⟨(hw _ (List.mem_of_getElem? (i := 71) rfl)), (hw _ (List.mem_of_getElem? (i := 138) rfl))⟩)
  obtain ⟨cz, ecz⟩ := is_v (Cond.before_iff.mp (hsets _ (List.mem_of_getElem? (i := 1) rfl)))
  have S_cz := Sta.start ecz (Or.inl (hsets _ (List.mem_of_getElem? (i := 0) rfl)))
  have hcz : ¬ (cz = (0 : Int32)) := gotF (Cond.eq_ints ecz (Term.int_eval 0)) (not_v (Cond.before_iff.mp (hsets _ (List.mem_of_getElem? (i := 2) rfl))))
  obtain ⟨a_EM, ev_EM⟩ := exa_v (Cond.before_iff.mp (hsets _ (List.mem_of_getElem? (i := 11) rfl)))
  have E_EM := Exa.start ev_EM (Cond.before_iff.mp (hsets _ (List.mem_of_getElem? (i := 11) rfl)))
  have S_EM := Sta.start ev_EM (Or.inl (hsets _ (List.mem_of_getElem? (i := 10) rfl)))
  have F_EM := Fld.start ((fld_at ev_EM).symm.trans (null_v (Cond.before_iff.mp (hsets _ (List.mem_of_getElem? (i := 12) rfl)))))
  have hh : Jvm.Lit.constHeld s "java/lang/String" 7 := hcalls.1 ("java/lang/String", 7) (by simp [consts_1])
  obtain ⟨n, o, h1, h2, h3, _, L, rfl, ⟨rfl, N, -⟩, hq⟩ := own_rm0 l s _ hw tables_1 i0 i1 i2 i3 i4 cz a_UNATTRIBUTED a_EM s.heap s.heap.size (Nat.le_refl _) E_UNATTRIBUTED E_EM F_EM S_cz S_UNATTRIBUTED S_EM hcz hh (hsets _ (List.mem_of_getElem? (i := 2) rfl)) (fun _ _ q => q) p e ha hc hk s m _ below hf ((Spec.applies_iff_loose hf).mp happ).1 ⟨rfl, State.Warmed39.refl s, rfl, fun _ => rfl⟩ trivial
  refine ⟨n, _, h1, h2, h3, hpost _ _ _ _ _ _ ⟨Cond.after_iff.mpr rfl, Cond.after_iff.mpr (eq_i res_at (Term.int_eval (1)) rfl)⟩ ⟨hq.1, hq.2.1, hq.2.2.1, (hq.2.2.2.sift fun y hy => Or.inr (N y hy)).mono (by decide) (by decide)⟩⟩
theorem main_1_1 : Claimed_1_1 := own_comes fun _ _ _ _ _ _ h hF => ⟨h.1, hF⟩
theorem main_1_2 : Claimed_1_2 := own_comes fun _ _ _ _ _ _ h hF => ⟨h.2, hF⟩
end Jvm.Pilot.@@N@@
namespace Jvm.Pilot.@@N@@
open Jvm Jvm.ClassFile Sem Op Lib Jvm.Free Jvm.Stand Jvm.Pilot.@@N@@.Jvm.D
/-! MADE BY PROGRAM (witnessworld.py) out of the Statement's table words and the real class files: 24 classes; the members and pool entries that the words name. The judged class is class 1, her method 2. -/
namespace start1
open Jvm.ClassFile
def u (s : String) : CpInfo := .utf8 (stringToUtf16 s)
/-- a pool by its gaps: so many unusable entries, then the entry; so many at the end -/
def gap : Nat → List CpInfo → List CpInfo
  | 0, r => r
  | n + 1, r => .unusable :: gap n r
def poolList (es : List (Nat × CpInfo)) (last : Nat) : List CpInfo := es.foldr (fun e r => gap e.1 (e.2 :: r)) (gap last [])
def pool (es : List (Nat × CpInfo)) (last : Nat) : Array CpInfo := ⟨poolList es last⟩
def fileOf (pool : Array CpInfo) (this : Nat) (attrs : Array Attribute := #[]) (ms : Array MethodInfo := #[]) (fl : Nat := 33) (sup : Nat := 0) (ifs : Array Nat := #[]) (fds : Array FieldInfo := #[]) : ClassFile where
  minorVersion := 0
  majorVersion := 65
  constantPool := pool
  accessFlags := fl
  thisClass := this
  superClass := sup
  interfaces := ifs
  fields := fds
  methods := ms
  attributes := attrs
def plain (name : String) (sup : Option ClassId) : Class where
  name := name
  kind := .ordinary
  loader := none
  accessFlags := 33
  super := sup
  interfaces := #[]
  cf := none
  fields := #[]
  methods := #[]
  instanceTypes := #[]
  staticTypes := #[]
  resolved := #[]
  callSites := []
  init := .initialized
  statics := none
  mirror := none

def pool0 : Array CpInfo := pool [(5, u "<init>"), (0, u "()V"), (1, .class_ 10), (1, u "java/lang/Object")] 113

def k0c0 : Code := { maxStack := 0, maxLocals := 1, code := object_method_1_code, exceptionTable := #[], attributes := #[] }
def k0m0 : Method := { name := "<init>", desc := "()V", sig := { parameters := [], returnType := none }, accessFlags := 1, code := some k0c0 }
/-- java/lang/Object -/
def k0 : Class := { plain "java/lang/Object" none with
  accessFlags := 33
  interfaces := #[]
  cf := some (fileOf pool0 8 #[] #[{ accessFlags := 1, nameIndex := 5, descriptorIndex := 6, attributes := #[] }] 33 0 #[] #[])
  fields := #[]
  methods := #[k0m0]
  instanceTypes := #[]
  staticTypes := #[]
  resolved := Array.replicate 124 none
  statics := none }

def pool1 : Array CpInfo := pool [(2, .class_ 4), (1, u "java/lang/Object"), (0, u "<init>"), (0, u "()V"), (0, .class_ 8), (0, u "java/lang/String"), (0, .methodref 7 10), (0, .nameAndType 5 11), (0, u "([C)V"), (0, .methodref 13 14), (0, .class_ 15), (0, .nameAndType 16 17), (0, u "com/example/orgwarden/orgwarden/server/http/CallerOperatorPinLaw"), (0, u "subject"), (0, u "(IIII)Ljava/lang/String;"), (0, .methodref 7 19), (0, .nameAndType 20 21), (0, u "valueOf"), (0, u "(C)Ljava/lang/String;"), (0, .class_ 23), (0, u "com/example/orgwarden/orgwarden/server/oidc/Operator"), (0, .methodref 22 25), (0, .nameAndType 5 26), (0, u "(Ljava/lang/String;Ljava/lang/String;)V"), (0, .methodref 28 29), (0, .class_ 30), (0, .nameAndType 31 32), (0, u "com/example/orgwarden/orgwarden/server/http/Caller"), (0, u "operator"), (0, u "(Lcom/example/orgwarden/orgwarden/server/oidc/Operator;)Lcom/example/orgwarden/orgwarden/server/http/Caller;"), (0, .methodref 28 34), (0, .nameAndType 35 36), (0, u "getOperator"), (0, u "()Ljava/util/Optional;"), (0, .methodref 38 39), (0, .class_ 40), (0, .nameAndType 41 42), (0, u "java/util/Optional"), (0, u "orElse"), (0, u "(Ljava/lang/Object;)Ljava/lang/Object;"), (0, .methodref 28 44), (0, .nameAndType 45 46), (0, u "getActor"), (0, u "()Lcom/example/orgwarden/orgwarden/trail/Actor;"), (0, .methodref 48 49), (0, .class_ 50), (0, .nameAndType 51 36), (0, u "com/example/orgwarden/orgwarden/trail/Actor"), (0, u "getSubject"), (0, .methodref 48 53), (0, .nameAndType 54 36), (0, u "getCredentialID"), (0, .methodref 22 56), (0, .nameAndType 51 57), (0, u "()Ljava/lang/String;"), (0, .methodref 7 59), (0, .nameAndType 60 61), (0, u "equals"), (0, u "(Ljava/lang/Object;)Z"), (0, .fieldref 48 63), (0, .nameAndType 64 65), (0, u "UNATTRIBUTED"), (0, u "Lcom/example/orgwarden/orgwarden/trail/Actor;"), (3, u "law"), (0, u "(IIIII)Z")] 2

def k1m0 : Method := { name := "<init>", desc := "()V", sig := { parameters := [], returnType := none }, accessFlags := 1, code := none }
def k1c1 : Code := { maxStack := 6, maxLocals := 7, code := method_2_code, exceptionTable := #[], attributes := #[] }
def k1m1 : Method := { name := "subject", desc := "(IIII)Ljava/lang/String;", sig := { parameters := [.int, .int, .int, .int], returnType := some (.object "java/lang/String") }, accessFlags := 10, code := some k1c1 }
def k1c2 : Code := { maxStack := 4, maxLocals := 14, code := code, exceptionTable := #[], attributes := #[] }
def k1m2 : Method := { name := "law", desc := "(IIIII)Z", sig := { parameters := [.int, .int, .int, .int, .int], returnType := some .boolean }, accessFlags := 9, code := some k1c2 }
/-- com/example/orgwarden/orgwarden/server/http/CallerOperatorPinLaw -/
def k1 : Class := { plain "com/example/orgwarden/orgwarden/server/http/CallerOperatorPinLaw" (some 0) with
  accessFlags := 49
  interfaces := #[]
  cf := some (fileOf pool1 13 #[] #[{ accessFlags := 1, nameIndex := 5, descriptorIndex := 6, attributes := #[] }, { accessFlags := 10, nameIndex := 16, descriptorIndex := 17, attributes := #[] }, { accessFlags := 9, nameIndex := 69, descriptorIndex := 70, attributes := #[] }] 49 2 #[] #[])
  fields := #[]
  methods := #[k1m0, k1m1, k1m2]
  instanceTypes := #[]
  staticTypes := #[]
  resolved := Array.replicate 73 none
  statics := none }

def pool2 : Array CpInfo := pool [(1, .class_ 2), (0, u "java/io/Serializable"), (0, .class_ 4), (0, u "java/lang/Object")] 2

/-- java/io/Serializable -/
def k2 : Class := { plain "java/io/Serializable" (some 0) with
  accessFlags := 1537
  interfaces := #[]
  cf := some (fileOf pool2 1 #[] #[] 1537 3 #[] #[])
  fields := #[]
  methods := #[]
  instanceTypes := #[]
  staticTypes := #[]
  resolved := Array.replicate 7 none
  statics := none }

def pool3 : Array CpInfo := pool [(1, .class_ 2), (0, u "java/lang/Comparable"), (0, .class_ 4), (0, u "java/lang/Object")] 7

/-- java/lang/Comparable -/
def k3 : Class := { plain "java/lang/Comparable" (some 0) with
  accessFlags := 1537
  interfaces := #[]
  cf := some (fileOf pool3 1 #[] #[] 1537 3 #[] #[])
  fields := #[]
  methods := #[]
  instanceTypes := #[]
  staticTypes := #[]
  resolved := Array.replicate 12 none
  statics := none }

def pool4 : Array CpInfo := pool [(2, .class_ 4), (1, u "java/lang/CharSequence"), (42, .class_ 48), (0, u "java/lang/CharSequence$1CodePointIterator"), (10, .class_ 60), (0, u "java/lang/CharSequence$1CharIterator"), (5, .class_ 67), (0, u "java/lang/Object")] 63

/-- java/lang/CharSequence -/
def k4 : Class := { plain "java/lang/CharSequence" (some 0) with
  accessFlags := 1537
  interfaces := #[]
  cf := some (fileOf pool4 2 #[.nestMembers #[47, 59]] #[] 1537 66 #[] #[])
  fields := #[]
  methods := #[]
  instanceTypes := #[]
  staticTypes := #[]
  resolved := Array.replicate 131 none
  statics := none }

def pool5 : Array CpInfo := pool [(1, .class_ 2), (0, u "java/lang/constant/Constable"), (0, .class_ 4), (0, u "java/lang/Object")] 6

/-- java/lang/constant/Constable -/
def k5 : Class := { plain "java/lang/constant/Constable" (some 0) with
  accessFlags := 1537
  interfaces := #[]
  cf := some (fileOf pool5 1 #[] #[] 1537 3 #[] #[])
  fields := #[]
  methods := #[]
  instanceTypes := #[]
  staticTypes := #[]
  resolved := Array.replicate 11 none
  statics := none }

def pool6 : Array CpInfo := pool [(1, .class_ 2), (0, u "java/lang/constant/ConstantDesc"), (0, .class_ 4), (0, u "java/lang/Object")] 32

/-- java/lang/constant/ConstantDesc -/
def k6 : Class := { plain "java/lang/constant/ConstantDesc" (some 0) with
  accessFlags := 1537
  interfaces := #[]
  cf := some (fileOf pool6 1 #[] #[] 1537 3 #[] #[])
  fields := #[]
  methods := #[]
  instanceTypes := #[]
  staticTypes := #[]
  resolved := Array.replicate 37 none
  statics := none }

def pool7 : Array CpInfo := pool [(1, .methodref 2 3), (0, .class_ 4), (0, .nameAndType 5 6), (0, u "java/lang/Object"), (0, u "<init>"), (0, u "()V"), (0, .string 8), (0, u ""), (0, .fieldref 10 11), (0, .class_ 12), (0, .nameAndType 13 14), (0, u "java/lang/String"), (0, u "value"), (0, u "[B"), (0, .fieldref 10 16), (0, .nameAndType 17 18), (0, u "coder"), (0, u "B"), (2, u "hash"), (0, u "I"), (2, u "hashIsZero"), (0, u "Z"), (0, .methodref 10 28), (0, .nameAndType 5 29), (0, u "([CIILjava/lang/Void;)V"), (8, .fieldref 10 39), (0, .nameAndType 40 26), (0, u "COMPACT_STRINGS"), (1, .class_ 44), (1, u "java/lang/StringUTF16"), (0, u "compress"), (1, .methodref 42 48), (0, .nameAndType 49 50), (0, u "coderFromArrayLen"), (0, u "([BI)B"), (2, u "toBytes"), (53, .class_ 109), (1, u "java/lang/StringLatin1"), (67, .methodref 42 178), (0, .nameAndType 45 179), (0, u "([CII)[B"), (29, .methodref 10 210), (0, .nameAndType 5 211), (0, u "([BB)V"), (157, u "(C)Z"), (173, u "equals"), (29, u "(Ljava/lang/Object;)Z"), (1, .class_ 576), (0, u "java/lang/CharSequence"), (22, u "CASE_INSENSITIVE_ORDER"), (0, u "Ljava/util/Comparator;"), (181, u "valueOf"), (0, u "(C)Ljava/lang/String;"), (226, u "([C)V"), (4, .methodref 107 1016), (0, .nameAndType 1017 369), (0, u "canEncode"), (0, .methodref 107 1019), (0, .nameAndType 53 1020), (0, u "(C)[B"), (80, u "serialPersistentFields"), (0, u "[Ljava/io/ObjectStreamField;"), (0, .class_ 1104), (0, u "java/lang/String$CaseInsensitiveComparator"), (1, .class_ 1107), (0, u "java/io/Serializable"), (0, .class_ 1109), (0, u "java/lang/Comparable"), (0, .class_ 1111), (0, u "java/lang/constant/Constable"), (0, .class_ 1113), (0, u "java/lang/constant/ConstantDesc"), (2, u "serialVersionUID"), (0, u "J"), (3, u "REPL"), (0, u "C"), (2, u "LATIN1"), (1, u "UTF16")] 323

def k7m0 : Method := { name := "<init>", desc := "()V", sig := { parameters := [], returnType := none }, accessFlags := 1, code := none }
def k7c1 : Code := { maxStack := 5, maxLocals := 2, code := jdk_42_method_3_code, exceptionTable := #[], attributes := #[] }
def k7m1 : Method := { name := "<init>", desc := "([C)V", sig := { parameters := [(.array .char)], returnType := none }, accessFlags := 1, code := some k7c1 }
def k7c2 : Code := { maxStack := 2, maxLocals := 3, code := jdk_42_method_66_code, exceptionTable := #[], attributes := #[] }
def k7m2 : Method := { name := "equals", desc := "(Ljava/lang/Object;)Z", sig := { parameters := [(.object "java/lang/Object")], returnType := some .boolean }, accessFlags := 1, code := some k7c2 }
def k7c3 : Code := { maxStack := 4, maxLocals := 1, code := jdk_42_method_139_code, exceptionTable := #[], attributes := #[] }
def k7m3 : Method := { name := "valueOf", desc := "(C)Ljava/lang/String;", sig := { parameters := [.char], returnType := some (.object "java/lang/String") }, accessFlags := 9, code := some k7c3 }
def k7c4 : Code := { maxStack := 4, maxLocals := 6, code := jdk_42_method_149_code, exceptionTable := #[], attributes := #[] }
def k7m4 : Method := { name := "<init>", desc := "([CIILjava/lang/Void;)V", sig := { parameters := [(.array .char), .int, .int, (.object "java/lang/Void")], returnType := none }, accessFlags := 2, code := some k7c4 }
def k7c5 : Code := { maxStack := 2, maxLocals := 3, code := jdk_42_method_151_code, exceptionTable := #[], attributes := #[] }
def k7m5 : Method := { name := "<init>", desc := "([BB)V", sig := { parameters := [(.array .byte), .byte], returnType := none }, accessFlags := 0, code := some k7c5 }
/-- java/lang/String -/
def k7 : Class := { plain "java/lang/String" (some 0) with
  accessFlags := 49
  interfaces := #[2, 3, 4, 5, 6]
  cf := some (fileOf pool7 10 #[.nestMembers #[1103]] #[{ accessFlags := 1, nameIndex := 5, descriptorIndex := 6, attributes := #[] }, { accessFlags := 1, nameIndex := 5, descriptorIndex := 1010, attributes := #[] }, { accessFlags := 1, nameIndex := 543, descriptorIndex := 573, attributes := #[] }, { accessFlags := 9, nameIndex := 782, descriptorIndex := 783, attributes := #[] }, { accessFlags := 2, nameIndex := 5, descriptorIndex := 29, attributes := #[] }, { accessFlags := 0, nameIndex := 5, descriptorIndex := 211, attributes := #[] }] 49 2 #[1106, 1108, 575, 1110, 1112] #[{ accessFlags := 18, nameIndex := 13, descriptorIndex := 14, attributes := #[] }, { accessFlags := 18, nameIndex := 17, descriptorIndex := 18, attributes := #[] }, { accessFlags := 2, nameIndex := 21, descriptorIndex := 22, attributes := #[] }, { accessFlags := 2, nameIndex := 25, descriptorIndex := 26, attributes := #[] }, { accessFlags := 26, nameIndex := 1116, descriptorIndex := 1117, attributes := #[] }, { accessFlags := 24, nameIndex := 40, descriptorIndex := 26, attributes := #[] }, { accessFlags := 26, nameIndex := 1101, descriptorIndex := 1102, attributes := #[] }, { accessFlags := 26, nameIndex := 1121, descriptorIndex := 1122, attributes := #[] }, { accessFlags := 25, nameIndex := 599, descriptorIndex := 600, attributes := #[] }, { accessFlags := 24, nameIndex := 1125, descriptorIndex := 18, attributes := #[] }, { accessFlags := 24, nameIndex := 1127, descriptorIndex := 18, attributes := #[] }])
  fields := #[{ name := "value", type := (.array .byte), accessFlags := 18, slot := 0, constantValue := 0 }, { name := "coder", type := .byte, accessFlags := 18, slot := 1, constantValue := 0 }, { name := "hash", type := .int, accessFlags := 2, slot := 2, constantValue := 0 }, { name := "hashIsZero", type := .boolean, accessFlags := 2, slot := 3, constantValue := 0 }, { name := "serialVersionUID", type := .long, accessFlags := 26, slot := 0, constantValue := 0 }, { name := "COMPACT_STRINGS", type := .boolean, accessFlags := 24, slot := 1, constantValue := 0 }, { name := "serialPersistentFields", type := (.array (.object "java/io/ObjectStreamField")), accessFlags := 26, slot := 2, constantValue := 0 }, { name := "REPL", type := .char, accessFlags := 26, slot := 3, constantValue := 0 }, { name := "CASE_INSENSITIVE_ORDER", type := (.object "java/util/Comparator"), accessFlags := 25, slot := 4, constantValue := 0 }, { name := "LATIN1", type := .byte, accessFlags := 24, slot := 5, constantValue := 0 }, { name := "UTF16", type := .byte, accessFlags := 24, slot := 6, constantValue := 0 }]
  methods := #[k7m0, k7m1, k7m2, k7m3, k7m4, k7m5]
  instanceTypes := #[(.array .byte), .byte, .int, .boolean]
  staticTypes := #[.long, .boolean, (.array (.object "java/io/ObjectStreamField")), .char, (.object "java/util/Comparator"), .byte, .byte]
  resolved := Array.replicate 1451 none
  statics := some 0 }

def pool8 : Array CpInfo := pool [(4, .class_ 6), (1, u "java/lang/Object"), (0, u "<init>"), (0, u "()V"), (5, .class_ 16), (1, u "java/lang/StringLatin1"), (73, u "canEncode"), (14, u "(C)Z"), (15, u "$assertionsDisabled"), (0, u "Z"), (98, .class_ 223), (1, u "java/lang/StringLatin1$LinesSpliterator"), (156, u "toBytes"), (1, u "(C)[B"), (7, .class_ 391), (0, u "java/lang/StringLatin1$CharsSpliterator")] 3

def k8m0 : Method := { name := "<init>", desc := "()V", sig := { parameters := [], returnType := none }, accessFlags := 0, code := none }
def k8c1 : Code := { maxStack := 2, maxLocals := 1, code := jdk_43_method_3_code, exceptionTable := #[], attributes := #[] }
def k8m1 : Method := { name := "canEncode", desc := "(C)Z", sig := { parameters := [.char], returnType := some .boolean }, accessFlags := 9, code := some k8c1 }
def k8c2 : Code := { maxStack := 4, maxLocals := 1, code := jdk_43_method_46_code, exceptionTable := #[], attributes := #[] }
def k8m2 : Method := { name := "toBytes", desc := "(C)[B", sig := { parameters := [.char], returnType := some (.array .byte) }, accessFlags := 9, code := some k8c2 }
/-- java/lang/StringLatin1 -/
def k8 : Class := { plain "java/lang/StringLatin1" (some 0) with
  accessFlags := 48
  interfaces := #[]
  cf := some (fileOf pool8 14 #[.nestMembers #[390, 221]] #[{ accessFlags := 0, nameIndex := 7, descriptorIndex := 8, attributes := #[] }, { accessFlags := 9, nameIndex := 90, descriptorIndex := 105, attributes := #[] }, { accessFlags := 9, nameIndex := 380, descriptorIndex := 382, attributes := #[] }] 48 4 #[] #[{ accessFlags := 4120, nameIndex := 121, descriptorIndex := 122, attributes := #[] }])
  fields := #[{ name := "$assertionsDisabled", type := .boolean, accessFlags := 4120, slot := 0, constantValue := 0 }]
  methods := #[k8m0, k8m1, k8m2]
  instanceTypes := #[]
  staticTypes := #[.boolean]
  resolved := Array.replicate 395 none
  statics := none }

def pool9 : Array CpInfo := pool [(1, .methodref 2 3), (0, .class_ 4), (0, .nameAndType 5 6), (0, u "java/lang/Object"), (0, u "<init>"), (0, u "()V"), (0, .string 8), (0, u "Subject"), (0, .methodref 10 11), (0, .class_ 12), (0, .nameAndType 13 14), (0, u "java/util/Objects"), (0, u "requireNonNull"), (0, u "(Ljava/lang/Object;Ljava/lang/String;)Ljava/lang/Object;"), (0, .class_ 16), (0, u "java/lang/String"), (0, .fieldref 18 19), (0, .class_ 20), (0, .nameAndType 21 22), (0, u "com/example/orgwarden/orgwarden/server/oidc/Operator"), (0, u "m_sSubject"), (0, u "Ljava/lang/String;"), (0, .fieldref 18 24), (0, .nameAndType 25 22), (0, u "m_sName"), (6, u "(Ljava/lang/String;Ljava/lang/String;)V"), (2, u "getSubject"), (0, u "()Ljava/lang/String;")] 6

def k9c0 : Code := { maxStack := 3, maxLocals := 3, code := prog_55_method_1_code, exceptionTable := #[], attributes := #[] }
def k9m0 : Method := { name := "<init>", desc := "(Ljava/lang/String;Ljava/lang/String;)V", sig := { parameters := [(.object "java/lang/String"), (.object "java/lang/String")], returnType := none }, accessFlags := 1, code := some k9c0 }
def k9c1 : Code := { maxStack := 1, maxLocals := 1, code := prog_55_method_2_code, exceptionTable := #[], attributes := #[] }
def k9m1 : Method := { name := "getSubject", desc := "()Ljava/lang/String;", sig := { parameters := [], returnType := some (.object "java/lang/String") }, accessFlags := 1, code := some k9c1 }
/-- com/example/orgwarden/orgwarden/server/oidc/Operator -/
def k9 : Class := { plain "com/example/orgwarden/orgwarden/server/oidc/Operator" (some 0) with
  accessFlags := 49
  interfaces := #[]
  cf := some (fileOf pool9 18 #[] #[{ accessFlags := 1, nameIndex := 5, descriptorIndex := 32, attributes := #[] }, { accessFlags := 1, nameIndex := 35, descriptorIndex := 36, attributes := #[] }] 49 2 #[] #[{ accessFlags := 18, nameIndex := 21, descriptorIndex := 22, attributes := #[] }, { accessFlags := 18, nameIndex := 25, descriptorIndex := 22, attributes := #[] }])
  fields := #[{ name := "m_sSubject", type := (.object "java/lang/String"), accessFlags := 18, slot := 0, constantValue := 0 }, { name := "m_sName", type := (.object "java/lang/String"), accessFlags := 18, slot := 1, constantValue := 0 }]
  methods := #[k9m0, k9m1]
  instanceTypes := #[(.object "java/lang/String"), (.object "java/lang/String")]
  staticTypes := #[]
  resolved := Array.replicate 43 none
  statics := none }

def pool10 : Array CpInfo := pool [(2, .class_ 4), (1, u "java/lang/Object"), (0, u "<init>"), (0, u "()V"), (35, .class_ 44), (1, u "java/util/Objects"), (0, u "requireNonNull"), (48, u "(Ljava/lang/Object;Ljava/lang/String;)Ljava/lang/Object;")] 89

def k10m0 : Method := { name := "<init>", desc := "()V", sig := { parameters := [], returnType := none }, accessFlags := 2, code := none }
def k10c1 : Code := { maxStack := 3, maxLocals := 2, code := jdk_31_method_11_code, exceptionTable := #[], attributes := #[] }
def k10m1 : Method := { name := "requireNonNull", desc := "(Ljava/lang/Object;Ljava/lang/String;)Ljava/lang/Object;", sig := { parameters := [(.object "java/lang/Object"), (.object "java/lang/String")], returnType := some (.object "java/lang/Object") }, accessFlags := 9, code := some k10c1 }
/-- java/util/Objects -/
def k10 : Class := { plain "java/util/Objects" (some 0) with
  accessFlags := 49
  interfaces := #[]
  cf := some (fileOf pool10 42 #[] #[{ accessFlags := 2, nameIndex := 5, descriptorIndex := 6, attributes := #[] }, { accessFlags := 9, nameIndex := 45, descriptorIndex := 94, attributes := #[] }] 49 2 #[] #[])
  fields := #[]
  methods := #[k10m0, k10m1]
  instanceTypes := #[]
  staticTypes := #[]
  resolved := Array.replicate 184 none
  statics := none }

def pool11 : Array CpInfo := pool [(1, .methodref 2 3), (0, .class_ 4), (0, .nameAndType 5 6), (0, u "java/lang/Object"), (0, u "<init>"), (0, u "()V"), (0, .fieldref 8 9), (0, .class_ 10), (0, .nameAndType 11 12), (0, u "com/example/orgwarden/orgwarden/server/http/Caller"), (0, u "m_aActor"), (0, u "Lcom/example/orgwarden/orgwarden/trail/Actor;"), (0, .fieldref 8 14), (0, .nameAndType 15 16), (0, u "m_aOperator"), (0, u "Lcom/example/orgwarden/orgwarden/server/oidc/Operator;"), (0, .methodref 18 19), (0, .class_ 20), (0, .nameAndType 21 22), (0, u "com/example/orgwarden/orgwarden/trail/Actor"), (0, u "of"), (0, u "(Ljava/lang/String;Ljava/util/UUID;)Lcom/example/orgwarden/orgwarden/trail/Actor;"), (0, .methodref 8 24), (0, .nameAndType 5 25), (0, u "(Lcom/example/orgwarden/orgwarden/trail/Actor;Lcom/example/orgwarden/orgwarden/server/oidc/Operator;)V"), (0, .methodref 27 28), (0, .class_ 29), (0, .nameAndType 30 31), (0, u "com/example/orgwarden/orgwarden/server/oidc/Operator"), (0, u "getSubject"), (0, u "()Ljava/lang/String;"), (0, .methodref 33 34), (0, .class_ 35), (0, .nameAndType 36 37), (0, u "java/util/Optional"), (0, u "ofNullable"), (0, u "(Ljava/lang/Object;)Ljava/util/Optional;"), (4, u "operator"), (0, u "(Lcom/example/orgwarden/orgwarden/server/oidc/Operator;)Lcom/example/orgwarden/orgwarden/server/http/Caller;"), (0, u "getActor"), (0, u "()Lcom/example/orgwarden/orgwarden/trail/Actor;"), (0, u "getOperator"), (0, u "()Ljava/util/Optional;")] 4

def k11c0 : Code := { maxStack := 2, maxLocals := 3, code := prog_52_method_1_code, exceptionTable := #[], attributes := #[] }
def k11m0 : Method := { name := "<init>", desc := "(Lcom/example/orgwarden/orgwarden/trail/Actor;Lcom/example/orgwarden/orgwarden/server/oidc/Operator;)V", sig := { parameters := [(.object "com/example/orgwarden/orgwarden/trail/Actor"), (.object "com/example/orgwarden/orgwarden/server/oidc/Operator")], returnType := none }, accessFlags := 2, code := some k11c0 }
def k11c1 : Code := { maxStack := 4, maxLocals := 1, code := prog_52_method_3_code, exceptionTable := #[], attributes := #[] }
def k11m1 : Method := { name := "operator", desc := "(Lcom/example/orgwarden/orgwarden/server/oidc/Operator;)Lcom/example/orgwarden/orgwarden/server/http/Caller;", sig := { parameters := [(.object "com/example/orgwarden/orgwarden/server/oidc/Operator")], returnType := some (.object "com/example/orgwarden/orgwarden/server/http/Caller") }, accessFlags := 8, code := some k11c1 }
def k11c2 : Code := { maxStack := 1, maxLocals := 1, code := prog_52_method_4_code, exceptionTable := #[], attributes := #[] }
def k11m2 : Method := { name := "getActor", desc := "()Lcom/example/orgwarden/orgwarden/trail/Actor;", sig := { parameters := [], returnType := some (.object "com/example/orgwarden/orgwarden/trail/Actor") }, accessFlags := 0, code := some k11c2 }
def k11c3 : Code := { maxStack := 1, maxLocals := 1, code := prog_52_method_5_code, exceptionTable := #[], attributes := #[] }
def k11m3 : Method := { name := "getOperator", desc := "()Ljava/util/Optional;", sig := { parameters := [], returnType := some (.object "java/util/Optional") }, accessFlags := 0, code := some k11c3 }
/-- com/example/orgwarden/orgwarden/server/http/Caller -/
def k11 : Class := { plain "com/example/orgwarden/orgwarden/server/http/Caller" (some 0) with
  accessFlags := 48
  interfaces := #[]
  cf := some (fileOf pool11 8 #[] #[{ accessFlags := 2, nameIndex := 5, descriptorIndex := 25, attributes := #[] }, { accessFlags := 8, nameIndex := 42, descriptorIndex := 43, attributes := #[] }, { accessFlags := 0, nameIndex := 44, descriptorIndex := 45, attributes := #[] }, { accessFlags := 0, nameIndex := 46, descriptorIndex := 47, attributes := #[] }] 48 2 #[] #[{ accessFlags := 18, nameIndex := 11, descriptorIndex := 12, attributes := #[] }, { accessFlags := 18, nameIndex := 15, descriptorIndex := 16, attributes := #[] }])
  fields := #[{ name := "m_aActor", type := (.object "com/example/orgwarden/orgwarden/trail/Actor"), accessFlags := 18, slot := 0, constantValue := 0 }, { name := "m_aOperator", type := (.object "com/example/orgwarden/orgwarden/server/oidc/Operator"), accessFlags := 18, slot := 1, constantValue := 0 }]
  methods := #[k11m0, k11m1, k11m2, k11m3]
  instanceTypes := #[(.object "com/example/orgwarden/orgwarden/trail/Actor"), (.object "com/example/orgwarden/orgwarden/server/oidc/Operator")]
  staticTypes := #[]
  resolved := Array.replicate 52 none
  statics := none }

def pool12 : Array CpInfo := pool [(1, .methodref 2 3), (0, .class_ 4), (0, .nameAndType 5 6), (0, u "java/lang/Object"), (0, u "<init>"), (0, u "()V"), (0, .fieldref 8 9), (0, .class_ 10), (0, .nameAndType 11 12), (0, u "com/example/orgwarden/orgwarden/trail/Actor"), (0, u "m_sSubject"), (0, u "Ljava/lang/String;"), (0, .fieldref 8 14), (0, .nameAndType 15 16), (0, u "m_aCredentialID"), (0, u "Ljava/util/UUID;"), (2, u "UNATTRIBUTED"), (0, u "Lcom/example/orgwarden/orgwarden/trail/Actor;"), (0, .methodref 8 22), (0, .nameAndType 5 23), (0, u "(Ljava/lang/String;Ljava/util/UUID;)V"), (0, .methodref 25 26), (0, .class_ 27), (0, .nameAndType 28 29), (0, u "java/util/Optional"), (0, u "ofNullable"), (0, u "(Ljava/lang/Object;)Ljava/util/Optional;"), (2, u "of"), (0, u "(Ljava/lang/String;Ljava/util/UUID;)Lcom/example/orgwarden/orgwarden/trail/Actor;"), (1, u "getSubject"), (0, u "()Ljava/util/Optional;"), (2, u "getCredentialID")] 4

def k12c0 : Code := { maxStack := 2, maxLocals := 3, code := prog_57_method_1_code, exceptionTable := #[], attributes := #[] }
def k12m0 : Method := { name := "<init>", desc := "(Ljava/lang/String;Ljava/util/UUID;)V", sig := { parameters := [(.object "java/lang/String"), (.object "java/util/UUID")], returnType := none }, accessFlags := 2, code := some k12c0 }
def k12c1 : Code := { maxStack := 4, maxLocals := 2, code := prog_57_method_2_code, exceptionTable := #[], attributes := #[] }
def k12m1 : Method := { name := "of", desc := "(Ljava/lang/String;Ljava/util/UUID;)Lcom/example/orgwarden/orgwarden/trail/Actor;", sig := { parameters := [(.object "java/lang/String"), (.object "java/util/UUID")], returnType := some (.object "com/example/orgwarden/orgwarden/trail/Actor") }, accessFlags := 9, code := some k12c1 }
def k12c2 : Code := { maxStack := 1, maxLocals := 1, code := prog_57_method_3_code, exceptionTable := #[], attributes := #[] }
def k12m2 : Method := { name := "getSubject", desc := "()Ljava/util/Optional;", sig := { parameters := [], returnType := some (.object "java/util/Optional") }, accessFlags := 1, code := some k12c2 }
def k12c3 : Code := { maxStack := 1, maxLocals := 1, code := prog_57_method_4_code, exceptionTable := #[], attributes := #[] }
def k12m3 : Method := { name := "getCredentialID", desc := "()Ljava/util/Optional;", sig := { parameters := [], returnType := some (.object "java/util/Optional") }, accessFlags := 1, code := some k12c3 }
/-- com/example/orgwarden/orgwarden/trail/Actor -/
def k12 : Class := { plain "com/example/orgwarden/orgwarden/trail/Actor" (some 0) with
  accessFlags := 49
  interfaces := #[]
  cf := some (fileOf pool12 8 #[] #[{ accessFlags := 2, nameIndex := 5, descriptorIndex := 23, attributes := #[] }, { accessFlags := 9, nameIndex := 32, descriptorIndex := 33, attributes := #[] }, { accessFlags := 1, nameIndex := 35, descriptorIndex := 36, attributes := #[] }, { accessFlags := 1, nameIndex := 39, descriptorIndex := 36, attributes := #[] }] 49 2 #[] #[{ accessFlags := 25, nameIndex := 19, descriptorIndex := 20, attributes := #[] }, { accessFlags := 18, nameIndex := 11, descriptorIndex := 12, attributes := #[] }, { accessFlags := 18, nameIndex := 15, descriptorIndex := 16, attributes := #[] }])
  fields := #[{ name := "UNATTRIBUTED", type := (.object "com/example/orgwarden/orgwarden/trail/Actor"), accessFlags := 25, slot := 0, constantValue := 0 }, { name := "m_sSubject", type := (.object "java/lang/String"), accessFlags := 18, slot := 0, constantValue := 0 }, { name := "m_aCredentialID", type := (.object "java/util/UUID"), accessFlags := 18, slot := 1, constantValue := 0 }]
  methods := #[k12m0, k12m1, k12m2, k12m3]
  instanceTypes := #[(.object "java/lang/String"), (.object "java/util/UUID")]
  staticTypes := #[(.object "com/example/orgwarden/orgwarden/trail/Actor")]
  resolved := Array.replicate 44 none
  statics := some 1 }

def pool13 : Array CpInfo := pool [(1, .fieldref 2 3), (0, .class_ 4), (0, .nameAndType 5 6), (0, u "java/util/Optional"), (0, u "EMPTY"), (0, u "Ljava/util/Optional;"), (0, .methodref 8 9), (0, .class_ 10), (0, .nameAndType 11 12), (0, u "java/lang/Object"), (0, u "<init>"), (0, u "()V"), (0, .fieldref 2 14), (0, .nameAndType 15 16), (0, u "value"), (0, u "Ljava/lang/Object;"), (5, u "(Ljava/lang/Object;)Ljava/lang/Object;"), (0, .methodref 2 24), (0, .nameAndType 11 25), (0, u "(Ljava/lang/Object;)V"), (38, u "ofNullable"), (0, u "(Ljava/lang/Object;)Ljava/util/Optional;"), (99, u "orElse")] 21

def k13c0 : Code := { maxStack := 2, maxLocals := 2, code := jdk_32_method_2_code, exceptionTable := #[], attributes := #[] }
def k13m0 : Method := { name := "<init>", desc := "(Ljava/lang/Object;)V", sig := { parameters := [(.object "java/lang/Object")], returnType := none }, accessFlags := 2, code := some k13c0 }
def k13c1 : Code := { maxStack := 3, maxLocals := 1, code := jdk_32_method_4_code, exceptionTable := #[], attributes := #[] }
def k13m1 : Method := { name := "ofNullable", desc := "(Ljava/lang/Object;)Ljava/util/Optional;", sig := { parameters := [(.object "java/lang/Object")], returnType := some (.object "java/util/Optional") }, accessFlags := 9, code := some k13c1 }
def k13c2 : Code := { maxStack := 1, maxLocals := 2, code := jdk_32_method_15_code, exceptionTable := #[], attributes := #[] }
def k13m2 : Method := { name := "orElse", desc := "(Ljava/lang/Object;)Ljava/lang/Object;", sig := { parameters := [(.object "java/lang/Object")], returnType := some (.object "java/lang/Object") }, accessFlags := 1, code := some k13c2 }
/-- java/util/Optional -/
def k13 : Class := { plain "java/util/Optional" (some 0) with
  accessFlags := 49
  interfaces := #[]
  cf := some (fileOf pool13 2 #[] #[{ accessFlags := 2, nameIndex := 11, descriptorIndex := 25, attributes := #[] }, { accessFlags := 9, nameIndex := 64, descriptorIndex := 65, attributes := #[] }, { accessFlags := 1, nameIndex := 165, descriptorIndex := 22, attributes := #[] }] 49 8 #[] #[{ accessFlags := 26, nameIndex := 5, descriptorIndex := 6, attributes := #[] }, { accessFlags := 18, nameIndex := 15, descriptorIndex := 16, attributes := #[] }])
  fields := #[{ name := "EMPTY", type := (.object "java/util/Optional"), accessFlags := 26, slot := 0, constantValue := 0 }, { name := "value", type := (.object "java/lang/Object"), accessFlags := 18, slot := 0, constantValue := 0 }]
  methods := #[k13m0, k13m1, k13m2]
  instanceTypes := #[(.object "java/lang/Object")]
  staticTypes := #[(.object "java/util/Optional")]
  resolved := Array.replicate 187 none
  statics := some 2 }

def pool14 : Array CpInfo := pool [(6, .class_ 8), (1, u "java/lang/Object"), (0, u "<init>"), (0, u "()V"), (1, .class_ 14), (1, u "java/lang/StringUTF16"), (31, u "$assertionsDisabled"), (0, u "Z"), (13, u "HI_BYTE_SHIFT"), (0, u "I"), (2, u "LO_BYTE_SHIFT"), (49, .methodref 12 116), (0, .nameAndType 117 118), (0, u "compress"), (0, u "([CI[BII)I"), (3, u "([CII)[B"), (138, u "coderFromArrayLen"), (0, u "([BI)B"), (106, .class_ 371), (1, u "java/lang/StringUTF16$LinesSpliterator"), (58, u "MAX_LENGTH"), (196, .class_ 628), (0, u "java/lang/StringUTF16$CodePointsSpliterator"), (0, .class_ 630), (0, u "java/lang/StringUTF16$CharsSpliterator")] 4

def k14m0 : Method := { name := "<init>", desc := "()V", sig := { parameters := [], returnType := none }, accessFlags := 0, code := none }
def k14c1 : Code := { maxStack := 2, maxLocals := 2, code := jdk_52_method_15_code, exceptionTable := #[], attributes := #[] }
def k14m1 : Method := { name := "coderFromArrayLen", desc := "([BI)B", sig := { parameters := [(.array .byte), .int], returnType := some .byte }, accessFlags := 8, code := some k14c1 }
def k14c2 : Code := { maxStack := 5, maxLocals := 6, code := jdk_52_method_16_code, exceptionTable := #[], attributes := #[] }
def k14m2 : Method := { name := "compress", desc := "([CII)[B", sig := { parameters := [(.array .char), .int, .int], returnType := some (.array .byte) }, accessFlags := 9, code := some k14c2 }
def k14c3 : Code := { maxStack := 3, maxLocals := 7, code := jdk_52_method_21_code, exceptionTable := #[], attributes := #[] }
def k14m3 : Method := { name := "compress", desc := "([CI[BII)I", sig := { parameters := [(.array .char), .int, (.array .byte), .int, .int], returnType := some .int }, accessFlags := 9, code := some k14c3 }
/-- java/lang/StringUTF16 -/
def k14 : Class := { plain "java/lang/StringUTF16" (some 0) with
  accessFlags := 48
  interfaces := #[]
  cf := some (fileOf pool14 12 #[.nestMembers #[627, 629, 369]] #[{ accessFlags := 0, nameIndex := 9, descriptorIndex := 10, attributes := #[] }, { accessFlags := 8, nameIndex := 261, descriptorIndex := 262, attributes := #[] }, { accessFlags := 9, nameIndex := 117, descriptorIndex := 122, attributes := #[] }, { accessFlags := 9, nameIndex := 117, descriptorIndex := 118, attributes := #[] }] 48 6 #[] #[{ accessFlags := 26, nameIndex := 61, descriptorIndex := 62, attributes := #[] }, { accessFlags := 26, nameIndex := 65, descriptorIndex := 62, attributes := #[] }, { accessFlags := 24, nameIndex := 430, descriptorIndex := 62, attributes := #[] }, { accessFlags := 4120, nameIndex := 46, descriptorIndex := 47, attributes := #[] }])
  fields := #[{ name := "HI_BYTE_SHIFT", type := .int, accessFlags := 26, slot := 0, constantValue := 0 }, { name := "LO_BYTE_SHIFT", type := .int, accessFlags := 26, slot := 1, constantValue := 0 }, { name := "MAX_LENGTH", type := .int, accessFlags := 24, slot := 2, constantValue := 0 }, { name := "$assertionsDisabled", type := .boolean, accessFlags := 4120, slot := 3, constantValue := 0 }]
  methods := #[k14m0, k14m1, k14m2, k14m3]
  instanceTypes := #[]
  staticTypes := #[.int, .int, .int, .boolean]
  resolved := Array.replicate 635 none
  statics := none }

def pool15 : Array CpInfo := pool [(2, .class_ 4), (1, u "java/lang/Object"), (0, u "<init>"), (0, u "()V"), (17, .class_ 26), (1, u "jdk/internal/util/Preconditions"), (28, .class_ 56), (0, u "jdk/internal/util/Preconditions$4"), (57, .class_ 115), (0, u "jdk/internal/util/Preconditions$1"), (7, u "SIOOBE_FORMATTER"), (0, u "Ljava/util/function/BiFunction;"), (0, .class_ 126), (0, u "jdk/internal/util/Preconditions$2"), (3, u "AIOOBE_FORMATTER"), (0, .class_ 132), (0, u "jdk/internal/util/Preconditions$3"), (3, u "IOOBE_FORMATTER")] 57

def k15m0 : Method := { name := "<init>", desc := "()V", sig := { parameters := [], returnType := none }, accessFlags := 1, code := none }
/-- jdk/internal/util/Preconditions -/
def k15 : Class := { plain "jdk/internal/util/Preconditions" (some 0) with
  accessFlags := 33
  interfaces := #[]
  cf := some (fileOf pool15 24 #[.nestMembers #[55, 131, 125, 114]] #[{ accessFlags := 1, nameIndex := 5, descriptorIndex := 6, attributes := #[] }] 33 2 #[] #[{ accessFlags := 25, nameIndex := 123, descriptorIndex := 124, attributes := #[] }, { accessFlags := 25, nameIndex := 130, descriptorIndex := 124, attributes := #[] }, { accessFlags := 25, nameIndex := 136, descriptorIndex := 124, attributes := #[] }])
  fields := #[{ name := "SIOOBE_FORMATTER", type := (.object "java/util/function/BiFunction"), accessFlags := 25, slot := 0, constantValue := 0 }, { name := "AIOOBE_FORMATTER", type := (.object "java/util/function/BiFunction"), accessFlags := 25, slot := 1, constantValue := 0 }, { name := "IOOBE_FORMATTER", type := (.object "java/util/function/BiFunction"), accessFlags := 25, slot := 2, constantValue := 0 }]
  methods := #[k15m0]
  instanceTypes := #[]
  staticTypes := #[(.object "java/util/function/BiFunction"), (.object "java/util/function/BiFunction"), (.object "java/util/function/BiFunction")]
  resolved := Array.replicate 194 none
  statics := some 3 }

def pool16 : Array CpInfo := pool [(9, u "<init>"), (6, .class_ 18), (1, u "java/lang/Object"), (0, u "()V"), (1, .class_ 23), (1, u "jdk/internal/util/ArraysSupport"), (0, u "LOG2_ARRAY_LONG_INDEX_SCALE"), (0, u "I"), (2, u "U"), (0, u "Ljdk/internal/misc/Unsafe;"), (8, u "BIG_ENDIAN"), (0, u "Z"), (8, u "LOG2_BYTE_BIT_SIZE"), (4, u "LOG2_ARRAY_INT_INDEX_SCALE"), (54, u "JLA"), (0, u "Ljdk/internal/access/JavaLangAccess;"), (11, u "LOG2_ARRAY_BOOLEAN_INDEX_SCALE"), (9, u "LOG2_ARRAY_BYTE_INDEX_SCALE"), (5, u "LOG2_ARRAY_CHAR_INDEX_SCALE"), (5, u "LOG2_ARRAY_SHORT_INDEX_SCALE"), (18, u "LOG2_ARRAY_FLOAT_INDEX_SCALE"), (24, u "LOG2_ARRAY_DOUBLE_INDEX_SCALE"), (89, u "T_BOOLEAN"), (2, u "T_CHAR"), (1, u "T_FLOAT"), (1, u "T_DOUBLE"), (1, u "T_BYTE"), (1, u "T_SHORT"), (1, u "T_INT"), (1, u "T_LONG"), (1, u "SOFT_MAX_ARRAY_LENGTH")] 83

def k16m0 : Method := { name := "<init>", desc := "()V", sig := { parameters := [], returnType := none }, accessFlags := 2, code := none }
/-- jdk/internal/util/ArraysSupport -/
def k16 : Class := { plain "jdk/internal/util/ArraysSupport" (some 0) with
  accessFlags := 33
  interfaces := #[]
  cf := some (fileOf pool16 21 #[] #[{ accessFlags := 2, nameIndex := 9, descriptorIndex := 19, attributes := #[] }] 33 16 #[] #[{ accessFlags := 24, nameIndex := 28, descriptorIndex := 29, attributes := #[] }, { accessFlags := 26, nameIndex := 38, descriptorIndex := 39, attributes := #[] }, { accessFlags := 25, nameIndex := 121, descriptorIndex := 25, attributes := #[] }, { accessFlags := 25, nameIndex := 131, descriptorIndex := 25, attributes := #[] }, { accessFlags := 25, nameIndex := 137, descriptorIndex := 25, attributes := #[] }, { accessFlags := 25, nameIndex := 143, descriptorIndex := 25, attributes := #[] }, { accessFlags := 25, nameIndex := 53, descriptorIndex := 25, attributes := #[] }, { accessFlags := 25, nameIndex := 24, descriptorIndex := 25, attributes := #[] }, { accessFlags := 25, nameIndex := 162, descriptorIndex := 25, attributes := #[] }, { accessFlags := 25, nameIndex := 187, descriptorIndex := 25, attributes := #[] }, { accessFlags := 26, nameIndex := 48, descriptorIndex := 25, attributes := #[] }, { accessFlags := 25, nameIndex := 277, descriptorIndex := 25, attributes := #[] }, { accessFlags := 25, nameIndex := 280, descriptorIndex := 25, attributes := #[] }, { accessFlags := 25, nameIndex := 282, descriptorIndex := 25, attributes := #[] }, { accessFlags := 25, nameIndex := 284, descriptorIndex := 25, attributes := #[] }, { accessFlags := 25, nameIndex := 286, descriptorIndex := 25, attributes := #[] }, { accessFlags := 25, nameIndex := 288, descriptorIndex := 25, attributes := #[] }, { accessFlags := 25, nameIndex := 290, descriptorIndex := 25, attributes := #[] }, { accessFlags := 25, nameIndex := 292, descriptorIndex := 25, attributes := #[] }, { accessFlags := 26, nameIndex := 108, descriptorIndex := 109, attributes := #[] }, { accessFlags := 25, nameIndex := 294, descriptorIndex := 25, attributes := #[] }])
  fields := #[{ name := "U", type := (.object "jdk/internal/misc/Unsafe"), accessFlags := 24, slot := 0, constantValue := 0 }, { name := "BIG_ENDIAN", type := .boolean, accessFlags := 26, slot := 1, constantValue := 0 }, { name := "LOG2_ARRAY_BOOLEAN_INDEX_SCALE", type := .int, accessFlags := 25, slot := 2, constantValue := 0 }, { name := "LOG2_ARRAY_BYTE_INDEX_SCALE", type := .int, accessFlags := 25, slot := 3, constantValue := 0 }, { name := "LOG2_ARRAY_CHAR_INDEX_SCALE", type := .int, accessFlags := 25, slot := 4, constantValue := 0 }, { name := "LOG2_ARRAY_SHORT_INDEX_SCALE", type := .int, accessFlags := 25, slot := 5, constantValue := 0 }, { name := "LOG2_ARRAY_INT_INDEX_SCALE", type := .int, accessFlags := 25, slot := 6, constantValue := 0 }, { name := "LOG2_ARRAY_LONG_INDEX_SCALE", type := .int, accessFlags := 25, slot := 7, constantValue := 0 }, { name := "LOG2_ARRAY_FLOAT_INDEX_SCALE", type := .int, accessFlags := 25, slot := 8, constantValue := 0 }, { name := "LOG2_ARRAY_DOUBLE_INDEX_SCALE", type := .int, accessFlags := 25, slot := 9, constantValue := 0 }, { name := "LOG2_BYTE_BIT_SIZE", type := .int, accessFlags := 26, slot := 10, constantValue := 0 }, { name := "T_BOOLEAN", type := .int, accessFlags := 25, slot := 11, constantValue := 0 }, { name := "T_CHAR", type := .int, accessFlags := 25, slot := 12, constantValue := 0 }, { name := "T_FLOAT", type := .int, accessFlags := 25, slot := 13, constantValue := 0 }, { name := "T_DOUBLE", type := .int, accessFlags := 25, slot := 14, constantValue := 0 }, { name := "T_BYTE", type := .int, accessFlags := 25, slot := 15, constantValue := 0 }, { name := "T_SHORT", type := .int, accessFlags := 25, slot := 16, constantValue := 0 }, { name := "T_INT", type := .int, accessFlags := 25, slot := 17, constantValue := 0 }, { name := "T_LONG", type := .int, accessFlags := 25, slot := 18, constantValue := 0 }, { name := "JLA", type := (.object "jdk/internal/access/JavaLangAccess"), accessFlags := 26, slot := 19, constantValue := 0 }, { name := "SOFT_MAX_ARRAY_LENGTH", type := .int, accessFlags := 25, slot := 20, constantValue := 0 }]
  methods := #[k16m0]
  instanceTypes := #[]
  staticTypes := #[(.object "jdk/internal/misc/Unsafe"), .boolean, .int, .int, .int, .int, .int, .int, .int, .int, .int, .int, .int, .int, .int, .int, .int, .int, .int, (.object "jdk/internal/access/JavaLangAccess"), .int]
  resolved := Array.replicate 378 none
  statics := none }

def pool17 : Array CpInfo := pool [(1, u "java/lang/Cloneable"), (0, .class_ 1), (0, u "java/lang/Object"), (0, .class_ 3)] 3

/-- java/lang/Cloneable -/
def k17 : Class := { plain "java/lang/Cloneable" (some 0) with
  accessFlags := 1537
  interfaces := #[]
  cf := some (fileOf pool17 2 #[] #[] 1537 4 #[] #[])
  fields := #[]
  methods := #[]
  instanceTypes := #[]
  staticTypes := #[]
  resolved := Array.replicate 8 none
  statics := none }

/-- the primitive byte -/
def k18 : Class := { plain "byte" none with kind := .primitive 'B', accessFlags := 0x411 }
/-- [B -/
def k19 : Class := { plain "[B" (some 0) with kind := .array 18 .byte, interfaces := #[17, 2], accessFlags := 1041 }

/-- the primitive char -/
def k20 : Class := { plain "char" none with kind := .primitive 'C', accessFlags := 0x411 }
/-- [C -/
def k21 : Class := { plain "[C" (some 0) with kind := .array 20 .char, interfaces := #[17, 2], accessFlags := 1041 }

/-- the primitive int -/
def k22 : Class := { plain "int" none with kind := .primitive 'I', accessFlags := 0x411 }
/-- [I -/
def k23 : Class := { plain "[I" (some 0) with kind := .array 22 .int, interfaces := #[17, 2], accessFlags := 1041 }

def heap : Heap := #[{ cls := 7, slots := #[.long 0, .int 1, .null, .int 0, .null, .int 0, .int 0], vm := .statics 7 },
  { cls := 12, slots := #[.ref 4], vm := .statics 12 },
  { cls := 13, slots := #[.ref 5], vm := .statics 13 },
  { cls := 15, slots := #[.null, .null, .null], vm := .statics 15 },
  { cls := 12, slots := #[.null, .null], vm := .none },
  { cls := 13, slots := #[.null], vm := .none }]
def classes : Array Class := #[k0, k1, k2, k3, k4, k5, k6, k7, k8, k9, k10, k11, k12, k13, k14, k15, k16, k17, k18, k19, k20, k21, k22, k23]
def interned : List (Array UInt16 × Addr) := []
def slotsUsed : Nat := 15
def theMethod : MethodId := ⟨1, 2⟩
def args0 : Array Value := #[.int 5, .int 1, .int 2, .int 3, .int 4]
def aboutOver (below : List Frame) : State where
  vm := { classes := classes, interned := interned.toArray }
  heap := heap
  slotsUsed := slotsUsed
  threads := #[{ frames := .invoking theMethod args0 :: below }]
def below0 : List Frame := [.native { method := ⟨0, 0⟩, args := #[] }]
def about1 : State := aboutOver below0
def p0 : Program := .bare "" "" ""
def e0 : Env := launch0.env 0 0 0
theorem w_frames : about1.frames = Frame.invoking theMethod args0 :: below0 := rfl
set_option maxRecDepth 65536 in
theorem w_args : argsFit about1.vm theMethod args0 = true := by decide +kernel
set_option maxRecDepth 65536 in
theorem w_heap : heapFits about1 = true := by decide +kernel
set_option maxRecDepth 65536 in
theorem w_runnable : about1.curStatus? = some .runnable := by decide +kernel
set_option maxRecDepth 65536 in
theorem w_alone : about1.alone = true := by decide +kernel
set_option maxRecDepth 65536 in
theorem w_named : about1.methodNamed? x = some theMethod := by decide +kernel
set_option maxRecDepth 65536 in
theorem w_hears : about1.hears theMethod below0 = true := by decide +kernel
set_option maxRecDepth 65536 in
theorem w_ripe : about1.ripe theMethod args0 below0 = true := by decide +kernel
theorem w_running : about1.status = .running := rfl
set_option maxRecDepth 65536 in
theorem w_room : about1.hasRoom e0.platform room_1 = true :=
  launch0.hasRoom_least _ room_1 (by decide +kernel) (by decide +kernel) (by decide +kernel) (by decide +kernel) (by decide +kernel) (by decide +kernel)
theorem allAtoms_all (ts : List Jvm.Cond) (a : Array Jvm.Value) (st : Jvm.State) : (allAtoms ts).before a st = ts.all (fun c => c.before a st) := by
  induction ts with
  | nil => rfl
  | cons c t ih =>
    show (Jvm.Cond.and c (allAtoms t)).before a st = _
    rw [Jvm.Cond.before_and, ih, List.all_cons]
def words1 : List Jvm.Cond := Jvm.Cond.code x code maxLocals ret :: tables_1
/-- a 'code' word, met by the world's own term for the bytes: nothing is compared byte by byte -/
theorem code_word {y : MethodName} {bytes : ByteArray} {mx : Nat} {rt : Option FieldType} {a : Array Value} {s : State} {m : MethodId} {meth : Method} {c : Code} (h1 : s.methodNamed? y = some m) (h2 : s.vm.method? m = some meth) (h3 : meth.code = some c) (h4 : c.code = bytes)
    (h5 : (c.maxLocals == mx && c.exceptionTable.isEmpty && decide (c.maxStack ≤ mostOperands) && decide (meth.sig.returnType = rt) && !meth.locks && decide (parseMethodDescriptor y.desc = some meth.sig)) = true) : (Jvm.Cond.code y bytes mx rt).before a s = true := by
  simp only [Bool.and_eq_true, beq_iff_eq, Bool.not_eq_true', decide_eq_true_eq] at h5
  obtain ⟨⟨⟨⟨⟨g1, g2⟩, g3⟩, g4⟩, g5⟩, g6⟩ := h5
  simp [Cond.before, Cond.holds, Cond.value, h1, h2, h3, h4, g1, g2, g3, g4, g5, g6]
def isCode : Jvm.Cond → Bool
  | .code _ _ _ _ => true
  | _ => false
theorem all_split {L : List Jvm.Cond} {P : Jvm.Cond → Bool} (h1 : L.all (fun c => isCode c || P c) = true) (h2 : ∀ c ∈ L.filter isCode, P c = true) : L.all P = true := by
  refine List.all_eq_true.mpr fun c hc => ?_
  have h := List.all_eq_true.mp h1 c hc
  rcases Bool.eq_false_or_eq_true (isCode c) with hi | hi
  · exact h2 c (List.mem_filter.mpr ⟨hc, hi⟩)
  · simpa [hi] using h
set_option maxRecDepth 65536 in
theorem w_c0 : (Jvm.Cond.code x code maxLocals ret).before args0 about1 = true := code_word (m := ⟨1, 2⟩) (meth := k1m2) (c := k1c2) (by decide +kernel) rfl rfl rfl (by decide +kernel)
set_option maxRecDepth 65536 in
theorem w_c1 : (Jvm.Cond.code ({ cls := "com/example/orgwarden/orgwarden/server/http/CallerOperatorPinLaw", name := "subject", desc := "(IIII)Ljava/lang/String;" } : Jvm.MethodName) method_2_code (7 : Nat) (Option.some (Jvm.ClassFile.FieldType.object "java/lang/String"))).before args0 about1 = true := code_word (m := ⟨1, 1⟩) (meth := k1m1) (c := k1c1) (by decide +kernel) rfl rfl rfl (by decide +kernel)
set_option maxRecDepth 65536 in
theorem w_c2 : (Jvm.Cond.code ({ cls := "java/lang/String", name := "<init>", desc := "([C)V" } : Jvm.MethodName) jdk_42_method_3_code (2 : Nat) (Option.none : Option Jvm.ClassFile.FieldType)).before args0 about1 = true := code_word (m := ⟨7, 1⟩) (meth := k7m1) (c := k7c1) (by decide +kernel) rfl rfl rfl (by decide +kernel)
set_option maxRecDepth 65536 in
theorem w_c3 : (Jvm.Cond.code ({ cls := "java/lang/String", name := "<init>", desc := "([CIILjava/lang/Void;)V" } : Jvm.MethodName) jdk_42_method_149_code (6 : Nat) (Option.none : Option Jvm.ClassFile.FieldType)).before args0 about1 = true := code_word (m := ⟨7, 4⟩) (meth := k7m4) (c := k7c4) (by decide +kernel) rfl rfl rfl (by decide +kernel)
set_option maxRecDepth 65536 in
theorem w_c4 : (Jvm.Cond.code ({ cls := "java/lang/Object", name := "<init>", desc := "()V" } : Jvm.MethodName) object_method_1_code (1 : Nat) (Option.none : Option Jvm.ClassFile.FieldType)).before args0 about1 = true := code_word (m := ⟨0, 0⟩) (meth := k0m0) (c := k0c0) (by decide +kernel) rfl rfl rfl (by decide +kernel)
set_option maxRecDepth 65536 in
theorem w_c5 : (Jvm.Cond.code ({ cls := "java/lang/String", name := "valueOf", desc := "(C)Ljava/lang/String;" } : Jvm.MethodName) jdk_42_method_139_code (1 : Nat) (Option.some (Jvm.ClassFile.FieldType.object "java/lang/String"))).before args0 about1 = true := code_word (m := ⟨7, 3⟩) (meth := k7m3) (c := k7c3) (by decide +kernel) rfl rfl rfl (by decide +kernel)
set_option maxRecDepth 65536 in
theorem w_c6 : (Jvm.Cond.code ({ cls := "java/lang/StringLatin1", name := "canEncode", desc := "(C)Z" } : Jvm.MethodName) jdk_43_method_3_code (1 : Nat) (Option.some Jvm.ClassFile.FieldType.boolean)).before args0 about1 = true := code_word (m := ⟨8, 1⟩) (meth := k8m1) (c := k8c1) (by decide +kernel) rfl rfl rfl (by decide +kernel)
set_option maxRecDepth 65536 in
theorem w_c7 : (Jvm.Cond.code ({ cls := "java/lang/StringLatin1", name := "toBytes", desc := "(C)[B" } : Jvm.MethodName) jdk_43_method_46_code (1 : Nat) (Option.some (Jvm.ClassFile.FieldType.array Jvm.ClassFile.FieldType.byte))).before args0 about1 = true := code_word (m := ⟨8, 2⟩) (meth := k8m2) (c := k8c2) (by decide +kernel) rfl rfl rfl (by decide +kernel)
set_option maxRecDepth 65536 in
theorem w_c8 : (Jvm.Cond.code ({ cls := "java/lang/String", name := "<init>", desc := "([BB)V" } : Jvm.MethodName) jdk_42_method_151_code (3 : Nat) (Option.none : Option Jvm.ClassFile.FieldType)).before args0 about1 = true := code_word (m := ⟨7, 5⟩) (meth := k7m5) (c := k7c5) (by decide +kernel) rfl rfl rfl (by decide +kernel)
set_option maxRecDepth 65536 in
theorem w_c9 : (Jvm.Cond.code ({ cls := "com/example/orgwarden/orgwarden/server/oidc/Operator", name := "<init>", desc := "(Ljava/lang/String;Ljava/lang/String;)V" } : Jvm.MethodName) prog_55_method_1_code (3 : Nat) (Option.none : Option Jvm.ClassFile.FieldType)).before args0 about1 = true := code_word (m := ⟨9, 0⟩) (meth := k9m0) (c := k9c0) (by decide +kernel) rfl rfl rfl (by decide +kernel)
set_option maxRecDepth 65536 in
theorem w_c10 : (Jvm.Cond.code ({ cls := "java/util/Objects", name := "requireNonNull", desc := "(Ljava/lang/Object;Ljava/lang/String;)Ljava/lang/Object;" } : Jvm.MethodName) jdk_31_method_11_code (2 : Nat) (Option.some (Jvm.ClassFile.FieldType.object "java/lang/Object"))).before args0 about1 = true := code_word (m := ⟨10, 1⟩) (meth := k10m1) (c := k10c1) (by decide +kernel) rfl rfl rfl (by decide +kernel)
set_option maxRecDepth 65536 in
theorem w_c11 : (Jvm.Cond.code ({ cls := "com/example/orgwarden/orgwarden/server/http/Caller", name := "operator", desc := "(Lcom/example/orgwarden/orgwarden/server/oidc/Operator;)Lcom/example/orgwarden/orgwarden/server/http/Caller;" } : Jvm.MethodName) prog_52_method_3_code (1 : Nat) (Option.some (Jvm.ClassFile.FieldType.object "com/example/orgwarden/orgwarden/server/http/Caller"))).before args0 about1 = true := code_word (m := ⟨11, 1⟩) (meth := k11m1) (c := k11c1) (by decide +kernel) rfl rfl rfl (by decide +kernel)
set_option maxRecDepth 65536 in
theorem w_c12 : (Jvm.Cond.code ({ cls := "com/example/orgwarden/orgwarden/server/oidc/Operator", name := "getSubject", desc := "()Ljava/lang/String;" } : Jvm.MethodName) prog_55_method_2_code (1 : Nat) (Option.some (Jvm.ClassFile.FieldType.object "java/lang/String"))).before args0 about1 = true := code_word (m := ⟨9, 1⟩) (meth := k9m1) (c := k9c1) (by decide +kernel) rfl rfl rfl (by decide +kernel)
set_option maxRecDepth 65536 in
theorem w_c13 : (Jvm.Cond.code ({ cls := "com/example/orgwarden/orgwarden/trail/Actor", name := "of", desc := "(Ljava/lang/String;Ljava/util/UUID;)Lcom/example/orgwarden/orgwarden/trail/Actor;" } : Jvm.MethodName) prog_57_method_2_code (2 : Nat) (Option.some (Jvm.ClassFile.FieldType.object "com/example/orgwarden/orgwarden/trail/Actor"))).before args0 about1 = true := code_word (m := ⟨12, 1⟩) (meth := k12m1) (c := k12c1) (by decide +kernel) rfl rfl rfl (by decide +kernel)
set_option maxRecDepth 65536 in
theorem w_c14 : (Jvm.Cond.code ({ cls := "com/example/orgwarden/orgwarden/trail/Actor", name := "<init>", desc := "(Ljava/lang/String;Ljava/util/UUID;)V" } : Jvm.MethodName) prog_57_method_1_code (3 : Nat) (Option.none : Option Jvm.ClassFile.FieldType)).before args0 about1 = true := code_word (m := ⟨12, 0⟩) (meth := k12m0) (c := k12c0) (by decide +kernel) rfl rfl rfl (by decide +kernel)
set_option maxRecDepth 65536 in
theorem w_c15 : (Jvm.Cond.code ({ cls := "com/example/orgwarden/orgwarden/server/http/Caller", name := "<init>", desc := "(Lcom/example/orgwarden/orgwarden/trail/Actor;Lcom/example/orgwarden/orgwarden/server/oidc/Operator;)V" } : Jvm.MethodName) prog_52_method_1_code (3 : Nat) (Option.none : Option Jvm.ClassFile.FieldType)).before args0 about1 = true := code_word (m := ⟨11, 0⟩) (meth := k11m0) (c := k11c0) (by decide +kernel) rfl rfl rfl (by decide +kernel)
set_option maxRecDepth 65536 in
theorem w_c16 : (Jvm.Cond.code ({ cls := "com/example/orgwarden/orgwarden/server/http/Caller", name := "getOperator", desc := "()Ljava/util/Optional;" } : Jvm.MethodName) prog_52_method_5_code (1 : Nat) (Option.some (Jvm.ClassFile.FieldType.object "java/util/Optional"))).before args0 about1 = true := code_word (m := ⟨11, 3⟩) (meth := k11m3) (c := k11c3) (by decide +kernel) rfl rfl rfl (by decide +kernel)
set_option maxRecDepth 65536 in
theorem w_c17 : (Jvm.Cond.code ({ cls := "java/util/Optional", name := "ofNullable", desc := "(Ljava/lang/Object;)Ljava/util/Optional;" } : Jvm.MethodName) jdk_32_method_4_code (1 : Nat) (Option.some (Jvm.ClassFile.FieldType.object "java/util/Optional"))).before args0 about1 = true := code_word (m := ⟨13, 1⟩) (meth := k13m1) (c := k13c1) (by decide +kernel) rfl rfl rfl (by decide +kernel)
set_option maxRecDepth 65536 in
theorem w_c18 : (Jvm.Cond.code ({ cls := "java/util/Optional", name := "<init>", desc := "(Ljava/lang/Object;)V" } : Jvm.MethodName) jdk_32_method_2_code (2 : Nat) (Option.none : Option Jvm.ClassFile.FieldType)).before args0 about1 = true := code_word (m := ⟨13, 0⟩) (meth := k13m0) (c := k13c0) (by decide +kernel) rfl rfl rfl (by decide +kernel)
set_option maxRecDepth 65536 in
theorem w_c19 : (Jvm.Cond.code ({ cls := "java/util/Optional", name := "orElse", desc := "(Ljava/lang/Object;)Ljava/lang/Object;" } : Jvm.MethodName) jdk_32_method_15_code (2 : Nat) (Option.some (Jvm.ClassFile.FieldType.object "java/lang/Object"))).before args0 about1 = true := code_word (m := ⟨13, 2⟩) (meth := k13m2) (c := k13c2) (by decide +kernel) rfl rfl rfl (by decide +kernel)
set_option maxRecDepth 65536 in
theorem w_c20 : (Jvm.Cond.code ({ cls := "com/example/orgwarden/orgwarden/server/http/Caller", name := "getActor", desc := "()Lcom/example/orgwarden/orgwarden/trail/Actor;" } : Jvm.MethodName) prog_52_method_4_code (1 : Nat) (Option.some (Jvm.ClassFile.FieldType.object "com/example/orgwarden/orgwarden/trail/Actor"))).before args0 about1 = true := code_word (m := ⟨11, 2⟩) (meth := k11m2) (c := k11c2) (by decide +kernel) rfl rfl rfl (by decide +kernel)
set_option maxRecDepth 65536 in
theorem w_c21 : (Jvm.Cond.code ({ cls := "com/example/orgwarden/orgwarden/trail/Actor", name := "getSubject", desc := "()Ljava/util/Optional;" } : Jvm.MethodName) prog_57_method_3_code (1 : Nat) (Option.some (Jvm.ClassFile.FieldType.object "java/util/Optional"))).before args0 about1 = true := code_word (m := ⟨12, 2⟩) (meth := k12m2) (c := k12c2) (by decide +kernel) rfl rfl rfl (by decide +kernel)
set_option maxRecDepth 65536 in
theorem w_c22 : (Jvm.Cond.code ({ cls := "com/example/orgwarden/orgwarden/trail/Actor", name := "getCredentialID", desc := "()Ljava/util/Optional;" } : Jvm.MethodName) prog_57_method_4_code (1 : Nat) (Option.some (Jvm.ClassFile.FieldType.object "java/util/Optional"))).before args0 about1 = true := code_word (m := ⟨12, 3⟩) (meth := k12m3) (c := k12c3) (by decide +kernel) rfl rfl rfl (by decide +kernel)
set_option maxRecDepth 65536 in
theorem w_c23 : (Jvm.Cond.code ({ cls := "java/lang/String", name := "equals", desc := "(Ljava/lang/Object;)Z" } : Jvm.MethodName) jdk_42_method_66_code (3 : Nat) (Option.some Jvm.ClassFile.FieldType.boolean)).before args0 about1 = true := code_word (m := ⟨7, 2⟩) (meth := k7m2) (c := k7c2) (by decide +kernel) rfl rfl rfl (by decide +kernel)
set_option maxRecDepth 65536 in
theorem w_c24 : (Jvm.Cond.code ({ cls := "java/lang/StringUTF16", name := "compress", desc := "([CII)[B" } : Jvm.MethodName) jdk_52_method_16_code (6 : Nat) (Option.some (Jvm.ClassFile.FieldType.array Jvm.ClassFile.FieldType.byte))).before args0 about1 = true := code_word (m := ⟨14, 2⟩) (meth := k14m2) (c := k14c2) (by decide +kernel) rfl rfl rfl (by decide +kernel)
set_option maxRecDepth 65536 in
theorem w_c25 : (Jvm.Cond.code ({ cls := "java/lang/StringUTF16", name := "compress", desc := "([CI[BII)I" } : Jvm.MethodName) jdk_52_method_21_code (7 : Nat) (Option.some Jvm.ClassFile.FieldType.int)).before args0 about1 = true := code_word (m := ⟨14, 3⟩) (meth := k14m3) (c := k14c3) (by decide +kernel) rfl rfl rfl (by decide +kernel)
set_option maxRecDepth 65536 in
theorem w_c26 : (Jvm.Cond.code ({ cls := "java/lang/StringUTF16", name := "coderFromArrayLen", desc := "([BI)B" } : Jvm.MethodName) jdk_52_method_15_code (2 : Nat) (Option.some Jvm.ClassFile.FieldType.byte)).before args0 about1 = true := code_word (m := ⟨14, 1⟩) (meth := k14m1) (c := k14c1) (by decide +kernel) rfl rfl rfl (by decide +kernel)
def codes1 : List Jvm.Cond := [Jvm.Cond.code x code maxLocals ret, Jvm.Cond.code ({ cls := "com/example/orgwarden/orgwarden/server/http/CallerOperatorPinLaw", name := "subject", desc := "(IIII)Ljava/lang/String;" } : Jvm.MethodName) method_2_code (7 : Nat) (Option.some (Jvm.ClassFile.FieldType.object "java/lang/String")), Jvm.Cond.code ({ cls := "java/lang/String", name := "<init>", desc := "([C)V" } : Jvm.MethodName) jdk_42_method_3_code (2 : Nat) (Option.none : Option Jvm.ClassFile.FieldType), Jvm.Cond.code ({ cls := "java/lang/String", name := "<init>", desc := "([CIILjava/lang/Void;)V" } : Jvm.MethodName) jdk_42_method_149_code (6 : Nat) (Option.none : Option Jvm.ClassFile.FieldType), Jvm.Cond.code ({ cls := "java/lang/Object", name := "<init>", desc := "()V" } : Jvm.MethodName) object_method_1_code (1 : Nat) (Option.none : Option Jvm.ClassFile.FieldType), Jvm.Cond.code ({ cls := "java/lang/String", name := "valueOf", desc := "(C)Ljava/lang/String;" } : Jvm.MethodName) jdk_42_method_139_code (1 : Nat) (Option.some (Jvm.ClassFile.FieldType.object "java/lang/String")), Jvm.Cond.code ({ cls := "java/lang/StringLatin1", name := "canEncode", desc := "(C)Z" } : Jvm.MethodName) jdk_43_method_3_code (1 : Nat) (Option.some Jvm.ClassFile.FieldType.boolean), Jvm.Cond.code ({ cls := "java/lang/StringLatin1", name := "toBytes", desc := "(C)[B" } : Jvm.MethodName) jdk_43_method_46_code (1 : Nat) (Option.some (Jvm.ClassFile.FieldType.array Jvm.ClassFile.FieldType.byte)), Jvm.Cond.code ({ cls := "java/lang/String", name := "<init>", desc := "([BB)V" } : Jvm.MethodName) jdk_42_method_151_code (3 : Nat) (Option.none : Option Jvm.ClassFile.FieldType), Jvm.Cond.code ({ cls := "com/example/orgwarden/orgwarden/server/oidc/Operator", name := "<init>", desc := "(Ljava/lang/String;Ljava/lang/String;)V" } : Jvm.MethodName) prog_55_method_1_code (3 : Nat) (Option.none : Option Jvm.ClassFile.FieldType), Jvm.Cond.code ({ cls := "java/util/Objects", name := "requireNonNull", desc := "(Ljava/lang/Object;Ljava/lang/String;)Ljava/lang/Object;" } : Jvm.MethodName) jdk_31_method_11_code (2 : Nat) (Option.some (Jvm.ClassFile.FieldType.object "java/lang/Object")), Jvm.Cond.code ({ cls := "com/example/orgwarden/orgwarden/server/http/Caller", name := "operator", desc := "(Lcom/example/orgwarden/orgwarden/server/oidc/Operator;)Lcom/example/orgwarden/orgwarden/server/http/Caller;" } : Jvm.MethodName) prog_52_method_3_code (1 : Nat) (Option.some (Jvm.ClassFile.FieldType.object "com/example/orgwarden/orgwarden/server/http/Caller")), Jvm.Cond.code ({ cls := "com/example/orgwarden/orgwarden/server/oidc/Operator", name := "getSubject", desc := "()Ljava/lang/String;" } : Jvm.MethodName) prog_55_method_2_code (1 : Nat) (Option.some (Jvm.ClassFile.FieldType.object "java/lang/String")), Jvm.Cond.code ({ cls := "com/example/orgwarden/orgwarden/trail/Actor", name := "of", desc := "(Ljava/lang/String;Ljava/util/UUID;)Lcom/example/orgwarden/orgwarden/trail/Actor;" } : Jvm.MethodName) prog_57_method_2_code (2 : Nat) (Option.some (Jvm.ClassFile.FieldType.object "com/example/orgwarden/orgwarden/trail/Actor")), Jvm.Cond.code ({ cls := "com/example/orgwarden/orgwarden/trail/Actor", name := "<init>", desc := "(Ljava/lang/String;Ljava/util/UUID;)V" } : Jvm.MethodName) prog_57_method_1_code (3 : Nat) (Option.none : Option Jvm.ClassFile.FieldType), Jvm.Cond.code ({ cls := "com/example/orgwarden/orgwarden/server/http/Caller", name := "<init>", desc := "(Lcom/example/orgwarden/orgwarden/trail/Actor;Lcom/example/orgwarden/orgwarden/server/oidc/Operator;)V" } : Jvm.MethodName) prog_52_method_1_code (3 : Nat) (Option.none : Option Jvm.ClassFile.FieldType), Jvm.Cond.code ({ cls := "com/example/orgwarden/orgwarden/server/http/Caller", name := "getOperator", desc := "()Ljava/util/Optional;" } : Jvm.MethodName) prog_52_method_5_code (1 : Nat) (Option.some (Jvm.ClassFile.FieldType.object "java/util/Optional")), Jvm.Cond.code ({ cls := "java/util/Optional", name := "ofNullable", desc := "(Ljava/lang/Object;)Ljava/util/Optional;" } : Jvm.MethodName) jdk_32_method_4_code (1 : Nat) (Option.some (Jvm.ClassFile.FieldType.object "java/util/Optional")), Jvm.Cond.code ({ cls := "java/util/Optional", name := "<init>", desc := "(Ljava/lang/Object;)V" } : Jvm.MethodName) jdk_32_method_2_code (2 : Nat) (Option.none : Option Jvm.ClassFile.FieldType), Jvm.Cond.code ({ cls := "java/util/Optional", name := "orElse", desc := "(Ljava/lang/Object;)Ljava/lang/Object;" } : Jvm.MethodName) jdk_32_method_15_code (2 : Nat) (Option.some (Jvm.ClassFile.FieldType.object "java/lang/Object")), Jvm.Cond.code ({ cls := "com/example/orgwarden/orgwarden/server/http/Caller", name := "getActor", desc := "()Lcom/example/orgwarden/orgwarden/trail/Actor;" } : Jvm.MethodName) prog_52_method_4_code (1 : Nat) (Option.some (Jvm.ClassFile.FieldType.object "com/example/orgwarden/orgwarden/trail/Actor")), Jvm.Cond.code ({ cls := "com/example/orgwarden/orgwarden/trail/Actor", name := "getSubject", desc := "()Ljava/util/Optional;" } : Jvm.MethodName) prog_57_method_3_code (1 : Nat) (Option.some (Jvm.ClassFile.FieldType.object "java/util/Optional")), Jvm.Cond.code ({ cls := "com/example/orgwarden/orgwarden/trail/Actor", name := "getCredentialID", desc := "()Ljava/util/Optional;" } : Jvm.MethodName) prog_57_method_4_code (1 : Nat) (Option.some (Jvm.ClassFile.FieldType.object "java/util/Optional")), Jvm.Cond.code ({ cls := "java/lang/String", name := "equals", desc := "(Ljava/lang/Object;)Z" } : Jvm.MethodName) jdk_42_method_66_code (3 : Nat) (Option.some Jvm.ClassFile.FieldType.boolean), Jvm.Cond.code ({ cls := "java/lang/StringUTF16", name := "compress", desc := "([CII)[B" } : Jvm.MethodName) jdk_52_method_16_code (6 : Nat) (Option.some (Jvm.ClassFile.FieldType.array Jvm.ClassFile.FieldType.byte)), Jvm.Cond.code ({ cls := "java/lang/StringUTF16", name := "compress", desc := "([CI[BII)I" } : Jvm.MethodName) jdk_52_method_21_code (7 : Nat) (Option.some Jvm.ClassFile.FieldType.int), Jvm.Cond.code ({ cls := "java/lang/StringUTF16", name := "coderFromArrayLen", desc := "([BI)B" } : Jvm.MethodName) jdk_52_method_15_code (2 : Nat) (Option.some Jvm.ClassFile.FieldType.byte)]
set_option maxRecDepth 65536 in
theorem codes_eq : words1.filter isCode = codes1 := rfl
theorem w_codes : ∀ c ∈ words1.filter isCode, c.before args0 about1 = true := by
  rw [codes_eq]
  intro c hc
  simp only [codes1, List.mem_cons, List.not_mem_nil, or_false] at hc
  rcases hc with rfl | rfl | rfl | rfl | rfl | rfl | rfl | rfl | rfl | rfl | rfl | rfl | rfl | rfl | rfl | rfl | rfl | rfl | rfl | rfl | rfl | rfl | rfl | rfl | rfl | rfl | rfl
  · exact w_c0
  · exact w_c1
  · exact w_c2
  · exact w_c3
  · exact w_c4
  · exact w_c5
  · exact w_c6
  · exact w_c7
  · exact w_c8
  · exact w_c9
  · exact w_c10
  · exact w_c11
  · exact w_c12
  · exact w_c13
  · exact w_c14
  · exact w_c15
  · exact w_c16
  · exact w_c17
  · exact w_c18
  · exact w_c19
  · exact w_c20
  · exact w_c21
  · exact w_c22
  · exact w_c23
  · exact w_c24
  · exact w_c25
  · exact w_c26
set_option maxRecDepth 65536 in
theorem w_t1 : (words1.take 24).all (fun c => isCode c || c.before args0 about1) = true := by decide +kernel
set_option maxRecDepth 65536 in
theorem w_t2 : ((words1.drop 24).take 24).all (fun c => isCode c || c.before args0 about1) = true := by decide +kernel
set_option maxRecDepth 65536 in
theorem w_t3 : (((words1.drop 24).drop 24).take 24).all (fun c => isCode c || c.before args0 about1) = true := by decide +kernel
set_option maxRecDepth 65536 in
theorem w_t4 : ((((words1.drop 24).drop 24).drop 24).take 24).all (fun c => isCode c || c.before args0 about1) = true := by decide +kernel
set_option maxRecDepth 65536 in
theorem w_t5 : (((((words1.drop 24).drop 24).drop 24).drop 24).take 24).all (fun c => isCode c || c.before args0 about1) = true := by decide +kernel
set_option maxRecDepth 65536 in
theorem w_t6 : ((((((words1.drop 24).drop 24).drop 24).drop 24).drop 24).take 24).all (fun c => isCode c || c.before args0 about1) = true := by decide +kernel
set_option maxRecDepth 65536 in
theorem w_t7 : ((((((words1.drop 24).drop 24).drop 24).drop 24).drop 24).drop 24).all (fun c => isCode c || c.before args0 about1) = true := by decide +kernel
theorem w_tables : (allAtoms (Jvm.Cond.code x code maxLocals ret :: tables_1)).before args0 about1 = true := by
  rw [allAtoms_all]
  show words1.all (fun c => c.before args0 about1) = true
  refine all_split ?_ w_codes
  rw [← List.take_append_drop 24 words1, List.all_append, w_t1, ← List.take_append_drop 24 (words1.drop 24), List.all_append, w_t2, ← List.take_append_drop 24 ((words1.drop 24).drop 24), List.all_append, w_t3, ← List.take_append_drop 24 (((words1.drop 24).drop 24).drop 24), List.all_append, w_t4, ← List.take_append_drop 24 ((((words1.drop 24).drop 24).drop 24).drop 24), List.all_append, w_t5, ← List.take_append_drop 24 (((((words1.drop 24).drop 24).drop 24).drop 24).drop 24), List.all_append, w_t6, w_t7]
  rfl
set_option maxRecDepth 65536 in
theorem w_rest : rest_1_c.before args0 about1 = true := by decide +kernel
set_option maxRecDepth 65536 in
theorem w_case : (Jvm.Cond.and given_1 narrow_1).before args0 about1 = true := by decide +kernel
set_option maxRecDepth 65536 in
theorem w_consts : constsHeld consts_1 about1 := Jvm.Lit.constsHeldB_iff.mp (by decide +kernel)
theorem w_applies : (headSpec (Jvm.Cond.code x code maxLocals ret :: tables_1) room_1).applies x e0.platform about1 = true :=
  (Spec.applies_iff w_frames).mpr ⟨w_running, w_runnable, w_alone, w_named, w_hears, w_ripe, w_room, w_tables⟩
theorem atStart : AtStart classFile x code maxLocals ret World_1 tables_1 room_1 Calls_1 rest_1 Pre_1 launch0 p0 e0 about1 theMethod args0 below0 :=
  ⟨lists_1, trivial, launch0.admits_env _ _ _, launch0.least_env, fairChoices_fair.cas, fairChoices_fair.clock, w_frames, w_args, w_heap, w_applies, ⟨w_consts, trivial⟩, w_rest, w_case⟩
end start1
theorem witness_1 : WitnessClaimed_1 := ⟨start1.p0, start1.e0, start1.about1, start1.theMethod, start1.args0, start1.below0, start1.atStart⟩
end Jvm.Pilot.@@N@@

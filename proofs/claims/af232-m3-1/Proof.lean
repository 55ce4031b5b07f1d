import JvmDerived
import JvmDerived.Pilot.@@N@@Statement
import JvmDerived.Pilot.@@N@@Code
set_option linter.unusedVariables false
set_option linter.unusedSimpArgs false
namespace Jvm.Pilot.@@N@@
open Jvm Jvm.ClassFile Sem Op Lib Jvm.Free Jvm.Stand Jvm.LawKit Jvm.RoadKit Bundle Jvm.Pilot.@@N@@.Jvm.D
def own_ushr (x y : Int32) : Int32 := (x.toUInt32 >>> (y &&& 31).toUInt32).toInt32
def own_ushrL (x : Int64) (y : Int32) : Int64 := (x.toUInt64 >>> (y &&& 0x3f).toInt64.toUInt64).toInt64
section OwnKit
variable {p : Program} {l : Launch} {e : Env} {R : Room} {s : State} {m : MethodId} {args : Array Value} {below : List Frame} {meth : Method} {c : Code} {T : State} {locs : List Loc} {cells slots : Nat} {Z : State} {h h0 : Heap} {ce sl : Nat} {Q : Option Value → Heap → List Loc → Prop} {U U' : State} {a0 : Array Value}
/-- from U the walk comes to its return, and what it leaves is Q -/
def Go (p : Program) (e : Env) (below : List Frame) (s : State) (ce sl : Nat) (Q : Option Value → Heap → List Loc → Prop) (U : State) : Prop :=
  ∃ s₂ o, Steps p.tables e below U s₂ ∧ s₂.status = .running ∧ Ended s₂ below o ∧ ∃ v L, o = .returned v ∧ Q v s₂.heap L ∧ FrameEnd s o s₂ L ce sl
theorem Go.via (h : ∀ t, Steps p.tables e below U' t → Steps p.tables e below U t) (g : Go p e below s ce sl Q U') : Go p e below s ce sl Q U := by
  obtain ⟨s₂, o, h1, h2⟩ := g
  exact ⟨s₂, o, h _ h1, h2⟩
theorem Go.cast {g g' : JFrame} (q : g = g') (k : Go p e below s ce sl Q (T.setTop g')) : Go p e below s ce sl Q (T.setTop g) := q ▸ k
/-- the contract of a body: called with as', over the heap h0, it returns and leaves Q -/
def Meets (l : Launch) (Z : State) (y : MethodName) (bytes : ByteArray) (maxL : Nat) (rt : Option FieldType) (ws : List Jvm.Cond) (rm : Room) (as' : Array Value) (h0 : Heap) (Q : Option Value → Heap → List Loc → Prop) : Prop :=
  MetFree l y (head1 (Jvm.Cond.code y bytes maxL rt :: ws) rm) (fun a U => a = as' ∧ Z.Warmed39 U.vm ∧ U.heap = h0) (fun _ _ _ _ _ => True) (fun _ U o U' => ∃ v L, o = .returned v ∧ Q v U'.heap L ∧ FrameEnd U o U' L rm.cells rm.slots)
theorem meets_of {y : MethodName} {bytes : ByteArray} {maxL : Nat} {rt : Option FieldType} {ws : List Jvm.Cond} {rm : Room} {as' : Array Value} (hpl : plainFor y = true)
    (body : ∀ p e s m below meth c s₁, Stand p l e rm s m as' below meth c s₁ [] 0 0 → p.tables.exec = Jvm.exec → Z.Warmed39 s.vm → c.code = bytes → c.maxLocals = maxL → meth.sig.returnType = rt → meth.locks = false → s.vm.findClass y.cls = some m.cls → meth.name = y.name → s₁.heap = h0 →
      Go p e below s rm.cells rm.slots Q (s₁.setTop (entryFrame m as' maxL))) : Meets l Z y bytes maxL rt ws rm as' h0 Q := by
  refine MetFree.of_bodySF hpl hisR ?_
  intro p e s m args below meth c s₁ Bd hml hP hK
  obtain ⟨rfl, hZ, hh⟩ := hP
  exact body p e s m below meth c s₁ (Stand.of_body Bd) Bd.exec hZ Bd.bytes hml Bd.returns Bd.notSynchronized (findClass_of_methodNamed Bd.named) (name_of_methodNamed Bd.named Bd.method).1 (by rw [← hh, Bd.state]; rfl)
theorem go_ret (X : Stand p l e R s m args below meth c T locs cells slots) (hlk : meth.locks = false) {v : Option Value} (hv : meth.sig.returnType = none → v = none) (eT : T.heap = h) (hQ : Q v h locs) (hc : cells ≤ ce) (hs : slots ≤ sl)
    (st : ∀ fs, (∀ (f : JFrame) (acts : List Action), f.method = m → f.locked = none → f.entered = [] → (doReturn e (T.setTop f) acts v).1 = T.setFrames fs) → Steps p.tables e below U (T.setFrames fs)) : Go p e below s ce sl Q U := by
  obtain ⟨fs, hr, hrun, hended, hW, hsame⟩ := X.leave hv hlk
  exact ⟨_, _, st fs hr, hrun, hended, v, locs, rfl, (by show Q v T.heap locs; rw [eT]; exact hQ), ⟨_, rfl⟩, hW, hsame.mono hc hs⟩
theorem go_retN (X : Stand p l e R s m args below meth c T locs cells slots) (hx : p.tables.exec = Jvm.exec) (hlk : meth.locks = false) {t : FieldType} (hret : meth.sig.returnType = some t) (ht : t = .boolean ∨ t = .byte ∨ t = .char ∨ t = .short) {pc : Nat} {Ls : Array Slot} {z : Int32} {rest : List Value}
    (hd : decode c.code pc = .ok (.ireturn, 1)) (eT : T.heap = h) (hQ : Q (some (.int (nar t z))) h locs) (hc : cells ≤ ce) (hs : slots ≤ sl) : Go p e below s ce sl Q (T.setTop (mkF m pc Ls (.int z :: rest))) :=
  go_ret X hlk (fun h => by rw [hret] at h; cases h) eT hQ hc hs (fun fs hr => retN X hx hret ht hd hr)
theorem go_retI (X : Stand p l e R s m args below meth c T locs cells slots) (hx : p.tables.exec = Jvm.exec) (hlk : meth.locks = false) (hret : meth.sig.returnType = some .int) {pc : Nat} {Ls : Array Slot} {z : Int32} {rest : List Value}
    (hd : decode c.code pc = .ok (.ireturn, 1)) (eT : T.heap = h) (hQ : Q (some (.int z)) h locs) (hc : cells ≤ ce) (hs : slots ≤ sl) : Go p e below s ce sl Q (T.setTop (mkF m pc Ls (.int z :: rest))) :=
  go_ret X hlk (fun h => by rw [hret] at h; cases h) eT hQ hc hs (fun fs hr => retOut X hx hret rfl (Or.inl ⟨rfl, Or.inl rfl, z, rfl⟩) hd hr)
theorem go_retJ (X : Stand p l e R s m args below meth c T locs cells slots) (hx : p.tables.exec = Jvm.exec) (hlk : meth.locks = false) (hret : meth.sig.returnType = some .long) {pc : Nat} {Ls : Array Slot} {z : Int64} {rest : List Value}
    (hd : decode c.code pc = .ok (.lreturn, 1)) (eT : T.heap = h) (hQ : Q (some (.long z)) h locs) (hc : cells ≤ ce) (hs : slots ≤ sl) : Go p e below s ce sl Q (T.setTop (mkF m pc Ls (.long z :: rest))) :=
  go_ret X hlk (fun h => by rw [hret] at h; cases h) eT hQ hc hs (fun fs hr => retOut X hx hret rfl (Or.inr (Or.inl ⟨rfl, rfl, z, rfl⟩)) hd hr)
theorem go_retA (X : Stand p l e R s m args below meth c T locs cells slots) (hx : p.tables.exec = Jvm.exec) (hlk : meth.locks = false) {t : FieldType} (hret : meth.sig.returnType = some t) (ht : t.isReference = true) {pc : Nat} {Ls : Array Slot} {w : Value} (hw : w.isRef = true) (hn : narrow t w = w) {rest : List Value}
    (hd : decode c.code pc = .ok (.areturn, 1)) (eT : T.heap = h) (hQ : Q (some w) h locs) (hc : cells ≤ ce) (hs : slots ≤ sl) : Go p e below s ce sl Q (T.setTop (mkF m pc Ls (w :: rest))) :=
  go_ret X hlk (fun h => by rw [hret] at h; cases h) eT hQ hc hs (fun fs hr => retOut X hx hret hn (Or.inr (Or.inr (Or.inr (Or.inr ⟨rfl, ht, hw⟩)))) hd hr)
theorem go_retV (X : Stand p l e R s m args below meth c T locs cells slots) (hx : p.tables.exec = Jvm.exec) (hlk : meth.locks = false) (hret : meth.sig.returnType = none) {pc : Nat} {Ls : Array Slot}
    (hd : decode c.code pc = .ok (.return_, 1)) (eT : T.heap = h) (hQ : Q none h locs) (hc : cells ≤ ce) (hs : slots ≤ sl) : Go p e below s ce sl Q (T.setTop (mkF m pc Ls [])) :=
  go_ret X hlk (fun _ => rfl) eT hQ hc hs (fun fs hr => X.returnOut hx hret hd hr)
/-- it returned v, wrote nothing and made nothing -/
def PureR (v : Option Value) (h0 : Heap) : Option Value → Heap → List Loc → Prop := fun v' h L => v' = v ∧ h = h0 ∧ L = []
/-- a static method by its contract -/
theorem callSQ (X : Stand p l e R s m args below meth c T locs cells slots) (hx : p.tables.exec = Jvm.exec) (hZ : Z.Warmed39 s.vm) {own : String} {index : Nat} {y : MethodName} {bytes : ByteArray} {maxL : Nat} {rt : Option FieldType} {rm : Room}
    (hown : s.vm.findClass own = some m.cls) (w1 : (Jvm.Cond.methodLink own index y).before a0 Z = true) (w2 : (Jvm.Cond.static y).before a0 Z = true) (w3 : (Jvm.Cond.initialized y.cls).before a0 Z = true) (w4 : (Jvm.Cond.code y bytes maxL rt).before a0 Z = true)
    (hy : y.cls ≠ "java/lang/invoke/MethodHandle" ∧ y.cls ≠ "java/lang/invoke/VarHandle") {av : List Value} (hM : Meets l Z y bytes maxL rt [] rm av.toArray h Q) (eT : T.heap = h)
    {pc : Nat} {Ls : Array Slot} {rest : List Value} {ps : List FieldType} {r : Option FieldType} (hsize : Ls.size = c.maxLocals) (hp : parseMethodDescriptor y.desc = some ⟨ps, r⟩) (hlen : av.length = ps.length)
    (W : Nat) (hW : (rest.map fun v => v.category).sum ≤ W) (hf : rm.frames + 1 ≤ R.frames) (hl : W + (maxL + 11) + rm.locals ≤ R.locals) (hc : cells + rm.cells ≤ R.cells) (hs : slots + rm.slots ≤ R.slots) (hd : decode c.code pc = .ok (.invokestatic index, 3)) :
    ∃ v T' L, Stand p l e R s m args below meth c T' (locs ++ L) (cells + rm.cells) (slots + rm.slots) ∧ Q v T'.heap L ∧
      ∀ t, Steps p.tables e below (T'.setTop (mkF m (pc + 3) Ls (v.toList ++ rest))) t → Steps p.tables e below (T.setTop (mkF m pc Ls (av.reverse ++ rest))) t := by
  obtain ⟨v, _, ⟨T2, L2, k2, n2⟩, -, X2, ⟨Lc2, hQ2, l2, y2, z2⟩, st2⟩ := Jvm.LawKit.callS X hx (y := y) hown (mvT hZ w1) (mvT hZ w2) (mvT hZ w3) (mvT hZ w4) hy (backOf (W := W) hM hZ w4 w3 hf hl) (g := mkF m pc Ls (av.reverse ++ rest)) rfl hsize (argsL := av) (rest := rest) (lenOf hp hlen) rfl (by show 2 * 0 + _ ≤ _; rw [Nat.mul_zero, Nat.zero_add]; exact hW) hd (fun _ _ => ⟨rfl, eT, hc, hs⟩)
  dsimp only [Pt.U, Pt.locs, Pt.cells, Pt.slots] at X2 l2 y2 z2 st2 hQ2
  subst l2 y2 z2
  exact ⟨v, T2, Lc2, X2, hQ2, st2⟩
/-- a static method that writes and makes nothing -/
theorem callS0 (X : Stand p l e R s m args below meth c T locs cells slots) (hx : p.tables.exec = Jvm.exec) (hZ : Z.Warmed39 s.vm) {own : String} {index : Nat} {y : MethodName} {bytes : ByteArray} {maxL : Nat} {rt : Option FieldType} {fr lo : Nat} {v : Option Value}
    (hown : s.vm.findClass own = some m.cls) (w1 : (Jvm.Cond.methodLink own index y).before a0 Z = true) (w2 : (Jvm.Cond.static y).before a0 Z = true) (w3 : (Jvm.Cond.initialized y.cls).before a0 Z = true) (w4 : (Jvm.Cond.code y bytes maxL rt).before a0 Z = true)
    (hy : y.cls ≠ "java/lang/invoke/MethodHandle" ∧ y.cls ≠ "java/lang/invoke/VarHandle") {av : List Value} (hM : Meets l Z y bytes maxL rt [] ({ frames := fr, cells := 0, slots := 0, locals := lo } : Room) av.toArray h (PureR v h)) (eT : T.heap = h)
    {pc : Nat} {Ls : Array Slot} {rest : List Value} {ps : List FieldType} {r : Option FieldType} (hsize : Ls.size = c.maxLocals) (hp : parseMethodDescriptor y.desc = some ⟨ps, r⟩) (hlen : av.length = ps.length)
    (W : Nat) (hW : (rest.map fun v => v.category).sum ≤ W) (hf : fr + 1 ≤ R.frames) (hl : W + (maxL + 11) + lo ≤ R.locals) (hc : cells ≤ R.cells) (hs : slots ≤ R.slots) (hd : decode c.code pc = .ok (.invokestatic index, 3)) :
    ∃ T', Stand p l e R s m args below meth c T' locs cells slots ∧ T'.heap = h ∧
      ∀ t, Steps p.tables e below (T'.setTop (mkF m (pc + 3) Ls (v.toList ++ rest))) t → Steps p.tables e below (T.setTop (mkF m pc Ls (av.reverse ++ rest))) t := by
  obtain ⟨_, T2, _, X2, ⟨rfl, h2, rfl⟩, st2⟩ := callSQ X hx hZ hown w1 w2 w3 w4 hy hM eT hsize hp hlen W hW hf hl hc hs hd
  rw [List.append_nil] at X2
  exact ⟨T2, X2, h2, st2⟩
end OwnKit
theorem own_k0 (m : MethodId) (x0 : Int32) : entryFrame m #[(.int x0)] 1 = mkF m 0 #[.val (.int x0)] [] := by first | (simp [entryFrame, mkF, argsToLocals, Value.category]; done) | rfl
theorem own_k1 : decode prog_9_method_6_code 0 = .ok (.iload_n 0, 1) := by decide +kernel
theorem own_k2 : decode prog_9_method_6_code 1 = .ok (.iconst 2, 1) := by decide +kernel
theorem own_k3 : decode prog_9_method_6_code 2 = .ok (.irem, 1) := by decide +kernel
theorem own_k4 : decode prog_9_method_6_code 3 = .ok (.ifCond .ne 7, 3) := by decide +kernel
theorem own_k5 : decode prog_9_method_6_code 6 = .ok (.iconst 1, 1) := by decide +kernel
theorem own_k6 : decode prog_9_method_6_code 7 = .ok (.goto 4, 3) := by decide +kernel
theorem own_k7 : decode prog_9_method_6_code 11 = .ok (.ireturn, 1) := by decide +kernel
theorem own_k8 : decode prog_9_method_6_code 10 = .ok (.iconst 0, 1) := by decide +kernel
theorem own_k9 : plainName "com/example/dislope/dislope/core/embedding/Faces" = true := by first | (simp [plainName, overriddenIn]; done) | decide +kernel
def own_f1 (x0 : Int32) : Int32 := (if (x0 % (2 : Int32)) = (0 : Int32) then (1 : Int32) else (0 : Int32))
set_option maxRecDepth 65536 in
set_option maxHeartbeats 40000000 in
theorem own_rm1 (l : Launch) (Z : State) (a0 : Array Value) (hw : ∀ d ∈ tables_1, d.before a0 Z = true) (ws : List Jvm.Cond) (x0 : Int32) (h0 : Heap) : Meets l Z (⟨"com/example/dislope/dislope/core/embedding/Faces", "isForward", "(I)Z"⟩ : MethodName) prog_9_method_6_code 1 (some .boolean) ws ({ frames := 0, cells := 0, slots := 0, locals := 0 } : Room) #[(.int x0)] h0 (PureR (some (.int (own_f1 x0))) h0) := by
  refine meets_of (plainFor_of_name own_k9) ?_
  intro p e s m below meth c s₁ X0 hx hZ hby hml hret hlk hown hnm e0
  replace hml : c.maxLocals = 1 := hml
  replace hown : s.vm.findClass "com/example/dislope/dislope/core/embedding/Faces" = some m.cls := hown
  refine Go.cast (own_k0 m x0) ?_
  refine Go.via (U' := s₁.setTop (mkF m 1 #[.val (.int x0)] [(.int x0)])) (fun t k => XS.iloadN X0.here hx rfl (hb hby own_k1) rfl k) ?_
  refine Go.via (U' := s₁.setTop (mkF m 2 #[.val (.int x0)] [(.int (2 : Int32)), (.int x0)])) (fun t k => XS.iconst X0.here hx rfl (hb hby own_k2) k) ?_
  refine Go.via (U' := s₁.setTop (mkF m 3 #[.val (.int x0)] [(.int (x0 % (2 : Int32)))])) (fun t k => iremM X0 hx rfl (hb hby own_k3) rfl (by decide) k) ?_
  by_cases hc3 : (x0 % (2 : Int32)) = (0 : Int32)
  · refine Go.via (U' := s₁.setTop (mkF m 6 #[.val (.int x0)] [])) (fun t k => XS.ifNo X0.here hx rfl (hb hby own_k4) rfl ((if0 _ _).trans (teq hc3).2) k) ?_
    refine Go.via (U' := s₁.setTop (mkF m 7 #[.val (.int x0)] [(.int (1 : Int32))])) (fun t k => XS.iconst X0.here hx rfl (hb hby own_k5) k) ?_
    refine Go.via (U' := s₁.setTop (mkF m 11 #[.val (.int x0)] [(.int (1 : Int32))])) (fun t k => XS.goto X0.here hx rfl (pc0 := 7) (pc' := 11) rfl (hb hby own_k6) (by decide) (by decide) k) ?_
    exact go_retN X0 hx hlk (t := .boolean) hret (by simp) (hb hby own_k7) e0 ⟨(congrArg (fun z => some (Value.int z)) (show nar .boolean (1 : Int32) = (own_f1 x0) from by unfold own_f1; simp only [if_pos hc3] <;> rfl)), rfl, rfl⟩ (by decide) (by decide)
  · refine Go.via (U' := s₁.setTop (mkF m 10 #[.val (.int x0)] [])) (fun t k => XS.ifYes X0.here hx rfl (pc0 := 3) (pc' := 10) rfl (hb hby own_k4) rfl ((if0 _ _).trans (feq hc3).2) (by decide) (by decide) k) ?_
    refine Go.via (U' := s₁.setTop (mkF m 11 #[.val (.int x0)] [(.int (0 : Int32))])) (fun t k => XS.iconst X0.here hx rfl (hb hby own_k8) k) ?_
    exact go_retN X0 hx hlk (t := .boolean) hret (by simp) (hb hby own_k7) e0 ⟨(congrArg (fun z => some (Value.int z)) (show nar .boolean (0 : Int32) = (own_f1 x0) from by unfold own_f1; simp only [if_neg hc3] <;> rfl)), rfl, rfl⟩ (by decide) (by decide)
theorem own_k10 (m : MethodId) (x0 : Int32) : entryFrame m #[(.int x0)] 1 = mkF m 0 #[.val (.int x0)] [] := by first | (simp [entryFrame, mkF, argsToLocals, Value.category]; done) | rfl
theorem own_k11 : decode prog_9_method_5_code 0 = .ok (.iload_n 0, 1) := by decide +kernel
theorem own_k12 : decode prog_9_method_5_code 1 = .ok (.iconst 2, 1) := by decide +kernel
theorem own_k13 : decode prog_9_method_5_code 2 = .ok (.idiv, 1) := by decide +kernel
theorem own_k14 : decode prog_9_method_5_code 3 = .ok (.ireturn, 1) := by decide +kernel
def own_f2 (x0 : Int32) : Int32 := (x0 / (2 : Int32))
set_option maxRecDepth 65536 in
set_option maxHeartbeats 40000000 in
theorem own_rm2 (l : Launch) (Z : State) (a0 : Array Value) (hw : ∀ d ∈ tables_1, d.before a0 Z = true) (ws : List Jvm.Cond) (x0 : Int32) (h0 : Heap) : Meets l Z (⟨"com/example/dislope/dislope/core/embedding/Faces", "edge", "(I)I"⟩ : MethodName) prog_9_method_5_code 1 (some .int) ws ({ frames := 0, cells := 0, slots := 0, locals := 0 } : Room) #[(.int x0)] h0 (PureR (some (.int (own_f2 x0))) h0) := by
  refine meets_of (plainFor_of_name own_k9) ?_
  intro p e s m below meth c s₁ X0 hx hZ hby hml hret hlk hown hnm e0
  replace hml : c.maxLocals = 1 := hml
  replace hown : s.vm.findClass "com/example/dislope/dislope/core/embedding/Faces" = some m.cls := hown
  refine Go.cast (own_k10 m x0) ?_
  refine Go.via (U' := s₁.setTop (mkF m 1 #[.val (.int x0)] [(.int x0)])) (fun t k => XS.iloadN X0.here hx rfl (hb hby own_k11) rfl k) ?_
  refine Go.via (U' := s₁.setTop (mkF m 2 #[.val (.int x0)] [(.int (2 : Int32)), (.int x0)])) (fun t k => XS.iconst X0.here hx rfl (hb hby own_k12) k) ?_
  refine Go.via (U' := s₁.setTop (mkF m 3 #[.val (.int x0)] [(.int (x0 / (2 : Int32)))])) (fun t k => XS.idiv X0.here hx rfl (hb hby own_k13) rfl (by decide) k) ?_
  exact go_retI X0 hx hlk hret (hb hby own_k14) e0 ⟨(congrArg (fun z => some (Value.int z)) (show (x0 / (2 : Int32)) = (own_f2 x0) from by rfl)), rfl, rfl⟩ (by decide) (by decide)
theorem own_k15 (m : MethodId) (x0 : Int32) : entryFrame m #[(.int x0)] 1 = mkF m 0 #[.val (.int x0)] [] := by first | (simp [entryFrame, mkF, argsToLocals, Value.category]; done) | rfl
theorem own_k16 : decode prog_9_method_3_code 0 = .ok (.iconst 2, 1) := by decide +kernel
theorem own_k17 : decode prog_9_method_3_code 1 = .ok (.iload_n 0, 1) := by decide +kernel
theorem own_k18 : decode prog_9_method_3_code 2 = .ok (.imul, 1) := by decide +kernel
theorem own_k19 : decode prog_9_method_3_code 3 = .ok (.ireturn, 1) := by decide +kernel
def own_f3 (x0 : Int32) : Int32 := ((2 : Int32) * x0)
set_option maxRecDepth 65536 in
set_option maxHeartbeats 40000000 in
theorem own_rm3 (l : Launch) (Z : State) (a0 : Array Value) (hw : ∀ d ∈ tables_1, d.before a0 Z = true) (ws : List Jvm.Cond) (x0 : Int32) (h0 : Heap) : Meets l Z (⟨"com/example/dislope/dislope/core/embedding/Faces", "forward", "(I)I"⟩ : MethodName) prog_9_method_3_code 1 (some .int) ws ({ frames := 0, cells := 0, slots := 0, locals := 0 } : Room) #[(.int x0)] h0 (PureR (some (.int (own_f3 x0))) h0) := by
  refine meets_of (plainFor_of_name own_k9) ?_
  intro p e s m below meth c s₁ X0 hx hZ hby hml hret hlk hown hnm e0
  replace hml : c.maxLocals = 1 := hml
  replace hown : s.vm.findClass "com/example/dislope/dislope/core/embedding/Faces" = some m.cls := hown
  refine Go.cast (own_k15 m x0) ?_
  refine Go.via (U' := s₁.setTop (mkF m 1 #[.val (.int x0)] [(.int (2 : Int32))])) (fun t k => XS.iconst X0.here hx rfl (hb hby own_k16) k) ?_
  refine Go.via (U' := s₁.setTop (mkF m 2 #[.val (.int x0)] [(.int x0), (.int (2 : Int32))])) (fun t k => XS.iloadN X0.here hx rfl (hb hby own_k17) rfl k) ?_
  refine Go.via (U' := s₁.setTop (mkF m 3 #[.val (.int x0)] [(.int ((2 : Int32) * x0))])) (fun t k => XS.imul X0.here hx rfl (hb hby own_k18) rfl k) ?_
  exact go_retI X0 hx hlk hret (hb hby own_k19) e0 ⟨(congrArg (fun z => some (Value.int z)) (show ((2 : Int32) * x0) = (own_f3 x0) from by rfl)), rfl, rfl⟩ (by decide) (by decide)
theorem own_k20 (m : MethodId) (x0 : Int32) : entryFrame m #[(.int x0)] 1 = mkF m 0 #[.val (.int x0)] [] := by first | (simp [entryFrame, mkF, argsToLocals, Value.category]; done) | rfl
theorem own_k21 : decode prog_9_method_4_code 0 = .ok (.iconst 2, 1) := by decide +kernel
theorem own_k22 : decode prog_9_method_4_code 1 = .ok (.iload_n 0, 1) := by decide +kernel
theorem own_k23 : decode prog_9_method_4_code 2 = .ok (.imul, 1) := by decide +kernel
theorem own_k24 : decode prog_9_method_4_code 3 = .ok (.iconst 1, 1) := by decide +kernel
theorem own_k25 : decode prog_9_method_4_code 4 = .ok (.iadd, 1) := by decide +kernel
theorem own_k26 : decode prog_9_method_4_code 5 = .ok (.ireturn, 1) := by decide +kernel
def own_f4 (x0 : Int32) : Int32 := (((2 : Int32) * x0) + (1 : Int32))
set_option maxRecDepth 65536 in
set_option maxHeartbeats 40000000 in
theorem own_rm4 (l : Launch) (Z : State) (a0 : Array Value) (hw : ∀ d ∈ tables_1, d.before a0 Z = true) (ws : List Jvm.Cond) (x0 : Int32) (h0 : Heap) : Meets l Z (⟨"com/example/dislope/dislope/core/embedding/Faces", "backward", "(I)I"⟩ : MethodName) prog_9_method_4_code 1 (some .int) ws ({ frames := 0, cells := 0, slots := 0, locals := 0 } : Room) #[(.int x0)] h0 (PureR (some (.int (own_f4 x0))) h0) := by
  refine meets_of (plainFor_of_name own_k9) ?_
  intro p e s m below meth c s₁ X0 hx hZ hby hml hret hlk hown hnm e0
  replace hml : c.maxLocals = 1 := hml
  replace hown : s.vm.findClass "com/example/dislope/dislope/core/embedding/Faces" = some m.cls := hown
  refine Go.cast (own_k20 m x0) ?_
  refine Go.via (U' := s₁.setTop (mkF m 1 #[.val (.int x0)] [(.int (2 : Int32))])) (fun t k => XS.iconst X0.here hx rfl (hb hby own_k21) k) ?_
  refine Go.via (U' := s₁.setTop (mkF m 2 #[.val (.int x0)] [(.int x0), (.int (2 : Int32))])) (fun t k => XS.iloadN X0.here hx rfl (hb hby own_k22) rfl k) ?_
  refine Go.via (U' := s₁.setTop (mkF m 3 #[.val (.int x0)] [(.int ((2 : Int32) * x0))])) (fun t k => XS.imul X0.here hx rfl (hb hby own_k23) rfl k) ?_
  refine Go.via (U' := s₁.setTop (mkF m 4 #[.val (.int x0)] [(.int (1 : Int32)), (.int ((2 : Int32) * x0))])) (fun t k => XS.iconst X0.here hx rfl (hb hby own_k24) k) ?_
  refine Go.via (U' := s₁.setTop (mkF m 5 #[.val (.int x0)] [(.int (((2 : Int32) * x0) + (1 : Int32)))])) (fun t k => XS.iadd X0.here hx rfl (hb hby own_k25) rfl k) ?_
  exact go_retI X0 hx hlk hret (hb hby own_k26) e0 ⟨(congrArg (fun z => some (Value.int z)) (show (((2 : Int32) * x0) + (1 : Int32)) = (own_f4 x0) from by rfl)), rfl, rfl⟩ (by decide) (by decide)
theorem own_k27 (m : MethodId) (x0 : Int32) (x1 : Int32) : entryFrame m #[(.int x0), (.int x1)] maxLocals = mkF m 0 #[.val (.int x0), .val (.int x1), .unset, .unset, .unset, .unset, .unset, .unset] [] := by first | (simp [entryFrame, mkF, argsToLocals, Value.category, maxLocals]; done) | rfl
theorem own_k28 : parseMethodDescriptor "(I)Z" = some ⟨[.int], some .boolean⟩ := by decide +kernel
def own_j0_19_s0 (x0 : Int32) : Int32 := (if ((x0 &&& (2147483647 : Int32)) &&& (1 : Int32)) = (0 : Int32) then (1 : Int32) else (0 : Int32))
theorem own_k29 : parseMethodDescriptor "(I)I" = some ⟨[.int], some .int⟩ := by decide +kernel
def own_j0_31_s0 (x0 : Int32) : Int32 := (if (own_f1 (x0 &&& (2147483647 : Int32))) = (0 : Int32) then (if (x0 &&& (2147483647 : Int32)) = (own_f4 (own_f2 (x0 &&& (2147483647 : Int32)))) then (1 : Int32) else (0 : Int32)) else (if (x0 &&& (2147483647 : Int32)) = (own_f3 (own_f2 (x0 &&& (2147483647 : Int32)))) then (1 : Int32) else (0 : Int32)))
def own_j0_78_s0 (x1 : Int32) : Int32 := (if (own_f1 (own_f3 (x1 &&& (1073741823 : Int32)))) = (0 : Int32) then (0 : Int32) else (if (own_f1 (own_f4 (x1 &&& (1073741823 : Int32)))) = (0 : Int32) then (1 : Int32) else (0 : Int32)))
theorem own_k30 : plainName "com/example/dislope/dislope/core/embedding/FacesIsForwardPinLaw" = true := by first | (simp [plainName, overriddenIn]; done) | decide +kernel
def own_f0 (x0 : Int32) (x1 : Int32) : Int32 := (if (own_f1 (x0 &&& (2147483647 : Int32))) = (own_j0_19_s0 x0) then (if (own_j0_31_s0 x0) = (0 : Int32) then (0 : Int32) else (if (own_j0_78_s0 x1) = (0 : Int32) then (0 : Int32) else (1 : Int32))) else (0 : Int32))
set_option maxRecDepth 65536 in
set_option maxHeartbeats 40000000 in
theorem own_rm0 (l : Launch) (Z : State) (a0 : Array Value) (hw : ∀ d ∈ tables_1, d.before a0 Z = true) (ws : List Jvm.Cond) (x0 : Int32) (x1 : Int32) (h0 : Heap) : Meets l Z x code maxLocals ret ws room_1 #[(.int x0), (.int x1)] h0 (PureR (some (.int (own_f0 x0 x1))) h0) := by
  refine meets_of (plainFor_of_name own_k30) ?_
  intro p e s m below meth c s₁ X0 hx hZ hby hml hret hlk hown hnm e0
  replace hml : c.maxLocals = 8 := hml
  replace hown : s.vm.findClass "com/example/dislope/dislope/core/embedding/FacesIsForwardPinLaw" = some m.cls := hown
  refine Go.cast (own_k27 m x0 x1) ?_
  refine Go.via (U' := s₁.setTop (mkF m 1 #[.val (.int x0), .val (.int x1), .unset, .unset, .unset, .unset, .unset, .unset] [(.int x0)])) (fun t k => XS.iloadN X0.here hx rfl (hb hby at_0) rfl k) ?_
  refine Go.via (U' := s₁.setTop (mkF m 3 #[.val (.int x0), .val (.int x1), .unset, .unset, .unset, .unset, .unset, .unset] [(.int (2147483647 : Int32)), (.int x0)])) (fun t k => X0.ldcInt hx hown (mvT hZ (hw _ (List.mem_of_getElem? (i := 0) rfl))) (g := (mkF m 1 #[.val (.int x0), .val (.int x1), .unset, .unset, .unset, .unset, .unset, .unset] [(.int x0)])) rfl (hb hby at_1) t k) ?_
  refine Go.via (U' := s₁.setTop (mkF m 4 #[.val (.int x0), .val (.int x1), .unset, .unset, .unset, .unset, .unset, .unset] [(.int (x0 &&& (2147483647 : Int32)))])) (fun t k => XS.iand X0.here hx rfl (hb hby at_3) rfl k) ?_
  refine Go.via (U' := s₁.setTop (mkF m 5 #[.val (.int x0), .val (.int x1), .val (.int (x0 &&& (2147483647 : Int32))), .unset, .unset, .unset, .unset, .unset] [])) (fun t k => XS.istoreN X0.here hx rfl (hb hby at_4) rfl (l' := #[.val (.int x0), .val (.int x1), .val (.int (x0 &&& (2147483647 : Int32))), .unset, .unset, .unset, .unset, .unset]) rfl k) ?_
  refine Go.via (U' := s₁.setTop (mkF m 6 #[.val (.int x0), .val (.int x1), .val (.int (x0 &&& (2147483647 : Int32))), .unset, .unset, .unset, .unset, .unset] [(.int x1)])) (fun t k => XS.iloadN X0.here hx rfl (hb hby at_5) rfl k) ?_
  refine Go.via (U' := s₁.setTop (mkF m 8 #[.val (.int x0), .val (.int x1), .val (.int (x0 &&& (2147483647 : Int32))), .unset, .unset, .unset, .unset, .unset] [(.int (1073741823 : Int32)), (.int x1)])) (fun t k => X0.ldcInt hx hown (mvT hZ (hw _ (List.mem_of_getElem? (i := 1) rfl))) (g := (mkF m 6 #[.val (.int x0), .val (.int x1), .val (.int (x0 &&& (2147483647 : Int32))), .unset, .unset, .unset, .unset, .unset] [(.int x1)])) rfl (hb hby at_6) t k) ?_
  refine Go.via (U' := s₁.setTop (mkF m 9 #[.val (.int x0), .val (.int x1), .val (.int (x0 &&& (2147483647 : Int32))), .unset, .unset, .unset, .unset, .unset] [(.int (x1 &&& (1073741823 : Int32)))])) (fun t k => XS.iand X0.here hx rfl (hb hby at_8) rfl k) ?_
  refine Go.via (U' := s₁.setTop (mkF m 10 #[.val (.int x0), .val (.int x1), .val (.int (x0 &&& (2147483647 : Int32))), .val (.int (x1 &&& (1073741823 : Int32))), .unset, .unset, .unset, .unset] [])) (fun t k => XS.istoreN X0.here hx rfl (hb hby at_9) rfl (l' := #[.val (.int x0), .val (.int x1), .val (.int (x0 &&& (2147483647 : Int32))), .val (.int (x1 &&& (1073741823 : Int32))), .unset, .unset, .unset, .unset]) rfl k) ?_
  refine Go.via (U' := s₁.setTop (mkF m 11 #[.val (.int x0), .val (.int x1), .val (.int (x0 &&& (2147483647 : Int32))), .val (.int (x1 &&& (1073741823 : Int32))), .unset, .unset, .unset, .unset] [(.int (x0 &&& (2147483647 : Int32)))])) (fun t k => XS.iloadN X0.here hx rfl (hb hby at_10) rfl k) ?_
  obtain ⟨T1, X1, e1, st1⟩ := callS0 X0 hx hZ hown (hw _ (List.mem_of_getElem? (i := 2) rfl)) (hw _ (List.mem_of_getElem? (i := 3) rfl)) (hw _ (List.mem_of_getElem? (i := 4) rfl)) (hw _ (List.mem_of_getElem? (i := 5) rfl)) (by decide) (av := [(.int (x0 &&& (2147483647 : Int32)))]) (own_rm1 l Z a0 hw [] (x0 &&& (2147483647 : Int32))  h0) e0 (pc := 11) (Ls := #[.val (.int x0), .val (.int x1), .val (.int (x0 &&& (2147483647 : Int32))), .val (.int (x1 &&& (1073741823 : Int32))), .unset, .unset, .unset, .unset]) (rest := []) (by rw [hml]; rfl) own_k28 rfl 0 (Nat.le_of_eq rfl) (by decide) (by decide) (by decide) (by decide) (hb hby at_11)
  refine Go.via (U' := T1.setTop (mkF m 14 #[.val (.int x0), .val (.int x1), .val (.int (x0 &&& (2147483647 : Int32))), .val (.int (x1 &&& (1073741823 : Int32))), .unset, .unset, .unset, .unset] [(.int (own_f1 (x0 &&& (2147483647 : Int32))))])) (fun t k => st1 t k) ?_
  refine Go.via (U' := T1.setTop (mkF m 16 #[.val (.int x0), .val (.int x1), .val (.int (x0 &&& (2147483647 : Int32))), .val (.int (x1 &&& (1073741823 : Int32))), .val (.int (own_f1 (x0 &&& (2147483647 : Int32)))), .unset, .unset, .unset] [])) (fun t k => XS.istore X1.here hx rfl (hb hby at_14) rfl (l' := #[.val (.int x0), .val (.int x1), .val (.int (x0 &&& (2147483647 : Int32))), .val (.int (x1 &&& (1073741823 : Int32))), .val (.int (own_f1 (x0 &&& (2147483647 : Int32)))), .unset, .unset, .unset]) rfl k) ?_
  refine Go.via (U' := T1.setTop (mkF m 17 #[.val (.int x0), .val (.int x1), .val (.int (x0 &&& (2147483647 : Int32))), .val (.int (x1 &&& (1073741823 : Int32))), .val (.int (own_f1 (x0 &&& (2147483647 : Int32)))), .unset, .unset, .unset] [(.int (x0 &&& (2147483647 : Int32)))])) (fun t k => XS.iloadN X1.here hx rfl (hb hby at_16) rfl k) ?_
  refine Go.via (U' := T1.setTop (mkF m 18 #[.val (.int x0), .val (.int x1), .val (.int (x0 &&& (2147483647 : Int32))), .val (.int (x1 &&& (1073741823 : Int32))), .val (.int (own_f1 (x0 &&& (2147483647 : Int32)))), .unset, .unset, .unset] [(.int (1 : Int32)), (.int (x0 &&& (2147483647 : Int32)))])) (fun t k => XS.iconst X1.here hx rfl (hb hby at_17) k) ?_
  refine Go.via (U' := T1.setTop (mkF m 19 #[.val (.int x0), .val (.int x1), .val (.int (x0 &&& (2147483647 : Int32))), .val (.int (x1 &&& (1073741823 : Int32))), .val (.int (own_f1 (x0 &&& (2147483647 : Int32)))), .unset, .unset, .unset] [(.int ((x0 &&& (2147483647 : Int32)) &&& (1 : Int32)))])) (fun t k => XS.iand X1.here hx rfl (hb hby at_18) rfl k) ?_
  have J2 : ∀ T', Stand p l e room_1 s m #[(.int x0), (.int x1)] below meth c T' [] 0 0 → T'.heap = h0 → Go p e below s room_1.cells room_1.slots (PureR (some (.int (own_f0 x0 x1))) h0) (T'.setTop (mkF m 27 #[.val (.int x0), .val (.int x1), .val (.int (x0 &&& (2147483647 : Int32))), .val (.int (x1 &&& (1073741823 : Int32))), .val (.int (own_f1 (x0 &&& (2147483647 : Int32)))), .unset, .unset, .unset] [(.int (own_j0_19_s0 x0))])) := by
    intro T3 X4 e5
    refine Go.via (U' := T3.setTop (mkF m 29 #[.val (.int x0), .val (.int x1), .val (.int (x0 &&& (2147483647 : Int32))), .val (.int (x1 &&& (1073741823 : Int32))), .val (.int (own_f1 (x0 &&& (2147483647 : Int32)))), .val (.int (own_j0_19_s0 x0)), .unset, .unset] [])) (fun t k => XS.istore X4.here hx rfl (hb hby at_27) rfl (l' := #[.val (.int x0), .val (.int x1), .val (.int (x0 &&& (2147483647 : Int32))), .val (.int (x1 &&& (1073741823 : Int32))), .val (.int (own_f1 (x0 &&& (2147483647 : Int32)))), .val (.int (own_j0_19_s0 x0)), .unset, .unset]) rfl k) ?_
    refine Go.via (U' := T3.setTop (mkF m 31 #[.val (.int x0), .val (.int x1), .val (.int (x0 &&& (2147483647 : Int32))), .val (.int (x1 &&& (1073741823 : Int32))), .val (.int (own_f1 (x0 &&& (2147483647 : Int32)))), .val (.int (own_j0_19_s0 x0)), .unset, .unset] [(.int (own_f1 (x0 &&& (2147483647 : Int32))))])) (fun t k => XS.iload X4.here hx rfl (hb hby at_29) rfl k) ?_
    have J6 : ∀ T', Stand p l e room_1 s m #[(.int x0), (.int x1)] below meth c T' [] 0 0 → T'.heap = h0 → Go p e below s room_1.cells room_1.slots (PureR (some (.int (own_f0 x0 x1))) h0) (T'.setTop (mkF m 69 #[.val (.int x0), .val (.int x1), .val (.int (x0 &&& (2147483647 : Int32))), .val (.int (x1 &&& (1073741823 : Int32))), .val (.int (own_f1 (x0 &&& (2147483647 : Int32)))), .val (.int (own_j0_19_s0 x0)), .unset, .unset] [(.int (own_j0_31_s0 x0))])) := by
      intro T7 X8 e9
      refine Go.via (U' := T7.setTop (mkF m 71 #[.val (.int x0), .val (.int x1), .val (.int (x0 &&& (2147483647 : Int32))), .val (.int (x1 &&& (1073741823 : Int32))), .val (.int (own_f1 (x0 &&& (2147483647 : Int32)))), .val (.int (own_j0_19_s0 x0)), .val (.int (own_j0_31_s0 x0)), .unset] [])) (fun t k => XS.istore X8.here hx rfl (hb hby at_69) rfl (l' := #[.val (.int x0), .val (.int x1), .val (.int (x0 &&& (2147483647 : Int32))), .val (.int (x1 &&& (1073741823 : Int32))), .val (.int (own_f1 (x0 &&& (2147483647 : Int32)))), .val (.int (own_j0_19_s0 x0)), .val (.int (own_j0_31_s0 x0)), .unset]) rfl k) ?_
      refine Go.via (U' := T7.setTop (mkF m 72 #[.val (.int x0), .val (.int x1), .val (.int (x0 &&& (2147483647 : Int32))), .val (.int (x1 &&& (1073741823 : Int32))), .val (.int (own_f1 (x0 &&& (2147483647 : Int32)))), .val (.int (own_j0_19_s0 x0)), .val (.int (own_j0_31_s0 x0)), .unset] [(.int (x1 &&& (1073741823 : Int32)))])) (fun t k => XS.iloadN X8.here hx rfl (hb hby at_71) rfl k) ?_
      obtain ⟨T10, X10, e10, st10⟩ := callS0 X8 hx hZ hown (hw _ (List.mem_of_getElem? (i := 9) rfl)) (hw _ (List.mem_of_getElem? (i := 10) rfl)) (hw _ (List.mem_of_getElem? (i := 4) rfl)) (hw _ (List.mem_of_getElem? (i := 11) rfl)) (by decide) (av := [(.int (x1 &&& (1073741823 : Int32)))]) (own_rm3 l Z a0 hw [] (x1 &&& (1073741823 : Int32))  h0) e9 (pc := 72) (Ls := #[.val (.int x0), .val (.int x1), .val (.int (x0 &&& (2147483647 : Int32))), .val (.int (x1 &&& (1073741823 : Int32))), .val (.int (own_f1 (x0 &&& (2147483647 : Int32)))), .val (.int (own_j0_19_s0 x0)), .val (.int (own_j0_31_s0 x0)), .unset]) (rest := []) (by rw [hml]; rfl) own_k29 rfl 0 (Nat.le_of_eq rfl) (by decide) (by decide) (by decide) (by decide) (hb hby at_72)
      refine Go.via (U' := T10.setTop (mkF m 75 #[.val (.int x0), .val (.int x1), .val (.int (x0 &&& (2147483647 : Int32))), .val (.int (x1 &&& (1073741823 : Int32))), .val (.int (own_f1 (x0 &&& (2147483647 : Int32)))), .val (.int (own_j0_19_s0 x0)), .val (.int (own_j0_31_s0 x0)), .unset] [(.int (own_f3 (x1 &&& (1073741823 : Int32))))])) (fun t k => st10 t k) ?_
      obtain ⟨T11, X11, e11, st11⟩ := callS0 X10 hx hZ hown (hw _ (List.mem_of_getElem? (i := 2) rfl)) (hw _ (List.mem_of_getElem? (i := 3) rfl)) (hw _ (List.mem_of_getElem? (i := 4) rfl)) (hw _ (List.mem_of_getElem? (i := 5) rfl)) (by decide) (av := [(.int (own_f3 (x1 &&& (1073741823 : Int32))))]) (own_rm1 l Z a0 hw [] (own_f3 (x1 &&& (1073741823 : Int32)))  h0) e10 (pc := 75) (Ls := #[.val (.int x0), .val (.int x1), .val (.int (x0 &&& (2147483647 : Int32))), .val (.int (x1 &&& (1073741823 : Int32))), .val (.int (own_f1 (x0 &&& (2147483647 : Int32)))), .val (.int (own_j0_19_s0 x0)), .val (.int (own_j0_31_s0 x0)), .unset]) (rest := []) (by rw [hml]; rfl) own_k28 rfl 0 (Nat.le_of_eq rfl) (by decide) (by decide) (by decide) (by decide) (hb hby at_75)
      refine Go.via (U' := T11.setTop (mkF m 78 #[.val (.int x0), .val (.int x1), .val (.int (x0 &&& (2147483647 : Int32))), .val (.int (x1 &&& (1073741823 : Int32))), .val (.int (own_f1 (x0 &&& (2147483647 : Int32)))), .val (.int (own_j0_19_s0 x0)), .val (.int (own_j0_31_s0 x0)), .unset] [(.int (own_f1 (own_f3 (x1 &&& (1073741823 : Int32)))))])) (fun t k => st11 t k) ?_
      have J12 : ∀ T', Stand p l e room_1 s m #[(.int x0), (.int x1)] below meth c T' [] 0 0 → T'.heap = h0 → Go p e below s room_1.cells room_1.slots (PureR (some (.int (own_f0 x0 x1))) h0) (T'.setTop (mkF m 96 #[.val (.int x0), .val (.int x1), .val (.int (x0 &&& (2147483647 : Int32))), .val (.int (x1 &&& (1073741823 : Int32))), .val (.int (own_f1 (x0 &&& (2147483647 : Int32)))), .val (.int (own_j0_19_s0 x0)), .val (.int (own_j0_31_s0 x0)), .unset] [(.int (own_j0_78_s0 x1))])) := by
        intro T13 X14 e15
        refine Go.via (U' := T13.setTop (mkF m 98 #[.val (.int x0), .val (.int x1), .val (.int (x0 &&& (2147483647 : Int32))), .val (.int (x1 &&& (1073741823 : Int32))), .val (.int (own_f1 (x0 &&& (2147483647 : Int32)))), .val (.int (own_j0_19_s0 x0)), .val (.int (own_j0_31_s0 x0)), .val (.int (own_j0_78_s0 x1))] [])) (fun t k => XS.istore X14.here hx rfl (hb hby at_96) rfl (l' := #[.val (.int x0), .val (.int x1), .val (.int (x0 &&& (2147483647 : Int32))), .val (.int (x1 &&& (1073741823 : Int32))), .val (.int (own_f1 (x0 &&& (2147483647 : Int32)))), .val (.int (own_j0_19_s0 x0)), .val (.int (own_j0_31_s0 x0)), .val (.int (own_j0_78_s0 x1))]) rfl k) ?_
        refine Go.via (U' := T13.setTop (mkF m 100 #[.val (.int x0), .val (.int x1), .val (.int (x0 &&& (2147483647 : Int32))), .val (.int (x1 &&& (1073741823 : Int32))), .val (.int (own_f1 (x0 &&& (2147483647 : Int32)))), .val (.int (own_j0_19_s0 x0)), .val (.int (own_j0_31_s0 x0)), .val (.int (own_j0_78_s0 x1))] [(.int (own_f1 (x0 &&& (2147483647 : Int32))))])) (fun t k => XS.iload X14.here hx rfl (hb hby at_98) rfl k) ?_
        refine Go.via (U' := T13.setTop (mkF m 102 #[.val (.int x0), .val (.int x1), .val (.int (x0 &&& (2147483647 : Int32))), .val (.int (x1 &&& (1073741823 : Int32))), .val (.int (own_f1 (x0 &&& (2147483647 : Int32)))), .val (.int (own_j0_19_s0 x0)), .val (.int (own_j0_31_s0 x0)), .val (.int (own_j0_78_s0 x1))] [(.int (own_j0_19_s0 x0)), (.int (own_f1 (x0 &&& (2147483647 : Int32))))])) (fun t k => XS.iload X14.here hx rfl (hb hby at_100) rfl k) ?_
        by_cases hc102 : (own_f1 (x0 &&& (2147483647 : Int32))) = (own_j0_19_s0 x0)
        · refine Go.via (U' := T13.setTop (mkF m 105 #[.val (.int x0), .val (.int x1), .val (.int (x0 &&& (2147483647 : Int32))), .val (.int (x1 &&& (1073741823 : Int32))), .val (.int (own_f1 (x0 &&& (2147483647 : Int32)))), .val (.int (own_j0_19_s0 x0)), .val (.int (own_j0_31_s0 x0)), .val (.int (own_j0_78_s0 x1))] [])) (fun t k => XS.icmpNo X14.here hx rfl (hb hby at_102) rfl (teq hc102).2 k) ?_
          refine Go.via (U' := T13.setTop (mkF m 107 #[.val (.int x0), .val (.int x1), .val (.int (x0 &&& (2147483647 : Int32))), .val (.int (x1 &&& (1073741823 : Int32))), .val (.int (own_f1 (x0 &&& (2147483647 : Int32)))), .val (.int (own_j0_19_s0 x0)), .val (.int (own_j0_31_s0 x0)), .val (.int (own_j0_78_s0 x1))] [(.int (own_j0_31_s0 x0))])) (fun t k => XS.iload X14.here hx rfl (hb hby at_105) rfl k) ?_
          by_cases hc107 : (own_j0_31_s0 x0) = (0 : Int32)
          · refine Go.via (U' := T13.setTop (mkF m 119 #[.val (.int x0), .val (.int x1), .val (.int (x0 &&& (2147483647 : Int32))), .val (.int (x1 &&& (1073741823 : Int32))), .val (.int (own_f1 (x0 &&& (2147483647 : Int32)))), .val (.int (own_j0_19_s0 x0)), .val (.int (own_j0_31_s0 x0)), .val (.int (own_j0_78_s0 x1))] [])) (fun t k => XS.ifYes X14.here hx rfl (pc0 := 107) (pc' := 119) rfl (hb hby at_107) rfl ((if0 _ _).trans (teq hc107).1) (by decide) (by decide) k) ?_
            refine Go.via (U' := T13.setTop (mkF m 120 #[.val (.int x0), .val (.int x1), .val (.int (x0 &&& (2147483647 : Int32))), .val (.int (x1 &&& (1073741823 : Int32))), .val (.int (own_f1 (x0 &&& (2147483647 : Int32)))), .val (.int (own_j0_19_s0 x0)), .val (.int (own_j0_31_s0 x0)), .val (.int (own_j0_78_s0 x1))] [(.int (0 : Int32))])) (fun t k => XS.iconst X14.here hx rfl (hb hby at_119) k) ?_
            exact go_retN X14 hx hlk (t := .boolean) hret (by simp) (hb hby at_120) e15 ⟨(congrArg (fun z => some (Value.int z)) (show nar .boolean (0 : Int32) = (own_f0 x0 x1) from by unfold own_f0; simp only [if_pos hc102, if_pos hc107] <;> rfl)), rfl, rfl⟩ (by decide) (by decide)
          · refine Go.via (U' := T13.setTop (mkF m 110 #[.val (.int x0), .val (.int x1), .val (.int (x0 &&& (2147483647 : Int32))), .val (.int (x1 &&& (1073741823 : Int32))), .val (.int (own_f1 (x0 &&& (2147483647 : Int32)))), .val (.int (own_j0_19_s0 x0)), .val (.int (own_j0_31_s0 x0)), .val (.int (own_j0_78_s0 x1))] [])) (fun t k => XS.ifNo X14.here hx rfl (hb hby at_107) rfl ((if0 _ _).trans (feq hc107).1) k) ?_
            refine Go.via (U' := T13.setTop (mkF m 112 #[.val (.int x0), .val (.int x1), .val (.int (x0 &&& (2147483647 : Int32))), .val (.int (x1 &&& (1073741823 : Int32))), .val (.int (own_f1 (x0 &&& (2147483647 : Int32)))), .val (.int (own_j0_19_s0 x0)), .val (.int (own_j0_31_s0 x0)), .val (.int (own_j0_78_s0 x1))] [(.int (own_j0_78_s0 x1))])) (fun t k => XS.iload X14.here hx rfl (hb hby at_110) rfl k) ?_
            by_cases hc112 : (own_j0_78_s0 x1) = (0 : Int32)
            · refine Go.via (U' := T13.setTop (mkF m 119 #[.val (.int x0), .val (.int x1), .val (.int (x0 &&& (2147483647 : Int32))), .val (.int (x1 &&& (1073741823 : Int32))), .val (.int (own_f1 (x0 &&& (2147483647 : Int32)))), .val (.int (own_j0_19_s0 x0)), .val (.int (own_j0_31_s0 x0)), .val (.int (own_j0_78_s0 x1))] [])) (fun t k => XS.ifYes X14.here hx rfl (pc0 := 112) (pc' := 119) rfl (hb hby at_112) rfl ((if0 _ _).trans (teq hc112).1) (by decide) (by decide) k) ?_
              refine Go.via (U' := T13.setTop (mkF m 120 #[.val (.int x0), .val (.int x1), .val (.int (x0 &&& (2147483647 : Int32))), .val (.int (x1 &&& (1073741823 : Int32))), .val (.int (own_f1 (x0 &&& (2147483647 : Int32)))), .val (.int (own_j0_19_s0 x0)), .val (.int (own_j0_31_s0 x0)), .val (.int (own_j0_78_s0 x1))] [(.int (0 : Int32))])) (fun t k => XS.iconst X14.here hx rfl (hb hby at_119) k) ?_
              exact go_retN X14 hx hlk (t := .boolean) hret (by simp) (hb hby at_120) e15 ⟨(congrArg (fun z => some (Value.int z)) (show nar .boolean (0 : Int32) = (own_f0 x0 x1) from by unfold own_f0; simp only [if_pos hc102, if_neg hc107, if_pos hc112] <;> rfl)), rfl, rfl⟩ (by decide) (by decide)
            · refine Go.via (U' := T13.setTop (mkF m 115 #[.val (.int x0), .val (.int x1), .val (.int (x0 &&& (2147483647 : Int32))), .val (.int (x1 &&& (1073741823 : Int32))), .val (.int (own_f1 (x0 &&& (2147483647 : Int32)))), .val (.int (own_j0_19_s0 x0)), .val (.int (own_j0_31_s0 x0)), .val (.int (own_j0_78_s0 x1))] [])) (fun t k => XS.ifNo X14.here hx rfl (hb hby at_112) rfl ((if0 _ _).trans (feq hc112).1) k) ?_
              refine Go.via (U' := T13.setTop (mkF m 116 #[.val (.int x0), .val (.int x1), .val (.int (x0 &&& (2147483647 : Int32))), .val (.int (x1 &&& (1073741823 : Int32))), .val (.int (own_f1 (x0 &&& (2147483647 : Int32)))), .val (.int (own_j0_19_s0 x0)), .val (.int (own_j0_31_s0 x0)), .val (.int (own_j0_78_s0 x1))] [(.int (1 : Int32))])) (fun t k => XS.iconst X14.here hx rfl (hb hby at_115) k) ?_
              refine Go.via (U' := T13.setTop (mkF m 120 #[.val (.int x0), .val (.int x1), .val (.int (x0 &&& (2147483647 : Int32))), .val (.int (x1 &&& (1073741823 : Int32))), .val (.int (own_f1 (x0 &&& (2147483647 : Int32)))), .val (.int (own_j0_19_s0 x0)), .val (.int (own_j0_31_s0 x0)), .val (.int (own_j0_78_s0 x1))] [(.int (1 : Int32))])) (fun t k => XS.goto X14.here hx rfl (pc0 := 116) (pc' := 120) rfl (hb hby at_116) (by decide) (by decide) k) ?_
              exact go_retN X14 hx hlk (t := .boolean) hret (by simp) (hb hby at_120) e15 ⟨(congrArg (fun z => some (Value.int z)) (show nar .boolean (1 : Int32) = (own_f0 x0 x1) from by unfold own_f0; simp only [if_pos hc102, if_neg hc107, if_neg hc112] <;> rfl)), rfl, rfl⟩ (by decide) (by decide)
        · refine Go.via (U' := T13.setTop (mkF m 119 #[.val (.int x0), .val (.int x1), .val (.int (x0 &&& (2147483647 : Int32))), .val (.int (x1 &&& (1073741823 : Int32))), .val (.int (own_f1 (x0 &&& (2147483647 : Int32)))), .val (.int (own_j0_19_s0 x0)), .val (.int (own_j0_31_s0 x0)), .val (.int (own_j0_78_s0 x1))] [])) (fun t k => XS.icmpYes X14.here hx rfl (pc0 := 102) (pc' := 119) rfl (hb hby at_102) rfl (feq hc102).2 (by decide) (by decide) k) ?_
          refine Go.via (U' := T13.setTop (mkF m 120 #[.val (.int x0), .val (.int x1), .val (.int (x0 &&& (2147483647 : Int32))), .val (.int (x1 &&& (1073741823 : Int32))), .val (.int (own_f1 (x0 &&& (2147483647 : Int32)))), .val (.int (own_j0_19_s0 x0)), .val (.int (own_j0_31_s0 x0)), .val (.int (own_j0_78_s0 x1))] [(.int (0 : Int32))])) (fun t k => XS.iconst X14.here hx rfl (hb hby at_119) k) ?_
          exact go_retN X14 hx hlk (t := .boolean) hret (by simp) (hb hby at_120) e15 ⟨(congrArg (fun z => some (Value.int z)) (show nar .boolean (0 : Int32) = (own_f0 x0 x1) from by unfold own_f0; simp only [if_neg hc102] <;> rfl)), rfl, rfl⟩ (by decide) (by decide)
      by_cases hc78 : (own_f1 (own_f3 (x1 &&& (1073741823 : Int32)))) = (0 : Int32)
      · refine Go.via (U' := T11.setTop (mkF m 95 #[.val (.int x0), .val (.int x1), .val (.int (x0 &&& (2147483647 : Int32))), .val (.int (x1 &&& (1073741823 : Int32))), .val (.int (own_f1 (x0 &&& (2147483647 : Int32)))), .val (.int (own_j0_19_s0 x0)), .val (.int (own_j0_31_s0 x0)), .unset] [])) (fun t k => XS.ifYes X11.here hx rfl (pc0 := 78) (pc' := 95) rfl (hb hby at_78) rfl ((if0 _ _).trans (teq hc78).1) (by decide) (by decide) k) ?_
        refine Go.via (U' := T11.setTop (mkF m 96 #[.val (.int x0), .val (.int x1), .val (.int (x0 &&& (2147483647 : Int32))), .val (.int (x1 &&& (1073741823 : Int32))), .val (.int (own_f1 (x0 &&& (2147483647 : Int32)))), .val (.int (own_j0_19_s0 x0)), .val (.int (own_j0_31_s0 x0)), .unset] [(.int (0 : Int32))])) (fun t k => XS.iconst X11.here hx rfl (hb hby at_95) k) ?_
        have q_own_j0_78_s0 : (own_j0_78_s0 x1) = (0 : Int32) := by unfold own_j0_78_s0; simp only [if_pos hc78]
        have q_J := J12 T11 X11 e11
        rw [q_own_j0_78_s0] at q_J
        exact q_J
      · refine Go.via (U' := T11.setTop (mkF m 81 #[.val (.int x0), .val (.int x1), .val (.int (x0 &&& (2147483647 : Int32))), .val (.int (x1 &&& (1073741823 : Int32))), .val (.int (own_f1 (x0 &&& (2147483647 : Int32)))), .val (.int (own_j0_19_s0 x0)), .val (.int (own_j0_31_s0 x0)), .unset] [])) (fun t k => XS.ifNo X11.here hx rfl (hb hby at_78) rfl ((if0 _ _).trans (feq hc78).1) k) ?_
        refine Go.via (U' := T11.setTop (mkF m 82 #[.val (.int x0), .val (.int x1), .val (.int (x0 &&& (2147483647 : Int32))), .val (.int (x1 &&& (1073741823 : Int32))), .val (.int (own_f1 (x0 &&& (2147483647 : Int32)))), .val (.int (own_j0_19_s0 x0)), .val (.int (own_j0_31_s0 x0)), .unset] [(.int (x1 &&& (1073741823 : Int32)))])) (fun t k => XS.iloadN X11.here hx rfl (hb hby at_81) rfl k) ?_
        obtain ⟨T16, X16, e16, st16⟩ := callS0 X11 hx hZ hown (hw _ (List.mem_of_getElem? (i := 12) rfl)) (hw _ (List.mem_of_getElem? (i := 13) rfl)) (hw _ (List.mem_of_getElem? (i := 4) rfl)) (hw _ (List.mem_of_getElem? (i := 14) rfl)) (by decide) (av := [(.int (x1 &&& (1073741823 : Int32)))]) (own_rm4 l Z a0 hw [] (x1 &&& (1073741823 : Int32))  h0) e11 (pc := 82) (Ls := #[.val (.int x0), .val (.int x1), .val (.int (x0 &&& (2147483647 : Int32))), .val (.int (x1 &&& (1073741823 : Int32))), .val (.int (own_f1 (x0 &&& (2147483647 : Int32)))), .val (.int (own_j0_19_s0 x0)), .val (.int (own_j0_31_s0 x0)), .unset]) (rest := []) (by rw [hml]; rfl) own_k29 rfl 0 (Nat.le_of_eq rfl) (by decide) (by decide) (by decide) (by decide) (hb hby at_82)
        refine Go.via (U' := T16.setTop (mkF m 85 #[.val (.int x0), .val (.int x1), .val (.int (x0 &&& (2147483647 : Int32))), .val (.int (x1 &&& (1073741823 : Int32))), .val (.int (own_f1 (x0 &&& (2147483647 : Int32)))), .val (.int (own_j0_19_s0 x0)), .val (.int (own_j0_31_s0 x0)), .unset] [(.int (own_f4 (x1 &&& (1073741823 : Int32))))])) (fun t k => st16 t k) ?_
        obtain ⟨T17, X17, e17, st17⟩ := callS0 X16 hx hZ hown (hw _ (List.mem_of_getElem? (i := 2) rfl)) (hw _ (List.mem_of_getElem? (i := 3) rfl)) (hw _ (List.mem_of_getElem? (i := 4) rfl)) (hw _ (List.mem_of_getElem? (i := 5) rfl)) (by decide) (av := [(.int (own_f4 (x1 &&& (1073741823 : Int32))))]) (own_rm1 l Z a0 hw [] (own_f4 (x1 &&& (1073741823 : Int32)))  h0) e16 (pc := 85) (Ls := #[.val (.int x0), .val (.int x1), .val (.int (x0 &&& (2147483647 : Int32))), .val (.int (x1 &&& (1073741823 : Int32))), .val (.int (own_f1 (x0 &&& (2147483647 : Int32)))), .val (.int (own_j0_19_s0 x0)), .val (.int (own_j0_31_s0 x0)), .unset]) (rest := []) (by rw [hml]; rfl) own_k28 rfl 0 (Nat.le_of_eq rfl) (by decide) (by decide) (by decide) (by decide) (hb hby at_85)
        refine Go.via (U' := T17.setTop (mkF m 88 #[.val (.int x0), .val (.int x1), .val (.int (x0 &&& (2147483647 : Int32))), .val (.int (x1 &&& (1073741823 : Int32))), .val (.int (own_f1 (x0 &&& (2147483647 : Int32)))), .val (.int (own_j0_19_s0 x0)), .val (.int (own_j0_31_s0 x0)), .unset] [(.int (own_f1 (own_f4 (x1 &&& (1073741823 : Int32)))))])) (fun t k => st17 t k) ?_
        by_cases hc88 : (own_f1 (own_f4 (x1 &&& (1073741823 : Int32)))) = (0 : Int32)
        · refine Go.via (U' := T17.setTop (mkF m 91 #[.val (.int x0), .val (.int x1), .val (.int (x0 &&& (2147483647 : Int32))), .val (.int (x1 &&& (1073741823 : Int32))), .val (.int (own_f1 (x0 &&& (2147483647 : Int32)))), .val (.int (own_j0_19_s0 x0)), .val (.int (own_j0_31_s0 x0)), .unset] [])) (fun t k => XS.ifNo X17.here hx rfl (hb hby at_88) rfl ((if0 _ _).trans (teq hc88).2) k) ?_
          refine Go.via (U' := T17.setTop (mkF m 92 #[.val (.int x0), .val (.int x1), .val (.int (x0 &&& (2147483647 : Int32))), .val (.int (x1 &&& (1073741823 : Int32))), .val (.int (own_f1 (x0 &&& (2147483647 : Int32)))), .val (.int (own_j0_19_s0 x0)), .val (.int (own_j0_31_s0 x0)), .unset] [(.int (1 : Int32))])) (fun t k => XS.iconst X17.here hx rfl (hb hby at_91) k) ?_
          refine Go.via (U' := T17.setTop (mkF m 96 #[.val (.int x0), .val (.int x1), .val (.int (x0 &&& (2147483647 : Int32))), .val (.int (x1 &&& (1073741823 : Int32))), .val (.int (own_f1 (x0 &&& (2147483647 : Int32)))), .val (.int (own_j0_19_s0 x0)), .val (.int (own_j0_31_s0 x0)), .unset] [(.int (1 : Int32))])) (fun t k => XS.goto X17.here hx rfl (pc0 := 92) (pc' := 96) rfl (hb hby at_92) (by decide) (by decide) k) ?_
          have q_own_j0_78_s0 : (own_j0_78_s0 x1) = (1 : Int32) := by unfold own_j0_78_s0; simp only [if_neg hc78, if_pos hc88]
          have q_J := J12 T17 X17 e17
          rw [q_own_j0_78_s0] at q_J
          exact q_J
        · refine Go.via (U' := T17.setTop (mkF m 95 #[.val (.int x0), .val (.int x1), .val (.int (x0 &&& (2147483647 : Int32))), .val (.int (x1 &&& (1073741823 : Int32))), .val (.int (own_f1 (x0 &&& (2147483647 : Int32)))), .val (.int (own_j0_19_s0 x0)), .val (.int (own_j0_31_s0 x0)), .unset] [])) (fun t k => XS.ifYes X17.here hx rfl (pc0 := 88) (pc' := 95) rfl (hb hby at_88) rfl ((if0 _ _).trans (feq hc88).2) (by decide) (by decide) k) ?_
          refine Go.via (U' := T17.setTop (mkF m 96 #[.val (.int x0), .val (.int x1), .val (.int (x0 &&& (2147483647 : Int32))), .val (.int (x1 &&& (1073741823 : Int32))), .val (.int (own_f1 (x0 &&& (2147483647 : Int32)))), .val (.int (own_j0_19_s0 x0)), .val (.int (own_j0_31_s0 x0)), .unset] [(.int (0 : Int32))])) (fun t k => XS.iconst X17.here hx rfl (hb hby at_95) k) ?_
          have q_own_j0_78_s0 : (own_j0_78_s0 x1) = (0 : Int32) := by unfold own_j0_78_s0; simp only [if_neg hc78, if_neg hc88]
          have q_J := J12 T17 X17 e17
          rw [q_own_j0_78_s0] at q_J
          exact q_J
    by_cases hc31 : (own_f1 (x0 &&& (2147483647 : Int32))) = (0 : Int32)
    · refine Go.via (U' := T3.setTop (mkF m 53 #[.val (.int x0), .val (.int x1), .val (.int (x0 &&& (2147483647 : Int32))), .val (.int (x1 &&& (1073741823 : Int32))), .val (.int (own_f1 (x0 &&& (2147483647 : Int32)))), .val (.int (own_j0_19_s0 x0)), .unset, .unset] [])) (fun t k => XS.ifYes X4.here hx rfl (pc0 := 31) (pc' := 53) rfl (hb hby at_31) rfl ((if0 _ _).trans (teq hc31).1) (by decide) (by decide) k) ?_
      refine Go.via (U' := T3.setTop (mkF m 54 #[.val (.int x0), .val (.int x1), .val (.int (x0 &&& (2147483647 : Int32))), .val (.int (x1 &&& (1073741823 : Int32))), .val (.int (own_f1 (x0 &&& (2147483647 : Int32)))), .val (.int (own_j0_19_s0 x0)), .unset, .unset] [(.int (x0 &&& (2147483647 : Int32)))])) (fun t k => XS.iloadN X4.here hx rfl (hb hby at_53) rfl k) ?_
      refine Go.via (U' := T3.setTop (mkF m 55 #[.val (.int x0), .val (.int x1), .val (.int (x0 &&& (2147483647 : Int32))), .val (.int (x1 &&& (1073741823 : Int32))), .val (.int (own_f1 (x0 &&& (2147483647 : Int32)))), .val (.int (own_j0_19_s0 x0)), .unset, .unset] [(.int (x0 &&& (2147483647 : Int32))), (.int (x0 &&& (2147483647 : Int32)))])) (fun t k => XS.iloadN X4.here hx rfl (hb hby at_54) rfl k) ?_
      obtain ⟨T18, X18, e18, st18⟩ := callS0 X4 hx hZ hown (hw _ (List.mem_of_getElem? (i := 6) rfl)) (hw _ (List.mem_of_getElem? (i := 7) rfl)) (hw _ (List.mem_of_getElem? (i := 4) rfl)) (hw _ (List.mem_of_getElem? (i := 8) rfl)) (by decide) (av := [(.int (x0 &&& (2147483647 : Int32)))]) (own_rm2 l Z a0 hw [] (x0 &&& (2147483647 : Int32))  h0) e5 (pc := 55) (Ls := #[.val (.int x0), .val (.int x1), .val (.int (x0 &&& (2147483647 : Int32))), .val (.int (x1 &&& (1073741823 : Int32))), .val (.int (own_f1 (x0 &&& (2147483647 : Int32)))), .val (.int (own_j0_19_s0 x0)), .unset, .unset]) (rest := [(.int (x0 &&& (2147483647 : Int32)))]) (by rw [hml]; rfl) own_k29 rfl 1 (Nat.le_of_eq rfl) (by decide) (by decide) (by decide) (by decide) (hb hby at_55)
      refine Go.via (U' := T18.setTop (mkF m 58 #[.val (.int x0), .val (.int x1), .val (.int (x0 &&& (2147483647 : Int32))), .val (.int (x1 &&& (1073741823 : Int32))), .val (.int (own_f1 (x0 &&& (2147483647 : Int32)))), .val (.int (own_j0_19_s0 x0)), .unset, .unset] [(.int (own_f2 (x0 &&& (2147483647 : Int32)))), (.int (x0 &&& (2147483647 : Int32)))])) (fun t k => st18 t k) ?_
      obtain ⟨T19, X19, e19, st19⟩ := callS0 X18 hx hZ hown (hw _ (List.mem_of_getElem? (i := 12) rfl)) (hw _ (List.mem_of_getElem? (i := 13) rfl)) (hw _ (List.mem_of_getElem? (i := 4) rfl)) (hw _ (List.mem_of_getElem? (i := 14) rfl)) (by decide) (av := [(.int (own_f2 (x0 &&& (2147483647 : Int32))))]) (own_rm4 l Z a0 hw [] (own_f2 (x0 &&& (2147483647 : Int32)))  h0) e18 (pc := 58) (Ls := #[.val (.int x0), .val (.int x1), .val (.int (x0 &&& (2147483647 : Int32))), .val (.int (x1 &&& (1073741823 : Int32))), .val (.int (own_f1 (x0 &&& (2147483647 : Int32)))), .val (.int (own_j0_19_s0 x0)), .unset, .unset]) (rest := [(.int (x0 &&& (2147483647 : Int32)))]) (by rw [hml]; rfl) own_k29 rfl 1 (Nat.le_of_eq rfl) (by decide) (by decide) (by decide) (by decide) (hb hby at_58)
      refine Go.via (U' := T19.setTop (mkF m 61 #[.val (.int x0), .val (.int x1), .val (.int (x0 &&& (2147483647 : Int32))), .val (.int (x1 &&& (1073741823 : Int32))), .val (.int (own_f1 (x0 &&& (2147483647 : Int32)))), .val (.int (own_j0_19_s0 x0)), .unset, .unset] [(.int (own_f4 (own_f2 (x0 &&& (2147483647 : Int32))))), (.int (x0 &&& (2147483647 : Int32)))])) (fun t k => st19 t k) ?_
      by_cases hc61 : (x0 &&& (2147483647 : Int32)) = (own_f4 (own_f2 (x0 &&& (2147483647 : Int32))))
      · refine Go.via (U' := T19.setTop (mkF m 64 #[.val (.int x0), .val (.int x1), .val (.int (x0 &&& (2147483647 : Int32))), .val (.int (x1 &&& (1073741823 : Int32))), .val (.int (own_f1 (x0 &&& (2147483647 : Int32)))), .val (.int (own_j0_19_s0 x0)), .unset, .unset] [])) (fun t k => XS.icmpNo X19.here hx rfl (hb hby at_61) rfl (teq hc61).2 k) ?_
        refine Go.via (U' := T19.setTop (mkF m 65 #[.val (.int x0), .val (.int x1), .val (.int (x0 &&& (2147483647 : Int32))), .val (.int (x1 &&& (1073741823 : Int32))), .val (.int (own_f1 (x0 &&& (2147483647 : Int32)))), .val (.int (own_j0_19_s0 x0)), .unset, .unset] [(.int (1 : Int32))])) (fun t k => XS.iconst X19.here hx rfl (hb hby at_64) k) ?_
        refine Go.via (U' := T19.setTop (mkF m 69 #[.val (.int x0), .val (.int x1), .val (.int (x0 &&& (2147483647 : Int32))), .val (.int (x1 &&& (1073741823 : Int32))), .val (.int (own_f1 (x0 &&& (2147483647 : Int32)))), .val (.int (own_j0_19_s0 x0)), .unset, .unset] [(.int (1 : Int32))])) (fun t k => XS.goto X19.here hx rfl (pc0 := 65) (pc' := 69) rfl (hb hby at_65) (by decide) (by decide) k) ?_
        have q_own_j0_31_s0 : (own_j0_31_s0 x0) = (1 : Int32) := by unfold own_j0_31_s0; simp only [if_pos hc31, if_pos hc61]
        have q_J := J6 T19 X19 e19
        rw [q_own_j0_31_s0] at q_J
        exact q_J
      · refine Go.via (U' := T19.setTop (mkF m 68 #[.val (.int x0), .val (.int x1), .val (.int (x0 &&& (2147483647 : Int32))), .val (.int (x1 &&& (1073741823 : Int32))), .val (.int (own_f1 (x0 &&& (2147483647 : Int32)))), .val (.int (own_j0_19_s0 x0)), .unset, .unset] [])) (fun t k => XS.icmpYes X19.here hx rfl (pc0 := 61) (pc' := 68) rfl (hb hby at_61) rfl (feq hc61).2 (by decide) (by decide) k) ?_
        refine Go.via (U' := T19.setTop (mkF m 69 #[.val (.int x0), .val (.int x1), .val (.int (x0 &&& (2147483647 : Int32))), .val (.int (x1 &&& (1073741823 : Int32))), .val (.int (own_f1 (x0 &&& (2147483647 : Int32)))), .val (.int (own_j0_19_s0 x0)), .unset, .unset] [(.int (0 : Int32))])) (fun t k => XS.iconst X19.here hx rfl (hb hby at_68) k) ?_
        have q_own_j0_31_s0 : (own_j0_31_s0 x0) = (0 : Int32) := by unfold own_j0_31_s0; simp only [if_pos hc31, if_neg hc61]
        have q_J := J6 T19 X19 e19
        rw [q_own_j0_31_s0] at q_J
        exact q_J
    · refine Go.via (U' := T3.setTop (mkF m 34 #[.val (.int x0), .val (.int x1), .val (.int (x0 &&& (2147483647 : Int32))), .val (.int (x1 &&& (1073741823 : Int32))), .val (.int (own_f1 (x0 &&& (2147483647 : Int32)))), .val (.int (own_j0_19_s0 x0)), .unset, .unset] [])) (fun t k => XS.ifNo X4.here hx rfl (hb hby at_31) rfl ((if0 _ _).trans (feq hc31).1) k) ?_
      refine Go.via (U' := T3.setTop (mkF m 35 #[.val (.int x0), .val (.int x1), .val (.int (x0 &&& (2147483647 : Int32))), .val (.int (x1 &&& (1073741823 : Int32))), .val (.int (own_f1 (x0 &&& (2147483647 : Int32)))), .val (.int (own_j0_19_s0 x0)), .unset, .unset] [(.int (x0 &&& (2147483647 : Int32)))])) (fun t k => XS.iloadN X4.here hx rfl (hb hby at_34) rfl k) ?_
      refine Go.via (U' := T3.setTop (mkF m 36 #[.val (.int x0), .val (.int x1), .val (.int (x0 &&& (2147483647 : Int32))), .val (.int (x1 &&& (1073741823 : Int32))), .val (.int (own_f1 (x0 &&& (2147483647 : Int32)))), .val (.int (own_j0_19_s0 x0)), .unset, .unset] [(.int (x0 &&& (2147483647 : Int32))), (.int (x0 &&& (2147483647 : Int32)))])) (fun t k => XS.iloadN X4.here hx rfl (hb hby at_35) rfl k) ?_
      obtain ⟨T20, X20, e20, st20⟩ := callS0 X4 hx hZ hown (hw _ (List.mem_of_getElem? (i := 6) rfl)) (hw _ (List.mem_of_getElem? (i := 7) rfl)) (hw _ (List.mem_of_getElem? (i := 4) rfl)) (hw _ (List.mem_of_getElem? (i := 8) rfl)) (by decide) (av := [(.int (x0 &&& (2147483647 : Int32)))]) (own_rm2 l Z a0 hw [] (x0 &&& (2147483647 : Int32))  h0) e5 (pc := 36) (Ls := #[.val (.int x0), .val (.int x1), .val (.int (x0 &&& (2147483647 : Int32))), .val (.int (x1 &&& (1073741823 : Int32))), .val (.int (own_f1 (x0 &&& (2147483647 : Int32)))), .val (.int (own_j0_19_s0 x0)), .unset, .unset]) (rest := [(.int (x0 &&& (2147483647 : Int32)))]) (by rw [hml]; rfl) own_k29 rfl 1 (Nat.le_of_eq rfl) (by decide) (by decide) (by decide) (by decide) (hb hby at_36)
      refine Go.via (U' := T20.setTop (mkF m 39 #[.val (.int x0), .val (.int x1), .val (.int (x0 &&& (2147483647 : Int32))), .val (.int (x1 &&& (1073741823 : Int32))), .val (.int (own_f1 (x0 &&& (2147483647 : Int32)))), .val (.int (own_j0_19_s0 x0)), .unset, .unset] [(.int (own_f2 (x0 &&& (2147483647 : Int32)))), (.int (x0 &&& (2147483647 : Int32)))])) (fun t k => st20 t k) ?_
      obtain ⟨T21, X21, e21, st21⟩ := callS0 X20 hx hZ hown (hw _ (List.mem_of_getElem? (i := 9) rfl)) (hw _ (List.mem_of_getElem? (i := 10) rfl)) (hw _ (List.mem_of_getElem? (i := 4) rfl)) (hw _ (List.mem_of_getElem? (i := 11) rfl)) (by decide) (av := [(.int (own_f2 (x0 &&& (2147483647 : Int32))))]) (own_rm3 l Z a0 hw [] (own_f2 (x0 &&& (2147483647 : Int32)))  h0) e20 (pc := 39) (Ls := #[.val (.int x0), .val (.int x1), .val (.int (x0 &&& (2147483647 : Int32))), .val (.int (x1 &&& (1073741823 : Int32))), .val (.int (own_f1 (x0 &&& (2147483647 : Int32)))), .val (.int (own_j0_19_s0 x0)), .unset, .unset]) (rest := [(.int (x0 &&& (2147483647 : Int32)))]) (by rw [hml]; rfl) own_k29 rfl 1 (Nat.le_of_eq rfl) (by decide) (by decide) (by decide) (by decide) (hb hby at_39)
      refine Go.via (U' := T21.setTop (mkF m 42 #[.val (.int x0), .val (.int x1), .val (.int (x0 &&& (2147483647 : Int32))), .val (.int (x1 &&& (1073741823 : Int32))), .val (.int (own_f1 (x0 &&& (2147483647 : Int32)))), .val (.int (own_j0_19_s0 x0)), .unset, .unset] [(.int (own_f3 (own_f2 (x0 &&& (2147483647 : Int32))))), (.int (x0 &&& (2147483647 : Int32)))])) (fun t k => st21 t k) ?_
      by_cases hc42 : (x0 &&& (2147483647 : Int32)) = (own_f3 (own_f2 (x0 &&& (2147483647 : Int32))))
      · refine Go.via (U' := T21.setTop (mkF m 45 #[.val (.int x0), .val (.int x1), .val (.int (x0 &&& (2147483647 : Int32))), .val (.int (x1 &&& (1073741823 : Int32))), .val (.int (own_f1 (x0 &&& (2147483647 : Int32)))), .val (.int (own_j0_19_s0 x0)), .unset, .unset] [])) (fun t k => XS.icmpNo X21.here hx rfl (hb hby at_42) rfl (teq hc42).2 k) ?_
        refine Go.via (U' := T21.setTop (mkF m 46 #[.val (.int x0), .val (.int x1), .val (.int (x0 &&& (2147483647 : Int32))), .val (.int (x1 &&& (1073741823 : Int32))), .val (.int (own_f1 (x0 &&& (2147483647 : Int32)))), .val (.int (own_j0_19_s0 x0)), .unset, .unset] [(.int (1 : Int32))])) (fun t k => XS.iconst X21.here hx rfl (hb hby at_45) k) ?_
        refine Go.via (U' := T21.setTop (mkF m 69 #[.val (.int x0), .val (.int x1), .val (.int (x0 &&& (2147483647 : Int32))), .val (.int (x1 &&& (1073741823 : Int32))), .val (.int (own_f1 (x0 &&& (2147483647 : Int32)))), .val (.int (own_j0_19_s0 x0)), .unset, .unset] [(.int (1 : Int32))])) (fun t k => XS.goto X21.here hx rfl (pc0 := 46) (pc' := 69) rfl (hb hby at_46) (by decide) (by decide) k) ?_
        have q_own_j0_31_s0 : (own_j0_31_s0 x0) = (1 : Int32) := by unfold own_j0_31_s0; simp only [if_neg hc31, if_pos hc42]
        have q_J := J6 T21 X21 e21
        rw [q_own_j0_31_s0] at q_J
        exact q_J
      · refine Go.via (U' := T21.setTop (mkF m 49 #[.val (.int x0), .val (.int x1), .val (.int (x0 &&& (2147483647 : Int32))), .val (.int (x1 &&& (1073741823 : Int32))), .val (.int (own_f1 (x0 &&& (2147483647 : Int32)))), .val (.int (own_j0_19_s0 x0)), .unset, .unset] [])) (fun t k => XS.icmpYes X21.here hx rfl (pc0 := 42) (pc' := 49) rfl (hb hby at_42) rfl (feq hc42).2 (by decide) (by decide) k) ?_
        refine Go.via (U' := T21.setTop (mkF m 50 #[.val (.int x0), .val (.int x1), .val (.int (x0 &&& (2147483647 : Int32))), .val (.int (x1 &&& (1073741823 : Int32))), .val (.int (own_f1 (x0 &&& (2147483647 : Int32)))), .val (.int (own_j0_19_s0 x0)), .unset, .unset] [(.int (0 : Int32))])) (fun t k => XS.iconst X21.here hx rfl (hb hby at_49) k) ?_
        refine Go.via (U' := T21.setTop (mkF m 69 #[.val (.int x0), .val (.int x1), .val (.int (x0 &&& (2147483647 : Int32))), .val (.int (x1 &&& (1073741823 : Int32))), .val (.int (own_f1 (x0 &&& (2147483647 : Int32)))), .val (.int (own_j0_19_s0 x0)), .unset, .unset] [(.int (0 : Int32))])) (fun t k => XS.goto X21.here hx rfl (pc0 := 50) (pc' := 69) rfl (hb hby at_50) (by decide) (by decide) k) ?_
        have q_own_j0_31_s0 : (own_j0_31_s0 x0) = (0 : Int32) := by unfold own_j0_31_s0; simp only [if_neg hc31, if_neg hc42]
        have q_J := J6 T21 X21 e21
        rw [q_own_j0_31_s0] at q_J
        exact q_J
  by_cases hc19 : ((x0 &&& (2147483647 : Int32)) &&& (1 : Int32)) = (0 : Int32)
  · refine Go.via (U' := T1.setTop (mkF m 22 #[.val (.int x0), .val (.int x1), .val (.int (x0 &&& (2147483647 : Int32))), .val (.int (x1 &&& (1073741823 : Int32))), .val (.int (own_f1 (x0 &&& (2147483647 : Int32)))), .unset, .unset, .unset] [])) (fun t k => XS.ifNo X1.here hx rfl (hb hby at_19) rfl ((if0 _ _).trans (teq hc19).2) k) ?_
    refine Go.via (U' := T1.setTop (mkF m 23 #[.val (.int x0), .val (.int x1), .val (.int (x0 &&& (2147483647 : Int32))), .val (.int (x1 &&& (1073741823 : Int32))), .val (.int (own_f1 (x0 &&& (2147483647 : Int32)))), .unset, .unset, .unset] [(.int (1 : Int32))])) (fun t k => XS.iconst X1.here hx rfl (hb hby at_22) k) ?_
    refine Go.via (U' := T1.setTop (mkF m 27 #[.val (.int x0), .val (.int x1), .val (.int (x0 &&& (2147483647 : Int32))), .val (.int (x1 &&& (1073741823 : Int32))), .val (.int (own_f1 (x0 &&& (2147483647 : Int32)))), .unset, .unset, .unset] [(.int (1 : Int32))])) (fun t k => XS.goto X1.here hx rfl (pc0 := 23) (pc' := 27) rfl (hb hby at_23) (by decide) (by decide) k) ?_
    have q_own_j0_19_s0 : (own_j0_19_s0 x0) = (1 : Int32) := by unfold own_j0_19_s0; simp only [if_pos hc19]
    have q_J := J2 T1 X1 e1
    rw [q_own_j0_19_s0] at q_J
    exact q_J
  · refine Go.via (U' := T1.setTop (mkF m 26 #[.val (.int x0), .val (.int x1), .val (.int (x0 &&& (2147483647 : Int32))), .val (.int (x1 &&& (1073741823 : Int32))), .val (.int (own_f1 (x0 &&& (2147483647 : Int32)))), .unset, .unset, .unset] [])) (fun t k => XS.ifYes X1.here hx rfl (pc0 := 19) (pc' := 26) rfl (hb hby at_19) rfl ((if0 _ _).trans (feq hc19).2) (by decide) (by decide) k) ?_
    refine Go.via (U' := T1.setTop (mkF m 27 #[.val (.int x0), .val (.int x1), .val (.int (x0 &&& (2147483647 : Int32))), .val (.int (x1 &&& (1073741823 : Int32))), .val (.int (own_f1 (x0 &&& (2147483647 : Int32)))), .unset, .unset, .unset] [(.int (0 : Int32))])) (fun t k => XS.iconst X1.here hx rfl (hb hby at_26) k) ?_
    have q_own_j0_19_s0 : (own_j0_19_s0 x0) = (0 : Int32) := by unfold own_j0_19_s0; simp only [if_neg hc19]
    have q_J := J2 T1 X1 e1
    rw [q_own_j0_19_s0] at q_J
    exact q_J
theorem own_plain (x y : Int32) : own_f0 x y = 1 := by
  have m := c_mask x 2147483647 31 (by decide) (by decide)
  have m1 := c_mask (x &&& 2147483647) 1 1 (by decide) (by decide)
  have n := c_mask y 1073741823 30 (by decide) (by decide)
  unfold own_f0 own_j0_19_s0 own_j0_31_s0 own_j0_78_s0
  generalize x &&& 2147483647 = d at *
  generalize y &&& 1073741823 = g at *
  have e0 : (0 : Int32).toInt = 0 := rfl
  have e1 : (1 : Int32).toInt = 1 := rfl
  have e2 : (2 : Int32).toInt = 2 := rfl
  have r := (c_irem d 2 2 rfl).1 (by omega)
  have q := (c_idiv d 2 2 rfl (by decide)).1 (by omega)
  have f := c_imul 2 (d / 2)
  have b := c_iadd (2 * (d / 2)) 1
  have g1 := rng32 (2 * (d / 2))
  have g2 := rng32 (2 * (d / 2) + 1)
  have f' := c_imul 2 g
  have b' := c_iadd (2 * g) 1
  have g1' := rng32 (2 * g)
  have g2' := rng32 (2 * g + 1)
  rw [e2] at f f'
  have r1 := (c_irem (2 * g) 2 2 rfl).1 (by omega)
  have r2 := (c_irem (2 * g + 1) 2 2 rfl).1 (by omega)
  have k1 : own_f1 (own_f3 g) = 1 := by
    unfold own_f1 own_f3
    exact if_pos (Int32.toInt_inj.mp (by omega))
  have k2 : own_f1 (own_f4 g) = 0 := by
    unfold own_f1 own_f4
    exact if_neg (fun h => by have := Int32.toInt_inj.mpr h; omega)
  rw [k1, k2]
  unfold own_f1
  by_cases p : d % 2 = 0
  · have p' := Int32.toInt_inj.mpr p
    have a1 : d &&& 1 = 0 := Int32.toInt_inj.mp (by omega)
    have a2 : d = own_f3 (own_f2 d) := Int32.toInt_inj.mp (by unfold own_f3 own_f2; omega)
    simp only [if_pos p, if_pos a1, if_neg (by decide : ¬ (1 : Int32) = 0), if_pos a2]
    decide
  · have p' : ¬ (d % 2).toInt = 0 := fun h => p (Int32.toInt_inj.mp h)
    have a1 : ¬ d &&& 1 = 0 := fun h => by have := Int32.toInt_inj.mpr h; omega
    have a2 : d = own_f4 (own_f2 d) := Int32.toInt_inj.mp (by unfold own_f4 own_f2; omega)
    simp only [if_neg p, if_neg a1, if_pos, if_pos a2]
    decide
set_option maxRecDepth 65536 in
set_option maxHeartbeats 40000000 in
theorem own_comes {Post : Tables → Env → Array Value → State → Outcome → State → Prop} (hpost : ∀ tb e args s v u, (limb_1_1.after args s (.returned v) u = true ∧ limb_1_2.after args s (.returned v) u = true) → FrameEnd s (.returned v) u (Jvm.fieldLocs frame_1_writes args s ++ Jvm.arrayLocs frame_1_arrays args s ++ Jvm.staticLocs frame_1_statics s) 0 0 → Post tb e args s (.returned v) u) :
    ArmFor flags0 classFile x code maxLocals ret World_1 tables_1 room_1 Calls_1 rest_1 Pre_1 Post := by
  intro l hfl _ _ p e ha hc hk s m args below hf hA hF happ hP
  obtain ⟨hcalls, hrest, hpre⟩ := hP
  obtain ⟨-, -, -, hnamed, -, -, -, hat⟩ := (Spec.applies_iff hf).mp happ
  obtain ⟨hg, hn⟩ := and_e (Cond.before_iff.mp (show (Jvm.Cond.and given_1 narrow_1).before args s = true from hpre))
  obtain ⟨hcnt, hg⟩ := and_e hg
  obtain ⟨w0, w1, rfl⟩ : ∃ w0 w1 : Value, args = #[w0, w1] := by
    have hs : args.size = 2 := by simpa [Cond.value, given_1] using hcnt
    obtain ⟨L⟩ := args
    match L, hs with
    | [w0, w1], _ => exact ⟨w0, w1, rfl⟩
  have hw := fun d (hd : d ∈ tables_1) => atoms_spec (ws := Jvm.Cond.code x code maxLocals ret :: tables_1) hat d (List.mem_cons_of_mem _ hd)
  have hfit : Fit s := fun {y c} hc i hi => by
    obtain ⟨ha, rfl⟩ := Array.getElem?_eq_some_iff.mp hc
    have q := List.all_eq_true.mp ((Array.all_eq_true_iff_forall_mem.mp hF) _ (Array.getElem_mem ha)) i (List.mem_range.mpr hi)
    simpa [Array.getElem?_eq_getElem hi] using q
  obtain ⟨hg0, hg⟩ := and_e hg
  obtain ⟨i0, ei0⟩ := is_v hg0
  obtain rfl : w0 = (.int i0) := Option.some.inj ei0
  obtain ⟨i1, ei1⟩ := is_v hg
  obtain rfl : w1 = (.int i1) := Option.some.inj ei1
  obtain ⟨n, o, h1, h2, h3, _, L, rfl, ⟨rfl, -, rfl⟩, hq⟩ := own_rm0 l s _ hw tables_1 i0 i1 s.heap p e ha hc hk s m _ below hf ((Spec.applies_iff_loose hf).mp happ).1 ⟨rfl, State.Warmed39.refl s, rfl⟩ trivial
  refine ⟨n, _, h1, h2, h3, hpost _ _ _ _ _ _ ⟨Cond.after_iff.mpr rfl, Cond.after_iff.mpr (eq_i res_at (Term.int_eval (1)) (congrArg Value.int (own_plain i0 i1)))⟩ ⟨hq.1, hq.2.1, (hq.2.2.sift fun y hy => Or.inr (Fr.nil s.heap.size y hy)).mono (by decide) (by decide)⟩⟩
theorem main_1_1 : Claimed_1_1 := own_comes fun _ _ _ _ _ _ h hF => ⟨h.1, hF⟩
theorem main_1_2 : Claimed_1_2 := own_comes fun _ _ _ _ _ _ h hF => ⟨h.2, hF⟩
end Jvm.Pilot.@@N@@
namespace Jvm.Pilot.@@N@@
open Jvm Jvm.ClassFile Sem Op Lib Jvm.Free Jvm.Stand Jvm.Pilot.@@N@@.Jvm.D
/-! MADE BY PROGRAM (witnessworld.py) out of the Statement's table words and the real class files: 9 classes; the members and pool entries that the words name. The judged class is class 1, her method 1. -/
namespace start1
open Jvm.ClassFile
def u (s : String) : CpInfo := .utf8 (stringToUtf16 s)
/-- a pool by its gaps: so many unusable entries, then the entry; so many at the end -/
def gap : Nat → List CpInfo → List CpInfo
  | 0, r => r
  | n + 1, r => .unusable :: gap n r
def poolList (es : List (Nat × CpInfo)) (last : Nat) : List CpInfo := es.foldr (fun e r => gap e.1 (e.2 :: r)) (gap last [])
def pool (es : List (Nat × CpInfo)) (last : Nat) : Array CpInfo := ⟨poolList es last⟩
def fileOf (pool : Array CpInfo) (this : Nat) (attrs : Array Attribute := #[]) (ms : Array MethodInfo := #[]) (fl : Nat := 33) (sup : Nat := 0) (ifs : Array Nat := #[]) (fds : Array FieldInfo := #[]) : ClassFile where
  minorVersion := 0
  majorVersion := 65
  constantPool := pool
  accessFlags := fl
  thisClass := this
  superClass := sup
  interfaces := ifs
  fields := fds
  methods := ms
  attributes := attrs
def plain (name : String) (sup : Option ClassId) : Class where
  name := name
  kind := .ordinary
  loader := none
  accessFlags := 33
  super := sup
  interfaces := #[]
  cf := none
  fields := #[]
  methods := #[]
  instanceTypes := #[]
  staticTypes := #[]
  resolved := #[]
  callSites := []
  init := .initialized
  statics := none
  mirror := none

def pool0 : Array CpInfo := pool [(5, u "<init>"), (0, u "()V"), (1, .class_ 10), (1, u "java/lang/Object")] 113

def k0m0 : Method := { name := "<init>", desc := "()V", sig := { parameters := [], returnType := none }, accessFlags := 1, code := none }
/-- java/lang/Object -/
def k0 : Class := { plain "java/lang/Object" none with
  accessFlags := 33
  interfaces := #[]
  cf := some (fileOf pool0 8 #[] #[{ accessFlags := 1, nameIndex := 5, descriptorIndex := 6, attributes := #[] }] 33 0 #[] #[])
  fields := #[]
  methods := #[k0m0]
  instanceTypes := #[]
  staticTypes := #[]
  resolved := Array.replicate 124 none
  statics := none }

def pool1 : Array CpInfo := pool [(2, .class_ 4), (1, u "java/lang/Object"), (0, u "<init>"), (0, u "()V"), (0, .integer 2147483647), (0, .integer 1073741823), (0, .methodref 10 11), (0, .class_ 12), (0, .nameAndType 13 14), (0, u "com/example/dislope/dislope/core/embedding/Faces"), (0, u "isForward"), (0, u "(I)Z"), (0, .methodref 10 16), (0, .nameAndType 17 18), (0, u "edge"), (0, u "(I)I"), (0, .methodref 10 20), (0, .nameAndType 21 18), (0, u "forward"), (0, .methodref 10 23), (0, .nameAndType 24 18), (0, u "backward"), (0, .class_ 26), (0, u "com/example/dislope/dislope/core/embedding/FacesIsForwardPinLaw"), (2, u "law"), (0, u "(II)Z")] 3

def k1m0 : Method := { name := "<init>", desc := "()V", sig := { parameters := [], returnType := none }, accessFlags := 1, code := none }
def k1c1 : Code := { maxStack := 2, maxLocals := 8, code := code, exceptionTable := #[], attributes := #[] }
def k1m1 : Method := { name := "law", desc := "(II)Z", sig := { parameters := [.int, .int], returnType := some .boolean }, accessFlags := 9, code := some k1c1 }
/-- com/example/dislope/dislope/core/embedding/FacesIsForwardPinLaw -/
def k1 : Class := { plain "com/example/dislope/dislope/core/embedding/FacesIsForwardPinLaw" (some 0) with
  accessFlags := 49
  interfaces := #[]
  cf := some (fileOf pool1 25 #[] #[{ accessFlags := 1, nameIndex := 5, descriptorIndex := 6, attributes := #[] }, { accessFlags := 9, nameIndex := 29, descriptorIndex := 30, attributes := #[] }] 49 2 #[] #[])
  fields := #[]
  methods := #[k1m0, k1m1]
  instanceTypes := #[]
  staticTypes := #[]
  resolved := Array.replicate 34 none
  statics := none }

def pool2 : Array CpInfo := pool [(2, .class_ 4), (1, u "java/lang/Object"), (3, .class_ 10), (1, u "com/example/dislope/dislope/core/embedding/Faces"), (0, u "next"), (0, u "[I"), (2, u "face"), (2, u "count"), (0, u "I"), (27, u "edge"), (0, u "(I)I"), (2, u "isForward"), (0, u "(I)Z"), (23, u "forward"), (2, u "backward")] 8

def k2c0 : Code := { maxStack := 2, maxLocals := 1, code := prog_9_method_3_code, exceptionTable := #[], attributes := #[] }
def k2m0 : Method := { name := "forward", desc := "(I)I", sig := { parameters := [.int], returnType := some .int }, accessFlags := 9, code := some k2c0 }
def k2c1 : Code := { maxStack := 2, maxLocals := 1, code := prog_9_method_4_code, exceptionTable := #[], attributes := #[] }
def k2m1 : Method := { name := "backward", desc := "(I)I", sig := { parameters := [.int], returnType := some .int }, accessFlags := 9, code := some k2c1 }
def k2c2 : Code := { maxStack := 2, maxLocals := 1, code := prog_9_method_5_code, exceptionTable := #[], attributes := #[] }
def k2m2 : Method := { name := "edge", desc := "(I)I", sig := { parameters := [.int], returnType := some .int }, accessFlags := 9, code := some k2c2 }
def k2c3 : Code := { maxStack := 2, maxLocals := 1, code := prog_9_method_6_code, exceptionTable := #[], attributes := #[] }
def k2m3 : Method := { name := "isForward", desc := "(I)Z", sig := { parameters := [.int], returnType := some .boolean }, accessFlags := 9, code := some k2c3 }
/-- com/example/dislope/dislope/core/embedding/Faces -/
def k2 : Class := { plain "com/example/dislope/dislope/core/embedding/Faces" (some 0) with
  accessFlags := 49
  interfaces := #[]
  cf := some (fileOf pool2 8 #[] #[{ accessFlags := 9, nameIndex := 76, descriptorIndex := 48, attributes := #[] }, { accessFlags := 9, nameIndex := 79, descriptorIndex := 48, attributes := #[] }, { accessFlags := 9, nameIndex := 47, descriptorIndex := 48, attributes := #[] }, { accessFlags := 9, nameIndex := 51, descriptorIndex := 52, attributes := #[] }] 49 2 #[] #[{ accessFlags := 18, nameIndex := 11, descriptorIndex := 12, attributes := #[] }, { accessFlags := 18, nameIndex := 15, descriptorIndex := 12, attributes := #[] }, { accessFlags := 18, nameIndex := 18, descriptorIndex := 19, attributes := #[] }])
  fields := #[{ name := "next", type := (.array .int), accessFlags := 18, slot := 0, constantValue := 0 }, { name := "face", type := (.array .int), accessFlags := 18, slot := 1, constantValue := 0 }, { name := "count", type := .int, accessFlags := 18, slot := 2, constantValue := 0 }]
  methods := #[k2m0, k2m1, k2m2, k2m3]
  instanceTypes := #[(.array .int), (.array .int), .int]
  staticTypes := #[]
  resolved := Array.replicate 88 none
  statics := none }

def pool3 : Array CpInfo := pool [(1, u "java/lang/Cloneable"), (0, .class_ 1), (0, u "java/lang/Object"), (0, .class_ 3)] 3

/-- java/lang/Cloneable -/
def k3 : Class := { plain "java/lang/Cloneable" (some 0) with
  accessFlags := 1537
  interfaces := #[]
  cf := some (fileOf pool3 2 #[] #[] 1537 4 #[] #[])
  fields := #[]
  methods := #[]
  instanceTypes := #[]
  staticTypes := #[]
  resolved := Array.replicate 8 none
  statics := none }

def pool4 : Array CpInfo := pool [(1, u "java/io/Serializable"), (0, .class_ 1), (0, u "java/lang/Object"), (0, .class_ 3)] 3

/-- java/io/Serializable -/
def k4 : Class := { plain "java/io/Serializable" (some 0) with
  accessFlags := 1537
  interfaces := #[]
  cf := some (fileOf pool4 2 #[] #[] 1537 4 #[] #[])
  fields := #[]
  methods := #[]
  instanceTypes := #[]
  staticTypes := #[]
  resolved := Array.replicate 8 none
  statics := none }

/-- the primitive byte -/
def k5 : Class := { plain "byte" none with kind := .primitive 'B', accessFlags := 0x411 }
/-- [B -/
def k6 : Class := { plain "[B" (some 0) with kind := .array 5 .byte, interfaces := #[3, 4], accessFlags := 1041 }

/-- the primitive int -/
def k7 : Class := { plain "int" none with kind := .primitive 'I', accessFlags := 0x411 }
/-- [I -/
def k8 : Class := { plain "[I" (some 0) with kind := .array 7 .int, interfaces := #[3, 4], accessFlags := 1041 }

def heap : Heap := #[]
def classes : Array Class := #[k0, k1, k2, k3, k4, k5, k6, k7, k8]
def interned : List (Array UInt16 × Addr) := []
def slotsUsed : Nat := 0
def theMethod : MethodId := ⟨1, 1⟩
def args0 : Array Value := #[.int 5, .int 3]
def aboutOver (below : List Frame) : State where
  vm := { classes := classes, interned := interned.toArray }
  heap := heap
  slotsUsed := slotsUsed
  threads := #[{ frames := .invoking theMethod args0 :: below }]
def below0 : List Frame := [.native { method := ⟨0, 0⟩, args := #[] }]
def about1 : State := aboutOver below0
def p0 : Program := .bare "" "" ""
def e0 : Env := launch0.env 0 0 0
theorem w_frames : about1.frames = Frame.invoking theMethod args0 :: below0 := rfl
set_option maxRecDepth 65536 in
theorem w_args : argsFit about1.vm theMethod args0 = true := by decide +kernel
set_option maxRecDepth 65536 in
theorem w_heap : heapFits about1 = true := by decide +kernel
set_option maxRecDepth 65536 in
theorem w_runnable : about1.curStatus? = some .runnable := by decide +kernel
set_option maxRecDepth 65536 in
theorem w_alone : about1.alone = true := by decide +kernel
set_option maxRecDepth 65536 in
theorem w_named : about1.methodNamed? x = some theMethod := by decide +kernel
set_option maxRecDepth 65536 in
theorem w_hears : about1.hears theMethod below0 = true := by decide +kernel
set_option maxRecDepth 65536 in
theorem w_ripe : about1.ripe theMethod args0 below0 = true := by decide +kernel
theorem w_running : about1.status = .running := rfl
set_option maxRecDepth 65536 in
theorem w_room : about1.hasRoom e0.platform room_1 = true :=
  launch0.hasRoom_least _ room_1 (by decide +kernel) (by decide +kernel) (by decide +kernel) (by decide +kernel) (by decide +kernel) (by decide +kernel)
theorem allAtoms_all (ts : List Jvm.Cond) (a : Array Jvm.Value) (st : Jvm.State) : (allAtoms ts).before a st = ts.all (fun c => c.before a st) := by
  induction ts with
  | nil => rfl
  | cons c t ih =>
    show (Jvm.Cond.and c (allAtoms t)).before a st = _
    rw [Jvm.Cond.before_and, ih, List.all_cons]
def words1 : List Jvm.Cond := Jvm.Cond.code x code maxLocals ret :: tables_1
/-- a 'code' word, met by the world's own term for the bytes: nothing is compared byte by byte -/
theorem code_word {y : MethodName} {bytes : ByteArray} {mx : Nat} {rt : Option FieldType} {a : Array Value} {s : State} {m : MethodId} {meth : Method} {c : Code} (h1 : s.methodNamed? y = some m) (h2 : s.vm.method? m = some meth) (h3 : meth.code = some c) (h4 : c.code = bytes)
    (h5 : (c.maxLocals == mx && c.exceptionTable.isEmpty && decide (c.maxStack ≤ mostOperands) && decide (meth.sig.returnType = rt) && !meth.locks && decide (parseMethodDescriptor y.desc = some meth.sig)) = true) : (Jvm.Cond.code y bytes mx rt).before a s = true := by
  simp only [Bool.and_eq_true, beq_iff_eq, Bool.not_eq_true', decide_eq_true_eq] at h5
  obtain ⟨⟨⟨⟨⟨g1, g2⟩, g3⟩, g4⟩, g5⟩, g6⟩ := h5
  simp [Cond.before, Cond.holds, Cond.value, h1, h2, h3, h4, g1, g2, g3, g4, g5, g6]
def isCode : Jvm.Cond → Bool
  | .code _ _ _ _ => true
  | _ => false
theorem all_split {L : List Jvm.Cond} {P : Jvm.Cond → Bool} (h1 : L.all (fun c => isCode c || P c) = true) (h2 : ∀ c ∈ L.filter isCode, P c = true) : L.all P = true := by
  refine List.all_eq_true.mpr fun c hc => ?_
  have h := List.all_eq_true.mp h1 c hc
  rcases Bool.eq_false_or_eq_true (isCode c) with hi | hi
  · exact h2 c (List.mem_filter.mpr ⟨hc, hi⟩)
  · simpa [hi] using h
set_option maxRecDepth 65536 in
theorem w_c0 : (Jvm.Cond.code x code maxLocals ret).before args0 about1 = true := code_word (m := ⟨1, 1⟩) (meth := k1m1) (c := k1c1) (by decide +kernel) rfl rfl rfl (by decide +kernel)
set_option maxRecDepth 65536 in
theorem w_c1 : (Jvm.Cond.code ({ cls := "com/example/dislope/dislope/core/embedding/Faces", name := "isForward", desc := "(I)Z" } : Jvm.MethodName) prog_9_method_6_code (1 : Nat) (Option.some Jvm.ClassFile.FieldType.boolean)).before args0 about1 = true := code_word (m := ⟨2, 3⟩) (meth := k2m3) (c := k2c3) (by decide +kernel) rfl rfl rfl (by decide +kernel)
set_option maxRecDepth 65536 in
theorem w_c2 : (Jvm.Cond.code ({ cls := "com/example/dislope/dislope/core/embedding/Faces", name := "edge", desc := "(I)I" } : Jvm.MethodName) prog_9_method_5_code (1 : Nat) (Option.some Jvm.ClassFile.FieldType.int)).before args0 about1 = true := code_word (m := ⟨2, 2⟩) (meth := k2m2) (c := k2c2) (by decide +kernel) rfl rfl rfl (by decide +kernel)
set_option maxRecDepth 65536 in
theorem w_c3 : (Jvm.Cond.code ({ cls := "com/example/dislope/dislope/core/embedding/Faces", name := "forward", desc := "(I)I" } : Jvm.MethodName) prog_9_method_3_code (1 : Nat) (Option.some Jvm.ClassFile.FieldType.int)).before args0 about1 = true := code_word (m := ⟨2, 0⟩) (meth := k2m0) (c := k2c0) (by decide +kernel) rfl rfl rfl (by decide +kernel)
set_option maxRecDepth 65536 in
theorem w_c4 : (Jvm.Cond.code ({ cls := "com/example/dislope/dislope/core/embedding/Faces", name := "backward", desc := "(I)I" } : Jvm.MethodName) prog_9_method_4_code (1 : Nat) (Option.some Jvm.ClassFile.FieldType.int)).before args0 about1 = true := code_word (m := ⟨2, 1⟩) (meth := k2m1) (c := k2c1) (by decide +kernel) rfl rfl rfl (by decide +kernel)
def codes1 : List Jvm.Cond := [Jvm.Cond.code x code maxLocals ret, Jvm.Cond.code ({ cls := "com/example/dislope/dislope/core/embedding/Faces", name := "isForward", desc := "(I)Z" } : Jvm.MethodName) prog_9_method_6_code (1 : Nat) (Option.some Jvm.ClassFile.FieldType.boolean), Jvm.Cond.code ({ cls := "com/example/dislope/dislope/core/embedding/Faces", name := "edge", desc := "(I)I" } : Jvm.MethodName) prog_9_method_5_code (1 : Nat) (Option.some Jvm.ClassFile.FieldType.int), Jvm.Cond.code ({ cls := "com/example/dislope/dislope/core/embedding/Faces", name := "forward", desc := "(I)I" } : Jvm.MethodName) prog_9_method_3_code (1 : Nat) (Option.some Jvm.ClassFile.FieldType.int), Jvm.Cond.code ({ cls := "com/example/dislope/dislope/core/embedding/Faces", name := "backward", desc := "(I)I" } : Jvm.MethodName) prog_9_method_4_code (1 : Nat) (Option.some Jvm.ClassFile.FieldType.int)]
set_option maxRecDepth 65536 in
theorem codes_eq : words1.filter isCode = codes1 := rfl
theorem w_codes : ∀ c ∈ words1.filter isCode, c.before args0 about1 = true := by
  rw [codes_eq]
  intro c hc
  simp only [codes1, List.mem_cons, List.not_mem_nil, or_false] at hc
  rcases hc with rfl | rfl | rfl | rfl | rfl
  · exact w_c0
  · exact w_c1
  · exact w_c2
  · exact w_c3
  · exact w_c4
set_option maxRecDepth 65536 in
theorem w_t1 : words1.all (fun c => isCode c || c.before args0 about1) = true := by decide +kernel
theorem w_tables : (allAtoms (Jvm.Cond.code x code maxLocals ret :: tables_1)).before args0 about1 = true := by
  rw [allAtoms_all]
  show words1.all (fun c => c.before args0 about1) = true
  refine all_split ?_ w_codes
  rw [w_t1]
set_option maxRecDepth 65536 in
theorem w_case : (Jvm.Cond.and given_1 narrow_1).before args0 about1 = true := by decide +kernel
theorem w_applies : (headSpec (Jvm.Cond.code x code maxLocals ret :: tables_1) room_1).applies x e0.platform about1 = true :=
  (Spec.applies_iff w_frames).mpr ⟨w_running, w_runnable, w_alone, w_named, w_hears, w_ripe, w_room, w_tables⟩
theorem atStart : AtStart classFile x code maxLocals ret World_1 tables_1 room_1 Calls_1 rest_1 Pre_1 launch0 p0 e0 about1 theMethod args0 below0 :=
  ⟨lists_1, trivial, launch0.admits_env _ _ _, launch0.least_env, fairChoices_fair.cas, fairChoices_fair.clock, w_frames, w_args, w_heap, w_applies, trivial, trivial, w_case⟩
end start1
theorem witness_1 : WitnessClaimed_1 := ⟨start1.p0, start1.e0, start1.about1, start1.theMethod, start1.args0, start1.below0, start1.atStart⟩
end Jvm.Pilot.@@N@@

import JvmDerived
import JvmDerived.Pilot.@@N@@Statement
import JvmDerived.Pilot.@@N@@Code
set_option linter.unusedVariables false
set_option linter.unusedSimpArgs false
namespace Jvm.Pilot.@@N@@
open Jvm Jvm.ClassFile Sem Op Lib Jvm.Free Jvm.Stand Jvm.LawKit Jvm.RoadKit Bundle Jvm.Pilot.@@N@@.Jvm.D
def own_ushr (x y : Int32) : Int32 := (x.toUInt32 >>> (y &&& 31).toUInt32).toInt32
def own_ushrL (x : Int64) (y : Int32) : Int64 := (x.toUInt64 >>> (y &&& 0x3f).toInt64.toUInt64).toInt64
section OwnKit
variable {p : Program} {l : Launch} {e : Env} {R : Room} {s : State} {m : MethodId} {args : Array Value} {below : List Frame} {meth : Method} {c : Code} {T : State} {locs : List Loc} {cells slots : Nat} {Z : State} {h h0 : Heap} {ce sl : Nat} {Q : Option Value → Heap → List Loc → Prop} {U U' : State} {a0 : Array Value}
/-- from U the walk comes to its return, and what it leaves is Q -/
def Go (p : Program) (e : Env) (below : List Frame) (s : State) (ce sl : Nat) (Q : Option Value → Heap → List Loc → Prop) (U : State) : Prop :=
  ∃ s₂ o, Steps p.tables e below U s₂ ∧ s₂.status = .running ∧ Ended s₂ below o ∧ ∃ v L, o = .returned v ∧ Q v s₂.heap L ∧ FrameEnd s o s₂ L ce sl
theorem Go.via (h : ∀ t, Steps p.tables e below U' t → Steps p.tables e below U t) (g : Go p e below s ce sl Q U') : Go p e below s ce sl Q U := by
  obtain ⟨s₂, o, h1, h2⟩ := g
  exact ⟨s₂, o, h _ h1, h2⟩
theorem Go.cast {g g' : JFrame} (q : g = g') (k : Go p e below s ce sl Q (T.setTop g')) : Go p e below s ce sl Q (T.setTop g) := q ▸ k
/-- the contract of a body: called with as', over the heap h0, it returns and leaves Q -/
def Meets (l : Launch) (Z : State) (y : MethodName) (bytes : ByteArray) (maxL : Nat) (rt : Option FieldType) (ws : List Jvm.Cond) (rm : Room) (as' : Array Value) (h0 : Heap) (Q : Option Value → Heap → List Loc → Prop) : Prop :=
  MetFree l y (head1 (Jvm.Cond.code y bytes maxL rt :: ws) rm) (fun a U => a = as' ∧ Z.Warmed39 U.vm ∧ U.heap = h0) (fun _ _ _ _ _ => True) (fun _ U o U' => ∃ v L, o = .returned v ∧ Q v U'.heap L ∧ FrameEnd U o U' L rm.cells rm.slots)
theorem meets_of {y : MethodName} {bytes : ByteArray} {maxL : Nat} {rt : Option FieldType} {ws : List Jvm.Cond} {rm : Room} {as' : Array Value} (hpl : plainFor y = true)
    (body : ∀ p e s m below meth c s₁, Stand p l e rm s m as' below meth c s₁ [] 0 0 → p.tables.exec = Jvm.exec → Z.Warmed39 s.vm → c.code = bytes → c.maxLocals = maxL → meth.sig.returnType = rt → meth.locks = false → s.vm.findClass y.cls = some m.cls → meth.name = y.name → s₁.heap = h0 →
      Go p e below s rm.cells rm.slots Q (s₁.setTop (entryFrame m as' maxL))) : Meets l Z y bytes maxL rt ws rm as' h0 Q := by
  refine MetFree.of_bodySF hpl hisR ?_
  intro p e s m args below meth c s₁ Bd hml hP hK
  obtain ⟨rfl, hZ, hh⟩ := hP
  exact body p e s m below meth c s₁ (Stand.of_body Bd) Bd.exec hZ Bd.bytes hml Bd.returns Bd.notSynchronized (findClass_of_methodNamed Bd.named) (name_of_methodNamed Bd.named Bd.method).1 (by rw [← hh, Bd.state]; rfl)
theorem go_ret (X : Stand p l e R s m args below meth c T locs cells slots) (hlk : meth.locks = false) {v : Option Value} (hv : meth.sig.returnType = none → v = none) (eT : T.heap = h) (hQ : Q v h locs) (hc : cells ≤ ce) (hs : slots ≤ sl)
    (st : ∀ fs, (∀ (f : JFrame) (acts : List Action), f.method = m → f.locked = none → f.entered = [] → (doReturn e (T.setTop f) acts v).1 = T.setFrames fs) → Steps p.tables e below U (T.setFrames fs)) : Go p e below s ce sl Q U := by
  obtain ⟨fs, hr, hrun, hended, hW, hsame⟩ := X.leave hv hlk
  exact ⟨_, _, st fs hr, hrun, hended, v, locs, rfl, (by show Q v T.heap locs; rw [eT]; exact hQ), ⟨_, rfl⟩, hW, hsame.mono hc hs⟩
theorem go_retN (X : Stand p l e R s m args below meth c T locs cells slots) (hx : p.tables.exec = Jvm.exec) (hlk : meth.locks = false) {t : FieldType} (hret : meth.sig.returnType = some t) (ht : t = .boolean ∨ t = .byte ∨ t = .char ∨ t = .short) {pc : Nat} {Ls : Array Slot} {z : Int32} {rest : List Value}
    (hd : decode c.code pc = .ok (.ireturn, 1)) (eT : T.heap = h) (hQ : Q (some (.int (nar t z))) h locs) (hc : cells ≤ ce) (hs : slots ≤ sl) : Go p e below s ce sl Q (T.setTop (mkF m pc Ls (.int z :: rest))) :=
  go_ret X hlk (fun h => by rw [hret] at h; cases h) eT hQ hc hs (fun fs hr => retN X hx hret ht hd hr)
theorem go_retI (X : Stand p l e R s m args below meth c T locs cells slots) (hx : p.tables.exec = Jvm.exec) (hlk : meth.locks = false) (hret : meth.sig.returnType = some .int) {pc : Nat} {Ls : Array Slot} {z : Int32} {rest : List Value}
    (hd : decode c.code pc = .ok (.ireturn, 1)) (eT : T.heap = h) (hQ : Q (some (.int z)) h locs) (hc : cells ≤ ce) (hs : slots ≤ sl) : Go p e below s ce sl Q (T.setTop (mkF m pc Ls (.int z :: rest))) :=
  go_ret X hlk (fun h => by rw [hret] at h; cases h) eT hQ hc hs (fun fs hr => retOut X hx hret rfl (Or.inl ⟨rfl, Or.inl rfl, z, rfl⟩) hd hr)
theorem go_retJ (X : Stand p l e R s m args below meth c T locs cells slots) (hx : p.tables.exec = Jvm.exec) (hlk : meth.locks = false) (hret : meth.sig.returnType = some .long) {pc : Nat} {Ls : Array Slot} {z : Int64} {rest : List Value}
    (hd : decode c.code pc = .ok (.lreturn, 1)) (eT : T.heap = h) (hQ : Q (some (.long z)) h locs) (hc : cells ≤ ce) (hs : slots ≤ sl) : Go p e below s ce sl Q (T.setTop (mkF m pc Ls (.long z :: rest))) :=
  go_ret X hlk (fun h => by rw [hret] at h; cases h) eT hQ hc hs (fun fs hr => retOut X hx hret rfl (Or.inr (Or.inl ⟨rfl, rfl, z, rfl⟩)) hd hr)
theorem go_retA (X : Stand p l e R s m args below meth c T locs cells slots) (hx : p.tables.exec = Jvm.exec) (hlk : meth.locks = false) {t : FieldType} (hret : meth.sig.returnType = some t) (ht : t.isReference = true) {pc : Nat} {Ls : Array Slot} {w : Value} (hw : w.isRef = true) (hn : narrow t w = w) {rest : List Value}
    (hd : decode c.code pc = .ok (.areturn, 1)) (eT : T.heap = h) (hQ : Q (some w) h locs) (hc : cells ≤ ce) (hs : slots ≤ sl) : Go p e below s ce sl Q (T.setTop (mkF m pc Ls (w :: rest))) :=
  go_ret X hlk (fun h => by rw [hret] at h; cases h) eT hQ hc hs (fun fs hr => retOut X hx hret hn (Or.inr (Or.inr (Or.inr (Or.inr ⟨rfl, ht, hw⟩)))) hd hr)
theorem go_retV (X : Stand p l e R s m args below meth c T locs cells slots) (hx : p.tables.exec = Jvm.exec) (hlk : meth.locks = false) (hret : meth.sig.returnType = none) {pc : Nat} {Ls : Array Slot}
    (hd : decode c.code pc = .ok (.return_, 1)) (eT : T.heap = h) (hQ : Q none h locs) (hc : cells ≤ ce) (hs : slots ≤ sl) : Go p e below s ce sl Q (T.setTop (mkF m pc Ls [])) :=
  go_ret X hlk (fun _ => rfl) eT hQ hc hs (fun fs hr => X.returnOut hx hret hd hr)
/-- it returned v, wrote nothing and made nothing -/
def PureR (v : Option Value) (h0 : Heap) : Option Value → Heap → List Loc → Prop := fun v' h L => v' = v ∧ h = h0 ∧ L = []
/-- a static method by its contract -/
theorem callSQ (X : Stand p l e R s m args below meth c T locs cells slots) (hx : p.tables.exec = Jvm.exec) (hZ : Z.Warmed39 s.vm) {own : String} {index : Nat} {y : MethodName} {bytes : ByteArray} {maxL : Nat} {rt : Option FieldType} {rm : Room}
    (hown : s.vm.findClass own = some m.cls) (w1 : (Jvm.Cond.methodLink own index y).before a0 Z = true) (w2 : (Jvm.Cond.static y).before a0 Z = true) (w3 : (Jvm.Cond.initialized y.cls).before a0 Z = true) (w4 : (Jvm.Cond.code y bytes maxL rt).before a0 Z = true)
    (hy : y.cls ≠ "java/lang/invoke/MethodHandle" ∧ y.cls ≠ "java/lang/invoke/VarHandle") {av : List Value} (hM : Meets l Z y bytes maxL rt [] rm av.toArray h Q) (eT : T.heap = h)
    {pc : Nat} {Ls : Array Slot} {rest : List Value} {ps : List FieldType} {r : Option FieldType} (hsize : Ls.size = c.maxLocals) (hp : parseMethodDescriptor y.desc = some ⟨ps, r⟩) (hlen : av.length = ps.length)
    (W : Nat) (hW : (rest.map fun v => v.category).sum ≤ W) (hf : rm.frames + 1 ≤ R.frames) (hl : W + (maxL + 11) + rm.locals ≤ R.locals) (hc : cells + rm.cells ≤ R.cells) (hs : slots + rm.slots ≤ R.slots) (hd : decode c.code pc = .ok (.invokestatic index, 3)) :
    ∃ v T' L, Stand p l e R s m args below meth c T' (locs ++ L) (cells + rm.cells) (slots + rm.slots) ∧ Q v T'.heap L ∧
      ∀ t, Steps p.tables e below (T'.setTop (mkF m (pc + 3) Ls (v.toList ++ rest))) t → Steps p.tables e below (T.setTop (mkF m pc Ls (av.reverse ++ rest))) t := by
  obtain ⟨v, _, ⟨T2, L2, k2, n2⟩, -, X2, ⟨Lc2, hQ2, l2, y2, z2⟩, st2⟩ := Jvm.LawKit.callS X hx (y := y) hown (mvT hZ w1) (mvT hZ w2) (mvT hZ w3) (mvT hZ w4) hy (backOf (W := W) hM hZ w4 w3 hf hl) (g := mkF m pc Ls (av.reverse ++ rest)) rfl hsize (argsL := av) (rest := rest) (lenOf hp hlen) rfl (by show 2 * 0 + _ ≤ _; rw [Nat.mul_zero, Nat.zero_add]; exact hW) hd (fun _ _ => ⟨rfl, eT, hc, hs⟩)
  dsimp only [Pt.U, Pt.locs, Pt.cells, Pt.slots] at X2 l2 y2 z2 st2 hQ2
  subst l2 y2 z2
  exact ⟨v, T2, Lc2, X2, hQ2, st2⟩
/-- a static method that writes and makes nothing -/
theorem callS0 (X : Stand p l e R s m args below meth c T locs cells slots) (hx : p.tables.exec = Jvm.exec) (hZ : Z.Warmed39 s.vm) {own : String} {index : Nat} {y : MethodName} {bytes : ByteArray} {maxL : Nat} {rt : Option FieldType} {fr lo : Nat} {v : Option Value}
    (hown : s.vm.findClass own = some m.cls) (w1 : (Jvm.Cond.methodLink own index y).before a0 Z = true) (w2 : (Jvm.Cond.static y).before a0 Z = true) (w3 : (Jvm.Cond.initialized y.cls).before a0 Z = true) (w4 : (Jvm.Cond.code y bytes maxL rt).before a0 Z = true)
    (hy : y.cls ≠ "java/lang/invoke/MethodHandle" ∧ y.cls ≠ "java/lang/invoke/VarHandle") {av : List Value} (hM : Meets l Z y bytes maxL rt [] ({ frames := fr, cells := 0, slots := 0, locals := lo } : Room) av.toArray h (PureR v h)) (eT : T.heap = h)
    {pc : Nat} {Ls : Array Slot} {rest : List Value} {ps : List FieldType} {r : Option FieldType} (hsize : Ls.size = c.maxLocals) (hp : parseMethodDescriptor y.desc = some ⟨ps, r⟩) (hlen : av.length = ps.length)
    (W : Nat) (hW : (rest.map fun v => v.category).sum ≤ W) (hf : fr + 1 ≤ R.frames) (hl : W + (maxL + 11) + lo ≤ R.locals) (hc : cells ≤ R.cells) (hs : slots ≤ R.slots) (hd : decode c.code pc = .ok (.invokestatic index, 3)) :
    ∃ T', Stand p l e R s m args below meth c T' locs cells slots ∧ T'.heap = h ∧
      ∀ t, Steps p.tables e below (T'.setTop (mkF m (pc + 3) Ls (v.toList ++ rest))) t → Steps p.tables e below (T.setTop (mkF m pc Ls (av.reverse ++ rest))) t := by
  obtain ⟨_, T2, _, X2, ⟨rfl, h2, rfl⟩, st2⟩ := callSQ X hx hZ hown w1 w2 w3 w4 hy hM eT hsize hp hlen W hW hf hl hc hs hd
  rw [List.append_nil] at X2
  exact ⟨T2, X2, h2, st2⟩
end OwnKit
theorem own_k0 (m : MethodId) (x0 : Int32) : entryFrame m #[(.int x0)] 1 = mkF m 0 #[.val (.int x0)] [] := by first | (simp [entryFrame, mkF, argsToLocals, Value.category]; done) | rfl
theorem own_k1 : decode prog_1_method_4_code 0 = .ok (.iload_n 0, 1) := by decide +kernel
theorem own_k2 : decode prog_1_method_4_code 1 = .ok (.bipush 97, 2) := by decide +kernel
theorem own_k3 : decode prog_1_method_4_code 3 = .ok (.if_icmp .lt 9, 3) := by decide +kernel
theorem own_k4 : decode prog_1_method_4_code 12 = .ok (.iload_n 0, 1) := by decide +kernel
theorem own_k5 : decode prog_1_method_4_code 13 = .ok (.bipush 65, 2) := by decide +kernel
theorem own_k6 : decode prog_1_method_4_code 15 = .ok (.if_icmp .lt 13, 3) := by decide +kernel
theorem own_k7 : decode prog_1_method_4_code 28 = .ok (.iconst 0, 1) := by decide +kernel
theorem own_k8 : decode prog_1_method_4_code 29 = .ok (.ireturn, 1) := by decide +kernel
theorem own_k9 : decode prog_1_method_4_code 18 = .ok (.iload_n 0, 1) := by decide +kernel
theorem own_k10 : decode prog_1_method_4_code 19 = .ok (.bipush 90, 2) := by decide +kernel
theorem own_k11 : decode prog_1_method_4_code 21 = .ok (.if_icmp .gt 7, 3) := by decide +kernel
theorem own_k12 : decode prog_1_method_4_code 24 = .ok (.iconst 1, 1) := by decide +kernel
theorem own_k13 : decode prog_1_method_4_code 25 = .ok (.goto 4, 3) := by decide +kernel
theorem own_k14 : decode prog_1_method_4_code 6 = .ok (.iload_n 0, 1) := by decide +kernel
theorem own_k15 : decode prog_1_method_4_code 7 = .ok (.bipush 122, 2) := by decide +kernel
theorem own_k16 : decode prog_1_method_4_code 9 = .ok (.if_icmp .le 15, 3) := by decide +kernel
theorem own_k17 : plainName "com/example/sneinton/sneinton/Ascii" = true := by first | (simp [plainName, overriddenIn]; done) | decide +kernel
def own_f1 (x0 : Int32) : Int32 := (if x0 < (97 : Int32) then (if x0 < (65 : Int32) then (0 : Int32) else (if (90 : Int32) < x0 then (0 : Int32) else (1 : Int32))) else (if (122 : Int32) < x0 then (if x0 < (65 : Int32) then (0 : Int32) else (if (90 : Int32) < x0 then (0 : Int32) else (1 : Int32))) else (1 : Int32)))
set_option maxRecDepth 65536 in
set_option maxHeartbeats 40000000 in
theorem own_rm1 (l : Launch) (Z : State) (a0 : Array Value) (hw : ∀ d ∈ tables_1, d.before a0 Z = true) (ws : List Jvm.Cond) (x0 : Int32) (h0 : Heap) : Meets l Z (⟨"com/example/sneinton/sneinton/Ascii", "isLetter", "(C)Z"⟩ : MethodName) prog_1_method_4_code 1 (some .boolean) ws ({ frames := 0, cells := 0, slots := 0, locals := 0 } : Room) #[(.int x0)] h0 (PureR (some (.int (own_f1 x0))) h0) := by
  refine meets_of (plainFor_of_name own_k17) ?_
  intro p e s m below meth c s₁ X0 hx hZ hby hml hret hlk hown hnm e0
  replace hml : c.maxLocals = 1 := hml
  replace hown : s.vm.findClass "com/example/sneinton/sneinton/Ascii" = some m.cls := hown
  refine Go.cast (own_k0 m x0) ?_
  refine Go.via (U' := s₁.setTop (mkF m 1 #[.val (.int x0)] [(.int x0)])) (fun t k => XS.iloadN X0.here hx rfl (hb hby own_k1) rfl k) ?_
  refine Go.via (U' := s₁.setTop (mkF m 3 #[.val (.int x0)] [(.int (97 : Int32)), (.int x0)])) (fun t k => XS.bipush X0.here hx rfl (hb hby own_k2) k) ?_
  by_cases hc3 : x0 < (97 : Int32)
  · refine Go.via (U' := s₁.setTop (mkF m 12 #[.val (.int x0)] [])) (fun t k => XS.icmpYes X0.here hx rfl (pc0 := 3) (pc' := 12) rfl (hb hby own_k3) rfl (tlt hc3).1 (by decide) (by decide) k) ?_
    refine Go.via (U' := s₁.setTop (mkF m 13 #[.val (.int x0)] [(.int x0)])) (fun t k => XS.iloadN X0.here hx rfl (hb hby own_k4) rfl k) ?_
    refine Go.via (U' := s₁.setTop (mkF m 15 #[.val (.int x0)] [(.int (65 : Int32)), (.int x0)])) (fun t k => XS.bipush X0.here hx rfl (hb hby own_k5) k) ?_
    by_cases hc15 : x0 < (65 : Int32)
    · refine Go.via (U' := s₁.setTop (mkF m 28 #[.val (.int x0)] [])) (fun t k => XS.icmpYes X0.here hx rfl (pc0 := 15) (pc' := 28) rfl (hb hby own_k6) rfl (tlt hc15).1 (by decide) (by decide) k) ?_
      refine Go.via (U' := s₁.setTop (mkF m 29 #[.val (.int x0)] [(.int (0 : Int32))])) (fun t k => XS.iconst X0.here hx rfl (hb hby own_k7) k) ?_
      exact go_retN X0 hx hlk (t := .boolean) hret (by simp) (hb hby own_k8) e0 ⟨(congrArg (fun z => some (Value.int z)) (show nar .boolean (0 : Int32) = (own_f1 x0) from by unfold own_f1; simp only [if_pos hc3, if_pos hc15] <;> rfl)), rfl, rfl⟩ (by decide) (by decide)
    · refine Go.via (U' := s₁.setTop (mkF m 18 #[.val (.int x0)] [])) (fun t k => XS.icmpNo X0.here hx rfl (hb hby own_k6) rfl (flt hc15).1 k) ?_
      refine Go.via (U' := s₁.setTop (mkF m 19 #[.val (.int x0)] [(.int x0)])) (fun t k => XS.iloadN X0.here hx rfl (hb hby own_k9) rfl k) ?_
      refine Go.via (U' := s₁.setTop (mkF m 21 #[.val (.int x0)] [(.int (90 : Int32)), (.int x0)])) (fun t k => XS.bipush X0.here hx rfl (hb hby own_k10) k) ?_
      by_cases hc21 : (90 : Int32) < x0
      · refine Go.via (U' := s₁.setTop (mkF m 28 #[.val (.int x0)] [])) (fun t k => XS.icmpYes X0.here hx rfl (pc0 := 21) (pc' := 28) rfl (hb hby own_k11) rfl (tlt hc21).2.2.1 (by decide) (by decide) k) ?_
        refine Go.via (U' := s₁.setTop (mkF m 29 #[.val (.int x0)] [(.int (0 : Int32))])) (fun t k => XS.iconst X0.here hx rfl (hb hby own_k7) k) ?_
        exact go_retN X0 hx hlk (t := .boolean) hret (by simp) (hb hby own_k8) e0 ⟨(congrArg (fun z => some (Value.int z)) (show nar .boolean (0 : Int32) = (own_f1 x0) from by unfold own_f1; simp only [if_pos hc3, if_neg hc15, if_pos hc21] <;> rfl)), rfl, rfl⟩ (by decide) (by decide)
      · refine Go.via (U' := s₁.setTop (mkF m 24 #[.val (.int x0)] [])) (fun t k => XS.icmpNo X0.here hx rfl (hb hby own_k11) rfl (flt hc21).2.2.1 k) ?_
        refine Go.via (U' := s₁.setTop (mkF m 25 #[.val (.int x0)] [(.int (1 : Int32))])) (fun t k => XS.iconst X0.here hx rfl (hb hby own_k12) k) ?_
        refine Go.via (U' := s₁.setTop (mkF m 29 #[.val (.int x0)] [(.int (1 : Int32))])) (fun t k => XS.goto X0.here hx rfl (pc0 := 25) (pc' := 29) rfl (hb hby own_k13) (by decide) (by decide) k) ?_
        exact go_retN X0 hx hlk (t := .boolean) hret (by simp) (hb hby own_k8) e0 ⟨(congrArg (fun z => some (Value.int z)) (show nar .boolean (1 : Int32) = (own_f1 x0) from by unfold own_f1; simp only [if_pos hc3, if_neg hc15, if_neg hc21] <;> rfl)), rfl, rfl⟩ (by decide) (by decide)
  · refine Go.via (U' := s₁.setTop (mkF m 6 #[.val (.int x0)] [])) (fun t k => XS.icmpNo X0.here hx rfl (hb hby own_k3) rfl (flt hc3).1 k) ?_
    refine Go.via (U' := s₁.setTop (mkF m 7 #[.val (.int x0)] [(.int x0)])) (fun t k => XS.iloadN X0.here hx rfl (hb hby own_k14) rfl k) ?_
    refine Go.via (U' := s₁.setTop (mkF m 9 #[.val (.int x0)] [(.int (122 : Int32)), (.int x0)])) (fun t k => XS.bipush X0.here hx rfl (hb hby own_k15) k) ?_
    by_cases hc9 : (122 : Int32) < x0
    · refine Go.via (U' := s₁.setTop (mkF m 12 #[.val (.int x0)] [])) (fun t k => XS.icmpNo X0.here hx rfl (hb hby own_k16) rfl (tlt hc9).2.2.2 k) ?_
      refine Go.via (U' := s₁.setTop (mkF m 13 #[.val (.int x0)] [(.int x0)])) (fun t k => XS.iloadN X0.here hx rfl (hb hby own_k4) rfl k) ?_
      refine Go.via (U' := s₁.setTop (mkF m 15 #[.val (.int x0)] [(.int (65 : Int32)), (.int x0)])) (fun t k => XS.bipush X0.here hx rfl (hb hby own_k5) k) ?_
      by_cases hc15 : x0 < (65 : Int32)
      · refine Go.via (U' := s₁.setTop (mkF m 28 #[.val (.int x0)] [])) (fun t k => XS.icmpYes X0.here hx rfl (pc0 := 15) (pc' := 28) rfl (hb hby own_k6) rfl (tlt hc15).1 (by decide) (by decide) k) ?_
        refine Go.via (U' := s₁.setTop (mkF m 29 #[.val (.int x0)] [(.int (0 : Int32))])) (fun t k => XS.iconst X0.here hx rfl (hb hby own_k7) k) ?_
        exact go_retN X0 hx hlk (t := .boolean) hret (by simp) (hb hby own_k8) e0 ⟨(congrArg (fun z => some (Value.int z)) (show nar .boolean (0 : Int32) = (own_f1 x0) from by unfold own_f1; simp only [if_neg hc3, if_pos hc9, if_pos hc15] <;> rfl)), rfl, rfl⟩ (by decide) (by decide)
      · refine Go.via (U' := s₁.setTop (mkF m 18 #[.val (.int x0)] [])) (fun t k => XS.icmpNo X0.here hx rfl (hb hby own_k6) rfl (flt hc15).1 k) ?_
        refine Go.via (U' := s₁.setTop (mkF m 19 #[.val (.int x0)] [(.int x0)])) (fun t k => XS.iloadN X0.here hx rfl (hb hby own_k9) rfl k) ?_
        refine Go.via (U' := s₁.setTop (mkF m 21 #[.val (.int x0)] [(.int (90 : Int32)), (.int x0)])) (fun t k => XS.bipush X0.here hx rfl (hb hby own_k10) k) ?_
        by_cases hc21 : (90 : Int32) < x0
        · refine Go.via (U' := s₁.setTop (mkF m 28 #[.val (.int x0)] [])) (fun t k => XS.icmpYes X0.here hx rfl (pc0 := 21) (pc' := 28) rfl (hb hby own_k11) rfl (tlt hc21).2.2.1 (by decide) (by decide) k) ?_
          refine Go.via (U' := s₁.setTop (mkF m 29 #[.val (.int x0)] [(.int (0 : Int32))])) (fun t k => XS.iconst X0.here hx rfl (hb hby own_k7) k) ?_
          exact go_retN X0 hx hlk (t := .boolean) hret (by simp) (hb hby own_k8) e0 ⟨(congrArg (fun z => some (Value.int z)) (show nar .boolean (0 : Int32) = (own_f1 x0) from by unfold own_f1; simp only [if_neg hc3, if_pos hc9, if_neg hc15, if_pos hc21] <;> rfl)), rfl, rfl⟩ (by decide) (by decide)
        · refine Go.via (U' := s₁.setTop (mkF m 24 #[.val (.int x0)] [])) (fun t k => XS.icmpNo X0.here hx rfl (hb hby own_k11) rfl (flt hc21).2.2.1 k) ?_
          refine Go.via (U' := s₁.setTop (mkF m 25 #[.val (.int x0)] [(.int (1 : Int32))])) (fun t k => XS.iconst X0.here hx rfl (hb hby own_k12) k) ?_
          refine Go.via (U' := s₁.setTop (mkF m 29 #[.val (.int x0)] [(.int (1 : Int32))])) (fun t k => XS.goto X0.here hx rfl (pc0 := 25) (pc' := 29) rfl (hb hby own_k13) (by decide) (by decide) k) ?_
          exact go_retN X0 hx hlk (t := .boolean) hret (by simp) (hb hby own_k8) e0 ⟨(congrArg (fun z => some (Value.int z)) (show nar .boolean (1 : Int32) = (own_f1 x0) from by unfold own_f1; simp only [if_neg hc3, if_pos hc9, if_neg hc15, if_neg hc21] <;> rfl)), rfl, rfl⟩ (by decide) (by decide)
    · refine Go.via (U' := s₁.setTop (mkF m 24 #[.val (.int x0)] [])) (fun t k => XS.icmpYes X0.here hx rfl (pc0 := 9) (pc' := 24) rfl (hb hby own_k16) rfl (flt hc9).2.2.2 (by decide) (by decide) k) ?_
      refine Go.via (U' := s₁.setTop (mkF m 25 #[.val (.int x0)] [(.int (1 : Int32))])) (fun t k => XS.iconst X0.here hx rfl (hb hby own_k12) k) ?_
      refine Go.via (U' := s₁.setTop (mkF m 29 #[.val (.int x0)] [(.int (1 : Int32))])) (fun t k => XS.goto X0.here hx rfl (pc0 := 25) (pc' := 29) rfl (hb hby own_k13) (by decide) (by decide) k) ?_
      exact go_retN X0 hx hlk (t := .boolean) hret (by simp) (hb hby own_k8) e0 ⟨(congrArg (fun z => some (Value.int z)) (show nar .boolean (1 : Int32) = (own_f1 x0) from by unfold own_f1; simp only [if_neg hc3, if_neg hc9] <;> rfl)), rfl, rfl⟩ (by decide) (by decide)
theorem own_k18 (m : MethodId) (x0 : Int32) : entryFrame m #[(.int x0)] maxLocals = mkF m 0 #[.val (.int x0), .unset, .unset, .unset] [] := by first | (simp [entryFrame, mkF, argsToLocals, Value.category, maxLocals]; done) | rfl
def own_j0_12_s0 (x0 : Int32) : Int32 := (if (((x0.toUInt32.toUInt16.toUInt32.toInt32) ||| (32 : Int32)) - (97 : Int32)) < (0 : Int32) then (0 : Int32) else (if (((x0.toUInt32.toUInt16.toUInt32.toInt32) ||| (32 : Int32)) - (97 : Int32)) < (26 : Int32) then (1 : Int32) else (0 : Int32)))
theorem own_k19 : parseMethodDescriptor "(C)Z" = some ⟨[.char], some .boolean⟩ := by decide +kernel
theorem own_k20 : plainName "com/example/sneinton/sneinton/AsciiIsLetterPinLaw" = true := by first | (simp [plainName, overriddenIn]; done) | decide +kernel
def own_f0 (x0 : Int32) : Int32 := (if (own_f1 (x0.toUInt32.toUInt16.toUInt32.toInt32)) = (own_j0_12_s0 x0) then (1 : Int32) else (0 : Int32))
set_option maxRecDepth 65536 in
set_option maxHeartbeats 40000000 in
theorem own_rm0 (l : Launch) (Z : State) (a0 : Array Value) (hw : ∀ d ∈ tables_1, d.before a0 Z = true) (ws : List Jvm.Cond) (x0 : Int32) (h0 : Heap) : Meets l Z x code maxLocals ret ws room_1 #[(.int x0)] h0 (PureR (some (.int (own_f0 x0))) h0) := by
  refine meets_of (plainFor_of_name own_k20) ?_
  intro p e s m below meth c s₁ X0 hx hZ hby hml hret hlk hown hnm e0
  replace hml : c.maxLocals = 4 := hml
  replace hown : s.vm.findClass "com/example/sneinton/sneinton/AsciiIsLetterPinLaw" = some m.cls := hown
  refine Go.cast (own_k18 m x0) ?_
  refine Go.via (U' := s₁.setTop (mkF m 1 #[.val (.int x0), .unset, .unset, .unset] [(.int x0)])) (fun t k => XS.iloadN X0.here hx rfl (hb hby at_0) rfl k) ?_
  refine Go.via (U' := s₁.setTop (mkF m 2 #[.val (.int x0), .unset, .unset, .unset] [(.int (x0.toUInt32.toUInt16.toUInt32.toInt32))])) (fun t k => XS.i2c X0.here hx rfl (hb hby at_1) rfl k) ?_
  refine Go.via (U' := s₁.setTop (mkF m 3 #[.val (.int x0), .val (.int (x0.toUInt32.toUInt16.toUInt32.toInt32)), .unset, .unset] [])) (fun t k => XS.istoreN X0.here hx rfl (hb hby at_2) rfl (l' := #[.val (.int x0), .val (.int (x0.toUInt32.toUInt16.toUInt32.toInt32)), .unset, .unset]) rfl k) ?_
  refine Go.via (U' := s₁.setTop (mkF m 4 #[.val (.int x0), .val (.int (x0.toUInt32.toUInt16.toUInt32.toInt32)), .unset, .unset] [(.int (x0.toUInt32.toUInt16.toUInt32.toInt32))])) (fun t k => XS.iloadN X0.here hx rfl (hb hby at_3) rfl k) ?_
  refine Go.via (U' := s₁.setTop (mkF m 6 #[.val (.int x0), .val (.int (x0.toUInt32.toUInt16.toUInt32.toInt32)), .unset, .unset] [(.int (32 : Int32)), (.int (x0.toUInt32.toUInt16.toUInt32.toInt32))])) (fun t k => XS.bipush X0.here hx rfl (hb hby at_4) k) ?_
  refine Go.via (U' := s₁.setTop (mkF m 7 #[.val (.int x0), .val (.int (x0.toUInt32.toUInt16.toUInt32.toInt32)), .unset, .unset] [(.int ((x0.toUInt32.toUInt16.toUInt32.toInt32) ||| (32 : Int32)))])) (fun t k => XS.ior X0.here hx rfl (hb hby at_6) rfl k) ?_
  refine Go.via (U' := s₁.setTop (mkF m 9 #[.val (.int x0), .val (.int (x0.toUInt32.toUInt16.toUInt32.toInt32)), .unset, .unset] [(.int (97 : Int32)), (.int ((x0.toUInt32.toUInt16.toUInt32.toInt32) ||| (32 : Int32)))])) (fun t k => XS.bipush X0.here hx rfl (hb hby at_7) k) ?_
  refine Go.via (U' := s₁.setTop (mkF m 10 #[.val (.int x0), .val (.int (x0.toUInt32.toUInt16.toUInt32.toInt32)), .unset, .unset] [(.int (((x0.toUInt32.toUInt16.toUInt32.toInt32) ||| (32 : Int32)) - (97 : Int32)))])) (fun t k => XS.isub X0.here hx rfl (hb hby at_9) rfl k) ?_
  refine Go.via (U' := s₁.setTop (mkF m 11 #[.val (.int x0), .val (.int (x0.toUInt32.toUInt16.toUInt32.toInt32)), .val (.int (((x0.toUInt32.toUInt16.toUInt32.toInt32) ||| (32 : Int32)) - (97 : Int32))), .unset] [])) (fun t k => XS.istoreN X0.here hx rfl (hb hby at_10) rfl (l' := #[.val (.int x0), .val (.int (x0.toUInt32.toUInt16.toUInt32.toInt32)), .val (.int (((x0.toUInt32.toUInt16.toUInt32.toInt32) ||| (32 : Int32)) - (97 : Int32))), .unset]) rfl k) ?_
  refine Go.via (U' := s₁.setTop (mkF m 12 #[.val (.int x0), .val (.int (x0.toUInt32.toUInt16.toUInt32.toInt32)), .val (.int (((x0.toUInt32.toUInt16.toUInt32.toInt32) ||| (32 : Int32)) - (97 : Int32))), .unset] [(.int (((x0.toUInt32.toUInt16.toUInt32.toInt32) ||| (32 : Int32)) - (97 : Int32)))])) (fun t k => XS.iloadN X0.here hx rfl (hb hby at_11) rfl k) ?_
  have J1 : ∀ T', Stand p l e room_1 s m #[(.int x0)] below meth c T' [] 0 0 → T'.heap = h0 → Go p e below s room_1.cells room_1.slots (PureR (some (.int (own_f0 x0))) h0) (T'.setTop (mkF m 26 #[.val (.int x0), .val (.int (x0.toUInt32.toUInt16.toUInt32.toInt32)), .val (.int (((x0.toUInt32.toUInt16.toUInt32.toInt32) ||| (32 : Int32)) - (97 : Int32))), .unset] [(.int (own_j0_12_s0 x0))])) := by
    intro T2 X3 e4
    refine Go.via (U' := T2.setTop (mkF m 27 #[.val (.int x0), .val (.int (x0.toUInt32.toUInt16.toUInt32.toInt32)), .val (.int (((x0.toUInt32.toUInt16.toUInt32.toInt32) ||| (32 : Int32)) - (97 : Int32))), .val (.int (own_j0_12_s0 x0))] [])) (fun t k => XS.istoreN X3.here hx rfl (hb hby at_26) rfl (l' := #[.val (.int x0), .val (.int (x0.toUInt32.toUInt16.toUInt32.toInt32)), .val (.int (((x0.toUInt32.toUInt16.toUInt32.toInt32) ||| (32 : Int32)) - (97 : Int32))), .val (.int (own_j0_12_s0 x0))]) rfl k) ?_
    refine Go.via (U' := T2.setTop (mkF m 28 #[.val (.int x0), .val (.int (x0.toUInt32.toUInt16.toUInt32.toInt32)), .val (.int (((x0.toUInt32.toUInt16.toUInt32.toInt32) ||| (32 : Int32)) - (97 : Int32))), .val (.int (own_j0_12_s0 x0))] [(.int (x0.toUInt32.toUInt16.toUInt32.toInt32))])) (fun t k => XS.iloadN X3.here hx rfl (hb hby at_27) rfl k) ?_
    obtain ⟨T5, X5, e5, st5⟩ := callS0 X3 hx hZ hown (hw _ (List.mem_of_getElem? (i := 0) rfl)) (hw _ (List.mem_of_getElem? (i := 1) rfl)) (hw _ (List.mem_of_getElem? (i := 2) rfl)) (hw _ (List.mem_of_getElem? (i := 3) rfl)) (by decide) (av := [(.int (x0.toUInt32.toUInt16.toUInt32.toInt32))]) (own_rm1 l Z a0 hw [] (x0.toUInt32.toUInt16.toUInt32.toInt32)  h0) e4 (pc := 28) (Ls := #[.val (.int x0), .val (.int (x0.toUInt32.toUInt16.toUInt32.toInt32)), .val (.int (((x0.toUInt32.toUInt16.toUInt32.toInt32) ||| (32 : Int32)) - (97 : Int32))), .val (.int (own_j0_12_s0 x0))]) (rest := []) (by rw [hml]; rfl) own_k19 rfl 0 (Nat.le_of_eq rfl) (by decide) (by decide) (by decide) (by decide) (hb hby at_28)
    refine Go.via (U' := T5.setTop (mkF m 31 #[.val (.int x0), .val (.int (x0.toUInt32.toUInt16.toUInt32.toInt32)), .val (.int (((x0.toUInt32.toUInt16.toUInt32.toInt32) ||| (32 : Int32)) - (97 : Int32))), .val (.int (own_j0_12_s0 x0))] [(.int (own_f1 (x0.toUInt32.toUInt16.toUInt32.toInt32)))])) (fun t k => st5 t k) ?_
    refine Go.via (U' := T5.setTop (mkF m 32 #[.val (.int x0), .val (.int (x0.toUInt32.toUInt16.toUInt32.toInt32)), .val (.int (((x0.toUInt32.toUInt16.toUInt32.toInt32) ||| (32 : Int32)) - (97 : Int32))), .val (.int (own_j0_12_s0 x0))] [(.int (own_j0_12_s0 x0)), (.int (own_f1 (x0.toUInt32.toUInt16.toUInt32.toInt32)))])) (fun t k => XS.iloadN X5.here hx rfl (hb hby at_31) rfl k) ?_
    by_cases hc32 : (own_f1 (x0.toUInt32.toUInt16.toUInt32.toInt32)) = (own_j0_12_s0 x0)
    · refine Go.via (U' := T5.setTop (mkF m 35 #[.val (.int x0), .val (.int (x0.toUInt32.toUInt16.toUInt32.toInt32)), .val (.int (((x0.toUInt32.toUInt16.toUInt32.toInt32) ||| (32 : Int32)) - (97 : Int32))), .val (.int (own_j0_12_s0 x0))] [])) (fun t k => XS.icmpNo X5.here hx rfl (hb hby at_32) rfl (teq hc32).2 k) ?_
      refine Go.via (U' := T5.setTop (mkF m 36 #[.val (.int x0), .val (.int (x0.toUInt32.toUInt16.toUInt32.toInt32)), .val (.int (((x0.toUInt32.toUInt16.toUInt32.toInt32) ||| (32 : Int32)) - (97 : Int32))), .val (.int (own_j0_12_s0 x0))] [(.int (1 : Int32))])) (fun t k => XS.iconst X5.here hx rfl (hb hby at_35) k) ?_
      refine Go.via (U' := T5.setTop (mkF m 40 #[.val (.int x0), .val (.int (x0.toUInt32.toUInt16.toUInt32.toInt32)), .val (.int (((x0.toUInt32.toUInt16.toUInt32.toInt32) ||| (32 : Int32)) - (97 : Int32))), .val (.int (own_j0_12_s0 x0))] [(.int (1 : Int32))])) (fun t k => XS.goto X5.here hx rfl (pc0 := 36) (pc' := 40) rfl (hb hby at_36) (by decide) (by decide) k) ?_
      exact go_retN X5 hx hlk (t := .boolean) hret (by simp) (hb hby at_40) e5 ⟨(congrArg (fun z => some (Value.int z)) (show nar .boolean (1 : Int32) = (own_f0 x0) from by unfold own_f0; simp only [if_pos hc32] <;> rfl)), rfl, rfl⟩ (by decide) (by decide)
    · refine Go.via (U' := T5.setTop (mkF m 39 #[.val (.int x0), .val (.int (x0.toUInt32.toUInt16.toUInt32.toInt32)), .val (.int (((x0.toUInt32.toUInt16.toUInt32.toInt32) ||| (32 : Int32)) - (97 : Int32))), .val (.int (own_j0_12_s0 x0))] [])) (fun t k => XS.icmpYes X5.here hx rfl (pc0 := 32) (pc' := 39) rfl (hb hby at_32) rfl (feq hc32).2 (by decide) (by decide) k) ?_
      refine Go.via (U' := T5.setTop (mkF m 40 #[.val (.int x0), .val (.int (x0.toUInt32.toUInt16.toUInt32.toInt32)), .val (.int (((x0.toUInt32.toUInt16.toUInt32.toInt32) ||| (32 : Int32)) - (97 : Int32))), .val (.int (own_j0_12_s0 x0))] [(.int (0 : Int32))])) (fun t k => XS.iconst X5.here hx rfl (hb hby at_39) k) ?_
      exact go_retN X5 hx hlk (t := .boolean) hret (by simp) (hb hby at_40) e5 ⟨(congrArg (fun z => some (Value.int z)) (show nar .boolean (0 : Int32) = (own_f0 x0) from by unfold own_f0; simp only [if_neg hc32] <;> rfl)), rfl, rfl⟩ (by decide) (by decide)
  by_cases hc12 : (((x0.toUInt32.toUInt16.toUInt32.toInt32) ||| (32 : Int32)) - (97 : Int32)) < (0 : Int32)
  · refine Go.via (U' := s₁.setTop (mkF m 25 #[.val (.int x0), .val (.int (x0.toUInt32.toUInt16.toUInt32.toInt32)), .val (.int (((x0.toUInt32.toUInt16.toUInt32.toInt32) ||| (32 : Int32)) - (97 : Int32))), .unset] [])) (fun t k => XS.ifYes X0.here hx rfl (pc0 := 12) (pc' := 25) rfl (hb hby at_12) rfl ((if0 _ _).trans (tlt hc12).1) (by decide) (by decide) k) ?_
    refine Go.via (U' := s₁.setTop (mkF m 26 #[.val (.int x0), .val (.int (x0.toUInt32.toUInt16.toUInt32.toInt32)), .val (.int (((x0.toUInt32.toUInt16.toUInt32.toInt32) ||| (32 : Int32)) - (97 : Int32))), .unset] [(.int (0 : Int32))])) (fun t k => XS.iconst X0.here hx rfl (hb hby at_25) k) ?_
    have q_own_j0_12_s0 : (own_j0_12_s0 x0) = (0 : Int32) := by unfold own_j0_12_s0; simp only [if_pos hc12]
    have q_J := J1 s₁ X0 e0
    rw [q_own_j0_12_s0] at q_J
    exact q_J
  · refine Go.via (U' := s₁.setTop (mkF m 15 #[.val (.int x0), .val (.int (x0.toUInt32.toUInt16.toUInt32.toInt32)), .val (.int (((x0.toUInt32.toUInt16.toUInt32.toInt32) ||| (32 : Int32)) - (97 : Int32))), .unset] [])) (fun t k => XS.ifNo X0.here hx rfl (hb hby at_12) rfl ((if0 _ _).trans (flt hc12).1) k) ?_
    refine Go.via (U' := s₁.setTop (mkF m 16 #[.val (.int x0), .val (.int (x0.toUInt32.toUInt16.toUInt32.toInt32)), .val (.int (((x0.toUInt32.toUInt16.toUInt32.toInt32) ||| (32 : Int32)) - (97 : Int32))), .unset] [(.int (((x0.toUInt32.toUInt16.toUInt32.toInt32) ||| (32 : Int32)) - (97 : Int32)))])) (fun t k => XS.iloadN X0.here hx rfl (hb hby at_15) rfl k) ?_
    refine Go.via (U' := s₁.setTop (mkF m 18 #[.val (.int x0), .val (.int (x0.toUInt32.toUInt16.toUInt32.toInt32)), .val (.int (((x0.toUInt32.toUInt16.toUInt32.toInt32) ||| (32 : Int32)) - (97 : Int32))), .unset] [(.int (26 : Int32)), (.int (((x0.toUInt32.toUInt16.toUInt32.toInt32) ||| (32 : Int32)) - (97 : Int32)))])) (fun t k => XS.bipush X0.here hx rfl (hb hby at_16) k) ?_
    by_cases hc18 : (((x0.toUInt32.toUInt16.toUInt32.toInt32) ||| (32 : Int32)) - (97 : Int32)) < (26 : Int32)
    · refine Go.via (U' := s₁.setTop (mkF m 21 #[.val (.int x0), .val (.int (x0.toUInt32.toUInt16.toUInt32.toInt32)), .val (.int (((x0.toUInt32.toUInt16.toUInt32.toInt32) ||| (32 : Int32)) - (97 : Int32))), .unset] [])) (fun t k => XS.icmpNo X0.here hx rfl (hb hby at_18) rfl (tlt hc18).2.1 k) ?_
      refine Go.via (U' := s₁.setTop (mkF m 22 #[.val (.int x0), .val (.int (x0.toUInt32.toUInt16.toUInt32.toInt32)), .val (.int (((x0.toUInt32.toUInt16.toUInt32.toInt32) ||| (32 : Int32)) - (97 : Int32))), .unset] [(.int (1 : Int32))])) (fun t k => XS.iconst X0.here hx rfl (hb hby at_21) k) ?_
      refine Go.via (U' := s₁.setTop (mkF m 26 #[.val (.int x0), .val (.int (x0.toUInt32.toUInt16.toUInt32.toInt32)), .val (.int (((x0.toUInt32.toUInt16.toUInt32.toInt32) ||| (32 : Int32)) - (97 : Int32))), .unset] [(.int (1 : Int32))])) (fun t k => XS.goto X0.here hx rfl (pc0 := 22) (pc' := 26) rfl (hb hby at_22) (by decide) (by decide) k) ?_
      have q_own_j0_12_s0 : (own_j0_12_s0 x0) = (1 : Int32) := by unfold own_j0_12_s0; simp only [if_neg hc12, if_pos hc18]
      have q_J := J1 s₁ X0 e0
      rw [q_own_j0_12_s0] at q_J
      exact q_J
    · refine Go.via (U' := s₁.setTop (mkF m 25 #[.val (.int x0), .val (.int (x0.toUInt32.toUInt16.toUInt32.toInt32)), .val (.int (((x0.toUInt32.toUInt16.toUInt32.toInt32) ||| (32 : Int32)) - (97 : Int32))), .unset] [])) (fun t k => XS.icmpYes X0.here hx rfl (pc0 := 18) (pc' := 25) rfl (hb hby at_18) rfl (flt hc18).2.1 (by decide) (by decide) k) ?_
      refine Go.via (U' := s₁.setTop (mkF m 26 #[.val (.int x0), .val (.int (x0.toUInt32.toUInt16.toUInt32.toInt32)), .val (.int (((x0.toUInt32.toUInt16.toUInt32.toInt32) ||| (32 : Int32)) - (97 : Int32))), .unset] [(.int (0 : Int32))])) (fun t k => XS.iconst X0.here hx rfl (hb hby at_25) k) ?_
      have q_own_j0_12_s0 : (own_j0_12_s0 x0) = (0 : Int32) := by unfold own_j0_12_s0; simp only [if_neg hc12, if_neg hc18]
      have q_J := J1 s₁ X0 e0
      rw [q_own_j0_12_s0] at q_J
      exact q_J
theorem own_small : ∀ n : Fin 128, own_f1 (Int32.ofNat n.1) = (if ((Int32.ofNat n.1 ||| (32 : Int32)) - (97 : Int32)) < (0 : Int32) then (0 : Int32) else (if ((Int32.ofNat n.1 ||| (32 : Int32)) - (97 : Int32)) < (26 : Int32) then (1 : Int32) else (0 : Int32))) := by decide +kernel
theorem own_law (c : Int32) (h0 : 0 ≤ c.toInt) (h1 : c.toInt < 65536) : own_f1 c = (if ((c ||| (32 : Int32)) - (97 : Int32)) < (0 : Int32) then (0 : Int32) else (if ((c ||| (32 : Int32)) - (97 : Int32)) < (26 : Int32) then (1 : Int32) else (0 : Int32))) := by
  by_cases hs : c.toInt < 128
  · have hc : c = Int32.ofNat c.toInt.toNat := by
      rw [← Int32.toInt_inj, Int32.toInt_ofNat_of_lt (by omega)]; omega
    have q := own_small ⟨c.toInt.toNat, by omega⟩
    simp only [← hc] at q
    exact q
  · have o := c_or0 c 32 h0 (by decide)
    have s := c_isub (c ||| 32) 97
    have r := rng32 (c ||| 32)
    have r2 := rng32 ((c ||| 32) - 97)
    have e97 : (97 : Int32).toInt = 97 := rfl
    have e90 : (90 : Int32).toInt = 90 := rfl
    have e65 : (65 : Int32).toInt = 65 := rfl
    have e122 : (122 : Int32).toInt = 122 := rfl
    have e26 : (26 : Int32).toInt = 26 := rfl
    have e0 : (0 : Int32).toInt = 0 := rfl
    have a1 : ¬ ((c ||| 32) - 97) < 0 := by rw [Int32.lt_iff_toInt_lt]; omega
    have a2 : ¬ ((c ||| 32) - 97) < 26 := by rw [Int32.lt_iff_toInt_lt]; omega
    have b1 : ¬ c < 97 := by rw [Int32.lt_iff_toInt_lt]; omega
    have b2 : (122 : Int32) < c := by rw [Int32.lt_iff_toInt_lt]; omega
    have b3 : ¬ c < 65 := by rw [Int32.lt_iff_toInt_lt]; omega
    have b4 : (90 : Int32) < c := by rw [Int32.lt_iff_toInt_lt]; omega
    unfold own_f1
    simp only [if_neg a1, if_neg a2, if_neg b1, if_pos b2, if_neg b3, if_pos b4]
theorem own_plain (x : Int32) : own_f0 x = 1 := by
  have h := c_i2c x
  unfold own_f0 own_j0_12_s0
  exact if_pos (own_law _ h.2.1 h.2.2)
set_option maxRecDepth 65536 in
set_option maxHeartbeats 40000000 in
theorem own_comes {Post : Tables → Env → Array Value → State → Outcome → State → Prop} (hpost : ∀ tb e args s v u, (limb_1_1.after args s (.returned v) u = true ∧ limb_1_2.after args s (.returned v) u = true) → FrameEnd s (.returned v) u (Jvm.fieldLocs frame_1_writes args s ++ Jvm.arrayLocs frame_1_arrays args s ++ Jvm.staticLocs frame_1_statics s) 0 0 → Post tb e args s (.returned v) u) :
    ArmFor flags0 classFile x code maxLocals ret World_1 tables_1 room_1 Calls_1 rest_1 Pre_1 Post := by
  intro l hfl _ _ p e ha hc hk s m args below hf hA hF happ hP
  obtain ⟨hcalls, hrest, hpre⟩ := hP
  obtain ⟨-, -, -, hnamed, -, -, -, hat⟩ := (Spec.applies_iff hf).mp happ
  obtain ⟨hg, hn⟩ := and_e (Cond.before_iff.mp (show (Jvm.Cond.and given_1 narrow_1).before args s = true from hpre))
  obtain ⟨hcnt, hg⟩ := and_e hg
  obtain ⟨w0, rfl⟩ : ∃ w0 : Value, args = #[w0] := by
    have hs : args.size = 1 := by simpa [Cond.value, given_1] using hcnt
    obtain ⟨L⟩ := args
    match L, hs with
    | [w0], _ => exact ⟨w0, rfl⟩
  have hw := fun d (hd : d ∈ tables_1) => atoms_spec (ws := Jvm.Cond.code x code maxLocals ret :: tables_1) hat d (List.mem_cons_of_mem _ hd)
  have hfit : Fit s := fun {y c} hc i hi => by
    obtain ⟨ha, rfl⟩ := Array.getElem?_eq_some_iff.mp hc
    have q := List.all_eq_true.mp ((Array.all_eq_true_iff_forall_mem.mp hF) _ (Array.getElem_mem ha)) i (List.mem_range.mpr hi)
    simpa [Array.getElem?_eq_getElem hi] using q
  obtain ⟨i0, ei0⟩ := is_v hg
  obtain rfl : w0 = (.int i0) := Option.some.inj ei0
  obtain ⟨n, o, h1, h2, h3, _, L, rfl, ⟨rfl, -, rfl⟩, hq⟩ := own_rm0 l s _ hw tables_1 i0 s.heap p e ha hc hk s m _ below hf ((Spec.applies_iff_loose hf).mp happ).1 ⟨rfl, State.Warmed39.refl s, rfl⟩ trivial
  refine ⟨n, _, h1, h2, h3, hpost _ _ _ _ _ _ ⟨Cond.after_iff.mpr rfl, Cond.after_iff.mpr (eq_i res_at (Term.int_eval (1)) (congrArg Value.int (own_plain i0)))⟩ ⟨hq.1, hq.2.1, (hq.2.2.sift fun y hy => Or.inr (Fr.nil s.heap.size y hy)).mono (by decide) (by decide)⟩⟩
theorem main_1_1 : Claimed_1_1 := own_comes fun _ _ _ _ _ _ h hF => ⟨h.1, hF⟩
theorem main_1_2 : Claimed_1_2 := own_comes fun _ _ _ _ _ _ h hF => ⟨h.2, hF⟩
end Jvm.Pilot.@@N@@
namespace Jvm.Pilot.@@N@@
open Jvm Jvm.ClassFile Sem Op Lib Jvm.Free Jvm.Stand Jvm.Pilot.@@N@@.Jvm.D
/-! MADE BY PROGRAM (witnessworld.py) out of the Statement's table words and the real class files: 9 classes; the members and pool entries that the words name. The judged class is class 1, her method 1. -/
namespace start1
open Jvm.ClassFile
def u (s : String) : CpInfo := .utf8 (stringToUtf16 s)
/-- a pool by its gaps: so many unusable entries, then the entry; so many at the end -/
def gap : Nat → List CpInfo → List CpInfo
  | 0, r => r
  | n + 1, r => .unusable :: gap n r
def poolList (es : List (Nat × CpInfo)) (last : Nat) : List CpInfo := es.foldr (fun e r => gap e.1 (e.2 :: r)) (gap last [])
def pool (es : List (Nat × CpInfo)) (last : Nat) : Array CpInfo := ⟨poolList es last⟩
def fileOf (pool : Array CpInfo) (this : Nat) (attrs : Array Attribute := #[]) (ms : Array MethodInfo := #[]) (fl : Nat := 33) (sup : Nat := 0) (ifs : Array Nat := #[]) (fds : Array FieldInfo := #[]) : ClassFile where
  minorVersion := 0
  majorVersion := 65
  constantPool := pool
  accessFlags := fl
  thisClass := this
  superClass := sup
  interfaces := ifs
  fields := fds
  methods := ms
  attributes := attrs
def plain (name : String) (sup : Option ClassId) : Class where
  name := name
  kind := .ordinary
  loader := none
  accessFlags := 33
  super := sup
  interfaces := #[]
  cf := none
  fields := #[]
  methods := #[]
  instanceTypes := #[]
  staticTypes := #[]
  resolved := #[]
  callSites := []
  init := .initialized
  statics := none
  mirror := none

def pool0 : Array CpInfo := pool [(5, u "<init>"), (0, u "()V"), (1, .class_ 10), (1, u "java/lang/Object")] 113

def k0m0 : Method := { name := "<init>", desc := "()V", sig := { parameters := [], returnType := none }, accessFlags := 1, code := none }
/-- java/lang/Object -/
def k0 : Class := { plain "java/lang/Object" none with
  accessFlags := 33
  interfaces := #[]
  cf := some (fileOf pool0 8 #[] #[{ accessFlags := 1, nameIndex := 5, descriptorIndex := 6, attributes := #[] }] 33 0 #[] #[])
  fields := #[]
  methods := #[k0m0]
  instanceTypes := #[]
  staticTypes := #[]
  resolved := Array.replicate 124 none
  statics := none }

def pool1 : Array CpInfo := pool [(2, .class_ 4), (1, u "java/lang/Object"), (0, u "<init>"), (0, u "()V"), (0, .methodref 8 9), (0, .class_ 10), (0, .nameAndType 11 12), (0, u "com/example/sneinton/sneinton/Ascii"), (0, u "isLetter"), (0, u "(C)Z"), (0, .class_ 14), (0, u "com/example/sneinton/sneinton/AsciiIsLetterPinLaw"), (2, u "law"), (0, u "(I)Z")] 3

def k1m0 : Method := { name := "<init>", desc := "()V", sig := { parameters := [], returnType := none }, accessFlags := 2, code := none }
def k1c1 : Code := { maxStack := 2, maxLocals := 4, code := code, exceptionTable := #[], attributes := #[] }
def k1m1 : Method := { name := "law", desc := "(I)Z", sig := { parameters := [.int], returnType := some .boolean }, accessFlags := 9, code := some k1c1 }
/-- com/example/sneinton/sneinton/AsciiIsLetterPinLaw -/
def k1 : Class := { plain "com/example/sneinton/sneinton/AsciiIsLetterPinLaw" (some 0) with
  accessFlags := 49
  interfaces := #[]
  cf := some (fileOf pool1 13 #[] #[{ accessFlags := 2, nameIndex := 5, descriptorIndex := 6, attributes := #[] }, { accessFlags := 9, nameIndex := 17, descriptorIndex := 18, attributes := #[] }] 49 2 #[] #[])
  fields := #[]
  methods := #[k1m0, k1m1]
  instanceTypes := #[]
  staticTypes := #[]
  resolved := Array.replicate 22 none
  statics := none }

def pool2 : Array CpInfo := pool [(2, .class_ 4), (1, u "java/lang/Object"), (0, u "<init>"), (0, u "()V"), (11, .class_ 20), (1, u "com/example/sneinton/sneinton/Ascii"), (1, u "(C)Z"), (21, u "isLetter")] 19

def k2m0 : Method := { name := "<init>", desc := "()V", sig := { parameters := [], returnType := none }, accessFlags := 2, code := none }
def k2c1 : Code := { maxStack := 2, maxLocals := 1, code := prog_1_method_4_code, exceptionTable := #[], attributes := #[] }
def k2m1 : Method := { name := "isLetter", desc := "(C)Z", sig := { parameters := [.char], returnType := some .boolean }, accessFlags := 8, code := some k2c1 }
/-- com/example/sneinton/sneinton/Ascii -/
def k2 : Class := { plain "com/example/sneinton/sneinton/Ascii" (some 0) with
  accessFlags := 48
  interfaces := #[]
  cf := some (fileOf pool2 18 #[] #[{ accessFlags := 2, nameIndex := 5, descriptorIndex := 6, attributes := #[] }, { accessFlags := 8, nameIndex := 44, descriptorIndex := 22, attributes := #[] }] 48 2 #[] #[])
  fields := #[]
  methods := #[k2m0, k2m1]
  instanceTypes := #[]
  staticTypes := #[]
  resolved := Array.replicate 64 none
  statics := none }

def pool3 : Array CpInfo := pool [(1, u "java/lang/Cloneable"), (0, .class_ 1), (0, u "java/lang/Object"), (0, .class_ 3)] 3

/-- java/lang/Cloneable -/
def k3 : Class := { plain "java/lang/Cloneable" (some 0) with
  accessFlags := 1537
  interfaces := #[]
  cf := some (fileOf pool3 2 #[] #[] 1537 4 #[] #[])
  fields := #[]
  methods := #[]
  instanceTypes := #[]
  staticTypes := #[]
  resolved := Array.replicate 8 none
  statics := none }

def pool4 : Array CpInfo := pool [(1, u "java/io/Serializable"), (0, .class_ 1), (0, u "java/lang/Object"), (0, .class_ 3)] 3

/-- java/io/Serializable -/
def k4 : Class := { plain "java/io/Serializable" (some 0) with
  accessFlags := 1537
  interfaces := #[]
  cf := some (fileOf pool4 2 #[] #[] 1537 4 #[] #[])
  fields := #[]
  methods := #[]
  instanceTypes := #[]
  staticTypes := #[]
  resolved := Array.replicate 8 none
  statics := none }

/-- the primitive byte -/
def k5 : Class := { plain "byte" none with kind := .primitive 'B', accessFlags := 0x411 }
/-- [B -/
def k6 : Class := { plain "[B" (some 0) with kind := .array 5 .byte, interfaces := #[3, 4], accessFlags := 1041 }

/-- the primitive int -/
def k7 : Class := { plain "int" none with kind := .primitive 'I', accessFlags := 0x411 }
/-- [I -/
def k8 : Class := { plain "[I" (some 0) with kind := .array 7 .int, interfaces := #[3, 4], accessFlags := 1041 }

def heap : Heap := #[]
def classes : Array Class := #[k0, k1, k2, k3, k4, k5, k6, k7, k8]
def interned : List (Array UInt16 × Addr) := []
def slotsUsed : Nat := 0
def theMethod : MethodId := ⟨1, 1⟩
def args0 : Array Value := #[.int 5]
def aboutOver (below : List Frame) : State where
  vm := { classes := classes, interned := interned.toArray }
  heap := heap
  slotsUsed := slotsUsed
  threads := #[{ frames := .invoking theMethod args0 :: below }]
def below0 : List Frame := [.native { method := ⟨0, 0⟩, args := #[] }]
def about1 : State := aboutOver below0
def p0 : Program := .bare "" "" ""
def e0 : Env := launch0.env 0 0 0
theorem w_frames : about1.frames = Frame.invoking theMethod args0 :: below0 := rfl
set_option maxRecDepth 65536 in
theorem w_args : argsFit about1.vm theMethod args0 = true := by decide +kernel
set_option maxRecDepth 65536 in
theorem w_heap : heapFits about1 = true := by decide +kernel
set_option maxRecDepth 65536 in
theorem w_runnable : about1.curStatus? = some .runnable := by decide +kernel
set_option maxRecDepth 65536 in
theorem w_alone : about1.alone = true := by decide +kernel
set_option maxRecDepth 65536 in
theorem w_named : about1.methodNamed? x = some theMethod := by decide +kernel
set_option maxRecDepth 65536 in
theorem w_hears : about1.hears theMethod below0 = true := by decide +kernel
set_option maxRecDepth 65536 in
theorem w_ripe : about1.ripe theMethod args0 below0 = true := by decide +kernel
theorem w_running : about1.status = .running := rfl
set_option maxRecDepth 65536 in
theorem w_room : about1.hasRoom e0.platform room_1 = true :=
  launch0.hasRoom_least _ room_1 (by decide +kernel) (by decide +kernel) (by decide +kernel) (by decide +kernel) (by decide +kernel) (by decide +kernel)
theorem allAtoms_all (ts : List Jvm.Cond) (a : Array Jvm.Value) (st : Jvm.State) : (allAtoms ts).before a st = ts.all (fun c => c.before a st) := by
  induction ts with
  | nil => rfl
  | cons c t ih =>
    show (Jvm.Cond.and c (allAtoms t)).before a st = _
    rw [Jvm.Cond.before_and, ih, List.all_cons]
def words1 : List Jvm.Cond := Jvm.Cond.code x code maxLocals ret :: tables_1
/-- a 'code' word, met by the world's own term for the bytes: nothing is compared byte by byte -/
theorem code_word {y : MethodName} {bytes : ByteArray} {mx : Nat} {rt : Option FieldType} {a : Array Value} {s : State} {m : MethodId} {meth : Method} {c : Code} (h1 : s.methodNamed? y = some m) (h2 : s.vm.method? m = some meth) (h3 : meth.code = some c) (h4 : c.code = bytes)
    (h5 : (c.maxLocals == mx && c.exceptionTable.isEmpty && decide (c.maxStack ≤ mostOperands) && decide (meth.sig.returnType = rt) && !meth.locks && decide (parseMethodDescriptor y.desc = some meth.sig)) = true) : (Jvm.Cond.code y bytes mx rt).before a s = true := by
  simp only [Bool.and_eq_true, beq_iff_eq, Bool.not_eq_true', decide_eq_true_eq] at h5
  obtain ⟨⟨⟨⟨⟨g1, g2⟩, g3⟩, g4⟩, g5⟩, g6⟩ := h5
  simp [Cond.before, Cond.holds, Cond.value, h1, h2, h3, h4, g1, g2, g3, g4, g5, g6]
def isCode : Jvm.Cond → Bool
  | .code _ _ _ _ => true
  | _ => false
theorem all_split {L : List Jvm.Cond} {P : Jvm.Cond → Bool} (h1 : L.all (fun c => isCode c || P c) = true) (h2 : ∀ c ∈ L.filter isCode, P c = true) : L.all P = true := by
  refine List.all_eq_true.mpr fun c hc => ?_
  have h := List.all_eq_true.mp h1 c hc
  rcases Bool.eq_false_or_eq_true (isCode c) with hi | hi
  · exact h2 c (List.mem_filter.mpr ⟨hc, hi⟩)
  · simpa [hi] using h
set_option maxRecDepth 65536 in
theorem w_c0 : (Jvm.Cond.code x code maxLocals ret).before args0 about1 = true := code_word (m := ⟨1, 1⟩) (meth := k1m1) (c := k1c1) (by decide +kernel) rfl rfl rfl (by decide +kernel)
set_option maxRecDepth 65536 in
theorem w_c1 : (Jvm.Cond.code ({ cls := "com/example/sneinton/sneinton/Ascii", name := "isLetter", desc := "(C)Z" } : Jvm.MethodName) prog_1_method_4_code (1 : Nat) (Option.some Jvm.ClassFile.FieldType.boolean)).before args0 about1 = true := code_word (m := ⟨2, 1⟩) (meth := k2m1) (c := k2c1) (by decide +kernel) rfl rfl rfl (by decide +kernel)
def codes1 : List Jvm.Cond := [Jvm.Cond.code x code maxLocals ret, Jvm.Cond.code ({ cls := "com/example/sneinton/sneinton/Ascii", name := "isLetter", desc := "(C)Z" } : Jvm.MethodName) prog_1_method_4_code (1 : Nat) (Option.some Jvm.ClassFile.FieldType.boolean)]
set_option maxRecDepth 65536 in
theorem codes_eq : words1.filter isCode = codes1 := rfl
theorem w_codes : ∀ c ∈ words1.filter isCode, c.before args0 about1 = true := by
  rw [codes_eq]
  intro c hc
  simp only [codes1, List.mem_cons, List.not_mem_nil, or_false] at hc
  rcases hc with rfl | rfl
  · exact w_c0
  · exact w_c1
set_option maxRecDepth 65536 in
theorem w_t1 : words1.all (fun c => isCode c || c.before args0 about1) = true := by decide +kernel
theorem w_tables : (allAtoms (Jvm.Cond.code x code maxLocals ret :: tables_1)).before args0 about1 = true := by
  rw [allAtoms_all]
  show words1.all (fun c => c.before args0 about1) = true
  refine all_split ?_ w_codes
  rw [w_t1]
set_option maxRecDepth 65536 in
theorem w_case : (Jvm.Cond.and given_1 narrow_1).before args0 about1 = true := by decide +kernel
theorem w_applies : (headSpec (Jvm.Cond.code x code maxLocals ret :: tables_1) room_1).applies x e0.platform about1 = true :=
  (Spec.applies_iff w_frames).mpr ⟨w_running, w_runnable, w_alone, w_named, w_hears, w_ripe, w_room, w_tables⟩
theorem atStart : AtStart classFile x code maxLocals ret World_1 tables_1 room_1 Calls_1 rest_1 Pre_1 launch0 p0 e0 about1 theMethod args0 below0 :=
  ⟨lists_1, trivial, launch0.admits_env _ _ _, launch0.least_env, fairChoices_fair.cas, fairChoices_fair.clock, w_frames, w_args, w_heap, w_applies, trivial, trivial, w_case⟩
end start1
theorem witness_1 : WitnessClaimed_1 := ⟨start1.p0, start1.e0, start1.about1, start1.theMethod, start1.args0, start1.below0, start1.atStart⟩
end Jvm.Pilot.@@N@@

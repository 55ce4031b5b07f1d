import JvmDerived
import JvmDerived.Pilot.@@N@@Statement
import JvmDerived.Pilot.@@N@@Code
set_option linter.unusedVariables false
set_option linter.unusedSimpArgs false
namespace Jvm.Pilot.@@N@@
open Jvm Jvm.ClassFile Sem Op Lib Jvm.Free Jvm.Stand Jvm.LawKit Jvm.RoadKit Bundle Jvm.Pilot.@@N@@.Jvm.D
def own_ushr (x y : Int32) : Int32 := (x.toUInt32 >>> (y &&& 31).toUInt32).toInt32
def own_ushrL (x : Int64) (y : Int32) : Int64 := (x.toUInt64 >>> (y &&& 0x3f).toInt64.toUInt64).toInt64
section OwnKit
variable {p : Program} {l : Launch} {e : Env} {R : Room} {s : State} {m : MethodId} {args : Array Value} {below : List Frame} {meth : Method} {c : Code} {T : State} {locs : List Loc} {cells slots : Nat} {Z : State} {h h0 : Heap} {ce sl : Nat} {Q : Option Value → Heap → List Loc → Prop} {U U' : State} {a0 : Array Value}
/-- from U the walk comes to its return, and what it leaves is Q -/
def Go (p : Program) (e : Env) (below : List Frame) (s : State) (ce sl : Nat) (Q : Option Value → Heap → List Loc → Prop) (U : State) : Prop :=
  ∃ s₂ o, Steps p.tables e below U s₂ ∧ s₂.status = .running ∧ Ended s₂ below o ∧ ∃ v L, o = .returned v ∧ Q v s₂.heap L ∧ FrameEnd s o s₂ L ce sl
theorem Go.via (h : ∀ t, Steps p.tables e below U' t → Steps p.tables e below U t) (g : Go p e below s ce sl Q U') : Go p e below s ce sl Q U := by
  obtain ⟨s₂, o, h1, h2⟩ := g
  exact ⟨s₂, o, h _ h1, h2⟩
theorem Go.cast {g g' : JFrame} (q : g = g') (k : Go p e below s ce sl Q (T.setTop g')) : Go p e below s ce sl Q (T.setTop g) := q ▸ k
/-- the contract of a body: called with as', over the heap h0, it returns and leaves Q -/
def Meets (l : Launch) (Z : State) (y : MethodName) (bytes : ByteArray) (maxL : Nat) (rt : Option FieldType) (ws : List Jvm.Cond) (rm : Room) (as' : Array Value) (h0 : Heap) (Q : Option Value → Heap → List Loc → Prop) : Prop :=
  MetFree l y (head1 (Jvm.Cond.code y bytes maxL rt :: ws) rm) (fun a U => a = as' ∧ Z.Warmed39 U.vm ∧ U.heap = h0) (fun _ _ _ _ _ => True) (fun _ U o U' => ∃ v L, o = .returned v ∧ Q v U'.heap L ∧ FrameEnd U o U' L rm.cells rm.slots)
theorem meets_of {y : MethodName} {bytes : ByteArray} {maxL : Nat} {rt : Option FieldType} {ws : List Jvm.Cond} {rm : Room} {as' : Array Value} (hpl : plainFor y = true)
    (body : ∀ p e s m below meth c s₁, Stand p l e rm s m as' below meth c s₁ [] 0 0 → p.tables.exec = Jvm.exec → Z.Warmed39 s.vm → c.code = bytes → c.maxLocals = maxL → meth.sig.returnType = rt → meth.locks = false → s.vm.findClass y.cls = some m.cls → meth.name = y.name → s₁.heap = h0 →
      Go p e below s rm.cells rm.slots Q (s₁.setTop (entryFrame m as' maxL))) : Meets l Z y bytes maxL rt ws rm as' h0 Q := by
  refine MetFree.of_bodySF hpl hisR ?_
  intro p e s m args below meth c s₁ Bd hml hP hK
  obtain ⟨rfl, hZ, hh⟩ := hP
  exact body p e s m below meth c s₁ (Stand.of_body Bd) Bd.exec hZ Bd.bytes hml Bd.returns Bd.notSynchronized (findClass_of_methodNamed Bd.named) (name_of_methodNamed Bd.named Bd.method).1 (by rw [← hh, Bd.state]; rfl)
theorem go_ret (X : Stand p l e R s m args below meth c T locs cells slots) (hlk : meth.locks = false) {v : Option Value} (hv : meth.sig.returnType = none → v = none) (eT : T.heap = h) (hQ : Q v h locs) (hc : cells ≤ ce) (hs : slots ≤ sl)
    (st : ∀ fs, (∀ (f : JFrame) (acts : List Action), f.method = m → f.locked = none → f.entered = [] → (doReturn e (T.setTop f) acts v).1 = T.setFrames fs) → Steps p.tables e below U (T.setFrames fs)) : Go p e below s ce sl Q U := by
  obtain ⟨fs, hr, hrun, hended, hW, hsame⟩ := X.leave hv hlk
  exact ⟨_, _, st fs hr, hrun, hended, v, locs, rfl, (by show Q v T.heap locs; rw [eT]; exact hQ), ⟨_, rfl⟩, hW, hsame.mono hc hs⟩
theorem go_retN (X : Stand p l e R s m args below meth c T locs cells slots) (hx : p.tables.exec = Jvm.exec) (hlk : meth.locks = false) {t : FieldType} (hret : meth.sig.returnType = some t) (ht : t = .boolean ∨ t = .byte ∨ t = .char ∨ t = .short) {pc : Nat} {Ls : Array Slot} {z : Int32} {rest : List Value}
    (hd : decode c.code pc = .ok (.ireturn, 1)) (eT : T.heap = h) (hQ : Q (some (.int (nar t z))) h locs) (hc : cells ≤ ce) (hs : slots ≤ sl) : Go p e below s ce sl Q (T.setTop (mkF m pc Ls (.int z :: rest))) :=
  go_ret X hlk (fun h => by rw [hret] at h; cases h) eT hQ hc hs (fun fs hr => retN X hx hret ht hd hr)
theorem go_retI (X : Stand p l e R s m args below meth c T locs cells slots) (hx : p.tables.exec = Jvm.exec) (hlk : meth.locks = false) (hret : meth.sig.returnType = some .int) {pc : Nat} {Ls : Array Slot} {z : Int32} {rest : List Value}
    (hd : decode c.code pc = .ok (.ireturn, 1)) (eT : T.heap = h) (hQ : Q (some (.int z)) h locs) (hc : cells ≤ ce) (hs : slots ≤ sl) : Go p e below s ce sl Q (T.setTop (mkF m pc Ls (.int z :: rest))) :=
  go_ret X hlk (fun h => by rw [hret] at h; cases h) eT hQ hc hs (fun fs hr => retOut X hx hret rfl (Or.inl ⟨rfl, Or.inl rfl, z, rfl⟩) hd hr)
theorem go_retJ (X : Stand p l e R s m args below meth c T locs cells slots) (hx : p.tables.exec = Jvm.exec) (hlk : meth.locks = false) (hret : meth.sig.returnType = some .long) {pc : Nat} {Ls : Array Slot} {z : Int64} {rest : List Value}
    (hd : decode c.code pc = .ok (.lreturn, 1)) (eT : T.heap = h) (hQ : Q (some (.long z)) h locs) (hc : cells ≤ ce) (hs : slots ≤ sl) : Go p e below s ce sl Q (T.setTop (mkF m pc Ls (.long z :: rest))) :=
  go_ret X hlk (fun h => by rw [hret] at h; cases h) eT hQ hc hs (fun fs hr => retOut X hx hret rfl (Or.inr (Or.inl ⟨rfl, rfl, z, rfl⟩)) hd hr)
theorem go_retA (X : Stand p l e R s m args below meth c T locs cells slots) (hx : p.tables.exec = Jvm.exec) (hlk : meth.locks = false) {t : FieldType} (hret : meth.sig.returnType = some t) (ht : t.isReference = true) {pc : Nat} {Ls : Array Slot} {w : Value} (hw : w.isRef = true) (hn : narrow t w = w) {rest : List Value}
    (hd : decode c.code pc = .ok (.areturn, 1)) (eT : T.heap = h) (hQ : Q (some w) h locs) (hc : cells ≤ ce) (hs : slots ≤ sl) : Go p e below s ce sl Q (T.setTop (mkF m pc Ls (w :: rest))) :=
  go_ret X hlk (fun h => by rw [hret] at h; cases h) eT hQ hc hs (fun fs hr => retOut X hx hret hn (Or.inr (Or.inr (Or.inr (Or.inr ⟨rfl, ht, hw⟩)))) hd hr)
theorem go_retV (X : Stand p l e R s m args below meth c T locs cells slots) (hx : p.tables.exec = Jvm.exec) (hlk : meth.locks = false) (hret : meth.sig.returnType = none) {pc : Nat} {Ls : Array Slot}
    (hd : decode c.code pc = .ok (.return_, 1)) (eT : T.heap = h) (hQ : Q none h locs) (hc : cells ≤ ce) (hs : slots ≤ sl) : Go p e below s ce sl Q (T.setTop (mkF m pc Ls [])) :=
  go_ret X hlk (fun _ => rfl) eT hQ hc hs (fun fs hr => X.returnOut hx hret hd hr)
/-- it returned v, wrote nothing and made nothing -/
def PureR (v : Option Value) (h0 : Heap) : Option Value → Heap → List Loc → Prop := fun v' h L => v' = v ∧ h = h0 ∧ L = []
/-- a static method by its contract -/
theorem callSQ (X : Stand p l e R s m args below meth c T locs cells slots) (hx : p.tables.exec = Jvm.exec) (hZ : Z.Warmed39 s.vm) {own : String} {index : Nat} {y : MethodName} {bytes : ByteArray} {maxL : Nat} {rt : Option FieldType} {rm : Room}
    (hown : s.vm.findClass own = some m.cls) (w1 : (Jvm.Cond.methodLink own index y).before a0 Z = true) (w2 : (Jvm.Cond.static y).before a0 Z = true) (w3 : (Jvm.Cond.initialized y.cls).before a0 Z = true) (w4 : (Jvm.Cond.code y bytes maxL rt).before a0 Z = true)
    (hy : y.cls ≠ "java/lang/invoke/MethodHandle" ∧ y.cls ≠ "java/lang/invoke/VarHandle") {av : List Value} (hM : Meets l Z y bytes maxL rt [] rm av.toArray h Q) (eT : T.heap = h)
    {pc : Nat} {Ls : Array Slot} {rest : List Value} {ps : List FieldType} {r : Option FieldType} (hsize : Ls.size = c.maxLocals) (hp : parseMethodDescriptor y.desc = some ⟨ps, r⟩) (hlen : av.length = ps.length)
    (W : Nat) (hW : (rest.map fun v => v.category).sum ≤ W) (hf : rm.frames + 1 ≤ R.frames) (hl : W + (maxL + 11) + rm.locals ≤ R.locals) (hc : cells + rm.cells ≤ R.cells) (hs : slots + rm.slots ≤ R.slots) (hd : decode c.code pc = .ok (.invokestatic index, 3)) :
    ∃ v T' L, Stand p l e R s m args below meth c T' (locs ++ L) (cells + rm.cells) (slots + rm.slots) ∧ Q v T'.heap L ∧
      ∀ t, Steps p.tables e below (T'.setTop (mkF m (pc + 3) Ls (v.toList ++ rest))) t → Steps p.tables e below (T.setTop (mkF m pc Ls (av.reverse ++ rest))) t := by
  obtain ⟨v, _, ⟨T2, L2, k2, n2⟩, -, X2, ⟨Lc2, hQ2, l2, y2, z2⟩, st2⟩ := Jvm.LawKit.callS X hx (y := y) hown (mvT hZ w1) (mvT hZ w2) (mvT hZ w3) (mvT hZ w4) hy (backOf (W := W) hM hZ w4 w3 hf hl) (g := mkF m pc Ls (av.reverse ++ rest)) rfl hsize (argsL := av) (rest := rest) (lenOf hp hlen) rfl (by show 2 * 0 + _ ≤ _; rw [Nat.mul_zero, Nat.zero_add]; exact hW) hd (fun _ _ => ⟨rfl, eT, hc, hs⟩)
  dsimp only [Pt.U, Pt.locs, Pt.cells, Pt.slots] at X2 l2 y2 z2 st2 hQ2
  subst l2 y2 z2
  exact ⟨v, T2, Lc2, X2, hQ2, st2⟩
/-- a static method that writes and makes nothing -/
theorem callS0 (X : Stand p l e R s m args below meth c T locs cells slots) (hx : p.tables.exec = Jvm.exec) (hZ : Z.Warmed39 s.vm) {own : String} {index : Nat} {y : MethodName} {bytes : ByteArray} {maxL : Nat} {rt : Option FieldType} {fr lo : Nat} {v : Option Value}
    (hown : s.vm.findClass own = some m.cls) (w1 : (Jvm.Cond.methodLink own index y).before a0 Z = true) (w2 : (Jvm.Cond.static y).before a0 Z = true) (w3 : (Jvm.Cond.initialized y.cls).before a0 Z = true) (w4 : (Jvm.Cond.code y bytes maxL rt).before a0 Z = true)
    (hy : y.cls ≠ "java/lang/invoke/MethodHandle" ∧ y.cls ≠ "java/lang/invoke/VarHandle") {av : List Value} (hM : Meets l Z y bytes maxL rt [] ({ frames := fr, cells := 0, slots := 0, locals := lo } : Room) av.toArray h (PureR v h)) (eT : T.heap = h)
    {pc : Nat} {Ls : Array Slot} {rest : List Value} {ps : List FieldType} {r : Option FieldType} (hsize : Ls.size = c.maxLocals) (hp : parseMethodDescriptor y.desc = some ⟨ps, r⟩) (hlen : av.length = ps.length)
    (W : Nat) (hW : (rest.map fun v => v.category).sum ≤ W) (hf : fr + 1 ≤ R.frames) (hl : W + (maxL + 11) + lo ≤ R.locals) (hc : cells ≤ R.cells) (hs : slots ≤ R.slots) (hd : decode c.code pc = .ok (.invokestatic index, 3)) :
    ∃ T', Stand p l e R s m args below meth c T' locs cells slots ∧ T'.heap = h ∧
      ∀ t, Steps p.tables e below (T'.setTop (mkF m (pc + 3) Ls (v.toList ++ rest))) t → Steps p.tables e below (T.setTop (mkF m pc Ls (av.reverse ++ rest))) t := by
  obtain ⟨_, T2, _, X2, ⟨rfl, h2, rfl⟩, st2⟩ := callSQ X hx hZ hown w1 w2 w3 w4 hy hM eT hsize hp hlen W hW hf hl hc hs hd
  rw [List.append_nil] at X2
  exact ⟨T2, X2, h2, st2⟩
end OwnKit
section OwnKit9
theorem own_dremS {tb : Tables} [Ours tb] {e : Env} {below : List Frame} {T target : State} {m : MethodId} {c : Code} {g : JFrame} (h : At T m c below) (hx : tb.exec = Jvm.exec) (hg : g.method = m) {x y v : UInt64} {rest : List Value} (hd : decode c.code g.pc = .ok (.drem, 1)) (hs : g.stack = .double y :: .double x :: rest) (hn : Jvm.Free.Fl.NoNaN64 (FP.drem x y)) (hv : FP.drem x y = v)
    (hr : Steps tb e below (T.setTop { g with pc := g.pc + 1, stack := .double v :: rest }) target) : Steps tb e below (T.setTop g) target := by
  subst hg
  subst hv
  obtain ⟨gm, gp, gl, gs, gk, ge, gr⟩ := g
  simp only at hs hd
  subst hs
  jvm_step h [h.top, hx, hd, Op.drem.at_number h.top hn]
  exact hr
variable {p : Program} {l : Launch} {e : Env} {R : Room} {s : State} {m : MethodId} {args : Array Value} {below : List Frame} {meth : Method} {c : Code} {T : State} {locs : List Loc} {cells slots : Nat} {Z : State} {h h0 : Heap} {ce sl : Nat} {Q : Option Value → Heap → List Loc → Prop} {U U' : State} {a0 : Array Value}
theorem go_retD (X : Stand p l e R s m args below meth c T locs cells slots) (hx : p.tables.exec = Jvm.exec) (hlk : meth.locks = false) (hret : meth.sig.returnType = some .double) {pc : Nat} {Ls : Array Slot} {z : UInt64} {rest : List Value}
    (hd : decode c.code pc = .ok (.dreturn, 1)) (eT : T.heap = h) (hQ : Q (some (.double z)) h locs) (hc : cells ≤ ce) (hs : slots ≤ sl) : Go p e below s ce sl Q (T.setTop (mkF m pc Ls (.double z :: rest))) :=
  go_ret X hlk (fun h => by rw [hret] at h; cases h) eT hQ hc hs (fun fs hr => retOut X hx hret rfl (Or.inr (Or.inr (Or.inl ⟨rfl, rfl, z, rfl⟩))) hd hr)
end OwnKit9
theorem own_k0 (m : MethodId) (x0 : Int32) : entryFrame m #[(.int x0)] 2 = mkF m 0 #[.val (.int x0), .unset] [] := by first | (simp [entryFrame, mkF, argsToLocals, Value.category]; done) | rfl
theorem own_k1 : decode method_2_code 0 = .ok (.iload_n 0, 1) := by decide +kernel
theorem own_k2 : decode method_2_code 1 = .ok (.iconst 3, 1) := by decide +kernel
theorem own_k3 : decode method_2_code 2 = .ok (.iand, 1) := by decide +kernel
theorem own_k4 : decode method_2_code 3 = .ok (.istore_n 1, 1) := by decide +kernel
theorem own_k5 : decode method_2_code 4 = .ok (.iload_n 1, 1) := by decide +kernel
theorem own_k6 : decode method_2_code 5 = .ok (.ifCond .ne 5, 3) := by decide +kernel
theorem own_k7 : decode method_2_code 8 = .ok (.dconst 1, 1) := by decide +kernel
theorem own_k8 : decode method_2_code 9 = .ok (.dreturn, 1) := by decide +kernel
theorem own_k9 : decode method_2_code 10 = .ok (.iload_n 1, 1) := by decide +kernel
theorem own_k10 : decode method_2_code 11 = .ok (.iconst 1, 1) := by decide +kernel
theorem own_k11 : decode method_2_code 12 = .ok (.if_icmp .ne 7, 3) := by decide +kernel
theorem own_k12 : decode method_2_code 15 = .ok (.ldc2_w 7, 3) := by decide +kernel
theorem own_k13 : decode method_2_code 18 = .ok (.dreturn, 1) := by decide +kernel
theorem own_k14 : decode method_2_code 19 = .ok (.iload_n 1, 1) := by decide +kernel
theorem own_k15 : decode method_2_code 20 = .ok (.iconst 2, 1) := by decide +kernel
theorem own_k16 : decode method_2_code 21 = .ok (.if_icmp .ne 7, 3) := by decide +kernel
theorem own_k17 : decode method_2_code 24 = .ok (.ldc2_w 9, 3) := by decide +kernel
theorem own_k18 : decode method_2_code 27 = .ok (.dreturn, 1) := by decide +kernel
theorem own_k19 : decode method_2_code 28 = .ok (.ldc2_w 11, 3) := by decide +kernel
theorem own_k20 : decode method_2_code 31 = .ok (.dreturn, 1) := by decide +kernel
theorem own_k21 : plainName "com/example/sidik/sidik/template/AnglesNormalizePinLaw" = true := by first | (simp [plainName, overriddenIn]; done) | decide +kernel
def own_f1 (x0 : Int32) : UInt64 := (if (x0 &&& (3 : Int32)) = (0 : Int32) then (4607182418800017408 : UInt64) else (if (x0 &&& (3 : Int32)) = (1 : Int32) then (4562146422526312448 : UInt64) else (if (x0 &&& (3 : Int32)) = (2 : Int32) then (4427038433705197568 : UInt64) else (4291930444884082688 : UInt64))))
set_option maxRecDepth 65536 in
set_option maxHeartbeats 40000000 in
theorem own_rm1 (l : Launch) (Z : State) (a0 : Array Value) (hw : ∀ d ∈ tables_1, d.before a0 Z = true) (ws : List Jvm.Cond) (x0 : Int32) (h0 : Heap) : Meets l Z (⟨"com/example/sidik/sidik/template/AnglesNormalizePinLaw", "scaleOf", "(I)D"⟩ : MethodName) method_2_code 2 (some .double) ws ({ frames := 0, cells := 0, slots := 0, locals := 0 } : Room) #[(.int x0)] h0 (PureR (some (.double (own_f1 x0))) h0) := by
  refine meets_of (plainFor_of_name own_k21) ?_
  intro p e s m below meth c s₁ X0 hx hZ hby hml hret hlk hown hnm e0
  replace hml : c.maxLocals = 2 := hml
  replace hown : s.vm.findClass "com/example/sidik/sidik/template/AnglesNormalizePinLaw" = some m.cls := hown
  refine Go.cast (own_k0 m x0) ?_
  refine Go.via (U' := s₁.setTop (mkF m 1 #[.val (.int x0), .unset] [(.int x0)])) (fun tG kG => XS.iloadN X0.here hx rfl (hb hby own_k1) rfl kG) ?_
  refine Go.via (U' := s₁.setTop (mkF m 2 #[.val (.int x0), .unset] [(.int (3 : Int32)), (.int x0)])) (fun tG kG => XS.iconst X0.here hx rfl (hb hby own_k2) kG) ?_
  refine Go.via (U' := s₁.setTop (mkF m 3 #[.val (.int x0), .unset] [(.int (x0 &&& (3 : Int32)))])) (fun tG kG => XS.iand X0.here hx rfl (hb hby own_k3) rfl kG) ?_
  refine Go.via (U' := s₁.setTop (mkF m 4 #[.val (.int x0), .val (.int (x0 &&& (3 : Int32)))] [])) (fun tG kG => XS.istoreN X0.here hx rfl (hb hby own_k4) rfl (l' := #[.val (.int x0), .val (.int (x0 &&& (3 : Int32)))]) rfl kG) ?_
  refine Go.via (U' := s₁.setTop (mkF m 5 #[.val (.int x0), .val (.int (x0 &&& (3 : Int32)))] [(.int (x0 &&& (3 : Int32)))])) (fun tG kG => XS.iloadN X0.here hx rfl (hb hby own_k5) rfl kG) ?_
  by_cases hc5 : (x0 &&& (3 : Int32)) = (0 : Int32)
  · refine Go.via (U' := s₁.setTop (mkF m 8 #[.val (.int x0), .val (.int (x0 &&& (3 : Int32)))] [])) (fun tG kG => XS.ifNo X0.here hx rfl (hb hby own_k6) rfl ((if0 _ _).trans (teq hc5).2) kG) ?_
    refine Go.via (U' := s₁.setTop (mkF m 9 #[.val (.int x0), .val (.int (x0 &&& (3 : Int32)))] [(.double (4607182418800017408 : UInt64))])) (fun tG kG => XS.dconst1 X0.here hx rfl (hb hby own_k7) rfl kG) ?_
    exact go_retD X0 hx hlk hret (hb hby own_k8) e0 ⟨(congrArg (fun z => some (Value.double z)) (show (4607182418800017408 : UInt64) = (own_f1 x0) from by unfold own_f1; simp only [if_pos hc5])), rfl, rfl⟩ (by decide) (by decide)
  · refine Go.via (U' := s₁.setTop (mkF m 10 #[.val (.int x0), .val (.int (x0 &&& (3 : Int32)))] [])) (fun tG kG => XS.ifYes X0.here hx rfl (pc0 := 5) (pc' := 10) rfl (hb hby own_k6) rfl ((if0 _ _).trans (feq hc5).2) (by decide) (by decide) kG) ?_
    refine Go.via (U' := s₁.setTop (mkF m 11 #[.val (.int x0), .val (.int (x0 &&& (3 : Int32)))] [(.int (x0 &&& (3 : Int32)))])) (fun tG kG => XS.iloadN X0.here hx rfl (hb hby own_k9) rfl kG) ?_
    refine Go.via (U' := s₁.setTop (mkF m 12 #[.val (.int x0), .val (.int (x0 &&& (3 : Int32)))] [(.int (1 : Int32)), (.int (x0 &&& (3 : Int32)))])) (fun tG kG => XS.iconst X0.here hx rfl (hb hby own_k10) kG) ?_
    by_cases hc12 : (x0 &&& (3 : Int32)) = (1 : Int32)
    · refine Go.via (U' := s₁.setTop (mkF m 15 #[.val (.int x0), .val (.int (x0 &&& (3 : Int32)))] [])) (fun tG kG => XS.icmpNo X0.here hx rfl (hb hby own_k11) rfl (teq hc12).2 kG) ?_
      refine Go.via (U' := s₁.setTop (mkF m 18 #[.val (.int x0), .val (.int (x0 &&& (3 : Int32)))] [(.double (4562146422526312448 : UInt64))])) (fun tG kG => X0.ldc2DoubleC hx hown (mvT hZ (hw _ (List.mem_of_getElem? (i := 14) rfl))) (g := (mkF m 15 #[.val (.int x0), .val (.int (x0 &&& (3 : Int32)))] [])) rfl (hb hby own_k12) tG kG) ?_
      exact go_retD X0 hx hlk hret (hb hby own_k13) e0 ⟨(congrArg (fun z => some (Value.double z)) (show (4562146422526312448 : UInt64) = (own_f1 x0) from by unfold own_f1; simp only [if_neg hc5, if_pos hc12])), rfl, rfl⟩ (by decide) (by decide)
    · refine Go.via (U' := s₁.setTop (mkF m 19 #[.val (.int x0), .val (.int (x0 &&& (3 : Int32)))] [])) (fun tG kG => XS.icmpYes X0.here hx rfl (pc0 := 12) (pc' := 19) rfl (hb hby own_k11) rfl (feq hc12).2 (by decide) (by decide) kG) ?_
      refine Go.via (U' := s₁.setTop (mkF m 20 #[.val (.int x0), .val (.int (x0 &&& (3 : Int32)))] [(.int (x0 &&& (3 : Int32)))])) (fun tG kG => XS.iloadN X0.here hx rfl (hb hby own_k14) rfl kG) ?_
      refine Go.via (U' := s₁.setTop (mkF m 21 #[.val (.int x0), .val (.int (x0 &&& (3 : Int32)))] [(.int (2 : Int32)), (.int (x0 &&& (3 : Int32)))])) (fun tG kG => XS.iconst X0.here hx rfl (hb hby own_k15) kG) ?_
      by_cases hc21 : (x0 &&& (3 : Int32)) = (2 : Int32)
      · refine Go.via (U' := s₁.setTop (mkF m 24 #[.val (.int x0), .val (.int (x0 &&& (3 : Int32)))] [])) (fun tG kG => XS.icmpNo X0.here hx rfl (hb hby own_k16) rfl (teq hc21).2 kG) ?_
        refine Go.via (U' := s₁.setTop (mkF m 27 #[.val (.int x0), .val (.int (x0 &&& (3 : Int32)))] [(.double (4427038433705197568 : UInt64))])) (fun tG kG => X0.ldc2DoubleC hx hown (mvT hZ (hw _ (List.mem_of_getElem? (i := 15) rfl))) (g := (mkF m 24 #[.val (.int x0), .val (.int (x0 &&& (3 : Int32)))] [])) rfl (hb hby own_k17) tG kG) ?_
        exact go_retD X0 hx hlk hret (hb hby own_k18) e0 ⟨(congrArg (fun z => some (Value.double z)) (show (4427038433705197568 : UInt64) = (own_f1 x0) from by unfold own_f1; simp only [if_neg hc5, if_neg hc12, if_pos hc21])), rfl, rfl⟩ (by decide) (by decide)
      · refine Go.via (U' := s₁.setTop (mkF m 28 #[.val (.int x0), .val (.int (x0 &&& (3 : Int32)))] [])) (fun tG kG => XS.icmpYes X0.here hx rfl (pc0 := 21) (pc' := 28) rfl (hb hby own_k16) rfl (feq hc21).2 (by decide) (by decide) kG) ?_
        refine Go.via (U' := s₁.setTop (mkF m 31 #[.val (.int x0), .val (.int (x0 &&& (3 : Int32)))] [(.double (4291930444884082688 : UInt64))])) (fun tG kG => X0.ldc2DoubleC hx hown (mvT hZ (hw _ (List.mem_of_getElem? (i := 5) rfl))) (g := (mkF m 28 #[.val (.int x0), .val (.int (x0 &&& (3 : Int32)))] [])) rfl (hb hby own_k19) tG kG) ?_
        exact go_retD X0 hx hlk hret (hb hby own_k20) e0 ⟨(congrArg (fun z => some (Value.double z)) (show (4291930444884082688 : UInt64) = (own_f1 x0) from by unfold own_f1; simp only [if_neg hc5, if_neg hc12, if_neg hc21])), rfl, rfl⟩ (by decide) (by decide)
theorem own_k22 (m : MethodId) (y0 : UInt64) : entryFrame m #[(.double y0)] 4 = mkF m 0 #[.val (.double y0), .second, .unset, .unset] [] := by first | (simp [entryFrame, mkF, argsToLocals, Value.category]; done) | rfl
theorem own_k23 : decode prog_50_method_2_code 0 = .ok (.dload_n 0, 1) := by decide +kernel
theorem own_k24 : decode prog_50_method_2_code 1 = .ok (.ldc2_w 11, 3) := by decide +kernel
theorem own_k25 : decode prog_50_method_2_code 4 = .ok (.drem, 1) := by decide +kernel
theorem own_k26 : decode prog_50_method_2_code 5 = .ok (.dstore_n 2, 1) := by decide +kernel
theorem own_k27 : decode prog_50_method_2_code 6 = .ok (.dload_n 2, 1) := by decide +kernel
theorem own_k28 : decode prog_50_method_2_code 7 = .ok (.dconst 0, 1) := by decide +kernel
theorem own_k29 : decode prog_50_method_2_code 8 = .ok (.dcmp .g, 1) := by decide +kernel
theorem own_k30 : decode prog_50_method_2_code 9 = .ok (.ifCond .ge 9, 3) := by decide +kernel
theorem own_k31 : decode prog_50_method_2_code 12 = .ok (.dload_n 2, 1) := by decide +kernel
theorem own_k32 : decode prog_50_method_2_code 13 = .ok (.ldc2_w 11, 3) := by decide +kernel
theorem own_k33 : decode prog_50_method_2_code 16 = .ok (.dadd, 1) := by decide +kernel
theorem own_k34 : decode prog_50_method_2_code 17 = .ok (.dstore_n 2, 1) := by decide +kernel
theorem own_k35 : decode prog_50_method_2_code 18 = .ok (.dload_n 2, 1) := by decide +kernel
theorem own_k36 : decode prog_50_method_2_code 19 = .ok (.ldc2_w 11, 3) := by decide +kernel
theorem own_k37 : decode prog_50_method_2_code 22 = .ok (.dcmp .l, 1) := by decide +kernel
theorem own_k38 : decode prog_50_method_2_code 23 = .ok (.ifCond .lt 7, 3) := by decide +kernel
theorem own_k39 : decode prog_50_method_2_code 30 = .ok (.dload_n 2, 1) := by decide +kernel
theorem own_k40 : decode prog_50_method_2_code 31 = .ok (.dreturn, 1) := by decide +kernel
theorem own_k41 : decode prog_50_method_2_code 26 = .ok (.dconst 0, 1) := by decide +kernel
theorem own_k42 : decode prog_50_method_2_code 27 = .ok (.goto 4, 3) := by decide +kernel
theorem own_k43 : plainName "com/example/sidik/sidik/template/Angles" = true := by first | (simp [plainName, overriddenIn]; done) | decide +kernel
def own_f2 (y0 : UInt64) : UInt64 := (if (cmpValue (FP.dcmp (FP.drem y0 (4618760256179416344 : UInt64)) (0 : UInt64)) .g) < (0 : Int32) then (if (cmpValue (FP.dcmp (FP.dadd (FP.drem y0 (4618760256179416344 : UInt64)) (4618760256179416344 : UInt64)) (4618760256179416344 : UInt64)) .l) < (0 : Int32) then (FP.dadd (FP.drem y0 (4618760256179416344 : UInt64)) (4618760256179416344 : UInt64)) else (0 : UInt64)) else (if (cmpValue (FP.dcmp (FP.drem y0 (4618760256179416344 : UInt64)) (4618760256179416344 : UInt64)) .l) < (0 : Int32) then (FP.drem y0 (4618760256179416344 : UInt64)) else (0 : UInt64)))
set_option maxRecDepth 65536 in
set_option maxHeartbeats 40000000 in
theorem own_rm2 (l : Launch) (Z : State) (a0 : Array Value) (hw : ∀ d ∈ tables_1, d.before a0 Z = true) (ws : List Jvm.Cond) (y0 : UInt64) (h0 : Heap) (hn1 : Jvm.Free.Fl.NoNaN64 (FP.drem y0 (4618760256179416344 : UInt64))) (hn2 : (cmpValue (FP.dcmp (FP.drem y0 (4618760256179416344 : UInt64)) (0 : UInt64)) .g) < (0 : Int32) → Jvm.Free.Fl.NoNaN64 (FP.dadd (FP.drem y0 (4618760256179416344 : UInt64)) (4618760256179416344 : UInt64))) : Meets l Z (⟨"com/example/sidik/sidik/template/Angles", "normalize", "(D)D"⟩ : MethodName) prog_50_method_2_code 4 (some .double) ws ({ frames := 0, cells := 0, slots := 0, locals := 0 } : Room) #[(.double y0)] h0 (PureR (some (.double (own_f2 y0))) h0) := by
  refine meets_of (plainFor_of_name own_k43) ?_
  intro p e s m below meth c s₁ X0 hx hZ hby hml hret hlk hown hnm e0
  replace hml : c.maxLocals = 4 := hml
  replace hown : s.vm.findClass "com/example/sidik/sidik/template/Angles" = some m.cls := hown
  refine Go.cast (own_k22 m y0) ?_
  refine Go.via (U' := s₁.setTop (mkF m 1 #[.val (.double y0), .second, .unset, .unset] [(.double y0)])) (fun tG kG => XS.dloadN X0.here hx rfl (hb hby own_k23) rfl kG) ?_
  refine Go.via (U' := s₁.setTop (mkF m 4 #[.val (.double y0), .second, .unset, .unset] [(.double (4618760256179416344 : UInt64)), (.double y0)])) (fun tG kG => X0.ldc2DoubleC hx hown (mvT hZ (hw _ (List.mem_of_getElem? (i := 10) rfl))) (g := (mkF m 1 #[.val (.double y0), .second, .unset, .unset] [(.double y0)])) rfl (hb hby own_k24) tG kG) ?_
  refine Go.via (U' := s₁.setTop (mkF m 5 #[.val (.double y0), .second, .unset, .unset] [(.double (FP.drem y0 (4618760256179416344 : UInt64)))])) (fun tG kG => own_dremS X0.here hx rfl (hb hby own_k25) rfl hn1 rfl kG) ?_
  refine Go.via (U' := s₁.setTop (mkF m 6 #[.val (.double y0), .second, .val (.double (FP.drem y0 (4618760256179416344 : UInt64))), .second] [])) (fun tG kG => XS.dstoreN X0.here hx rfl (hb hby own_k26) rfl (l' := #[.val (.double y0), .second, .val (.double (FP.drem y0 (4618760256179416344 : UInt64))), .second]) rfl kG) ?_
  refine Go.via (U' := s₁.setTop (mkF m 7 #[.val (.double y0), .second, .val (.double (FP.drem y0 (4618760256179416344 : UInt64))), .second] [(.double (FP.drem y0 (4618760256179416344 : UInt64)))])) (fun tG kG => XS.dloadN X0.here hx rfl (hb hby own_k27) rfl kG) ?_
  refine Go.via (U' := s₁.setTop (mkF m 8 #[.val (.double y0), .second, .val (.double (FP.drem y0 (4618760256179416344 : UInt64))), .second] [(.double (0 : UInt64)), (.double (FP.drem y0 (4618760256179416344 : UInt64)))])) (fun tG kG => XS.dconst0 X0.here hx rfl (hb hby own_k28) rfl kG) ?_
  refine Go.via (U' := s₁.setTop (mkF m 9 #[.val (.double y0), .second, .val (.double (FP.drem y0 (4618760256179416344 : UInt64))), .second] [(.int (cmpValue (FP.dcmp (FP.drem y0 (4618760256179416344 : UInt64)) (0 : UInt64)) .g))])) (fun tG kG => XS.dcmpS X0.here hx rfl (hb hby own_k29) rfl rfl kG) ?_
  by_cases hc9 : (cmpValue (FP.dcmp (FP.drem y0 (4618760256179416344 : UInt64)) (0 : UInt64)) .g) < (0 : Int32)
  · refine Go.via (U' := s₁.setTop (mkF m 12 #[.val (.double y0), .second, .val (.double (FP.drem y0 (4618760256179416344 : UInt64))), .second] [])) (fun tG kG => XS.ifNo X0.here hx rfl (hb hby own_k30) rfl ((if0 _ _).trans (tlt hc9).2.1) kG) ?_
    refine Go.via (U' := s₁.setTop (mkF m 13 #[.val (.double y0), .second, .val (.double (FP.drem y0 (4618760256179416344 : UInt64))), .second] [(.double (FP.drem y0 (4618760256179416344 : UInt64)))])) (fun tG kG => XS.dloadN X0.here hx rfl (hb hby own_k31) rfl kG) ?_
    refine Go.via (U' := s₁.setTop (mkF m 16 #[.val (.double y0), .second, .val (.double (FP.drem y0 (4618760256179416344 : UInt64))), .second] [(.double (4618760256179416344 : UInt64)), (.double (FP.drem y0 (4618760256179416344 : UInt64)))])) (fun tG kG => X0.ldc2DoubleC hx hown (mvT hZ (hw _ (List.mem_of_getElem? (i := 10) rfl))) (g := (mkF m 13 #[.val (.double y0), .second, .val (.double (FP.drem y0 (4618760256179416344 : UInt64))), .second] [(.double (FP.drem y0 (4618760256179416344 : UInt64)))])) rfl (hb hby own_k32) tG kG) ?_
    refine Go.via (U' := s₁.setTop (mkF m 17 #[.val (.double y0), .second, .val (.double (FP.drem y0 (4618760256179416344 : UInt64))), .second] [(.double (FP.dadd (FP.drem y0 (4618760256179416344 : UInt64)) (4618760256179416344 : UInt64)))])) (fun tG kG => XS.daddS X0.here hx rfl (hb hby own_k33) rfl (hn2 hc9) rfl kG) ?_
    refine Go.via (U' := s₁.setTop (mkF m 18 #[.val (.double y0), .second, .val (.double (FP.dadd (FP.drem y0 (4618760256179416344 : UInt64)) (4618760256179416344 : UInt64))), .second] [])) (fun tG kG => XS.dstoreN X0.here hx rfl (hb hby own_k34) rfl (l' := #[.val (.double y0), .second, .val (.double (FP.dadd (FP.drem y0 (4618760256179416344 : UInt64)) (4618760256179416344 : UInt64))), .second]) rfl kG) ?_
    refine Go.via (U' := s₁.setTop (mkF m 19 #[.val (.double y0), .second, .val (.double (FP.dadd (FP.drem y0 (4618760256179416344 : UInt64)) (4618760256179416344 : UInt64))), .second] [(.double (FP.dadd (FP.drem y0 (4618760256179416344 : UInt64)) (4618760256179416344 : UInt64)))])) (fun tG kG => XS.dloadN X0.here hx rfl (hb hby own_k35) rfl kG) ?_
    refine Go.via (U' := s₁.setTop (mkF m 22 #[.val (.double y0), .second, .val (.double (FP.dadd (FP.drem y0 (4618760256179416344 : UInt64)) (4618760256179416344 : UInt64))), .second] [(.double (4618760256179416344 : UInt64)), (.double (FP.dadd (FP.drem y0 (4618760256179416344 : UInt64)) (4618760256179416344 : UInt64)))])) (fun tG kG => X0.ldc2DoubleC hx hown (mvT hZ (hw _ (List.mem_of_getElem? (i := 10) rfl))) (g := (mkF m 19 #[.val (.double y0), .second, .val (.double (FP.dadd (FP.drem y0 (4618760256179416344 : UInt64)) (4618760256179416344 : UInt64))), .second] [(.double (FP.dadd (FP.drem y0 (4618760256179416344 : UInt64)) (4618760256179416344 : UInt64)))])) rfl (hb hby own_k36) tG kG) ?_
    refine Go.via (U' := s₁.setTop (mkF m 23 #[.val (.double y0), .second, .val (.double (FP.dadd (FP.drem y0 (4618760256179416344 : UInt64)) (4618760256179416344 : UInt64))), .second] [(.int (cmpValue (FP.dcmp (FP.dadd (FP.drem y0 (4618760256179416344 : UInt64)) (4618760256179416344 : UInt64)) (4618760256179416344 : UInt64)) .l))])) (fun tG kG => XS.dcmpS X0.here hx rfl (hb hby own_k37) rfl rfl kG) ?_
    by_cases hc23 : (cmpValue (FP.dcmp (FP.dadd (FP.drem y0 (4618760256179416344 : UInt64)) (4618760256179416344 : UInt64)) (4618760256179416344 : UInt64)) .l) < (0 : Int32)
    · refine Go.via (U' := s₁.setTop (mkF m 30 #[.val (.double y0), .second, .val (.double (FP.dadd (FP.drem y0 (4618760256179416344 : UInt64)) (4618760256179416344 : UInt64))), .second] [])) (fun tG kG => XS.ifYes X0.here hx rfl (pc0 := 23) (pc' := 30) rfl (hb hby own_k38) rfl ((if0 _ _).trans (tlt hc23).1) (by decide) (by decide) kG) ?_
      refine Go.via (U' := s₁.setTop (mkF m 31 #[.val (.double y0), .second, .val (.double (FP.dadd (FP.drem y0 (4618760256179416344 : UInt64)) (4618760256179416344 : UInt64))), .second] [(.double (FP.dadd (FP.drem y0 (4618760256179416344 : UInt64)) (4618760256179416344 : UInt64)))])) (fun tG kG => XS.dloadN X0.here hx rfl (hb hby own_k39) rfl kG) ?_
      exact go_retD X0 hx hlk hret (hb hby own_k40) e0 ⟨(congrArg (fun z => some (Value.double z)) (show (FP.dadd (FP.drem y0 (4618760256179416344 : UInt64)) (4618760256179416344 : UInt64)) = (own_f2 y0) from by unfold own_f2; simp only [if_pos hc9, if_pos hc23])), rfl, rfl⟩ (by decide) (by decide)
    · refine Go.via (U' := s₁.setTop (mkF m 26 #[.val (.double y0), .second, .val (.double (FP.dadd (FP.drem y0 (4618760256179416344 : UInt64)) (4618760256179416344 : UInt64))), .second] [])) (fun tG kG => XS.ifNo X0.here hx rfl (hb hby own_k38) rfl ((if0 _ _).trans (flt hc23).1) kG) ?_
      refine Go.via (U' := s₁.setTop (mkF m 27 #[.val (.double y0), .second, .val (.double (FP.dadd (FP.drem y0 (4618760256179416344 : UInt64)) (4618760256179416344 : UInt64))), .second] [(.double (0 : UInt64))])) (fun tG kG => XS.dconst0 X0.here hx rfl (hb hby own_k41) rfl kG) ?_
      refine Go.via (U' := s₁.setTop (mkF m 31 #[.val (.double y0), .second, .val (.double (FP.dadd (FP.drem y0 (4618760256179416344 : UInt64)) (4618760256179416344 : UInt64))), .second] [(.double (0 : UInt64))])) (fun tG kG => XS.goto X0.here hx rfl (pc0 := 27) (pc' := 31) rfl (hb hby own_k42) (by decide) (by decide) kG) ?_
      exact go_retD X0 hx hlk hret (hb hby own_k40) e0 ⟨(congrArg (fun z => some (Value.double z)) (show (0 : UInt64) = (own_f2 y0) from by unfold own_f2; simp only [if_pos hc9, if_neg hc23])), rfl, rfl⟩ (by decide) (by decide)
  · refine Go.via (U' := s₁.setTop (mkF m 18 #[.val (.double y0), .second, .val (.double (FP.drem y0 (4618760256179416344 : UInt64))), .second] [])) (fun tG kG => XS.ifYes X0.here hx rfl (pc0 := 9) (pc' := 18) rfl (hb hby own_k30) rfl ((if0 _ _).trans (flt hc9).2.1) (by decide) (by decide) kG) ?_
    refine Go.via (U' := s₁.setTop (mkF m 19 #[.val (.double y0), .second, .val (.double (FP.drem y0 (4618760256179416344 : UInt64))), .second] [(.double (FP.drem y0 (4618760256179416344 : UInt64)))])) (fun tG kG => XS.dloadN X0.here hx rfl (hb hby own_k35) rfl kG) ?_
    refine Go.via (U' := s₁.setTop (mkF m 22 #[.val (.double y0), .second, .val (.double (FP.drem y0 (4618760256179416344 : UInt64))), .second] [(.double (4618760256179416344 : UInt64)), (.double (FP.drem y0 (4618760256179416344 : UInt64)))])) (fun tG kG => X0.ldc2DoubleC hx hown (mvT hZ (hw _ (List.mem_of_getElem? (i := 10) rfl))) (g := (mkF m 19 #[.val (.double y0), .second, .val (.double (FP.drem y0 (4618760256179416344 : UInt64))), .second] [(.double (FP.drem y0 (4618760256179416344 : UInt64)))])) rfl (hb hby own_k36) tG kG) ?_
    refine Go.via (U' := s₁.setTop (mkF m 23 #[.val (.double y0), .second, .val (.double (FP.drem y0 (4618760256179416344 : UInt64))), .second] [(.int (cmpValue (FP.dcmp (FP.drem y0 (4618760256179416344 : UInt64)) (4618760256179416344 : UInt64)) .l))])) (fun tG kG => XS.dcmpS X0.here hx rfl (hb hby own_k37) rfl rfl kG) ?_
    by_cases hc23 : (cmpValue (FP.dcmp (FP.drem y0 (4618760256179416344 : UInt64)) (4618760256179416344 : UInt64)) .l) < (0 : Int32)
    · refine Go.via (U' := s₁.setTop (mkF m 30 #[.val (.double y0), .second, .val (.double (FP.drem y0 (4618760256179416344 : UInt64))), .second] [])) (fun tG kG => XS.ifYes X0.here hx rfl (pc0 := 23) (pc' := 30) rfl (hb hby own_k38) rfl ((if0 _ _).trans (tlt hc23).1) (by decide) (by decide) kG) ?_
      refine Go.via (U' := s₁.setTop (mkF m 31 #[.val (.double y0), .second, .val (.double (FP.drem y0 (4618760256179416344 : UInt64))), .second] [(.double (FP.drem y0 (4618760256179416344 : UInt64)))])) (fun tG kG => XS.dloadN X0.here hx rfl (hb hby own_k39) rfl kG) ?_
      exact go_retD X0 hx hlk hret (hb hby own_k40) e0 ⟨(congrArg (fun z => some (Value.double z)) (show (FP.drem y0 (4618760256179416344 : UInt64)) = (own_f2 y0) from by unfold own_f2; simp only [if_neg hc9, if_pos hc23])), rfl, rfl⟩ (by decide) (by decide)
    · refine Go.via (U' := s₁.setTop (mkF m 26 #[.val (.double y0), .second, .val (.double (FP.drem y0 (4618760256179416344 : UInt64))), .second] [])) (fun tG kG => XS.ifNo X0.here hx rfl (hb hby own_k38) rfl ((if0 _ _).trans (flt hc23).1) kG) ?_
      refine Go.via (U' := s₁.setTop (mkF m 27 #[.val (.double y0), .second, .val (.double (FP.drem y0 (4618760256179416344 : UInt64))), .second] [(.double (0 : UInt64))])) (fun tG kG => XS.dconst0 X0.here hx rfl (hb hby own_k41) rfl kG) ?_
      refine Go.via (U' := s₁.setTop (mkF m 31 #[.val (.double y0), .second, .val (.double (FP.drem y0 (4618760256179416344 : UInt64))), .second] [(.double (0 : UInt64))])) (fun tG kG => XS.goto X0.here hx rfl (pc0 := 27) (pc' := 31) rfl (hb hby own_k42) (by decide) (by decide) kG) ?_
      exact go_retD X0 hx hlk hret (hb hby own_k40) e0 ⟨(congrArg (fun z => some (Value.double z)) (show (0 : UInt64) = (own_f2 y0) from by unfold own_f2; simp only [if_neg hc9, if_neg hc23])), rfl, rfl⟩ (by decide) (by decide)
section OwnFP
open Jvm.FP Jvm.FP.Core
set_option maxRecDepth 100000
/-- a rounded ratio below 2^33: a number of the format within half a unit of its last place (units of 2^-1074) -/
theorem own_rr {s : Bool} {A B : Nat} {e : Int} (hB : 0 < B) (he : A ≠ 0 → -1074 ≤ e) (hm : A * 2 ^ (e + 1074).toNat < B * 2 ^ 1107) :
    ∃ (c : Nat) (q : Int), roundRatio b64 s A B e = .fin s c q ∧ -1074 ≤ q ∧
      2 * (A * 2 ^ (e + 1074).toNat) ≤ 2 * (c * 2 ^ (q + 1074).toNat) * B + B * 2 ^ 1054 ∧ 2 * (c * 2 ^ (q + 1074).toNat) * B ≤ 2 * (A * 2 ^ (e + 1074).toNat) + B * 2 ^ 1054 := by
  have hq0 : b64.qmin = -1074 := by decide
  have hq1 : b64.qmax = 971 := by decide
  have hp : (b64.p : Int) = 53 := by decide
  unfold roundRatio
  by_cases h0 : A = 0
  · rw [if_pos h0]
    refine ⟨0, b64.qmin, rfl, by omega, ?_, ?_⟩
    · rw [h0]; simp
    · rw [h0]; simp
  · rw [if_neg h0]
    have hA : 0 < A := by omega
    replace he := he h0
    replace hm : Below A B (33 - e) := by
      rw [show (33 - e : Int) = ((1107 : Nat) : Int) - (((e + 1074).toNat : Nat) : Int) from by omega, below_iff]; exact hm
    have hge := quantum_ge b64 A B e
    have hle : quantum b64 A B e ≤ -20 := by
      have l := lt_of_below (leading_spec hA hB).1 hm
      unfold quantum
      omega
    have hk := nearest_units_le (f := b64) hA hB e
    have hn := nearest_spec (unitsNum A e (quantum b64 A B e)) (unitsDen B e (quantum b64 A B e)) (unitsDen_pos hB _ _)
    unfold roundAt
    generalize quantum b64 A B e = q at *
    have e1 : unitsNum A e q * 2 ^ (q + 1074).toNat = A * 2 ^ (e + 1074).toNat * 2 ^ (q - e).toNat := by
      unfold unitsNum
      rw [Nat.mul_assoc, Nat.mul_assoc, ← Nat.pow_add, ← Nat.pow_add]
      congr 2
      omega
    have e2 : unitsDen B e q = B * 2 ^ (q - e).toNat := rfl
    have hpos : 0 < 2 ^ (q - e).toNat := Nat.two_pow_pos _
    have hbd : 2 ^ (q + 1074).toNat ≤ 2 ^ 1054 := Nat.pow_le_pow_right (by decide) (by omega)
    obtain ⟨n1, n2, -⟩ := hn
    generalize nearest (unitsNum A e q) (unitsDen B e q) = k at *
    rw [e2] at n1 n2
    generalize unitsNum A e q = A' at *
    have b1 : 2 * (A * 2 ^ (e + 1074).toNat) ≤ 2 * (k * 2 ^ (q + 1074).toNat) * B + B * 2 ^ 1054 := by
      have m1 := Nat.mul_le_mul_right (2 ^ (q + 1074).toNat) n1
      generalize 2 ^ (q - e).toNat = D at *
      generalize 2 ^ (q + 1074).toNat = P at *
      generalize 2 ^ (e + 1074).toNat = G at *
      have m2 : (2 * (A * G)) * D ≤ (2 * (k * P) * B + B * P) * D := by
        calc (2 * (A * G)) * D = 2 * (A' * P) := by rw [e1]; ac_rfl
          _ = 2 * A' * P := by ac_rfl
          _ ≤ (2 * k + 1) * (B * D) * P := m1
          _ = (2 * (k * P) * B + B * P) * D := by rw [Nat.add_mul, Nat.add_mul, Nat.add_mul, Nat.one_mul]; ac_rfl
      have m3 := Nat.le_of_mul_le_mul_right m2 hpos
      exact Nat.le_trans m3 (Nat.add_le_add_left (Nat.mul_le_mul_left B hbd) _)
    have b2 : 2 * (k * 2 ^ (q + 1074).toNat) * B ≤ 2 * (A * 2 ^ (e + 1074).toNat) + B * 2 ^ 1054 := by
      have m1 := Nat.mul_le_mul_right (2 ^ (q + 1074).toNat) n2
      generalize 2 ^ (q - e).toNat = D at *
      generalize 2 ^ (q + 1074).toNat = P at *
      generalize 2 ^ (e + 1074).toNat = G at *
      have m2 : (2 * (k * P) * B) * D ≤ (2 * (A * G) + B * P) * D := by
        calc (2 * (k * P) * B) * D = 2 * k * (B * D) * P := by ac_rfl
          _ ≤ (2 * A' + B * D) * P := m1
          _ = 2 * (A' * P) + B * D * P := by rw [Nat.add_mul]; ac_rfl
          _ = (2 * (A * G) + B * P) * D := by rw [e1, Nat.add_mul]; ac_rfl
      have m3 := Nat.le_of_mul_le_mul_right m2 hpos
      exact Nat.le_trans m3 (Nat.add_le_add_left (Nat.mul_le_mul_left B hbd) _)
    unfold settle bound
    by_cases hc : k < 2 ^ b64.p
    · rw [if_pos hc, if_pos (by omega)]
      exact ⟨k, q, rfl, by omega, b1, b2⟩
    · rw [if_neg hc, if_pos (by omega)]
      have hk2 : k = 2 ^ b64.p := by omega
      have e3 : b64.tails * 2 ^ (q + 1 + 1074).toNat = k * 2 ^ (q + 1074).toNat := by
        rw [hk2, show (q + 1 + 1074).toNat = 1 + (q + 1074).toNat from by omega, Nat.pow_add, ← Nat.mul_assoc]
        congr 1
      exact ⟨b64.tails, q + 1, rfl, by omega, by rw [e3]; exact b1, by rw [e3]; exact b2⟩

theorem own_rx {s : Bool} {A M : Nat} {e j : Int} (hM : M < 2 ^ 53) (he : A ≠ 0 → -1074 ≤ e) (hj : -1074 ≤ j) (hj2 : j ≤ 900) (h : A * 2 ^ (e + 1074).toNat = M * 2 ^ (j + 1074).toNat) :
    ∃ (c : Nat) (q : Int), roundRatio b64 s A 1 e = .fin s c q ∧ -1074 ≤ q ∧ c * 2 ^ (q + 1074).toNat = A * 2 ^ (e + 1074).toNat := by
  have hq0 : b64.qmin = -1074 := by decide
  have hq1 : b64.qmax = 971 := by decide
  have hp : (b64.p : Int) = 53 := by decide
  by_cases h0 : A = 0
  · unfold roundRatio
    rw [if_pos h0]
    exact ⟨0, b64.qmin, rfl, by omega, by rw [h0]; simp⟩
  · have he' := he h0
    have hM0 : M ≠ 0 := by
      intro z
      rw [z, Nat.zero_mul] at h
      rcases Nat.mul_eq_zero.mp h with q | q
      · exact h0 q
      · exact absurd q (Nat.pos_iff_ne_zero.mp (Nat.two_pow_pos _))
    have hcg : roundRatio b64 s A 1 e = roundRatio b64 s M 1 j := by
      refine roundRatio_congr (by decide) (by decide) ?_
      rw [Nat.mul_one, Nat.mul_one]
      have hp2 : 0 < 2 ^ (min e j + 1074).toNat := Nat.two_pow_pos _
      apply Nat.eq_of_mul_eq_mul_right hp2
      rw [Nat.mul_assoc, Nat.mul_assoc, ← Nat.pow_add, ← Nat.pow_add, show (e - j).toNat + (min e j + 1074).toNat = (e + 1074).toNat from by omega, show (j - e).toNat + (min e j + 1074).toNat = (j + 1074).toNat from by omega]
      exact h
    rw [hcg, ← h.symm]
    unfold roundRatio
    rw [if_neg hM0]
    have hA : 0 < M := by omega
    have hge := quantum_ge b64 M 1 j
    have hle : quantum b64 M 1 j ≤ j := by
      have l : leading M 1 < 53 := lt_of_below (leading_spec hA (by decide)).1 (by unfold Below; simpa using hM)
      unfold quantum
      omega
    have hk := nearest_units_le (f := b64) (B := 1) hA (by decide) j
    unfold roundAt
    generalize quantum b64 M 1 j = q at *
    have e2 : unitsDen 1 j q = 1 := by
      unfold unitsDen
      rw [show (q - j).toNat = 0 from by omega]
    rw [e2] at hk ⊢
    have e3 : nearest (unitsNum M j q) 1 = unitsNum M j q := by
      have := nearest_exact (B := 1) (unitsNum M j q) (by decide)
      rwa [Nat.mul_one] at this
    rw [e3] at hk ⊢
    have e1 : unitsNum M j q * 2 ^ (q + 1074).toNat = M * 2 ^ (j + 1074).toNat := by
      unfold unitsNum
      rw [Nat.mul_assoc, ← Nat.pow_add]
      congr 2
      omega
    generalize unitsNum M j q = k at *
    unfold settle bound
    by_cases hc : k < 2 ^ b64.p
    · rw [if_pos hc, if_pos (by omega)]
      exact ⟨k, q, rfl, by omega, e1⟩
    · rw [if_neg hc, if_pos (by omega)]
      have hk2 : k = 2 ^ b64.p := by omega
      refine ⟨b64.tails, q + 1, rfl, by omega, ?_⟩
      rw [← e1, hk2, show (q + 1 + 1074).toNat = 1 + (q + 1074).toNat from by omega, Nat.pow_add, ← Nat.mul_assoc]
      congr 1
/-- the value in units of 2^-1074 -/
def own_v : Datum → Int
  | .fin s c q => signed s (c * 2 ^ (q + 1074).toNat)
  | _ => 0
def own_N (d : Datum) : Prop := ∃ (s : Bool) (c : Nat) (q : Int), d = .fin s c q ∧ -1074 ≤ q
theorem own_sg (s : Bool) (n : Nat) : signed s n = if s then -(n : Int) else n := rfl
theorem own_round {s : Bool} {c : Nat} {q : Int} (hq : c ≠ 0 → -1074 ≤ q) (hm : c * 2 ^ (q + 1074).toNat < 2 ^ 1107) :
    own_N (round b64 (.fin s c q)) ∧ 2 * own_v (.fin s c q) ≤ 2 * own_v (round b64 (.fin s c q)) + 2 ^ 1054 ∧ 2 * own_v (round b64 (.fin s c q)) ≤ 2 * own_v (.fin s c q) + 2 ^ 1054 ∧ (0 ≤ own_v (.fin s c q) → 0 ≤ own_v (round b64 (.fin s c q))) := by
  obtain ⟨c', q', h1, h2, h3, h4⟩ := own_rr (s := s) (A := c) (B := 1) (e := q) (by decide) hq (by rw [Nat.one_mul]; exact hm)
  have e : round b64 (.fin s c q) = .fin s c' q' := h1
  have hz : c = 0 → c' = 0 := by
    intro z
    unfold roundRatio at h1
    rw [if_pos z] at h1
    injection h1 with _ u _
    exact u.symm
  rw [e]
  refine ⟨⟨s, c', q', rfl, h2⟩, ?_⟩
  rw [Nat.mul_one, Nat.one_mul] at h3 h4
  have hp : 0 < 2 ^ (q + 1074).toNat := Nat.two_pow_pos _
  have hx : c * 2 ^ (q + 1074).toNat = 0 → c' * 2 ^ (q' + 1074).toNat = 0 := by
    intro z
    rcases Nat.mul_eq_zero.mp z with u | u
    · rw [hz u, Nat.zero_mul]
    · omega
  show 2 * signed s (c * 2 ^ (q + 1074).toNat) ≤ 2 * signed s (c' * 2 ^ (q' + 1074).toNat) + 2 ^ 1054 ∧ 2 * signed s (c' * 2 ^ (q' + 1074).toNat) ≤ 2 * signed s (c * 2 ^ (q + 1074).toNat) + 2 ^ 1054 ∧ (0 ≤ signed s (c * 2 ^ (q + 1074).toNat) → 0 ≤ signed s (c' * 2 ^ (q' + 1074).toNat))
  have hH : (2 : Int) ^ 1054 = ((2 ^ 1054 : Nat) : Int) := (Int.natCast_pow 2 1054).symm
  rw [hH, own_sg, own_sg]
  generalize c * 2 ^ (q + 1074).toNat = x at *
  generalize c' * 2 ^ (q' + 1074).toNat = y at *
  generalize 2 ^ 1054 = H at h3 h4 ⊢
  cases s
  · simp only [Bool.false_eq_true, if_false]; omega
  · simp only [if_true]
    refine ⟨by omega, by omega, fun u => ?_⟩
    have : x = 0 := by omega
    have := hx this
    omega
end OwnFP
section OwnFP2
open Jvm.FP Jvm.FP.Core
set_option maxRecDepth 100000
theorem own_sgm (s : Bool) (n k : Nat) : signed s n * (k : Int) = signed s (n * k) := by
  rw [own_sg, own_sg]
  cases s
  · simp
  · simp [Int.neg_mul]
theorem own_inU (c : Nat) {q m : Int} (h1 : m ≤ q) (h2 : -1074 ≤ m) : inUnits c q m * 2 ^ (m + 1074).toNat = c * 2 ^ (q + 1074).toNat := by
  unfold inUnits
  rw [Nat.mul_assoc, ← Nat.pow_add]
  congr 2
  omega
theorem own_negv (d : Datum) : own_v (negate d) = - own_v d := by
  cases d with
  | nan => rfl
  | inf s => rfl
  | fin s c q =>
    show signed (!s) _ = - signed s _
    rw [own_sg, own_sg]
    cases s <;> simp
theorem own_negN {d : Datum} (h : own_N d) : own_N (negate d) := by
  obtain ⟨s, c, q, rfl, hq⟩ := h
  exact ⟨!s, c, q, rfl, hq⟩
theorem own_sum {x y : Datum} (hx : own_N x) (hy : own_N y) (hb : (own_v x + own_v y).natAbs < 2 ^ 1107) :
    own_N (round b64 (exactSum x y)) ∧ 2 * (own_v x + own_v y) ≤ 2 * own_v (round b64 (exactSum x y)) + 2 ^ 1054 ∧ 2 * own_v (round b64 (exactSum x y)) ≤ 2 * (own_v x + own_v y) + 2 ^ 1054 ∧ (0 ≤ own_v x + own_v y → 0 ≤ own_v (round b64 (exactSum x y))) := by
  obtain ⟨s, c, q, rfl, hq⟩ := hx
  obtain ⟨t, d, r, rfl, hr⟩ := hy
  have hm : -1074 ≤ min q r := by omega
  have h1 := own_inU c (q := q) (m := min q r) (by omega) hm
  have h2 := own_inU d (q := r) (m := min q r) (by omega) hm
  have e1 : sumUnits s c q t d r (min q r) * ((2 ^ (min q r + 1074).toNat : Nat) : Int) = own_v (.fin s c q) + own_v (.fin t d r) := by
    unfold sumUnits
    rw [Int.add_mul, own_sgm, own_sgm, h1, h2]
    rfl
  have e2 : own_v (exactSum (.fin s c q) (.fin t d r)) = own_v (.fin s c q) + own_v (.fin t d r) := by
    rw [← e1]
    show signed (sumSign s t (sumUnits s c q t d r (min q r))) ((sumUnits s c q t d r (min q r)).natAbs * 2 ^ (min q r + 1074).toNat) = _
    rw [← own_sgm]
    congr 1
    generalize sumUnits s c q t d r (min q r) = u
    unfold sumSign
    rw [own_sg]
    by_cases h : u = 0
    · subst h
      split <;> simp
    · rw [if_neg h]
      by_cases k : u < 0
      · rw [if_pos (by simpa using k)]; omega
      · rw [if_neg (by simpa using k)]; omega
  have e3 : (sumUnits s c q t d r (min q r)).natAbs * 2 ^ (min q r + 1074).toNat < 2 ^ 1107 := by
    rw [← e1, Int.natAbs_mul, Int.natAbs_natCast] at hb
    exact hb
  have k := own_round (s := sumSign s t (sumUnits s c q t d r (min q r))) (c := (sumUnits s c q t d r (min q r)).natAbs) (q := min q r) (fun _ => hm) e3
  rw [← e2]
  exact k
theorem own_ord {x y : Datum} (hx : own_N x) (hy : own_N y) : order x y = some (compare (own_v x) (own_v y)) := by
  obtain ⟨s, c, q, rfl, hq⟩ := hx
  obtain ⟨t, d, r, rfl, hr⟩ := hy
  have hm : -1074 ≤ min q r := by omega
  have h1 := own_inU c (q := q) (m := min q r) (by omega) hm
  have h2 := own_inU d (q := r) (m := min q r) (by omega) hm
  show some (compare (signed s (inUnits c q (min q r))) (signed t (inUnits d r (min q r)))) = some (compare (signed s (c * 2 ^ (q + 1074).toNat)) (signed t (d * 2 ^ (r + 1074).toNat)))
  rw [← h1, ← h2, ← own_sgm, ← own_sgm]
  have hp : (0 : Int) < ((2 ^ (min q r + 1074).toNat : Nat) : Int) := Int.natCast_pos.mpr (Nat.two_pow_pos _)
  generalize ((2 ^ (min q r + 1074).toNat : Nat) : Int) = P at *
  generalize signed s (inUnits c q (min q r)) = a
  generalize signed t (inUnits d r (min q r)) = b
  congr 1
  show compareOfLessAndEq a b = compareOfLessAndEq (a * P) (b * P)
  unfold compareOfLessAndEq
  have k1 : a * P < b * P ↔ a < b := ⟨fun h => Int.lt_of_mul_lt_mul_right h (Int.le_of_lt hp), fun h => Int.mul_lt_mul_of_pos_right h hp⟩
  have k2 : a * P = b * P ↔ a = b := ⟨fun h => Int.eq_of_mul_eq_mul_right (by omega) h, fun h => by rw [h]⟩
  simp only [k1, k2]
end OwnFP2
section OwnFP3
open Jvm.FP Jvm.FP.Core
set_option maxRecDepth 100000
/-- a whole number below 2^53 is a double -/
theorem own_int (i : Int) (h : i.natAbs < 2 ^ 53) : own_N (round b64 (ofInt i)) ∧ own_v (round b64 (ofInt i)) = i * 2 ^ 1074 := by
  obtain ⟨c, q, h1, h2, h3⟩ := own_rx (s := decide (i < 0)) (A := i.natAbs) (M := i.natAbs) (e := 0) (j := 0) h (fun _ => by decide) (by decide) (by decide) rfl
  have e : round b64 (ofInt i) = .fin (decide (i < 0)) c q := h1
  rw [e]
  refine ⟨⟨_, c, q, rfl, h2⟩, ?_⟩
  show signed (decide (i < 0)) (c * 2 ^ (q + 1074).toNat) = _
  rw [h3, show (0 + 1074 : Int).toNat = 1074 from rfl, ← own_sgm, Int.natCast_pow]
  congr 1
  rw [own_sg]
  by_cases k : i < 0
  · rw [if_pos (by simpa using k)]; omega
  · rw [if_neg (by simpa using k)]; omega
/-- the exact remainder is a double -/
theorem own_remd {s t : Bool} {c d : Nat} {q r : Int} (hc : c < 2 ^ 53) (hd : d < 2 ^ 53) (hd0 : d ≠ 0) (hq : -1074 ≤ q) (hr : -1074 ≤ r) (hq2 : q ≤ 900) (hr2 : r ≤ 900) :
    own_N (round b64 (exactRemainder (.fin s c q) (.fin t d r))) ∧ own_v (round b64 (exactRemainder (.fin s c q) (.fin t d r))) = signed s ((c * 2 ^ (q + 1074).toNat) % (d * 2 ^ (r + 1074).toNat)) := by
  have hm : -1074 ≤ min q r := by omega
  have h1 := own_inU c (q := q) (m := min q r) (by omega) hm
  have h2 := own_inU d (q := r) (m := min q r) (by omega) hm
  have hlt : inUnits c q (min q r) % inUnits d r (min q r) < 2 ^ 53 := by
    by_cases k : q ≤ r
    · have e : inUnits c q (min q r) = c := by
        unfold inUnits
        rw [show (q - min q r).toNat = 0 from by omega]; simp
      rw [e]
      exact Nat.lt_of_le_of_lt (Nat.mod_le _ _) hc
    · have e : inUnits d r (min q r) = d := by
        unfold inUnits
        rw [show (r - min q r).toNat = 0 from by omega]; simp
      rw [e]
      exact Nat.lt_trans (Nat.mod_lt _ (by omega)) hd
  obtain ⟨c', q', e1, e2, e3⟩ := own_rx (s := s) (A := inUnits c q (min q r) % inUnits d r (min q r)) (M := inUnits c q (min q r) % inUnits d r (min q r)) (e := min q r) (j := min q r) hlt (fun _ => hm) hm (by omega) rfl
  have e : round b64 (exactRemainder (.fin s c q) (.fin t d r)) = .fin s c' q' := by
    show round b64 (if d = 0 then .nan else .fin s (inUnits c q (min q r) % inUnits d r (min q r)) (min q r)) = _
    rw [if_neg hd0]
    exact e1
  rw [e]
  refine ⟨⟨_, c', q', rfl, e2⟩, ?_⟩
  show signed s (c' * 2 ^ (q' + 1074).toNat) = _
  rw [e3, ← h1, ← h2, Nat.mul_mod_mul_right]
/-- a product -/
theorem own_mul {s t : Bool} {c d : Nat} {q r : Int} (hqr : c * d ≠ 0 → -1074 ≤ q + r) (hb : c * d * 2 ^ (q + r + 1074).toNat < 2 ^ 1107) :
    own_N (round b64 (exactProduct (.fin s c q) (.fin t d r))) ∧ 2 * signed (s != t) (c * d * 2 ^ (q + r + 1074).toNat) ≤ 2 * own_v (round b64 (exactProduct (.fin s c q) (.fin t d r))) + 2 ^ 1054 ∧ 2 * own_v (round b64 (exactProduct (.fin s c q) (.fin t d r))) ≤ 2 * signed (s != t) (c * d * 2 ^ (q + r + 1074).toNat) + 2 ^ 1054 :=
  have u := own_round (s := s != t) (c := c * d) (q := q + r) hqr hb
  ⟨u.1, u.2.1, u.2.2.1⟩
/-- a quotient -/
theorem own_div {s t : Bool} {c d : Nat} {q r : Int} (hd : d ≠ 0) (hqr : c ≠ 0 → -1074 ≤ q - r) (hb : c * 2 ^ (q - r + 1074).toNat < d * 2 ^ 1107) :
    ∃ (c' : Nat) (q' : Int), quotient b64 (.fin s c q) (.fin t d r) = .fin (s != t) c' q' ∧ -1074 ≤ q' ∧
      2 * (c * 2 ^ (q - r + 1074).toNat) ≤ 2 * (c' * 2 ^ (q' + 1074).toNat) * d + d * 2 ^ 1054 ∧ 2 * (c' * 2 ^ (q' + 1074).toNat) * d ≤ 2 * (c * 2 ^ (q - r + 1074).toNat) + d * 2 ^ 1054 := by
  obtain ⟨c', q', h1, h2, h3, h4⟩ := own_rr (s := s != t) (A := c) (B := d) (e := q - r) (by omega) hqr hb
  refine ⟨c', q', ?_, h2, h3, h4⟩
  show (if d = 0 then (if c = 0 then Datum.nan else .inf (s != t)) else roundRatio b64 (s != t) c d (q - r)) = _
  rw [if_neg hd]
  exact h1
/-- rounded toward nought -/
theorem own_trunc {s : Bool} {c : Nat} {q : Int} (hq : -1074 ≤ q) : truncate s c q = signed s ((c * 2 ^ (q + 1074).toNat) / 2 ^ 1074) := by
  unfold truncate
  congr 1
  by_cases k : 0 ≤ q
  · rw [show (-q).toNat = 0 from by omega, Nat.pow_zero, Nat.div_one, show (q + 1074).toNat = q.toNat + 1074 from by omega, Nat.pow_add, ← Nat.mul_assoc, Nat.mul_div_cancel _ (Nat.two_pow_pos _)]
  · rw [show q.toNat = 0 from by omega, Nat.pow_zero, Nat.mul_one]
    have e : 2 ^ 1074 = 2 ^ (-q).toNat * 2 ^ (q + 1074).toNat := by
      rw [← Nat.pow_add]
      congr 1
      omega
    rw [e, Nat.mul_div_mul_right _ _ (Nat.two_pow_pos _)]
end OwnFP3
section OwnFP4
open Jvm.FP Jvm.FP.Core
set_option maxRecDepth 100000
theorem own_nn {a : UInt64} (h : own_N (val64 a)) : Jvm.Free.Fl.NoNaN64 a := by
  refine Jvm.Free.Fl.noNaN64_no.mpr ?_
  obtain ⟨s, c, q, e, -⟩ := h
  show decide (decode b64 a.toNat = .nan) = false
  have e' : decode b64 a.toNat = .fin s c q := e
  rw [e']
  simp
theorem own_shape {a : UInt64} (h : own_N (val64 a)) (hb : (own_v (val64 a)).natAbs < 2 ^ 1107) :
    ∃ (s : Bool) (c : Nat) (q : Int), val64 a = .fin s c q ∧ c < 2 ^ 53 ∧ -1074 ≤ q ∧ q ≤ 900 ∧ own_v (val64 a) = signed s (c * 2 ^ (q + 1074).toNat) := by
  have f := val64_fits a
  obtain ⟨s, c, q, e, hq⟩ := h
  rw [e] at f hb ⊢
  obtain ⟨f1, f2, f3, f4⟩ := f
  refine ⟨s, c, q, rfl, f1, hq, ?_, rfl⟩
  rcases f4 with k | k
  · rw [k]; decide
  · have hc : 1 ≤ c := Nat.le_trans (tails_pos b64) k
    have hb2 : c * 2 ^ (q + 1074).toNat < 2 ^ 1107 := by
      have : (own_v (.fin s c q)).natAbs = c * 2 ^ (q + 1074).toNat := by
        show (signed s (c * 2 ^ (q + 1074).toNat)).natAbs = _
        rw [own_sg]
        generalize c * 2 ^ (q + 1074).toNat = y
        cases s <;> simp
      rw [← this]; exact hb
    have h2 : 2 ^ (q + 1074).toNat < 2 ^ 1107 := Nat.lt_of_le_of_lt (Nat.le_mul_of_pos_left _ hc) hb2
    have h3 := (Nat.pow_lt_pow_iff_right (by decide : 1 < 2)).mp h2
    omega
theorem own_add {a b : UInt64} (ha : own_N (val64 a)) (hb : own_N (val64 b)) (h : (own_v (val64 a) + own_v (val64 b)).natAbs < 2 ^ 1107) :
    own_N (val64 (FP.dadd a b)) ∧ 2 * (own_v (val64 a) + own_v (val64 b)) ≤ 2 * own_v (val64 (FP.dadd a b)) + 2 ^ 1054 ∧ 2 * own_v (val64 (FP.dadd a b)) ≤ 2 * (own_v (val64 a) + own_v (val64 b)) + 2 ^ 1054 ∧ (0 ≤ own_v (val64 a) + own_v (val64 b) → 0 ≤ own_v (val64 (FP.dadd a b))) := by
  have e : val64 (FP.dadd a b) = round b64 (exactSum (val64 a) (val64 b)) := val64_dadd a b
  rw [e]
  exact own_sum ha hb h
theorem own_sub {a b : UInt64} (ha : own_N (val64 a)) (hb : own_N (val64 b)) (h : (own_v (val64 a) - own_v (val64 b)).natAbs < 2 ^ 1107) :
    own_N (val64 (FP.dsub a b)) ∧ 2 * (own_v (val64 a) - own_v (val64 b)) ≤ 2 * own_v (val64 (FP.dsub a b)) + 2 ^ 1054 ∧ 2 * own_v (val64 (FP.dsub a b)) ≤ 2 * (own_v (val64 a) - own_v (val64 b)) + 2 ^ 1054 ∧ (0 ≤ own_v (val64 a) - own_v (val64 b) → 0 ≤ own_v (val64 (FP.dsub a b))) := by
  have e : val64 (FP.dsub a b) = round b64 (exactSum (val64 a) (negate (val64 b))) := val64_dsub a b
  have n := own_negv (val64 b)
  have k := own_sum ha (own_negN hb) (by rw [n, ← Int.sub_eq_add_neg]; exact h)
  rw [n, ← Int.sub_eq_add_neg] at k
  rw [e]
  exact k
theorem own_cmp {a b : UInt64} (ha : own_N (val64 a)) (hb : own_N (val64 b)) (o : CmpOp) : cmpValue (FP.dcmp a b) o = if own_v (val64 a) < own_v (val64 b) then -1 else if own_v (val64 a) = own_v (val64 b) then 0 else 1 := by
  have e : FP.dcmp a b = some (compare (own_v (val64 a)) (own_v (val64 b))) := own_ord ha hb
  rw [e]
  show cmpValue (some (compareOfLessAndEq (own_v (val64 a)) (own_v (val64 b)))) o = _
  unfold compareOfLessAndEq
  split
  · cases o <;> rfl
  · split
    · cases o <;> rfl
    · cases o <;> rfl
theorem own_ang {x0 : Int32} {b : UInt64} {K : Nat} (hK : K ≤ 70) (hb : val64 b = .fin false (2 ^ 52) (-52 - (K : Int))) :
    own_N (val64 (FP.dmul (FP.i2d x0) b)) ∧ own_v (val64 (FP.dmul (FP.i2d x0) b)) = x0.toInt * 2 ^ (1074 - K) := by
  have r := rng32 x0
  have hn : x0.toInt.natAbs < 2 ^ 53 := by
    have : x0.toInt.natAbs ≤ 2147483648 := by omega
    exact Nat.lt_of_le_of_lt this (by decide)
  obtain ⟨c, q, h1, h2, h3⟩ := own_rx (s := decide (x0.toInt < 0)) (A := x0.toInt.natAbs) (M := x0.toInt.natAbs) (e := 0) (j := 0) hn (fun _ => by decide) (by decide) (by decide) rfl
  have e1 : val64 (FP.i2d x0) = .fin (decide (x0.toInt < 0)) c q := (val64_i2d x0).trans h1
  have f := val64_fits (FP.i2d x0)
  rw [e1] at f
  rw [show (0 + 1074 : Int).toNat = 1074 from rfl] at h3
  have hq : x0.toInt.natAbs ≠ 0 → -53 < q := by
    intro z
    have k1 : c * 2 ^ (q + 1074).toNat ≥ 2 ^ 1074 := by rw [h3]; exact Nat.le_mul_of_pos_left _ (by omega)
    have k2 : c * 2 ^ (q + 1074).toNat < 2 ^ 53 * 2 ^ (q + 1074).toNat := Nat.mul_lt_mul_of_pos_right f.1 (Nat.two_pow_pos _)
    rw [← Nat.pow_add] at k2
    have k3 := (Nat.pow_lt_pow_iff_right (by decide : 1 < 2)).mp (Nat.lt_of_le_of_lt k1 k2)
    omega
  have hc0 : c = 0 ∨ x0.toInt.natAbs ≠ 0 := by
    by_cases z : x0.toInt.natAbs = 0
    · left
      rw [z, Nat.zero_mul] at h3
      rcases Nat.mul_eq_zero.mp h3 with u | u
      · exact u
      · exact absurd u (Nat.pos_iff_ne_zero.mp (Nat.two_pow_pos _))
    · exact Or.inr z
  have hA : c * 2 ^ 52 * 2 ^ (q + (-52 - (K : Int)) + 1074).toNat = x0.toInt.natAbs * 2 ^ (-(K : Int) + 1074).toNat := by
    rcases hc0 with z | z
    · rw [z, Nat.zero_mul] at h3
      have z2 : x0.toInt.natAbs = 0 := by
        rcases Nat.mul_eq_zero.mp h3.symm with u | u
        · exact u
        · exact absurd u (Nat.pos_iff_ne_zero.mp (Nat.two_pow_pos _))
      rw [z, z2]; simp
    · have hq' := hq z
      apply Nat.eq_of_mul_eq_mul_right (Nat.two_pow_pos K)
      rw [Nat.mul_assoc, Nat.mul_assoc, Nat.mul_assoc, ← Nat.pow_add, ← Nat.pow_add, ← Nat.pow_add, show 52 + ((q + (-52 - (K : Int)) + 1074).toNat + K) = (q + 1074).toNat from by omega, show (-(K : Int) + 1074).toNat + K = 1074 from by omega]
      exact h3
  obtain ⟨c', q', k1, k2, k3⟩ := own_rx (s := decide (x0.toInt < 0) != false) (A := c * 2 ^ 52) (M := x0.toInt.natAbs) (e := q + (-52 - (K : Int))) (j := -(K : Int)) hn (fun z => by
    rcases hc0 with u | u
    · rw [u] at z; simp at z
    · have := hq u; omega) (by omega) (by omega) hA
  have e2 : val64 (FP.dmul (FP.i2d x0) b) = .fin (decide (x0.toInt < 0) != false) c' q' := by
    have t : val64 (FP.dmul (FP.i2d x0) b) = round b64 (exactProduct (val64 (FP.i2d x0)) (val64 b)) := val64_dmul _ _
    rw [t, e1, hb]
    exact k1
  rw [e2]
  refine ⟨⟨_, c', q', rfl, k2⟩, ?_⟩
  show signed (decide (x0.toInt < 0) != false) (c' * 2 ^ (q' + 1074).toNat) = _
  rw [k3, hA, ← own_sgm, show (-(K : Int) + 1074).toNat = 1074 - K from by omega, Int.natCast_pow]
  congr 1
  rw [own_sg]
  by_cases k : x0.toInt < 0
  · rw [if_pos (by simpa using k)]; omega
  · rw [if_neg (by simpa using k)]; omega
end OwnFP4
theorem own_k44 (m : MethodId) (x0 : Int32) (x1 : Int32) : entryFrame m #[(.int x0), (.int x1)] maxLocals = mkF m 0 #[.val (.int x0), .val (.int x1), .unset, .unset, .unset, .unset, .unset, .unset, .unset, .unset, .unset, .unset, .unset, .unset, .unset, .unset] [] := by first | (simp [entryFrame, mkF, argsToLocals, Value.category, maxLocals]; done) | rfl
theorem own_k45 : parseMethodDescriptor "(I)D" = some ⟨[.int], some .double⟩ := by decide +kernel
theorem own_k46 : parseMethodDescriptor "(D)D" = some ⟨[.double], some .double⟩ := by decide +kernel
def own_j0_77_s0 (x0 : Int32) (x1 : Int32) : UInt64 := (if (cmpValue (FP.dcmp (FP.ddiv (FP.dsub (FP.dmul (FP.i2d x0) (own_f1 x1)) (own_f2 (FP.dmul (FP.i2d x0) (own_f1 x1)))) (4618760256179416344 : UInt64)) (0 : UInt64)) .g) < (0 : Int32) then (FP.dsub (FP.ddiv (FP.dsub (FP.dmul (FP.i2d x0) (own_f1 x1)) (own_f2 (FP.dmul (FP.i2d x0) (own_f1 x1)))) (4618760256179416344 : UInt64)) (4602678819172646912 : UInt64)) else (FP.dadd (FP.ddiv (FP.dsub (FP.dmul (FP.i2d x0) (own_f1 x1)) (own_f2 (FP.dmul (FP.i2d x0) (own_f1 x1)))) (4618760256179416344 : UInt64)) (4602678819172646912 : UInt64)))
section OwnFP5
open Jvm.FP Jvm.FP.Core
set_option maxRecDepth 100000
theorem own_Tv : val64 (4618760256179416344 : UInt64) = .fin false 7074237752028440 (-50) := by decide +kernel
theorem own_0v : val64 (0 : UInt64) = .fin false 0 (-1074) := by decide +kernel
theorem own_hv : val64 (4602678819172646912 : UInt64) = .fin false 4503599627370496 (-53) := by decide +kernel
def own_E : Int := 2 ^ 1024
theorem own_Ep : 0 < own_E := Int.pow_pos (by decide)
theorem own_pw {k m : Nat} (h : m = 1024 + k) : (2 : Int) ^ m = 2 ^ k * own_E := by
  rw [h, Int.pow_add, Int.mul_comm]; rfl
theorem own_bd {x : Int} (h1 : - (9671406556917033397649408 * own_E) < x) (h2 : x < 9671406556917033397649408 * own_E) : x.natAbs < 2 ^ 1107 := by
  have e : ((2 ^ 1107 : Nat) : Int) = 9671406556917033397649408 * own_E := by
    rw [Int.natCast_pow]
    exact (own_pw (k := 83) rfl).trans (by decide)
  have : (x.natAbs : Int) < ((2 ^ 1107 : Nat) : Int) := by
    rw [e]
    generalize 9671406556917033397649408 * own_E = B at *
    omega
  exact Int.ofNat_lt.mp this
theorem own_H : (2 : Int) ^ 1054 = 1073741824 * own_E := (own_pw (k := 30) rfl).trans (by decide)
theorem own_TN : own_N (val64 (4618760256179416344 : UInt64)) ∧ own_v (val64 (4618760256179416344 : UInt64)) = 7074237752028440 * own_E := by
  rw [own_Tv]
  refine ⟨⟨_, _, _, rfl, by decide⟩, ?_⟩
  show ((7074237752028440 * 2 ^ 1024 : Nat) : Int) = _
  rw [Int.natCast_mul, Int.natCast_pow]
  rfl
theorem own_0N : own_N (val64 (0 : UInt64)) ∧ own_v (val64 (0 : UInt64)) = 0 := by
  rw [own_0v]
  exact ⟨⟨_, _, _, rfl, by decide⟩, by show ((0 * 2 ^ ((-1074 : Int) + 1074).toNat : Nat) : Int) = 0; simp⟩
theorem own_hN : own_N (val64 (4602678819172646912 : UInt64)) ∧ own_v (val64 (4602678819172646912 : UInt64)) = 562949953421312 * own_E := by
  rw [own_hv]
  refine ⟨⟨_, _, _, rfl, by decide⟩, ?_⟩
  show ((4503599627370496 * 2 ^ 1021 : Nat) : Int) = _
  have e : own_E = 8 * 2 ^ 1021 := by
    unfold own_E
    rw [show 1024 = 3 + 1021 from rfl, Int.pow_add]
    rfl
  rw [Int.natCast_mul, Int.natCast_pow, e, ← Int.mul_assoc]
  rfl
end OwnFP5
section OwnFP6
open Jvm.FP Jvm.FP.Core
set_option maxRecDepth 100000
/-- the remainder by a full turn -/
theorem own_rem {a : UInt64} (ha : own_N (val64 a)) (hb : (own_v (val64 a)).natAbs < 2 ^ 1107) :
    own_N (val64 (FP.drem a (4618760256179416344 : UInt64))) ∧ own_v (val64 (FP.drem a (4618760256179416344 : UInt64))) = (own_v (val64 a)).tmod (7074237752028440 * own_E) := by
  obtain ⟨s, c, q, e, hc, hq, hq2, hv⟩ := own_shape ha hb
  have k := own_remd (s := s) (t := false) (c := c) (d := 7074237752028440) (q := q) (r := -50) hc (by decide) (by decide) hq (by decide) hq2 (by decide)
  have t : val64 (FP.drem a (4618760256179416344 : UInt64)) = round b64 (exactRemainder (val64 a) (val64 (4618760256179416344 : UInt64))) := val64_drem _ _
  rw [t, hv, own_Tv, e]
  refine ⟨k.1, k.2.trans ?_⟩
  have eT : (7074237752028440 * own_E : Int) = ((7074237752028440 * 2 ^ ((-50 : Int) + 1074).toNat : Nat) : Int) := by
    rw [Int.natCast_mul, Int.natCast_pow]; rfl
  rw [eT, own_sg, own_sg]
  generalize c * 2 ^ (q + 1074).toNat = x
  generalize 7074237752028440 * 2 ^ ((-50 : Int) + 1074).toNat = y
  cases s
  · rfl
  · show -((x % y : Nat) : Int) = (-(x : Int)).tmod y
    rw [Int.neg_tmod]; rfl
theorem own_f2v {a : UInt64} (ha : own_N (val64 a)) (h1 : - (2417851639229258349412352 * own_E) ≤ own_v (val64 a)) (h2 : own_v (val64 a) ≤ 2417851639229258349412352 * own_E) :
    own_N (val64 (FP.drem a (4618760256179416344 : UInt64))) ∧ (own_v (val64 (FP.drem a (4618760256179416344 : UInt64))) < 0 → own_N (val64 (FP.dadd (FP.drem a (4618760256179416344 : UInt64)) (4618760256179416344 : UInt64)))) ∧ own_N (val64 (own_f2 a)) ∧ 0 ≤ own_v (val64 (own_f2 a)) ∧ own_v (val64 (own_f2 a)) < 7074237752028440 * own_E ∧
      (0 ≤ own_v (val64 a) → own_v (val64 a) < 7074237752028440 * own_E → own_v (val64 (own_f2 a)) = own_v (val64 a)) ∧
      ∃ N : Int, own_v (val64 a) - own_v (val64 (own_f2 a)) - 7074237752028440 * (N * own_E) ≤ 536870912 * own_E ∧ - (536870912 * own_E) ≤ own_v (val64 a) - own_v (val64 (own_f2 a)) - 7074237752028440 * (N * own_E) := by
  have hE := own_Ep
  obtain ⟨r1, r2⟩ := own_rem ha (own_bd (by omega) (by omega))
  obtain ⟨t1, t2⟩ := own_TN
  obtain ⟨z1, z2⟩ := own_0N
  have hT : (0 : Int) < 7074237752028440 * own_E := by omega
  have m1 := Int.tmod_add_mul_tdiv (own_v (val64 a)) (7074237752028440 * own_E)
  have m2 := Int.tmod_lt_of_pos (own_v (val64 a)) hT
  have m3 : - (7074237752028440 * own_E) < (own_v (val64 a)).tmod (7074237752028440 * own_E) := by
    have q := Int.tmod_lt_of_pos (- own_v (val64 a)) hT
    rw [Int.neg_tmod] at q
    omega
  have m4 : 0 ≤ own_v (val64 a) → 0 ≤ (own_v (val64 a)).tmod (7074237752028440 * own_E) := fun h => Int.tmod_nonneg _ h
  have m5 : 0 ≤ own_v (val64 a) → own_v (val64 a) < 7074237752028440 * own_E → (own_v (val64 a)).tmod (7074237752028440 * own_E) = own_v (val64 a) := fun u v => Int.tmod_eq_of_lt u v
  rw [show 7074237752028440 * own_E * (own_v (val64 a)).tdiv (7074237752028440 * own_E) = 7074237752028440 * ((own_v (val64 a)).tdiv (7074237752028440 * own_E) * own_E) from by rw [Int.mul_assoc, Int.mul_comm own_E]] at m1
  generalize (own_v (val64 a)).tdiv (7074237752028440 * own_E) = N0 at m1
  generalize (own_v (val64 a)).tmod (7074237752028440 * own_E) = r0 at *
  have c1 := own_cmp r1 z1 .g
  rw [r2, z2] at c1
  have hN1 : (N0 - 1) * own_E = N0 * own_E - own_E := by rw [Int.sub_mul, Int.one_mul]
  unfold own_f2
  by_cases k : r0 < 0
  · have s := own_add r1 t1 (by rw [r2, t2]; exact own_bd (by omega) (by omega))
    rw [own_H, r2, t2] at s
    obtain ⟨s1, s2, s3, s4⟩ := s
    have c2 := own_cmp s1 t1 .l
    rw [t2] at c2
    refine ⟨r1, fun _ => s1, ?_⟩
    have c1' : cmpValue (FP.dcmp (FP.drem a (4618760256179416344 : UInt64)) 0) .g < (0 : Int32) := by rw [c1, if_pos k]; decide
    rw [if_pos c1']
    by_cases k2 : own_v (val64 (FP.dadd (FP.drem a (4618760256179416344 : UInt64)) (4618760256179416344 : UInt64))) < 7074237752028440 * own_E
    · have c2' : cmpValue (FP.dcmp (FP.dadd (FP.drem a (4618760256179416344 : UInt64)) (4618760256179416344 : UInt64)) (4618760256179416344 : UInt64)) .l < (0 : Int32) := by rw [c2, if_pos k2]; decide
      rw [if_pos c2']
      refine ⟨s1, by omega, k2, fun u v => by have := m4 u; omega, N0 - 1, ?_⟩
      rw [hN1]
      generalize N0 * own_E = M at *
      omega
    · have c2' : ¬ cmpValue (FP.dcmp (FP.dadd (FP.drem a (4618760256179416344 : UInt64)) (4618760256179416344 : UInt64)) (4618760256179416344 : UInt64)) .l < (0 : Int32) := by
        rw [c2, if_neg k2]
        split <;> decide
      rw [if_neg c2']
      refine ⟨z1, by rw [z2]; exact Int.le_refl _, by rw [z2]; exact hT, fun u v => by have := m4 u; omega, N0, ?_⟩
      rw [z2]
      generalize N0 * own_E = M at *
      omega
  · refine ⟨r1, fun q => absurd (r2 ▸ q) k, ?_⟩
    have c1' : ¬ cmpValue (FP.dcmp (FP.drem a (4618760256179416344 : UInt64)) 0) .g < (0 : Int32) := by
      rw [c1, if_neg k]
      split <;> decide
    rw [if_neg c1']
    have c2 := own_cmp r1 t1 .l
    rw [r2, t2, if_pos m2] at c2
    rw [if_pos (by rw [c2]; decide)]
    refine ⟨r1, by omega, by omega, fun u v => by rw [r2]; exact m5 u v, N0, ?_⟩
    rw [r2]
    generalize N0 * own_E = M at *
    omega
end OwnFP6
section OwnFP7
open Jvm.FP Jvm.FP.Core
set_option maxRecDepth 100000
theorem own_U : (2 : Int) ^ 1074 = 1125899906842624 * own_E := (own_pw (k := 50) rfl).trans (by decide)
theorem own_angK {x0 : Int32} {b : UInt64} {K : Nat} (hK : K ≤ 70) (hb : val64 b = .fin false (2 ^ 52) (-52 - (K : Int))) :
    own_N (val64 (FP.dmul (FP.i2d x0) b)) ∧ - (2417851639229258349412352 * own_E) ≤ own_v (val64 (FP.dmul (FP.i2d x0) b)) ∧ own_v (val64 (FP.dmul (FP.i2d x0) b)) ≤ 2417851639229258349412352 * own_E := by
  obtain ⟨h1, h2⟩ := own_ang (x0 := x0) hK hb
  refine ⟨h1, ?_⟩
  rw [h2]
  have r := rng32 x0
  have p0 : (0 : Int) ≤ 2 ^ (1074 - K) := Int.le_of_lt (Int.pow_pos (by decide))
  have p1 : (2 : Int) ^ (1074 - K) ≤ 1125899906842624 * own_E := by
    rw [← own_U]
    have := Nat.pow_le_pow_right (n := 2) (by decide) (show 1074 - K ≤ 1074 by omega)
    have k : ((2 ^ (1074 - K) : Nat) : Int) ≤ ((2 ^ 1074 : Nat) : Int) := Int.ofNat_le.mpr this
    rwa [Int.natCast_pow, Int.natCast_pow] at k
  generalize (2 : Int) ^ (1074 - K) = P at *
  have b1 : x0.toInt * P ≤ 2147483648 * P := Int.mul_le_mul_of_nonneg_right (by omega) p0
  have b2 : (-2147483648) * P ≤ x0.toInt * P := Int.mul_le_mul_of_nonneg_right (by omega) p0
  omega
theorem own_angB (x0 x1 : Int32) : own_N (val64 (FP.dmul (FP.i2d x0) (own_f1 x1))) ∧ - (2417851639229258349412352 * own_E) ≤ own_v (val64 (FP.dmul (FP.i2d x0) (own_f1 x1))) ∧ own_v (val64 (FP.dmul (FP.i2d x0) (own_f1 x1))) ≤ 2417851639229258349412352 * own_E := by
  unfold own_f1
  split
  · exact own_angK (K := 0) (by decide) (by decide +kernel)
  · split
    · exact own_angK (K := 10) (by decide) (by decide +kernel)
    · split
      · exact own_angK (K := 40) (by decide) (by decide +kernel)
      · exact own_angK (K := 70) (by decide) (by decide +kernel)
theorem own_divT {d : UInt64} (hd : own_N (val64 d)) (h1 : - (4835703278458516698824704 * own_E) ≤ own_v (val64 d)) (h2 : own_v (val64 d) ≤ 4835703278458516698824704 * own_E) :
    own_N (val64 (FP.ddiv d (4618760256179416344 : UInt64))) ∧ 2251799813685248 * own_v (val64 d) ≤ 14148475504056880 * own_v (val64 (FP.ddiv d (4618760256179416344 : UInt64))) + 7074237752028440 * (1073741824 * own_E) ∧
      14148475504056880 * own_v (val64 (FP.ddiv d (4618760256179416344 : UInt64))) ≤ 2251799813685248 * own_v (val64 d) + 7074237752028440 * (1073741824 * own_E) := by
  have hE := own_Ep
  obtain ⟨s, c, q, e, hc, hq, hq2, hv⟩ := own_shape hd (own_bd (by omega) (by omega))
  have t : val64 (FP.ddiv d (4618760256179416344 : UInt64)) = quotient b64 (val64 d) (val64 (4618760256179416344 : UInt64)) := val64_ddiv _ _
  have ex : c * 2 ^ (q - -50 + 1074).toNat = c * 2 ^ (q + 1074).toNat * 1125899906842624 := by
    rw [show (q - -50 + 1074).toNat = (q + 1074).toNat + 50 from by omega, Nat.pow_add, ← Nat.mul_assoc]
  have hx : ((c * 2 ^ (q + 1074).toNat : Nat) : Int) ≤ 4835703278458516698824704 * own_E := by
    rw [hv, own_sg] at h1 h2
    generalize c * 2 ^ (q + 1074).toNat = x at *
    cases s
    · simpa using h2
    · simp only [if_true] at h1; omega
  have hH : ((2 ^ 1054 : Nat) : Int) = 1073741824 * own_E := by rw [Int.natCast_pow]; exact own_H
  have hB : ((2 ^ 1107 : Nat) : Int) = 9671406556917033397649408 * own_E := by
    rw [Int.natCast_pow]; exact (own_pw (k := 83) rfl).trans (by decide)
  obtain ⟨c', q', k1, k2, k3, k4⟩ := own_div (s := s) (t := false) (c := c) (d := 7074237752028440) (q := q) (r := -50) (by decide) (fun _ => by omega) (by
    rw [ex]
    generalize c * 2 ^ (q + 1074).toNat = x at *
    generalize 2 ^ 1107 = B at *
    omega)
  rw [t, own_Tv, e, k1]
  refine ⟨⟨_, c', q', rfl, k2⟩, ?_⟩
  rw [ex] at k3 k4
  show 2251799813685248 * signed s (c * 2 ^ (q + 1074).toNat) ≤ 14148475504056880 * signed (s != false) (c' * 2 ^ (q' + 1074).toNat) + _ ∧ 14148475504056880 * signed (s != false) (c' * 2 ^ (q' + 1074).toNat) ≤ 2251799813685248 * signed s (c * 2 ^ (q + 1074).toNat) + _
  rw [own_sg, own_sg]
  generalize c * 2 ^ (q + 1074).toNat = x at *
  generalize c' * 2 ^ (q' + 1074).toNat = y at *
  generalize 2 ^ 1054 = H at *
  cases s
  · simp only [Bool.false_eq_true, if_false, bne_self_eq_false]; omega
  · simp only [if_true, Bool.true_bne, Bool.not_false]; omega
end OwnFP7
section OwnFP8
open Jvm.FP Jvm.FP.Core
set_option maxRecDepth 100000
/-- rounded toward nought, beside the middle between two whole numbers -/
theorem own_d2l {j : UInt64} {N : Int} (hj : own_N (val64 j)) (hN1 : -1000000000000 < N) (hN2 : N < 1000000000000)
    (h : (0 ≤ N ∧ 1125899906842624 * (N * own_E) < own_v (val64 j) ∧ own_v (val64 j) < 1125899906842624 * (N * own_E) + 1125899906842624 * own_E) ∨ (N ≤ 0 ∧ own_v (val64 j) < 1125899906842624 * (N * own_E) ∧ 1125899906842624 * (N * own_E) - 1125899906842624 * own_E < own_v (val64 j))) :
    (FP.d2l j).toInt = N := by
  have hE := own_Ep
  obtain ⟨s, c, q, e, hq⟩ := hj
  have hU : ((2 ^ 1074 : Nat) : Int) = 1125899906842624 * own_E := by rw [Int.natCast_pow]; exact own_U
  have key : truncate s c q = N := by
    rw [own_trunc hq]
    have hv : own_v (val64 j) = signed s (c * 2 ^ (q + 1074).toNat) := by rw [e]; rfl
    rw [hv, own_sg] at h
    rw [own_sg]
    generalize c * 2 ^ (q + 1074).toNat = x at *
    have hUp : 0 < 2 ^ 1074 := Nat.two_pow_pos _
    have nn : ∀ {n : Nat}, (N.natAbs = n) → ((n * 2 ^ 1074 : Nat) : Int) = n * (1125899906842624 * own_E) := fun {n} _ => by rw [Int.natCast_mul, hU]
    have hn := nn (n := N.natAbs) rfl
    have hn1 : (((N.natAbs + 1) * 2 ^ 1074 : Nat) : Int) = N.natAbs * (1125899906842624 * own_E) + 1125899906842624 * own_E := by
      rw [Nat.add_mul, Nat.one_mul, Int.natCast_add, hn, hU]
    have comm : ∀ k : Int, k * (1125899906842624 * own_E) = 1125899906842624 * (k * own_E) := fun k => by rw [← Int.mul_assoc, Int.mul_comm k, Int.mul_assoc]
    rw [comm] at hn hn1
    rcases h with ⟨h0, h1, h2⟩ | ⟨h0, h1, h2⟩
    · have p0 : 0 ≤ N * own_E := Int.mul_nonneg h0 (Int.le_of_lt hE)
      have eN : (N.natAbs : Int) = N := by omega
      rw [eN] at hn hn1
      generalize 2 ^ 1074 = U at *
      generalize N * own_E = M at *
      cases s
      · simp only [Bool.false_eq_true, if_false] at h1 h2 ⊢
        have : x / U = N.natAbs := Nat.div_eq_of_lt_le (by omega) (by omega)
        rw [this]; omega
      · simp only [if_true] at h1 h2; omega
    · have p0 : N * own_E ≤ 0 := Int.mul_nonpos_of_nonpos_of_nonneg h0 (Int.le_of_lt hE)
      have eN : (N.natAbs : Int) = -N := by omega
      rw [eN, Int.neg_mul] at hn hn1
      generalize 2 ^ 1074 = U at *
      generalize N * own_E = M at *
      cases s
      · simp only [Bool.false_eq_true, if_false] at h1 h2; omega
      · simp only [if_true] at h1 h2 ⊢
        have : x / U = N.natAbs := Nat.div_eq_of_lt_le (by omega) (by omega)
        rw [this]; omega
  have e2 : FP.d2l j = .ofInt (toInt (-2 ^ 63) (2 ^ 63 - 1) (.fin s c q)) := by
    show toL (decode b64 j.toNat) = _
    rw [show decode b64 j.toNat = .fin s c q from e]
    rfl
  rw [e2]
  show (Int64.ofInt (max (-2 ^ 63) (min (2 ^ 63 - 1) (truncate s c q)))).toInt = N
  rw [key, show max (-2 ^ 63) (min (2 ^ 63 - 1) N) = N from by omega]
  exact Int64.toInt_ofInt_of_le (by omega) (by omega)
/-- a whole number of turns -/
theorem own_prT {n : Int64} {N : Int} (hn : n.toInt = N) (hN1 : -1000000000 < N) (hN2 : N < 1000000000) :
    own_N (val64 (FP.dmul (FP.l2d n) (4618760256179416344 : UInt64))) ∧ 14148475504056880 * (N * own_E) ≤ 2 * own_v (val64 (FP.dmul (FP.l2d n) (4618760256179416344 : UInt64))) + 1073741824 * own_E ∧ 2 * own_v (val64 (FP.dmul (FP.l2d n) (4618760256179416344 : UInt64))) ≤ 14148475504056880 * (N * own_E) + 1073741824 * own_E := by
  have hE := own_Ep
  have hb : N.natAbs < 2 ^ 53 := Nat.lt_of_lt_of_le (show N.natAbs < 1000000000 by omega) (by decide)
  obtain ⟨c, q, h1, h2, h3⟩ := own_rx (s := decide (N < 0)) (A := N.natAbs) (M := N.natAbs) (e := 0) (j := 0) hb (fun _ => by decide) (by decide) (by decide) rfl
  have e1 : val64 (FP.l2d n) = .fin (decide (N < 0)) c q := by
    have t : val64 (FP.l2d n) = round b64 (ofInt n.toInt) := val64_l2d n
    rw [t, hn]; exact h1
  have f := val64_fits (FP.l2d n)
  rw [e1] at f
  rw [show (0 + 1074 : Int).toNat = 1074 from rfl] at h3
  have hq : c * 7074237752028440 ≠ 0 → -53 < q := by
    intro z
    have zc : c ≠ 0 := fun u => z (by rw [u, Nat.zero_mul])
    have zN : 0 < N.natAbs := by
      rcases Nat.eq_zero_or_pos N.natAbs with u | u
      · rw [u, Nat.zero_mul] at h3
        rcases Nat.mul_eq_zero.mp h3 with w | w
        · exact absurd w zc
        · exact absurd w (Nat.pos_iff_ne_zero.mp (Nat.two_pow_pos _))
      · exact u
    have k1 : c * 2 ^ (q + 1074).toNat ≥ 2 ^ 1074 := by rw [h3]; exact Nat.le_mul_of_pos_left _ zN
    have k2 : c * 2 ^ (q + 1074).toNat < 2 ^ 53 * 2 ^ (q + 1074).toNat := Nat.mul_lt_mul_of_pos_right f.1 (Nat.two_pow_pos _)
    rw [← Nat.pow_add] at k2
    have k3 := (Nat.pow_lt_pow_iff_right (by decide : 1 < 2)).mp (Nat.lt_of_le_of_lt k1 k2)
    omega
  have hA : c * 7074237752028440 * 2 ^ (q + -50 + 1074).toNat = N.natAbs * 7074237752028440 * 2 ^ 1024 := by
    by_cases z : c * 7074237752028440 = 0
    · have zc : c = 0 := by omega
      rw [zc, Nat.zero_mul] at h3
      have : N.natAbs = 0 := by
        rcases Nat.mul_eq_zero.mp h3.symm with w | w
        · exact w
        · exact absurd w (Nat.pos_iff_ne_zero.mp (Nat.two_pow_pos _))
      rw [zc, this]; simp
    · have hq' := hq z
      apply Nat.eq_of_mul_eq_mul_right (Nat.two_pow_pos 50)
      have u1 : c * 7074237752028440 * 2 ^ (q + -50 + 1074).toNat * 2 ^ 50 = c * 2 ^ (q + 1074).toNat * 7074237752028440 := by
        rw [Nat.mul_assoc (c * 7074237752028440), ← Nat.pow_add, show (q + -50 + 1074).toNat + 50 = (q + 1074).toNat from by omega]
        ac_rfl
      have u2 : N.natAbs * 7074237752028440 * 2 ^ 1024 * 2 ^ 50 = N.natAbs * 2 ^ 1074 * 7074237752028440 := by
        rw [Nat.mul_assoc (N.natAbs * 7074237752028440), ← Nat.pow_add]
        ac_rfl
      rw [u1, u2, h3]
  have hE2 : ((2 ^ 1024 : Nat) : Int) = own_E := by rw [Int.natCast_pow]; rfl
  have hB : ((2 ^ 1107 : Nat) : Int) = 9671406556917033397649408 * own_E := by
    rw [Int.natCast_pow]; exact (own_pw (k := 83) rfl).trans (by decide)
  have hlt : N.natAbs * 7074237752028440 * 2 ^ 1024 < 2 ^ 1107 := by
    have a1 : N.natAbs * 7074237752028440 ≤ 7074237752028440000000000 := by omega
    have a2 := Nat.mul_le_mul_right (2 ^ 1024) a1
    refine Nat.lt_of_le_of_lt a2 ?_
    generalize 2 ^ 1107 = B at *
    generalize 2 ^ 1024 = D at *
    omega
  obtain ⟨m1, m2, m3⟩ := own_mul (s := decide (N < 0)) (t := false) (c := c) (d := 7074237752028440) (q := q) (r := -50) (fun z => by have := hq z; omega) (by rw [hA]; exact hlt)
  have t : val64 (FP.dmul (FP.l2d n) (4618760256179416344 : UInt64)) = round b64 (exactProduct (val64 (FP.l2d n)) (val64 (4618760256179416344 : UInt64))) := val64_dmul _ _
  rw [t, e1, own_Tv]
  refine ⟨m1, ?_⟩
  rw [own_H, hA] at m2 m3
  have es : signed (decide (N < 0) != false) (N.natAbs * 7074237752028440 * 2 ^ 1024) = 7074237752028440 * (N * own_E) := by
    rw [← own_sgm, ← own_sgm, hE2, own_sg]
    have : (if (decide (N < 0) != false) = true then -(N.natAbs : Int) else (N.natAbs : Int)) = N := by
      by_cases k : N < 0
      · rw [if_pos (by simpa using k)]; omega
      · rw [if_neg (by simpa using k)]; omega
    rw [this, Int.mul_comm N, Int.mul_assoc]; rfl
  rw [es] at m2 m3
  generalize N * own_E = M at *
  omega
end OwnFP8
section OwnFP9
open Jvm.FP Jvm.FP.Core
set_option maxRecDepth 100000
theorem own_ev : val64 (4532020583610935537 : UInt64) = .fin false 5902958103587057 (-69) := by decide +kernel
theorem own_ew : val64 (13755392620465711345 : UInt64) = .fin true 5902958103587057 (-69) := by decide +kernel
theorem own_eb : 2147483648 * own_E < ((5902958103587057 * 2 ^ 1005 : Nat) : Int) := by
  have e : own_E = 524288 * 2 ^ 1005 := by
    unfold own_E
    rw [show 1024 = 19 + 1005 from rfl, Int.pow_add]
    rfl
  have c : ((2 ^ 1005 : Nat) : Int) = 2 ^ 1005 := by rw [Int.natCast_pow]; rfl
  have p : (0 : Int) < 2 ^ 1005 := Int.pow_pos (by decide)
  rw [e, Int.natCast_mul, c]
  generalize (2 : Int) ^ 1005 = x at *
  omega
theorem own_eN : own_N (val64 (4532020583610935537 : UInt64)) ∧ 2147483648 * own_E < own_v (val64 (4532020583610935537 : UInt64)) := by
  rw [own_ev]
  exact ⟨⟨_, _, _, rfl, by decide⟩, own_eb⟩
theorem own_eM : own_N (val64 (13755392620465711345 : UInt64)) ∧ own_v (val64 (13755392620465711345 : UInt64)) < - (2147483648 * own_E) := by
  rw [own_ew]
  refine ⟨⟨_, _, _, rfl, by decide⟩, ?_⟩
  show signed true (5902958103587057 * 2 ^ 1005) < _
  rw [own_sg, if_pos rfl]
  have := own_eb
  generalize ((5902958103587057 * 2 ^ 1005 : Nat) : Int) = x at *
  omega
theorem own_c1 {a r : UInt64} {N : Int} (ha : own_N (val64 a)) (hr : own_N (val64 r)) (h1 : - (2417851639229258349412352 * own_E) ≤ own_v (val64 a)) (h2 : own_v (val64 a) ≤ 2417851639229258349412352 * own_E) (r0 : 0 ≤ own_v (val64 r)) (r1 : own_v (val64 r) < 7074237752028440 * own_E)
    (n1 : own_v (val64 a) - own_v (val64 r) - 7074237752028440 * (N * own_E) ≤ 536870912 * own_E) (n2 : - (536870912 * own_E) ≤ own_v (val64 a) - own_v (val64 r) - 7074237752028440 * (N * own_E)) :
    own_N (val64 (FP.dsub a r)) ∧ - (4835703278458516698824704 * own_E) ≤ own_v (val64 (FP.dsub a r)) ∧ own_v (val64 (FP.dsub a r)) ≤ 4835703278458516698824704 * own_E ∧ own_v (val64 (FP.dsub a r)) - 7074237752028440 * (N * own_E) ≤ 1073741824 * own_E ∧ - (1073741824 * own_E) ≤ own_v (val64 (FP.dsub a r)) - 7074237752028440 * (N * own_E) := by
  have hE := own_Ep
  obtain ⟨s1, s2, s3, -⟩ := own_sub ha hr (own_bd (by omega) (by omega))
  rw [own_H] at s2 s3
  refine ⟨s1, ?_⟩
  generalize N * own_E = M at *
  omega
theorem own_cN {x N : Int} (h1 : - (4835703278458516698824704 * own_E) ≤ x) (h2 : x ≤ 4835703278458516698824704 * own_E) (n1 : x - 7074237752028440 * (N * own_E) ≤ 1073741824 * own_E) (n2 : - (1073741824 * own_E) ≤ x - 7074237752028440 * (N * own_E)) : -1000000000 < N ∧ N < 1000000000 := by
  have hE := own_Ep
  have k1 : N * own_E < 1000000000 * own_E := by
    generalize N * own_E = M at *
    omega
  have k2 : (-1000000000) * own_E < N * own_E := by
    generalize N * own_E = M at *
    omega
  exact ⟨Int.lt_of_mul_lt_mul_right k2 (Int.le_of_lt hE), Int.lt_of_mul_lt_mul_right k1 (Int.le_of_lt hE)⟩
theorem own_c2 {d : UInt64} {N : Int} (hd : own_N (val64 d)) (h1 : - (4835703278458516698824704 * own_E) ≤ own_v (val64 d)) (h2 : own_v (val64 d) ≤ 4835703278458516698824704 * own_E) (n1 : own_v (val64 d) - 7074237752028440 * (N * own_E) ≤ 1073741824 * own_E) (n2 : - (1073741824 * own_E) ≤ own_v (val64 d) - 7074237752028440 * (N * own_E)) :
    own_N (val64 (FP.ddiv d (4618760256179416344 : UInt64))) ∧ - (4835703278458516698824704 * own_E) ≤ own_v (val64 (FP.ddiv d (4618760256179416344 : UInt64))) ∧ own_v (val64 (FP.ddiv d (4618760256179416344 : UInt64))) ≤ 4835703278458516698824704 * own_E ∧ own_v (val64 (FP.ddiv d (4618760256179416344 : UInt64))) - 1125899906842624 * (N * own_E) ≤ 1073741824 * own_E ∧ - (1073741824 * own_E) ≤ own_v (val64 (FP.ddiv d (4618760256179416344 : UInt64))) - 1125899906842624 * (N * own_E) := by
  have hE := own_Ep
  obtain ⟨s1, s2, s3⟩ := own_divT hd h1 h2
  refine ⟨s1, ?_⟩
  generalize N * own_E = M at *
  generalize own_v (val64 (FP.ddiv d (4618760256179416344 : UInt64))) = Q at *
  generalize own_v (val64 d) = D at *
  generalize own_E = E at *
  omega
theorem own_c3 {q : UInt64} (hq : own_N (val64 q)) (h1 : - (4835703278458516698824704 * own_E) ≤ own_v (val64 q)) (h2 : own_v (val64 q) ≤ 4835703278458516698824704 * own_E) :
    (own_N (val64 (FP.dsub q (4602678819172646912 : UInt64))) ∧ 2 * (own_v (val64 q) - 562949953421312 * own_E) ≤ 2 * own_v (val64 (FP.dsub q (4602678819172646912 : UInt64))) + 1073741824 * own_E ∧ 2 * own_v (val64 (FP.dsub q (4602678819172646912 : UInt64))) ≤ 2 * (own_v (val64 q) - 562949953421312 * own_E) + 1073741824 * own_E) ∧
    (own_N (val64 (FP.dadd q (4602678819172646912 : UInt64))) ∧ 2 * (own_v (val64 q) + 562949953421312 * own_E) ≤ 2 * own_v (val64 (FP.dadd q (4602678819172646912 : UInt64))) + 1073741824 * own_E ∧ 2 * own_v (val64 (FP.dadd q (4602678819172646912 : UInt64))) ≤ 2 * (own_v (val64 q) + 562949953421312 * own_E) + 1073741824 * own_E) := by
  have hE := own_Ep
  obtain ⟨t1, t2⟩ := own_hN
  obtain ⟨s1, s2, s3, -⟩ := own_sub hq t1 (by rw [t2]; exact own_bd (by omega) (by omega))
  obtain ⟨u1, u2, u3, -⟩ := own_add hq t1 (by rw [t2]; exact own_bd (by omega) (by omega))
  rw [own_H, t2] at s2 s3 u2 u3
  exact ⟨⟨s1, s2, s3⟩, u1, u2, u3⟩
theorem own_c4 {q : UInt64} {N : Int} (hq : own_N (val64 q)) (h1 : - (4835703278458516698824704 * own_E) ≤ own_v (val64 q)) (h2 : own_v (val64 q) ≤ 4835703278458516698824704 * own_E) (n1 : own_v (val64 q) - 1125899906842624 * (N * own_E) ≤ 1073741824 * own_E) (n2 : - (1073741824 * own_E) ≤ own_v (val64 q) - 1125899906842624 * (N * own_E))
    (hN1 : -1000000000 < N) (hN2 : N < 1000000000) :
    (FP.d2l (if (cmpValue (FP.dcmp q (0 : UInt64)) .g) < (0 : Int32) then (FP.dsub q (4602678819172646912 : UInt64)) else (FP.dadd q (4602678819172646912 : UInt64)))).toInt = N := by
  have hE := own_Ep
  obtain ⟨z1, z2⟩ := own_0N
  obtain ⟨⟨s1, s2, s3⟩, u1, u2, u3⟩ := own_c3 hq h1 h2
  have c := own_cmp hq z1 .g
  rw [z2] at c
  by_cases k : own_v (val64 q) < 0
  · rw [if_pos (by rw [c, if_pos k]; decide)]
    have k1 : N * own_E < 1 * own_E := by
      generalize N * own_E = M at *
      omega
    have k2 := Int.lt_of_mul_lt_mul_right k1 (Int.le_of_lt hE)
    refine own_d2l s1 (by omega) (by omega) (Or.inr ⟨by omega, ?_⟩)
    generalize N * own_E = M at *
    omega
  · rw [if_neg (by rw [c, if_neg k]; split <;> decide)]
    have k1 : (-1) * own_E < N * own_E := by
      generalize N * own_E = M at *
      omega
    have k2 := Int.lt_of_mul_lt_mul_right k1 (Int.le_of_lt hE)
    refine own_d2l u1 (by omega) (by omega) (Or.inl ⟨by omega, ?_⟩)
    generalize N * own_E = M at *
    omega
theorem own_c5 {d : UInt64} {n : Int64} {N : Int} (hn : n.toInt = N) (hN1 : -1000000000 < N) (hN2 : N < 1000000000) (hd : own_N (val64 d)) (n1 : own_v (val64 d) - 7074237752028440 * (N * own_E) ≤ 1073741824 * own_E) (n2 : - (1073741824 * own_E) ≤ own_v (val64 d) - 7074237752028440 * (N * own_E)) :
    own_N (val64 (FP.dmul (FP.l2d n) (4618760256179416344 : UInt64))) ∧ own_N (val64 (FP.dsub d (FP.dmul (FP.l2d n) (4618760256179416344 : UInt64)))) ∧ - (2147483648 * own_E) ≤ own_v (val64 (FP.dsub d (FP.dmul (FP.l2d n) (4618760256179416344 : UInt64)))) ∧ own_v (val64 (FP.dsub d (FP.dmul (FP.l2d n) (4618760256179416344 : UInt64)))) ≤ 2147483648 * own_E := by
  have hE := own_Ep
  obtain ⟨p1, p2, p3⟩ := own_prT hn hN1 hN2
  obtain ⟨s1, s2, s3, -⟩ := own_sub hd p1 (own_bd (by generalize N * own_E = M at *; omega) (by generalize N * own_E = M at *; omega))
  rw [own_H] at s2 s3
  refine ⟨p1, s1, ?_⟩
  generalize N * own_E = M at *
  omega
theorem own_all (x0 x1 : Int32) : own_N (val64 (FP.dsub (FP.dmul (FP.i2d x0) (own_f1 x1)) (own_f2 (FP.dmul (FP.i2d x0) (own_f1 x1))))) ∧ own_N (val64 (FP.ddiv (FP.dsub (FP.dmul (FP.i2d x0) (own_f1 x1)) (own_f2 (FP.dmul (FP.i2d x0) (own_f1 x1)))) (4618760256179416344 : UInt64))) ∧ own_N (val64 (FP.dsub (FP.ddiv (FP.dsub (FP.dmul (FP.i2d x0) (own_f1 x1)) (own_f2 (FP.dmul (FP.i2d x0) (own_f1 x1)))) (4618760256179416344 : UInt64)) (4602678819172646912 : UInt64))) ∧ own_N (val64 (FP.dadd (FP.ddiv (FP.dsub (FP.dmul (FP.i2d x0) (own_f1 x1)) (own_f2 (FP.dmul (FP.i2d x0) (own_f1 x1)))) (4618760256179416344 : UInt64)) (4602678819172646912 : UInt64))) ∧ own_N (val64 (FP.dmul (FP.l2d (FP.d2l (own_j0_77_s0 x0 x1))) (4618760256179416344 : UInt64))) ∧ own_N (val64 (FP.dsub (FP.dsub (FP.dmul (FP.i2d x0) (own_f1 x1)) (own_f2 (FP.dmul (FP.i2d x0) (own_f1 x1)))) (FP.dmul (FP.l2d (FP.d2l (own_j0_77_s0 x0 x1))) (4618760256179416344 : UInt64)))) ∧ - (2147483648 * own_E) ≤ own_v (val64 (FP.dsub (FP.dsub (FP.dmul (FP.i2d x0) (own_f1 x1)) (own_f2 (FP.dmul (FP.i2d x0) (own_f1 x1)))) (FP.dmul (FP.l2d (FP.d2l (own_j0_77_s0 x0 x1))) (4618760256179416344 : UInt64)))) ∧ own_v (val64 (FP.dsub (FP.dsub (FP.dmul (FP.i2d x0) (own_f1 x1)) (own_f2 (FP.dmul (FP.i2d x0) (own_f1 x1)))) (FP.dmul (FP.l2d (FP.d2l (own_j0_77_s0 x0 x1))) (4618760256179416344 : UInt64)))) ≤ 2147483648 * own_E := by
  obtain ⟨a1, a2, a3⟩ := own_angB x0 x1
  obtain ⟨-, -, r1, r2, r3, -, N, n1, n2⟩ := own_f2v a1 a2 a3
  obtain ⟨d1, d2, d3, d4, d5⟩ := own_c1 a1 r1 a2 a3 r2 r3 n1 n2
  obtain ⟨N1, N2⟩ := own_cN d2 d3 d4 d5
  obtain ⟨q1, q2, q3, q4, q5⟩ := own_c2 d1 d2 d3 d4 d5
  obtain ⟨⟨j1, -⟩, j2, -⟩ := own_c3 q1 q2 q3
  have nN : (FP.d2l (own_j0_77_s0 x0 x1)).toInt = N := own_c4 q1 q2 q3 q4 q5 N1 N2
  obtain ⟨p1, e1, e2, e3⟩ := own_c5 nN N1 N2 d1 d4 d5
  exact ⟨d1, q1, j1, j2, p1, e1, e2, e3⟩
theorem own_nnA (x0 x1 : Int32) : Jvm.Free.Fl.NoNaN64 (FP.dmul (FP.i2d x0) (own_f1 x1)) := own_nn (own_angB x0 x1).1
theorem own_nn1 (x0 x1 : Int32) : Jvm.Free.Fl.NoNaN64 (FP.drem (FP.dmul (FP.i2d x0) (own_f1 x1)) (4618760256179416344 : UInt64)) := own_nn (own_f2v (own_angB x0 x1).1 (own_angB x0 x1).2.1 (own_angB x0 x1).2.2).1
theorem own_nn2 (x0 x1 : Int32) (q : (cmpValue (FP.dcmp (FP.drem (FP.dmul (FP.i2d x0) (own_f1 x1)) (4618760256179416344 : UInt64)) (0 : UInt64)) .g) < (0 : Int32)) : Jvm.Free.Fl.NoNaN64 (FP.dadd (FP.drem (FP.dmul (FP.i2d x0) (own_f1 x1)) (4618760256179416344 : UInt64)) (4618760256179416344 : UInt64)) := by
  obtain ⟨h1, h2, -⟩ := own_f2v (own_angB x0 x1).1 (own_angB x0 x1).2.1 (own_angB x0 x1).2.2
  refine own_nn (h2 ?_)
  have c := own_cmp h1 own_0N.1 .g
  rw [own_0N.2] at c
  rw [c] at q
  by_cases k : own_v (val64 (FP.drem (FP.dmul (FP.i2d x0) (own_f1 x1)) (4618760256179416344 : UInt64))) < 0
  · exact k
  · rw [if_neg k] at q
    revert q
    split <;> exact fun z => absurd z (by decide)
theorem own_nn3 (x0 x1 : Int32) : Jvm.Free.Fl.NoNaN64 (FP.dsub (FP.dmul (FP.i2d x0) (own_f1 x1)) (own_f2 (FP.dmul (FP.i2d x0) (own_f1 x1)))) := own_nn (own_all x0 x1).1
theorem own_nn4 (x0 x1 : Int32) : Jvm.Free.Fl.NoNaN64 (FP.ddiv (FP.dsub (FP.dmul (FP.i2d x0) (own_f1 x1)) (own_f2 (FP.dmul (FP.i2d x0) (own_f1 x1)))) (4618760256179416344 : UInt64)) := own_nn (own_all x0 x1).2.1
theorem own_nn5 (x0 x1 : Int32) : Jvm.Free.Fl.NoNaN64 (FP.dsub (FP.ddiv (FP.dsub (FP.dmul (FP.i2d x0) (own_f1 x1)) (own_f2 (FP.dmul (FP.i2d x0) (own_f1 x1)))) (4618760256179416344 : UInt64)) (4602678819172646912 : UInt64)) := own_nn (own_all x0 x1).2.2.1
theorem own_nn6 (x0 x1 : Int32) : Jvm.Free.Fl.NoNaN64 (FP.dadd (FP.ddiv (FP.dsub (FP.dmul (FP.i2d x0) (own_f1 x1)) (own_f2 (FP.dmul (FP.i2d x0) (own_f1 x1)))) (4618760256179416344 : UInt64)) (4602678819172646912 : UInt64)) := own_nn (own_all x0 x1).2.2.2.1
theorem own_nn7 (x0 x1 : Int32) : Jvm.Free.Fl.NoNaN64 (FP.dmul (FP.l2d (FP.d2l (own_j0_77_s0 x0 x1))) (4618760256179416344 : UInt64)) := own_nn (own_all x0 x1).2.2.2.2.1
theorem own_nn8 (x0 x1 : Int32) : Jvm.Free.Fl.NoNaN64 (FP.dsub (FP.dsub (FP.dmul (FP.i2d x0) (own_f1 x1)) (own_f2 (FP.dmul (FP.i2d x0) (own_f1 x1)))) (FP.dmul (FP.l2d (FP.d2l (own_j0_77_s0 x0 x1))) (4618760256179416344 : UInt64))) := own_nn (own_all x0 x1).2.2.2.2.2.1
theorem own_r0 (x0 x1 : Int32) : ¬ ((0 : Int32) < (cmpValue (FP.dcmp (0 : UInt64) (own_f2 (FP.dmul (FP.i2d x0) (own_f1 x1)))) .g)) := by
  obtain ⟨-, -, r1, r2, -⟩ := own_f2v (own_angB x0 x1).1 (own_angB x0 x1).2.1 (own_angB x0 x1).2.2
  rw [own_cmp own_0N.1 r1 .g, own_0N.2]
  generalize own_v (val64 (own_f2 (FP.dmul (FP.i2d x0) (own_f1 x1)))) = y at *
  split
  · decide
  · split
    · decide
    · omega
theorem own_r1 (x0 x1 : Int32) : (cmpValue (FP.dcmp (own_f2 (FP.dmul (FP.i2d x0) (own_f1 x1))) (4618760256179416344 : UInt64)) .g) < (0 : Int32) := by
  obtain ⟨-, -, r1, -, r3, -⟩ := own_f2v (own_angB x0 x1).1 (own_angB x0 x1).2.1 (own_angB x0 x1).2.2
  rw [own_cmp r1 own_TN.1 .g, own_TN.2, if_pos r3]
  decide
theorem own_same (x0 x1 : Int32) (hc40 : ¬ ((0 : Int32) < (cmpValue (FP.dcmp (0 : UInt64) (FP.dmul (FP.i2d x0) (own_f1 x1))) .g))) (hc47 : (cmpValue (FP.dcmp (FP.dmul (FP.i2d x0) (own_f1 x1)) (4618760256179416344 : UInt64)) .g) < (0 : Int32)) : (cmpValue (FP.dcmp (own_f2 (FP.dmul (FP.i2d x0) (own_f1 x1))) (FP.dmul (FP.i2d x0) (own_f1 x1))) .l) = (0 : Int32) := by
  have a1 := (own_angB x0 x1).1
  obtain ⟨-, -, r1, -, -, r4, -⟩ := own_f2v (own_angB x0 x1).1 (own_angB x0 x1).2.1 (own_angB x0 x1).2.2
  rw [own_cmp own_0N.1 a1 .g, own_0N.2] at hc40
  rw [own_cmp a1 own_TN.1 .g, own_TN.2] at hc47
  have k1 : 0 ≤ own_v (val64 (FP.dmul (FP.i2d x0) (own_f1 x1))) := by
    by_cases k : 0 ≤ own_v (val64 (FP.dmul (FP.i2d x0) (own_f1 x1)))
    · exact k
    · rw [if_neg (by omega), if_neg (by omega)] at hc40
      exact absurd (by decide) hc40
  have k2 : own_v (val64 (FP.dmul (FP.i2d x0) (own_f1 x1))) < 7074237752028440 * own_E := by
    by_cases k : own_v (val64 (FP.dmul (FP.i2d x0) (own_f1 x1))) < 7074237752028440 * own_E
    · exact k
    · rw [if_neg k] at hc47
      revert hc47
      split <;> exact fun z => absurd z (by decide)
  rw [own_cmp r1 a1 .l, r4 k1 k2, if_neg (Int.lt_irrefl _), if_pos rfl]
theorem own_e1 (x0 x1 : Int32) : (cmpValue (FP.dcmp (13755392620465711345 : UInt64) (FP.dsub (FP.dsub (FP.dmul (FP.i2d x0) (own_f1 x1)) (own_f2 (FP.dmul (FP.i2d x0) (own_f1 x1)))) (FP.dmul (FP.l2d (FP.d2l (own_j0_77_s0 x0 x1))) (4618760256179416344 : UInt64)))) .g) < (0 : Int32) := by
  obtain ⟨-, -, -, -, -, h1, h2, h3⟩ := own_all x0 x1
  rw [own_cmp own_eM.1 h1 .g, if_pos (Int.lt_of_lt_of_le own_eM.2 h2)]
  decide
theorem own_e2 (x0 x1 : Int32) : (cmpValue (FP.dcmp (FP.dsub (FP.dsub (FP.dmul (FP.i2d x0) (own_f1 x1)) (own_f2 (FP.dmul (FP.i2d x0) (own_f1 x1)))) (FP.dmul (FP.l2d (FP.d2l (own_j0_77_s0 x0 x1))) (4618760256179416344 : UInt64))) (4532020583610935537 : UInt64)) .g) < (0 : Int32) := by
  obtain ⟨-, -, -, -, -, h1, h2, h3⟩ := own_all x0 x1
  rw [own_cmp h1 own_eN.1 .g, if_pos (Int.lt_of_le_of_lt h3 own_eN.2)]
  decide
end OwnFP9
set_option maxRecDepth 65536 in
set_option maxHeartbeats 40000000 in
theorem own_rm0 (l : Launch) (Z : State) (a0 : Array Value) (hw : ∀ d ∈ tables_1, d.before a0 Z = true) (ws : List Jvm.Cond) (x0 : Int32) (x1 : Int32) (h0 : Heap) : Meets l Z x code maxLocals ret ws room_1 #[(.int x0), (.int x1)] h0 (PureR (some (.int (1 : Int32))) h0) := by
  refine meets_of (plainFor_of_name own_k21) ?_
  intro p e s m below meth c s₁ X0 hx hZ hby hml hret hlk hown hnm e0
  replace hml : c.maxLocals = 16 := hml
  replace hown : s.vm.findClass "com/example/sidik/sidik/template/AnglesNormalizePinLaw" = some m.cls := hown
  refine Go.cast (own_k44 m x0 x1) ?_
  refine Go.via (U' := s₁.setTop (mkF m 3 #[.val (.int x0), .val (.int x1), .unset, .unset, .unset, .unset, .unset, .unset, .unset, .unset, .unset, .unset, .unset, .unset, .unset, .unset] [(.double (4618760256179416344 : UInt64))])) (fun tG kG => X0.ldc2DoubleC hx hown (mvT hZ (hw _ (List.mem_of_getElem? (i := 0) rfl))) (g := (mkF m 0 #[.val (.int x0), .val (.int x1), .unset, .unset, .unset, .unset, .unset, .unset, .unset, .unset, .unset, .unset, .unset, .unset, .unset, .unset] [])) rfl (hb hby at_0) tG kG) ?_
  refine Go.via (U' := s₁.setTop (mkF m 4 #[.val (.int x0), .val (.int x1), .val (.double (4618760256179416344 : UInt64)), .second, .unset, .unset, .unset, .unset, .unset, .unset, .unset, .unset, .unset, .unset, .unset, .unset] [])) (fun tG kG => XS.dstoreN X0.here hx rfl (hb hby at_3) rfl (l' := #[.val (.int x0), .val (.int x1), .val (.double (4618760256179416344 : UInt64)), .second, .unset, .unset, .unset, .unset, .unset, .unset, .unset, .unset, .unset, .unset, .unset, .unset]) rfl kG) ?_
  refine Go.via (U' := s₁.setTop (mkF m 5 #[.val (.int x0), .val (.int x1), .val (.double (4618760256179416344 : UInt64)), .second, .unset, .unset, .unset, .unset, .unset, .unset, .unset, .unset, .unset, .unset, .unset, .unset] [(.int x0)])) (fun tG kG => XS.iloadN X0.here hx rfl (hb hby at_4) rfl kG) ?_
  refine Go.via (U' := s₁.setTop (mkF m 6 #[.val (.int x0), .val (.int x1), .val (.double (4618760256179416344 : UInt64)), .second, .unset, .unset, .unset, .unset, .unset, .unset, .unset, .unset, .unset, .unset, .unset, .unset] [(.double (FP.i2d x0))])) (fun tG kG => XS.i2dS X0.here hx rfl (hb hby at_5) rfl rfl kG) ?_
  refine Go.via (U' := s₁.setTop (mkF m 7 #[.val (.int x0), .val (.int x1), .val (.double (4618760256179416344 : UInt64)), .second, .unset, .unset, .unset, .unset, .unset, .unset, .unset, .unset, .unset, .unset, .unset, .unset] [(.int x1), (.double (FP.i2d x0))])) (fun tG kG => XS.iloadN X0.here hx rfl (hb hby at_6) rfl kG) ?_
  obtain ⟨T1, X1, e1, st1⟩ := callS0 X0 hx hZ hown (hw _ (List.mem_of_getElem? (i := 1) rfl)) (hw _ (List.mem_of_getElem? (i := 2) rfl)) (hw _ (List.mem_of_getElem? (i := 3) rfl)) (hw _ (List.mem_of_getElem? (i := 4) rfl)) (by decide) (av := [(.int x1)]) (own_rm1 l Z a0 hw [] x1  h0) e0 (pc := 7) (Ls := #[.val (.int x0), .val (.int x1), .val (.double (4618760256179416344 : UInt64)), .second, .unset, .unset, .unset, .unset, .unset, .unset, .unset, .unset, .unset, .unset, .unset, .unset]) (rest := [(.double (FP.i2d x0))]) (by rw [hml]; rfl) own_k45 rfl 2 (Nat.le_of_eq rfl) (by decide) (by decide) (by decide) (by decide) (hb hby at_7)
  refine Go.via (U' := T1.setTop (mkF m 10 #[.val (.int x0), .val (.int x1), .val (.double (4618760256179416344 : UInt64)), .second, .unset, .unset, .unset, .unset, .unset, .unset, .unset, .unset, .unset, .unset, .unset, .unset] [(.double (own_f1 x1)), (.double (FP.i2d x0))])) (fun tG kG => st1 tG kG) ?_
  refine Go.via (U' := T1.setTop (mkF m 11 #[.val (.int x0), .val (.int x1), .val (.double (4618760256179416344 : UInt64)), .second, .unset, .unset, .unset, .unset, .unset, .unset, .unset, .unset, .unset, .unset, .unset, .unset] [(.double (FP.dmul (FP.i2d x0) (own_f1 x1)))])) (fun tG kG => XS.dmulS X1.here hx rfl (hb hby at_10) rfl (own_nnA x0 x1) rfl kG) ?_
  refine Go.via (U' := T1.setTop (mkF m 13 #[.val (.int x0), .val (.int x1), .val (.double (4618760256179416344 : UInt64)), .second, .val (.double (FP.dmul (FP.i2d x0) (own_f1 x1))), .second, .unset, .unset, .unset, .unset, .unset, .unset, .unset, .unset, .unset, .unset] [])) (fun tG kG => XS.dstore X1.here hx rfl (hb hby at_11) rfl (l' := #[.val (.int x0), .val (.int x1), .val (.double (4618760256179416344 : UInt64)), .second, .val (.double (FP.dmul (FP.i2d x0) (own_f1 x1))), .second, .unset, .unset, .unset, .unset, .unset, .unset, .unset, .unset, .unset, .unset]) rfl kG) ?_
  refine Go.via (U' := T1.setTop (mkF m 15 #[.val (.int x0), .val (.int x1), .val (.double (4618760256179416344 : UInt64)), .second, .val (.double (FP.dmul (FP.i2d x0) (own_f1 x1))), .second, .unset, .unset, .unset, .unset, .unset, .unset, .unset, .unset, .unset, .unset] [(.double (FP.dmul (FP.i2d x0) (own_f1 x1)))])) (fun tG kG => XS.dload X1.here hx rfl (hb hby at_13) rfl kG) ?_
  obtain ⟨T2, X2, e2, st2⟩ := callS0 X1 hx hZ hown (hw _ (List.mem_of_getElem? (i := 6) rfl)) (hw _ (List.mem_of_getElem? (i := 7) rfl)) (hw _ (List.mem_of_getElem? (i := 8) rfl)) (hw _ (List.mem_of_getElem? (i := 9) rfl)) (by decide) (av := [(.double (FP.dmul (FP.i2d x0) (own_f1 x1)))]) (own_rm2 l Z a0 hw [] (FP.dmul (FP.i2d x0) (own_f1 x1))  h0 (own_nn1 x0 x1) (fun q => own_nn2 x0 x1 q)) e1 (pc := 15) (Ls := #[.val (.int x0), .val (.int x1), .val (.double (4618760256179416344 : UInt64)), .second, .val (.double (FP.dmul (FP.i2d x0) (own_f1 x1))), .second, .unset, .unset, .unset, .unset, .unset, .unset, .unset, .unset, .unset, .unset]) (rest := []) (by rw [hml]; rfl) own_k46 rfl 0 (Nat.le_of_eq rfl) (by decide) (by decide) (by decide) (by decide) (hb hby at_15)
  refine Go.via (U' := T2.setTop (mkF m 18 #[.val (.int x0), .val (.int x1), .val (.double (4618760256179416344 : UInt64)), .second, .val (.double (FP.dmul (FP.i2d x0) (own_f1 x1))), .second, .unset, .unset, .unset, .unset, .unset, .unset, .unset, .unset, .unset, .unset] [(.double (own_f2 (FP.dmul (FP.i2d x0) (own_f1 x1))))])) (fun tG kG => st2 tG kG) ?_
  refine Go.via (U' := T2.setTop (mkF m 20 #[.val (.int x0), .val (.int x1), .val (.double (4618760256179416344 : UInt64)), .second, .val (.double (FP.dmul (FP.i2d x0) (own_f1 x1))), .second, .val (.double (own_f2 (FP.dmul (FP.i2d x0) (own_f1 x1)))), .second, .unset, .unset, .unset, .unset, .unset, .unset, .unset, .unset] [])) (fun tG kG => XS.dstore X2.here hx rfl (hb hby at_18) rfl (l' := #[.val (.int x0), .val (.int x1), .val (.double (4618760256179416344 : UInt64)), .second, .val (.double (FP.dmul (FP.i2d x0) (own_f1 x1))), .second, .val (.double (own_f2 (FP.dmul (FP.i2d x0) (own_f1 x1)))), .second, .unset, .unset, .unset, .unset, .unset, .unset, .unset, .unset]) rfl kG) ?_
  refine Go.via (U' := T2.setTop (mkF m 21 #[.val (.int x0), .val (.int x1), .val (.double (4618760256179416344 : UInt64)), .second, .val (.double (FP.dmul (FP.i2d x0) (own_f1 x1))), .second, .val (.double (own_f2 (FP.dmul (FP.i2d x0) (own_f1 x1)))), .second, .unset, .unset, .unset, .unset, .unset, .unset, .unset, .unset] [(.double (0 : UInt64))])) (fun tG kG => XS.dconst0 X2.here hx rfl (hb hby at_20) rfl kG) ?_
  refine Go.via (U' := T2.setTop (mkF m 23 #[.val (.int x0), .val (.int x1), .val (.double (4618760256179416344 : UInt64)), .second, .val (.double (FP.dmul (FP.i2d x0) (own_f1 x1))), .second, .val (.double (own_f2 (FP.dmul (FP.i2d x0) (own_f1 x1)))), .second, .unset, .unset, .unset, .unset, .unset, .unset, .unset, .unset] [(.double (own_f2 (FP.dmul (FP.i2d x0) (own_f1 x1)))), (.double (0 : UInt64))])) (fun tG kG => XS.dload X2.here hx rfl (hb hby at_21) rfl kG) ?_
  refine Go.via (U' := T2.setTop (mkF m 24 #[.val (.int x0), .val (.int x1), .val (.double (4618760256179416344 : UInt64)), .second, .val (.double (FP.dmul (FP.i2d x0) (own_f1 x1))), .second, .val (.double (own_f2 (FP.dmul (FP.i2d x0) (own_f1 x1)))), .second, .unset, .unset, .unset, .unset, .unset, .unset, .unset, .unset] [(.int (cmpValue (FP.dcmp (0 : UInt64) (own_f2 (FP.dmul (FP.i2d x0) (own_f1 x1)))) .g))])) (fun tG kG => XS.dcmpS X2.here hx rfl (hb hby at_23) rfl rfl kG) ?_
  have hc24 : ¬ ((0 : Int32) < (cmpValue (FP.dcmp (0 : UInt64) (own_f2 (FP.dmul (FP.i2d x0) (own_f1 x1)))) .g)) := own_r0 x0 x1
  refine Go.via (U' := T2.setTop (mkF m 27 #[.val (.int x0), .val (.int x1), .val (.double (4618760256179416344 : UInt64)), .second, .val (.double (FP.dmul (FP.i2d x0) (own_f1 x1))), .second, .val (.double (own_f2 (FP.dmul (FP.i2d x0) (own_f1 x1)))), .second, .unset, .unset, .unset, .unset, .unset, .unset, .unset, .unset] [])) (fun tG kG => XS.ifNo X2.here hx rfl (hb hby at_24) rfl ((if0 _ _).trans (flt hc24).2.2.1) kG) ?_
  refine Go.via (U' := T2.setTop (mkF m 29 #[.val (.int x0), .val (.int x1), .val (.double (4618760256179416344 : UInt64)), .second, .val (.double (FP.dmul (FP.i2d x0) (own_f1 x1))), .second, .val (.double (own_f2 (FP.dmul (FP.i2d x0) (own_f1 x1)))), .second, .unset, .unset, .unset, .unset, .unset, .unset, .unset, .unset] [(.double (own_f2 (FP.dmul (FP.i2d x0) (own_f1 x1))))])) (fun tG kG => XS.dload X2.here hx rfl (hb hby at_27) rfl kG) ?_
  refine Go.via (U' := T2.setTop (mkF m 30 #[.val (.int x0), .val (.int x1), .val (.double (4618760256179416344 : UInt64)), .second, .val (.double (FP.dmul (FP.i2d x0) (own_f1 x1))), .second, .val (.double (own_f2 (FP.dmul (FP.i2d x0) (own_f1 x1)))), .second, .unset, .unset, .unset, .unset, .unset, .unset, .unset, .unset] [(.double (4618760256179416344 : UInt64)), (.double (own_f2 (FP.dmul (FP.i2d x0) (own_f1 x1))))])) (fun tG kG => XS.dloadN X2.here hx rfl (hb hby at_29) rfl kG) ?_
  refine Go.via (U' := T2.setTop (mkF m 31 #[.val (.int x0), .val (.int x1), .val (.double (4618760256179416344 : UInt64)), .second, .val (.double (FP.dmul (FP.i2d x0) (own_f1 x1))), .second, .val (.double (own_f2 (FP.dmul (FP.i2d x0) (own_f1 x1)))), .second, .unset, .unset, .unset, .unset, .unset, .unset, .unset, .unset] [(.int (cmpValue (FP.dcmp (own_f2 (FP.dmul (FP.i2d x0) (own_f1 x1))) (4618760256179416344 : UInt64)) .g))])) (fun tG kG => XS.dcmpS X2.here hx rfl (hb hby at_30) rfl rfl kG) ?_
  have hc31 : (cmpValue (FP.dcmp (own_f2 (FP.dmul (FP.i2d x0) (own_f1 x1))) (4618760256179416344 : UInt64)) .g) < (0 : Int32) := own_r1 x0 x1
  refine Go.via (U' := T2.setTop (mkF m 36 #[.val (.int x0), .val (.int x1), .val (.double (4618760256179416344 : UInt64)), .second, .val (.double (FP.dmul (FP.i2d x0) (own_f1 x1))), .second, .val (.double (own_f2 (FP.dmul (FP.i2d x0) (own_f1 x1)))), .second, .unset, .unset, .unset, .unset, .unset, .unset, .unset, .unset] [])) (fun tG kG => XS.ifYes X2.here hx rfl (pc0 := 31) (pc' := 36) rfl (hb hby at_31) rfl ((if0 _ _).trans (tlt hc31).1) (by decide) (by decide) kG) ?_
  refine Go.via (U' := T2.setTop (mkF m 37 #[.val (.int x0), .val (.int x1), .val (.double (4618760256179416344 : UInt64)), .second, .val (.double (FP.dmul (FP.i2d x0) (own_f1 x1))), .second, .val (.double (own_f2 (FP.dmul (FP.i2d x0) (own_f1 x1)))), .second, .unset, .unset, .unset, .unset, .unset, .unset, .unset, .unset] [(.double (0 : UInt64))])) (fun tG kG => XS.dconst0 X2.here hx rfl (hb hby at_36) rfl kG) ?_
  refine Go.via (U' := T2.setTop (mkF m 39 #[.val (.int x0), .val (.int x1), .val (.double (4618760256179416344 : UInt64)), .second, .val (.double (FP.dmul (FP.i2d x0) (own_f1 x1))), .second, .val (.double (own_f2 (FP.dmul (FP.i2d x0) (own_f1 x1)))), .second, .unset, .unset, .unset, .unset, .unset, .unset, .unset, .unset] [(.double (FP.dmul (FP.i2d x0) (own_f1 x1))), (.double (0 : UInt64))])) (fun tG kG => XS.dload X2.here hx rfl (hb hby at_37) rfl kG) ?_
  refine Go.via (U' := T2.setTop (mkF m 40 #[.val (.int x0), .val (.int x1), .val (.double (4618760256179416344 : UInt64)), .second, .val (.double (FP.dmul (FP.i2d x0) (own_f1 x1))), .second, .val (.double (own_f2 (FP.dmul (FP.i2d x0) (own_f1 x1)))), .second, .unset, .unset, .unset, .unset, .unset, .unset, .unset, .unset] [(.int (cmpValue (FP.dcmp (0 : UInt64) (FP.dmul (FP.i2d x0) (own_f1 x1))) .g))])) (fun tG kG => XS.dcmpS X2.here hx rfl (hb hby at_39) rfl rfl kG) ?_
  have J3 : ∀ T', Stand p l e room_1 s m #[(.int x0), (.int x1)] below meth c T' [] 0 0 → T'.heap = h0 → Go p e below s room_1.cells room_1.slots (PureR (some (.int (1 : Int32))) h0) (T'.setTop (mkF m 60 #[.val (.int x0), .val (.int x1), .val (.double (4618760256179416344 : UInt64)), .second, .val (.double (FP.dmul (FP.i2d x0) (own_f1 x1))), .second, .val (.double (own_f2 (FP.dmul (FP.i2d x0) (own_f1 x1)))), .second, .unset, .unset, .unset, .unset, .unset, .unset, .unset, .unset] [])) := by
    intro T4 X5 e6
    refine Go.via (U' := T4.setTop (mkF m 62 #[.val (.int x0), .val (.int x1), .val (.double (4618760256179416344 : UInt64)), .second, .val (.double (FP.dmul (FP.i2d x0) (own_f1 x1))), .second, .val (.double (own_f2 (FP.dmul (FP.i2d x0) (own_f1 x1)))), .second, .unset, .unset, .unset, .unset, .unset, .unset, .unset, .unset] [(.double (FP.dmul (FP.i2d x0) (own_f1 x1)))])) (fun tG kG => XS.dload X5.here hx rfl (hb hby at_60) rfl kG) ?_
    refine Go.via (U' := T4.setTop (mkF m 64 #[.val (.int x0), .val (.int x1), .val (.double (4618760256179416344 : UInt64)), .second, .val (.double (FP.dmul (FP.i2d x0) (own_f1 x1))), .second, .val (.double (own_f2 (FP.dmul (FP.i2d x0) (own_f1 x1)))), .second, .unset, .unset, .unset, .unset, .unset, .unset, .unset, .unset] [(.double (own_f2 (FP.dmul (FP.i2d x0) (own_f1 x1)))), (.double (FP.dmul (FP.i2d x0) (own_f1 x1)))])) (fun tG kG => XS.dload X5.here hx rfl (hb hby at_62) rfl kG) ?_
    refine Go.via (U' := T4.setTop (mkF m 65 #[.val (.int x0), .val (.int x1), .val (.double (4618760256179416344 : UInt64)), .second, .val (.double (FP.dmul (FP.i2d x0) (own_f1 x1))), .second, .val (.double (own_f2 (FP.dmul (FP.i2d x0) (own_f1 x1)))), .second, .unset, .unset, .unset, .unset, .unset, .unset, .unset, .unset] [(.double (FP.dsub (FP.dmul (FP.i2d x0) (own_f1 x1)) (own_f2 (FP.dmul (FP.i2d x0) (own_f1 x1)))))])) (fun tG kG => XS.dsubS X5.here hx rfl (hb hby at_64) rfl (own_nn3 x0 x1) rfl kG) ?_
    refine Go.via (U' := T4.setTop (mkF m 67 #[.val (.int x0), .val (.int x1), .val (.double (4618760256179416344 : UInt64)), .second, .val (.double (FP.dmul (FP.i2d x0) (own_f1 x1))), .second, .val (.double (own_f2 (FP.dmul (FP.i2d x0) (own_f1 x1)))), .second, .val (.double (FP.dsub (FP.dmul (FP.i2d x0) (own_f1 x1)) (own_f2 (FP.dmul (FP.i2d x0) (own_f1 x1))))), .second, .unset, .unset, .unset, .unset, .unset, .unset] [])) (fun tG kG => XS.dstore X5.here hx rfl (hb hby at_65) rfl (l' := #[.val (.int x0), .val (.int x1), .val (.double (4618760256179416344 : UInt64)), .second, .val (.double (FP.dmul (FP.i2d x0) (own_f1 x1))), .second, .val (.double (own_f2 (FP.dmul (FP.i2d x0) (own_f1 x1)))), .second, .val (.double (FP.dsub (FP.dmul (FP.i2d x0) (own_f1 x1)) (own_f2 (FP.dmul (FP.i2d x0) (own_f1 x1))))), .second, .unset, .unset, .unset, .unset, .unset, .unset]) rfl kG) ?_
    refine Go.via (U' := T4.setTop (mkF m 69 #[.val (.int x0), .val (.int x1), .val (.double (4618760256179416344 : UInt64)), .second, .val (.double (FP.dmul (FP.i2d x0) (own_f1 x1))), .second, .val (.double (own_f2 (FP.dmul (FP.i2d x0) (own_f1 x1)))), .second, .val (.double (FP.dsub (FP.dmul (FP.i2d x0) (own_f1 x1)) (own_f2 (FP.dmul (FP.i2d x0) (own_f1 x1))))), .second, .unset, .unset, .unset, .unset, .unset, .unset] [(.double (FP.dsub (FP.dmul (FP.i2d x0) (own_f1 x1)) (own_f2 (FP.dmul (FP.i2d x0) (own_f1 x1)))))])) (fun tG kG => XS.dload X5.here hx rfl (hb hby at_67) rfl kG) ?_
    refine Go.via (U' := T4.setTop (mkF m 70 #[.val (.int x0), .val (.int x1), .val (.double (4618760256179416344 : UInt64)), .second, .val (.double (FP.dmul (FP.i2d x0) (own_f1 x1))), .second, .val (.double (own_f2 (FP.dmul (FP.i2d x0) (own_f1 x1)))), .second, .val (.double (FP.dsub (FP.dmul (FP.i2d x0) (own_f1 x1)) (own_f2 (FP.dmul (FP.i2d x0) (own_f1 x1))))), .second, .unset, .unset, .unset, .unset, .unset, .unset] [(.double (4618760256179416344 : UInt64)), (.double (FP.dsub (FP.dmul (FP.i2d x0) (own_f1 x1)) (own_f2 (FP.dmul (FP.i2d x0) (own_f1 x1)))))])) (fun tG kG => XS.dloadN X5.here hx rfl (hb hby at_69) rfl kG) ?_
    refine Go.via (U' := T4.setTop (mkF m 71 #[.val (.int x0), .val (.int x1), .val (.double (4618760256179416344 : UInt64)), .second, .val (.double (FP.dmul (FP.i2d x0) (own_f1 x1))), .second, .val (.double (own_f2 (FP.dmul (FP.i2d x0) (own_f1 x1)))), .second, .val (.double (FP.dsub (FP.dmul (FP.i2d x0) (own_f1 x1)) (own_f2 (FP.dmul (FP.i2d x0) (own_f1 x1))))), .second, .unset, .unset, .unset, .unset, .unset, .unset] [(.double (FP.ddiv (FP.dsub (FP.dmul (FP.i2d x0) (own_f1 x1)) (own_f2 (FP.dmul (FP.i2d x0) (own_f1 x1)))) (4618760256179416344 : UInt64)))])) (fun tG kG => XS.ddivS X5.here hx rfl (hb hby at_70) rfl (own_nn4 x0 x1) rfl kG) ?_
    refine Go.via (U' := T4.setTop (mkF m 73 #[.val (.int x0), .val (.int x1), .val (.double (4618760256179416344 : UInt64)), .second, .val (.double (FP.dmul (FP.i2d x0) (own_f1 x1))), .second, .val (.double (own_f2 (FP.dmul (FP.i2d x0) (own_f1 x1)))), .second, .val (.double (FP.dsub (FP.dmul (FP.i2d x0) (own_f1 x1)) (own_f2 (FP.dmul (FP.i2d x0) (own_f1 x1))))), .second, .val (.double (FP.ddiv (FP.dsub (FP.dmul (FP.i2d x0) (own_f1 x1)) (own_f2 (FP.dmul (FP.i2d x0) (own_f1 x1)))) (4618760256179416344 : UInt64))), .second, .unset, .unset, .unset, .unset] [])) (fun tG kG => XS.dstore X5.here hx rfl (hb hby at_71) rfl (l' := #[.val (.int x0), .val (.int x1), .val (.double (4618760256179416344 : UInt64)), .second, .val (.double (FP.dmul (FP.i2d x0) (own_f1 x1))), .second, .val (.double (own_f2 (FP.dmul (FP.i2d x0) (own_f1 x1)))), .second, .val (.double (FP.dsub (FP.dmul (FP.i2d x0) (own_f1 x1)) (own_f2 (FP.dmul (FP.i2d x0) (own_f1 x1))))), .second, .val (.double (FP.ddiv (FP.dsub (FP.dmul (FP.i2d x0) (own_f1 x1)) (own_f2 (FP.dmul (FP.i2d x0) (own_f1 x1)))) (4618760256179416344 : UInt64))), .second, .unset, .unset, .unset, .unset]) rfl kG) ?_
    refine Go.via (U' := T4.setTop (mkF m 75 #[.val (.int x0), .val (.int x1), .val (.double (4618760256179416344 : UInt64)), .second, .val (.double (FP.dmul (FP.i2d x0) (own_f1 x1))), .second, .val (.double (own_f2 (FP.dmul (FP.i2d x0) (own_f1 x1)))), .second, .val (.double (FP.dsub (FP.dmul (FP.i2d x0) (own_f1 x1)) (own_f2 (FP.dmul (FP.i2d x0) (own_f1 x1))))), .second, .val (.double (FP.ddiv (FP.dsub (FP.dmul (FP.i2d x0) (own_f1 x1)) (own_f2 (FP.dmul (FP.i2d x0) (own_f1 x1)))) (4618760256179416344 : UInt64))), .second, .unset, .unset, .unset, .unset] [(.double (FP.ddiv (FP.dsub (FP.dmul (FP.i2d x0) (own_f1 x1)) (own_f2 (FP.dmul (FP.i2d x0) (own_f1 x1)))) (4618760256179416344 : UInt64)))])) (fun tG kG => XS.dload X5.here hx rfl (hb hby at_73) rfl kG) ?_
    refine Go.via (U' := T4.setTop (mkF m 76 #[.val (.int x0), .val (.int x1), .val (.double (4618760256179416344 : UInt64)), .second, .val (.double (FP.dmul (FP.i2d x0) (own_f1 x1))), .second, .val (.double (own_f2 (FP.dmul (FP.i2d x0) (own_f1 x1)))), .second, .val (.double (FP.dsub (FP.dmul (FP.i2d x0) (own_f1 x1)) (own_f2 (FP.dmul (FP.i2d x0) (own_f1 x1))))), .second, .val (.double (FP.ddiv (FP.dsub (FP.dmul (FP.i2d x0) (own_f1 x1)) (own_f2 (FP.dmul (FP.i2d x0) (own_f1 x1)))) (4618760256179416344 : UInt64))), .second, .unset, .unset, .unset, .unset] [(.double (0 : UInt64)), (.double (FP.ddiv (FP.dsub (FP.dmul (FP.i2d x0) (own_f1 x1)) (own_f2 (FP.dmul (FP.i2d x0) (own_f1 x1)))) (4618760256179416344 : UInt64)))])) (fun tG kG => XS.dconst0 X5.here hx rfl (hb hby at_75) rfl kG) ?_
    refine Go.via (U' := T4.setTop (mkF m 77 #[.val (.int x0), .val (.int x1), .val (.double (4618760256179416344 : UInt64)), .second, .val (.double (FP.dmul (FP.i2d x0) (own_f1 x1))), .second, .val (.double (own_f2 (FP.dmul (FP.i2d x0) (own_f1 x1)))), .second, .val (.double (FP.dsub (FP.dmul (FP.i2d x0) (own_f1 x1)) (own_f2 (FP.dmul (FP.i2d x0) (own_f1 x1))))), .second, .val (.double (FP.ddiv (FP.dsub (FP.dmul (FP.i2d x0) (own_f1 x1)) (own_f2 (FP.dmul (FP.i2d x0) (own_f1 x1)))) (4618760256179416344 : UInt64))), .second, .unset, .unset, .unset, .unset] [(.int (cmpValue (FP.dcmp (FP.ddiv (FP.dsub (FP.dmul (FP.i2d x0) (own_f1 x1)) (own_f2 (FP.dmul (FP.i2d x0) (own_f1 x1)))) (4618760256179416344 : UInt64)) (0 : UInt64)) .g))])) (fun tG kG => XS.dcmpS X5.here hx rfl (hb hby at_76) rfl rfl kG) ?_
    have J7 : ∀ T', Stand p l e room_1 s m #[(.int x0), (.int x1)] below meth c T' [] 0 0 → T'.heap = h0 → Go p e below s room_1.cells room_1.slots (PureR (some (.int (1 : Int32))) h0) (T'.setTop (mkF m 95 #[.val (.int x0), .val (.int x1), .val (.double (4618760256179416344 : UInt64)), .second, .val (.double (FP.dmul (FP.i2d x0) (own_f1 x1))), .second, .val (.double (own_f2 (FP.dmul (FP.i2d x0) (own_f1 x1)))), .second, .val (.double (FP.dsub (FP.dmul (FP.i2d x0) (own_f1 x1)) (own_f2 (FP.dmul (FP.i2d x0) (own_f1 x1))))), .second, .val (.double (FP.ddiv (FP.dsub (FP.dmul (FP.i2d x0) (own_f1 x1)) (own_f2 (FP.dmul (FP.i2d x0) (own_f1 x1)))) (4618760256179416344 : UInt64))), .second, .unset, .unset, .unset, .unset] [(.double (own_j0_77_s0 x0 x1))])) := by
      intro T8 X9 e10
      refine Go.via (U' := T8.setTop (mkF m 96 #[.val (.int x0), .val (.int x1), .val (.double (4618760256179416344 : UInt64)), .second, .val (.double (FP.dmul (FP.i2d x0) (own_f1 x1))), .second, .val (.double (own_f2 (FP.dmul (FP.i2d x0) (own_f1 x1)))), .second, .val (.double (FP.dsub (FP.dmul (FP.i2d x0) (own_f1 x1)) (own_f2 (FP.dmul (FP.i2d x0) (own_f1 x1))))), .second, .val (.double (FP.ddiv (FP.dsub (FP.dmul (FP.i2d x0) (own_f1 x1)) (own_f2 (FP.dmul (FP.i2d x0) (own_f1 x1)))) (4618760256179416344 : UInt64))), .second, .unset, .unset, .unset, .unset] [(.long (FP.d2l (own_j0_77_s0 x0 x1)))])) (fun tG kG => XS.d2lS X9.here hx rfl (hb hby at_95) rfl rfl kG) ?_
      refine Go.via (U' := T8.setTop (mkF m 98 #[.val (.int x0), .val (.int x1), .val (.double (4618760256179416344 : UInt64)), .second, .val (.double (FP.dmul (FP.i2d x0) (own_f1 x1))), .second, .val (.double (own_f2 (FP.dmul (FP.i2d x0) (own_f1 x1)))), .second, .val (.double (FP.dsub (FP.dmul (FP.i2d x0) (own_f1 x1)) (own_f2 (FP.dmul (FP.i2d x0) (own_f1 x1))))), .second, .val (.double (FP.ddiv (FP.dsub (FP.dmul (FP.i2d x0) (own_f1 x1)) (own_f2 (FP.dmul (FP.i2d x0) (own_f1 x1)))) (4618760256179416344 : UInt64))), .second, .val (.long (FP.d2l (own_j0_77_s0 x0 x1))), .second, .unset, .unset] [])) (fun tG kG => XS.lstore X9.here hx rfl (hb hby at_96) rfl (l' := #[.val (.int x0), .val (.int x1), .val (.double (4618760256179416344 : UInt64)), .second, .val (.double (FP.dmul (FP.i2d x0) (own_f1 x1))), .second, .val (.double (own_f2 (FP.dmul (FP.i2d x0) (own_f1 x1)))), .second, .val (.double (FP.dsub (FP.dmul (FP.i2d x0) (own_f1 x1)) (own_f2 (FP.dmul (FP.i2d x0) (own_f1 x1))))), .second, .val (.double (FP.ddiv (FP.dsub (FP.dmul (FP.i2d x0) (own_f1 x1)) (own_f2 (FP.dmul (FP.i2d x0) (own_f1 x1)))) (4618760256179416344 : UInt64))), .second, .val (.long (FP.d2l (own_j0_77_s0 x0 x1))), .second, .unset, .unset]) rfl kG) ?_
      refine Go.via (U' := T8.setTop (mkF m 100 #[.val (.int x0), .val (.int x1), .val (.double (4618760256179416344 : UInt64)), .second, .val (.double (FP.dmul (FP.i2d x0) (own_f1 x1))), .second, .val (.double (own_f2 (FP.dmul (FP.i2d x0) (own_f1 x1)))), .second, .val (.double (FP.dsub (FP.dmul (FP.i2d x0) (own_f1 x1)) (own_f2 (FP.dmul (FP.i2d x0) (own_f1 x1))))), .second, .val (.double (FP.ddiv (FP.dsub (FP.dmul (FP.i2d x0) (own_f1 x1)) (own_f2 (FP.dmul (FP.i2d x0) (own_f1 x1)))) (4618760256179416344 : UInt64))), .second, .val (.long (FP.d2l (own_j0_77_s0 x0 x1))), .second, .unset, .unset] [(.double (FP.dsub (FP.dmul (FP.i2d x0) (own_f1 x1)) (own_f2 (FP.dmul (FP.i2d x0) (own_f1 x1)))))])) (fun tG kG => XS.dload X9.here hx rfl (hb hby at_98) rfl kG) ?_
      refine Go.via (U' := T8.setTop (mkF m 102 #[.val (.int x0), .val (.int x1), .val (.double (4618760256179416344 : UInt64)), .second, .val (.double (FP.dmul (FP.i2d x0) (own_f1 x1))), .second, .val (.double (own_f2 (FP.dmul (FP.i2d x0) (own_f1 x1)))), .second, .val (.double (FP.dsub (FP.dmul (FP.i2d x0) (own_f1 x1)) (own_f2 (FP.dmul (FP.i2d x0) (own_f1 x1))))), .second, .val (.double (FP.ddiv (FP.dsub (FP.dmul (FP.i2d x0) (own_f1 x1)) (own_f2 (FP.dmul (FP.i2d x0) (own_f1 x1)))) (4618760256179416344 : UInt64))), .second, .val (.long (FP.d2l (own_j0_77_s0 x0 x1))), .second, .unset, .unset] [(.long (FP.d2l (own_j0_77_s0 x0 x1))), (.double (FP.dsub (FP.dmul (FP.i2d x0) (own_f1 x1)) (own_f2 (FP.dmul (FP.i2d x0) (own_f1 x1)))))])) (fun tG kG => XS.lload X9.here hx rfl (hb hby at_100) rfl kG) ?_
      refine Go.via (U' := T8.setTop (mkF m 103 #[.val (.int x0), .val (.int x1), .val (.double (4618760256179416344 : UInt64)), .second, .val (.double (FP.dmul (FP.i2d x0) (own_f1 x1))), .second, .val (.double (own_f2 (FP.dmul (FP.i2d x0) (own_f1 x1)))), .second, .val (.double (FP.dsub (FP.dmul (FP.i2d x0) (own_f1 x1)) (own_f2 (FP.dmul (FP.i2d x0) (own_f1 x1))))), .second, .val (.double (FP.ddiv (FP.dsub (FP.dmul (FP.i2d x0) (own_f1 x1)) (own_f2 (FP.dmul (FP.i2d x0) (own_f1 x1)))) (4618760256179416344 : UInt64))), .second, .val (.long (FP.d2l (own_j0_77_s0 x0 x1))), .second, .unset, .unset] [(.double (FP.l2d (FP.d2l (own_j0_77_s0 x0 x1)))), (.double (FP.dsub (FP.dmul (FP.i2d x0) (own_f1 x1)) (own_f2 (FP.dmul (FP.i2d x0) (own_f1 x1)))))])) (fun tG kG => XS.l2dS X9.here hx rfl (hb hby at_102) rfl rfl kG) ?_
      refine Go.via (U' := T8.setTop (mkF m 104 #[.val (.int x0), .val (.int x1), .val (.double (4618760256179416344 : UInt64)), .second, .val (.double (FP.dmul (FP.i2d x0) (own_f1 x1))), .second, .val (.double (own_f2 (FP.dmul (FP.i2d x0) (own_f1 x1)))), .second, .val (.double (FP.dsub (FP.dmul (FP.i2d x0) (own_f1 x1)) (own_f2 (FP.dmul (FP.i2d x0) (own_f1 x1))))), .second, .val (.double (FP.ddiv (FP.dsub (FP.dmul (FP.i2d x0) (own_f1 x1)) (own_f2 (FP.dmul (FP.i2d x0) (own_f1 x1)))) (4618760256179416344 : UInt64))), .second, .val (.long (FP.d2l (own_j0_77_s0 x0 x1))), .second, .unset, .unset] [(.double (4618760256179416344 : UInt64)), (.double (FP.l2d (FP.d2l (own_j0_77_s0 x0 x1)))), (.double (FP.dsub (FP.dmul (FP.i2d x0) (own_f1 x1)) (own_f2 (FP.dmul (FP.i2d x0) (own_f1 x1)))))])) (fun tG kG => XS.dloadN X9.here hx rfl (hb hby at_103) rfl kG) ?_
      refine Go.via (U' := T8.setTop (mkF m 105 #[.val (.int x0), .val (.int x1), .val (.double (4618760256179416344 : UInt64)), .second, .val (.double (FP.dmul (FP.i2d x0) (own_f1 x1))), .second, .val (.double (own_f2 (FP.dmul (FP.i2d x0) (own_f1 x1)))), .second, .val (.double (FP.dsub (FP.dmul (FP.i2d x0) (own_f1 x1)) (own_f2 (FP.dmul (FP.i2d x0) (own_f1 x1))))), .second, .val (.double (FP.ddiv (FP.dsub (FP.dmul (FP.i2d x0) (own_f1 x1)) (own_f2 (FP.dmul (FP.i2d x0) (own_f1 x1)))) (4618760256179416344 : UInt64))), .second, .val (.long (FP.d2l (own_j0_77_s0 x0 x1))), .second, .unset, .unset] [(.double (FP.dmul (FP.l2d (FP.d2l (own_j0_77_s0 x0 x1))) (4618760256179416344 : UInt64))), (.double (FP.dsub (FP.dmul (FP.i2d x0) (own_f1 x1)) (own_f2 (FP.dmul (FP.i2d x0) (own_f1 x1)))))])) (fun tG kG => XS.dmulS X9.here hx rfl (hb hby at_104) rfl (own_nn7 x0 x1) rfl kG) ?_
      refine Go.via (U' := T8.setTop (mkF m 106 #[.val (.int x0), .val (.int x1), .val (.double (4618760256179416344 : UInt64)), .second, .val (.double (FP.dmul (FP.i2d x0) (own_f1 x1))), .second, .val (.double (own_f2 (FP.dmul (FP.i2d x0) (own_f1 x1)))), .second, .val (.double (FP.dsub (FP.dmul (FP.i2d x0) (own_f1 x1)) (own_f2 (FP.dmul (FP.i2d x0) (own_f1 x1))))), .second, .val (.double (FP.ddiv (FP.dsub (FP.dmul (FP.i2d x0) (own_f1 x1)) (own_f2 (FP.dmul (FP.i2d x0) (own_f1 x1)))) (4618760256179416344 : UInt64))), .second, .val (.long (FP.d2l (own_j0_77_s0 x0 x1))), .second, .unset, .unset] [(.double (FP.dsub (FP.dsub (FP.dmul (FP.i2d x0) (own_f1 x1)) (own_f2 (FP.dmul (FP.i2d x0) (own_f1 x1)))) (FP.dmul (FP.l2d (FP.d2l (own_j0_77_s0 x0 x1))) (4618760256179416344 : UInt64))))])) (fun tG kG => XS.dsubS X9.here hx rfl (hb hby at_105) rfl (own_nn8 x0 x1) rfl kG) ?_
      refine Go.via (U' := T8.setTop (mkF m 108 #[.val (.int x0), .val (.int x1), .val (.double (4618760256179416344 : UInt64)), .second, .val (.double (FP.dmul (FP.i2d x0) (own_f1 x1))), .second, .val (.double (own_f2 (FP.dmul (FP.i2d x0) (own_f1 x1)))), .second, .val (.double (FP.dsub (FP.dmul (FP.i2d x0) (own_f1 x1)) (own_f2 (FP.dmul (FP.i2d x0) (own_f1 x1))))), .second, .val (.double (FP.ddiv (FP.dsub (FP.dmul (FP.i2d x0) (own_f1 x1)) (own_f2 (FP.dmul (FP.i2d x0) (own_f1 x1)))) (4618760256179416344 : UInt64))), .second, .val (.long (FP.d2l (own_j0_77_s0 x0 x1))), .second, .val (.double (FP.dsub (FP.dsub (FP.dmul (FP.i2d x0) (own_f1 x1)) (own_f2 (FP.dmul (FP.i2d x0) (own_f1 x1)))) (FP.dmul (FP.l2d (FP.d2l (own_j0_77_s0 x0 x1))) (4618760256179416344 : UInt64)))), .second] [])) (fun tG kG => XS.dstore X9.here hx rfl (hb hby at_106) rfl (l' := #[.val (.int x0), .val (.int x1), .val (.double (4618760256179416344 : UInt64)), .second, .val (.double (FP.dmul (FP.i2d x0) (own_f1 x1))), .second, .val (.double (own_f2 (FP.dmul (FP.i2d x0) (own_f1 x1)))), .second, .val (.double (FP.dsub (FP.dmul (FP.i2d x0) (own_f1 x1)) (own_f2 (FP.dmul (FP.i2d x0) (own_f1 x1))))), .second, .val (.double (FP.ddiv (FP.dsub (FP.dmul (FP.i2d x0) (own_f1 x1)) (own_f2 (FP.dmul (FP.i2d x0) (own_f1 x1)))) (4618760256179416344 : UInt64))), .second, .val (.long (FP.d2l (own_j0_77_s0 x0 x1))), .second, .val (.double (FP.dsub (FP.dsub (FP.dmul (FP.i2d x0) (own_f1 x1)) (own_f2 (FP.dmul (FP.i2d x0) (own_f1 x1)))) (FP.dmul (FP.l2d (FP.d2l (own_j0_77_s0 x0 x1))) (4618760256179416344 : UInt64)))), .second]) rfl kG) ?_
      refine Go.via (U' := T8.setTop (mkF m 111 #[.val (.int x0), .val (.int x1), .val (.double (4618760256179416344 : UInt64)), .second, .val (.double (FP.dmul (FP.i2d x0) (own_f1 x1))), .second, .val (.double (own_f2 (FP.dmul (FP.i2d x0) (own_f1 x1)))), .second, .val (.double (FP.dsub (FP.dmul (FP.i2d x0) (own_f1 x1)) (own_f2 (FP.dmul (FP.i2d x0) (own_f1 x1))))), .second, .val (.double (FP.ddiv (FP.dsub (FP.dmul (FP.i2d x0) (own_f1 x1)) (own_f2 (FP.dmul (FP.i2d x0) (own_f1 x1)))) (4618760256179416344 : UInt64))), .second, .val (.long (FP.d2l (own_j0_77_s0 x0 x1))), .second, .val (.double (FP.dsub (FP.dsub (FP.dmul (FP.i2d x0) (own_f1 x1)) (own_f2 (FP.dmul (FP.i2d x0) (own_f1 x1)))) (FP.dmul (FP.l2d (FP.d2l (own_j0_77_s0 x0 x1))) (4618760256179416344 : UInt64)))), .second] [(.double (13755392620465711345 : UInt64))])) (fun tG kG => X9.ldc2DoubleC hx hown (mvT hZ (hw _ (List.mem_of_getElem? (i := 12) rfl))) (g := (mkF m 108 #[.val (.int x0), .val (.int x1), .val (.double (4618760256179416344 : UInt64)), .second, .val (.double (FP.dmul (FP.i2d x0) (own_f1 x1))), .second, .val (.double (own_f2 (FP.dmul (FP.i2d x0) (own_f1 x1)))), .second, .val (.double (FP.dsub (FP.dmul (FP.i2d x0) (own_f1 x1)) (own_f2 (FP.dmul (FP.i2d x0) (own_f1 x1))))), .second, .val (.double (FP.ddiv (FP.dsub (FP.dmul (FP.i2d x0) (own_f1 x1)) (own_f2 (FP.dmul (FP.i2d x0) (own_f1 x1)))) (4618760256179416344 : UInt64))), .second, .val (.long (FP.d2l (own_j0_77_s0 x0 x1))), .second, .val (.double (FP.dsub (FP.dsub (FP.dmul (FP.i2d x0) (own_f1 x1)) (own_f2 (FP.dmul (FP.i2d x0) (own_f1 x1)))) (FP.dmul (FP.l2d (FP.d2l (own_j0_77_s0 x0 x1))) (4618760256179416344 : UInt64)))), .second] [])) rfl (hb hby at_108) tG kG) ?_
      refine Go.via (U' := T8.setTop (mkF m 113 #[.val (.int x0), .val (.int x1), .val (.double (4618760256179416344 : UInt64)), .second, .val (.double (FP.dmul (FP.i2d x0) (own_f1 x1))), .second, .val (.double (own_f2 (FP.dmul (FP.i2d x0) (own_f1 x1)))), .second, .val (.double (FP.dsub (FP.dmul (FP.i2d x0) (own_f1 x1)) (own_f2 (FP.dmul (FP.i2d x0) (own_f1 x1))))), .second, .val (.double (FP.ddiv (FP.dsub (FP.dmul (FP.i2d x0) (own_f1 x1)) (own_f2 (FP.dmul (FP.i2d x0) (own_f1 x1)))) (4618760256179416344 : UInt64))), .second, .val (.long (FP.d2l (own_j0_77_s0 x0 x1))), .second, .val (.double (FP.dsub (FP.dsub (FP.dmul (FP.i2d x0) (own_f1 x1)) (own_f2 (FP.dmul (FP.i2d x0) (own_f1 x1)))) (FP.dmul (FP.l2d (FP.d2l (own_j0_77_s0 x0 x1))) (4618760256179416344 : UInt64)))), .second] [(.double (FP.dsub (FP.dsub (FP.dmul (FP.i2d x0) (own_f1 x1)) (own_f2 (FP.dmul (FP.i2d x0) (own_f1 x1)))) (FP.dmul (FP.l2d (FP.d2l (own_j0_77_s0 x0 x1))) (4618760256179416344 : UInt64)))), (.double (13755392620465711345 : UInt64))])) (fun tG kG => XS.dload X9.here hx rfl (hb hby at_111) rfl kG) ?_
      refine Go.via (U' := T8.setTop (mkF m 114 #[.val (.int x0), .val (.int x1), .val (.double (4618760256179416344 : UInt64)), .second, .val (.double (FP.dmul (FP.i2d x0) (own_f1 x1))), .second, .val (.double (own_f2 (FP.dmul (FP.i2d x0) (own_f1 x1)))), .second, .val (.double (FP.dsub (FP.dmul (FP.i2d x0) (own_f1 x1)) (own_f2 (FP.dmul (FP.i2d x0) (own_f1 x1))))), .second, .val (.double (FP.ddiv (FP.dsub (FP.dmul (FP.i2d x0) (own_f1 x1)) (own_f2 (FP.dmul (FP.i2d x0) (own_f1 x1)))) (4618760256179416344 : UInt64))), .second, .val (.long (FP.d2l (own_j0_77_s0 x0 x1))), .second, .val (.double (FP.dsub (FP.dsub (FP.dmul (FP.i2d x0) (own_f1 x1)) (own_f2 (FP.dmul (FP.i2d x0) (own_f1 x1)))) (FP.dmul (FP.l2d (FP.d2l (own_j0_77_s0 x0 x1))) (4618760256179416344 : UInt64)))), .second] [(.int (cmpValue (FP.dcmp (13755392620465711345 : UInt64) (FP.dsub (FP.dsub (FP.dmul (FP.i2d x0) (own_f1 x1)) (own_f2 (FP.dmul (FP.i2d x0) (own_f1 x1)))) (FP.dmul (FP.l2d (FP.d2l (own_j0_77_s0 x0 x1))) (4618760256179416344 : UInt64)))) .g))])) (fun tG kG => XS.dcmpS X9.here hx rfl (hb hby at_113) rfl rfl kG) ?_
      have hc114 : (cmpValue (FP.dcmp (13755392620465711345 : UInt64) (FP.dsub (FP.dsub (FP.dmul (FP.i2d x0) (own_f1 x1)) (own_f2 (FP.dmul (FP.i2d x0) (own_f1 x1)))) (FP.dmul (FP.l2d (FP.d2l (own_j0_77_s0 x0 x1))) (4618760256179416344 : UInt64)))) .g) < (0 : Int32) := own_e1 x0 x1
      refine Go.via (U' := T8.setTop (mkF m 117 #[.val (.int x0), .val (.int x1), .val (.double (4618760256179416344 : UInt64)), .second, .val (.double (FP.dmul (FP.i2d x0) (own_f1 x1))), .second, .val (.double (own_f2 (FP.dmul (FP.i2d x0) (own_f1 x1)))), .second, .val (.double (FP.dsub (FP.dmul (FP.i2d x0) (own_f1 x1)) (own_f2 (FP.dmul (FP.i2d x0) (own_f1 x1))))), .second, .val (.double (FP.ddiv (FP.dsub (FP.dmul (FP.i2d x0) (own_f1 x1)) (own_f2 (FP.dmul (FP.i2d x0) (own_f1 x1)))) (4618760256179416344 : UInt64))), .second, .val (.long (FP.d2l (own_j0_77_s0 x0 x1))), .second, .val (.double (FP.dsub (FP.dsub (FP.dmul (FP.i2d x0) (own_f1 x1)) (own_f2 (FP.dmul (FP.i2d x0) (own_f1 x1)))) (FP.dmul (FP.l2d (FP.d2l (own_j0_77_s0 x0 x1))) (4618760256179416344 : UInt64)))), .second] [])) (fun tG kG => XS.ifNo X9.here hx rfl (hb hby at_114) rfl ((if0 _ _).trans (tlt hc114).2.1) kG) ?_
      refine Go.via (U' := T8.setTop (mkF m 119 #[.val (.int x0), .val (.int x1), .val (.double (4618760256179416344 : UInt64)), .second, .val (.double (FP.dmul (FP.i2d x0) (own_f1 x1))), .second, .val (.double (own_f2 (FP.dmul (FP.i2d x0) (own_f1 x1)))), .second, .val (.double (FP.dsub (FP.dmul (FP.i2d x0) (own_f1 x1)) (own_f2 (FP.dmul (FP.i2d x0) (own_f1 x1))))), .second, .val (.double (FP.ddiv (FP.dsub (FP.dmul (FP.i2d x0) (own_f1 x1)) (own_f2 (FP.dmul (FP.i2d x0) (own_f1 x1)))) (4618760256179416344 : UInt64))), .second, .val (.long (FP.d2l (own_j0_77_s0 x0 x1))), .second, .val (.double (FP.dsub (FP.dsub (FP.dmul (FP.i2d x0) (own_f1 x1)) (own_f2 (FP.dmul (FP.i2d x0) (own_f1 x1)))) (FP.dmul (FP.l2d (FP.d2l (own_j0_77_s0 x0 x1))) (4618760256179416344 : UInt64)))), .second] [(.double (FP.dsub (FP.dsub (FP.dmul (FP.i2d x0) (own_f1 x1)) (own_f2 (FP.dmul (FP.i2d x0) (own_f1 x1)))) (FP.dmul (FP.l2d (FP.d2l (own_j0_77_s0 x0 x1))) (4618760256179416344 : UInt64))))])) (fun tG kG => XS.dload X9.here hx rfl (hb hby at_117) rfl kG) ?_
      refine Go.via (U' := T8.setTop (mkF m 122 #[.val (.int x0), .val (.int x1), .val (.double (4618760256179416344 : UInt64)), .second, .val (.double (FP.dmul (FP.i2d x0) (own_f1 x1))), .second, .val (.double (own_f2 (FP.dmul (FP.i2d x0) (own_f1 x1)))), .second, .val (.double (FP.dsub (FP.dmul (FP.i2d x0) (own_f1 x1)) (own_f2 (FP.dmul (FP.i2d x0) (own_f1 x1))))), .second, .val (.double (FP.ddiv (FP.dsub (FP.dmul (FP.i2d x0) (own_f1 x1)) (own_f2 (FP.dmul (FP.i2d x0) (own_f1 x1)))) (4618760256179416344 : UInt64))), .second, .val (.long (FP.d2l (own_j0_77_s0 x0 x1))), .second, .val (.double (FP.dsub (FP.dsub (FP.dmul (FP.i2d x0) (own_f1 x1)) (own_f2 (FP.dmul (FP.i2d x0) (own_f1 x1)))) (FP.dmul (FP.l2d (FP.d2l (own_j0_77_s0 x0 x1))) (4618760256179416344 : UInt64)))), .second] [(.double (4532020583610935537 : UInt64)), (.double (FP.dsub (FP.dsub (FP.dmul (FP.i2d x0) (own_f1 x1)) (own_f2 (FP.dmul (FP.i2d x0) (own_f1 x1)))) (FP.dmul (FP.l2d (FP.d2l (own_j0_77_s0 x0 x1))) (4618760256179416344 : UInt64))))])) (fun tG kG => X9.ldc2DoubleC hx hown (mvT hZ (hw _ (List.mem_of_getElem? (i := 13) rfl))) (g := (mkF m 119 #[.val (.int x0), .val (.int x1), .val (.double (4618760256179416344 : UInt64)), .second, .val (.double (FP.dmul (FP.i2d x0) (own_f1 x1))), .second, .val (.double (own_f2 (FP.dmul (FP.i2d x0) (own_f1 x1)))), .second, .val (.double (FP.dsub (FP.dmul (FP.i2d x0) (own_f1 x1)) (own_f2 (FP.dmul (FP.i2d x0) (own_f1 x1))))), .second, .val (.double (FP.ddiv (FP.dsub (FP.dmul (FP.i2d x0) (own_f1 x1)) (own_f2 (FP.dmul (FP.i2d x0) (own_f1 x1)))) (4618760256179416344 : UInt64))), .second, .val (.long (FP.d2l (own_j0_77_s0 x0 x1))), .second, .val (.double (FP.dsub (FP.dsub (FP.dmul (FP.i2d x0) (own_f1 x1)) (own_f2 (FP.dmul (FP.i2d x0) (own_f1 x1)))) (FP.dmul (FP.l2d (FP.d2l (own_j0_77_s0 x0 x1))) (4618760256179416344 : UInt64)))), .second] [(.double (FP.dsub (FP.dsub (FP.dmul (FP.i2d x0) (own_f1 x1)) (own_f2 (FP.dmul (FP.i2d x0) (own_f1 x1)))) (FP.dmul (FP.l2d (FP.d2l (own_j0_77_s0 x0 x1))) (4618760256179416344 : UInt64))))])) rfl (hb hby at_119) tG kG) ?_
      refine Go.via (U' := T8.setTop (mkF m 123 #[.val (.int x0), .val (.int x1), .val (.double (4618760256179416344 : UInt64)), .second, .val (.double (FP.dmul (FP.i2d x0) (own_f1 x1))), .second, .val (.double (own_f2 (FP.dmul (FP.i2d x0) (own_f1 x1)))), .second, .val (.double (FP.dsub (FP.dmul (FP.i2d x0) (own_f1 x1)) (own_f2 (FP.dmul (FP.i2d x0) (own_f1 x1))))), .second, .val (.double (FP.ddiv (FP.dsub (FP.dmul (FP.i2d x0) (own_f1 x1)) (own_f2 (FP.dmul (FP.i2d x0) (own_f1 x1)))) (4618760256179416344 : UInt64))), .second, .val (.long (FP.d2l (own_j0_77_s0 x0 x1))), .second, .val (.double (FP.dsub (FP.dsub (FP.dmul (FP.i2d x0) (own_f1 x1)) (own_f2 (FP.dmul (FP.i2d x0) (own_f1 x1)))) (FP.dmul (FP.l2d (FP.d2l (own_j0_77_s0 x0 x1))) (4618760256179416344 : UInt64)))), .second] [(.int (cmpValue (FP.dcmp (FP.dsub (FP.dsub (FP.dmul (FP.i2d x0) (own_f1 x1)) (own_f2 (FP.dmul (FP.i2d x0) (own_f1 x1)))) (FP.dmul (FP.l2d (FP.d2l (own_j0_77_s0 x0 x1))) (4618760256179416344 : UInt64))) (4532020583610935537 : UInt64)) .g))])) (fun tG kG => XS.dcmpS X9.here hx rfl (hb hby at_122) rfl rfl kG) ?_
      have hc123 : (cmpValue (FP.dcmp (FP.dsub (FP.dsub (FP.dmul (FP.i2d x0) (own_f1 x1)) (own_f2 (FP.dmul (FP.i2d x0) (own_f1 x1)))) (FP.dmul (FP.l2d (FP.d2l (own_j0_77_s0 x0 x1))) (4618760256179416344 : UInt64))) (4532020583610935537 : UInt64)) .g) < (0 : Int32) := own_e2 x0 x1
      refine Go.via (U' := T8.setTop (mkF m 126 #[.val (.int x0), .val (.int x1), .val (.double (4618760256179416344 : UInt64)), .second, .val (.double (FP.dmul (FP.i2d x0) (own_f1 x1))), .second, .val (.double (own_f2 (FP.dmul (FP.i2d x0) (own_f1 x1)))), .second, .val (.double (FP.dsub (FP.dmul (FP.i2d x0) (own_f1 x1)) (own_f2 (FP.dmul (FP.i2d x0) (own_f1 x1))))), .second, .val (.double (FP.ddiv (FP.dsub (FP.dmul (FP.i2d x0) (own_f1 x1)) (own_f2 (FP.dmul (FP.i2d x0) (own_f1 x1)))) (4618760256179416344 : UInt64))), .second, .val (.long (FP.d2l (own_j0_77_s0 x0 x1))), .second, .val (.double (FP.dsub (FP.dsub (FP.dmul (FP.i2d x0) (own_f1 x1)) (own_f2 (FP.dmul (FP.i2d x0) (own_f1 x1)))) (FP.dmul (FP.l2d (FP.d2l (own_j0_77_s0 x0 x1))) (4618760256179416344 : UInt64)))), .second] [])) (fun tG kG => XS.ifNo X9.here hx rfl (hb hby at_123) rfl ((if0 _ _).trans (tlt hc123).2.1) kG) ?_
      refine Go.via (U' := T8.setTop (mkF m 127 #[.val (.int x0), .val (.int x1), .val (.double (4618760256179416344 : UInt64)), .second, .val (.double (FP.dmul (FP.i2d x0) (own_f1 x1))), .second, .val (.double (own_f2 (FP.dmul (FP.i2d x0) (own_f1 x1)))), .second, .val (.double (FP.dsub (FP.dmul (FP.i2d x0) (own_f1 x1)) (own_f2 (FP.dmul (FP.i2d x0) (own_f1 x1))))), .second, .val (.double (FP.ddiv (FP.dsub (FP.dmul (FP.i2d x0) (own_f1 x1)) (own_f2 (FP.dmul (FP.i2d x0) (own_f1 x1)))) (4618760256179416344 : UInt64))), .second, .val (.long (FP.d2l (own_j0_77_s0 x0 x1))), .second, .val (.double (FP.dsub (FP.dsub (FP.dmul (FP.i2d x0) (own_f1 x1)) (own_f2 (FP.dmul (FP.i2d x0) (own_f1 x1)))) (FP.dmul (FP.l2d (FP.d2l (own_j0_77_s0 x0 x1))) (4618760256179416344 : UInt64)))), .second] [(.int (1 : Int32))])) (fun tG kG => XS.iconst X9.here hx rfl (hb hby at_126) kG) ?_
      refine Go.via (U' := T8.setTop (mkF m 131 #[.val (.int x0), .val (.int x1), .val (.double (4618760256179416344 : UInt64)), .second, .val (.double (FP.dmul (FP.i2d x0) (own_f1 x1))), .second, .val (.double (own_f2 (FP.dmul (FP.i2d x0) (own_f1 x1)))), .second, .val (.double (FP.dsub (FP.dmul (FP.i2d x0) (own_f1 x1)) (own_f2 (FP.dmul (FP.i2d x0) (own_f1 x1))))), .second, .val (.double (FP.ddiv (FP.dsub (FP.dmul (FP.i2d x0) (own_f1 x1)) (own_f2 (FP.dmul (FP.i2d x0) (own_f1 x1)))) (4618760256179416344 : UInt64))), .second, .val (.long (FP.d2l (own_j0_77_s0 x0 x1))), .second, .val (.double (FP.dsub (FP.dsub (FP.dmul (FP.i2d x0) (own_f1 x1)) (own_f2 (FP.dmul (FP.i2d x0) (own_f1 x1)))) (FP.dmul (FP.l2d (FP.d2l (own_j0_77_s0 x0 x1))) (4618760256179416344 : UInt64)))), .second] [(.int (1 : Int32))])) (fun tG kG => XS.goto X9.here hx rfl (pc0 := 127) (pc' := 131) rfl (hb hby at_127) (by decide) (by decide) kG) ?_
      exact go_retN X9 hx hlk (t := .boolean) hret (by simp) (hb hby at_131) e10 ⟨(congrArg (fun z => some (Value.int z)) (show nar .boolean (1 : Int32) = (1 : Int32) from rfl)), rfl, rfl⟩ (by decide) (by decide)
    by_cases hc77 : (cmpValue (FP.dcmp (FP.ddiv (FP.dsub (FP.dmul (FP.i2d x0) (own_f1 x1)) (own_f2 (FP.dmul (FP.i2d x0) (own_f1 x1)))) (4618760256179416344 : UInt64)) (0 : UInt64)) .g) < (0 : Int32)
    · refine Go.via (U' := T4.setTop (mkF m 80 #[.val (.int x0), .val (.int x1), .val (.double (4618760256179416344 : UInt64)), .second, .val (.double (FP.dmul (FP.i2d x0) (own_f1 x1))), .second, .val (.double (own_f2 (FP.dmul (FP.i2d x0) (own_f1 x1)))), .second, .val (.double (FP.dsub (FP.dmul (FP.i2d x0) (own_f1 x1)) (own_f2 (FP.dmul (FP.i2d x0) (own_f1 x1))))), .second, .val (.double (FP.ddiv (FP.dsub (FP.dmul (FP.i2d x0) (own_f1 x1)) (own_f2 (FP.dmul (FP.i2d x0) (own_f1 x1)))) (4618760256179416344 : UInt64))), .second, .unset, .unset, .unset, .unset] [])) (fun tG kG => XS.ifNo X5.here hx rfl (hb hby at_77) rfl ((if0 _ _).trans (tlt hc77).2.1) kG) ?_
      refine Go.via (U' := T4.setTop (mkF m 82 #[.val (.int x0), .val (.int x1), .val (.double (4618760256179416344 : UInt64)), .second, .val (.double (FP.dmul (FP.i2d x0) (own_f1 x1))), .second, .val (.double (own_f2 (FP.dmul (FP.i2d x0) (own_f1 x1)))), .second, .val (.double (FP.dsub (FP.dmul (FP.i2d x0) (own_f1 x1)) (own_f2 (FP.dmul (FP.i2d x0) (own_f1 x1))))), .second, .val (.double (FP.ddiv (FP.dsub (FP.dmul (FP.i2d x0) (own_f1 x1)) (own_f2 (FP.dmul (FP.i2d x0) (own_f1 x1)))) (4618760256179416344 : UInt64))), .second, .unset, .unset, .unset, .unset] [(.double (FP.ddiv (FP.dsub (FP.dmul (FP.i2d x0) (own_f1 x1)) (own_f2 (FP.dmul (FP.i2d x0) (own_f1 x1)))) (4618760256179416344 : UInt64)))])) (fun tG kG => XS.dload X5.here hx rfl (hb hby at_80) rfl kG) ?_
      refine Go.via (U' := T4.setTop (mkF m 85 #[.val (.int x0), .val (.int x1), .val (.double (4618760256179416344 : UInt64)), .second, .val (.double (FP.dmul (FP.i2d x0) (own_f1 x1))), .second, .val (.double (own_f2 (FP.dmul (FP.i2d x0) (own_f1 x1)))), .second, .val (.double (FP.dsub (FP.dmul (FP.i2d x0) (own_f1 x1)) (own_f2 (FP.dmul (FP.i2d x0) (own_f1 x1))))), .second, .val (.double (FP.ddiv (FP.dsub (FP.dmul (FP.i2d x0) (own_f1 x1)) (own_f2 (FP.dmul (FP.i2d x0) (own_f1 x1)))) (4618760256179416344 : UInt64))), .second, .unset, .unset, .unset, .unset] [(.double (4602678819172646912 : UInt64)), (.double (FP.ddiv (FP.dsub (FP.dmul (FP.i2d x0) (own_f1 x1)) (own_f2 (FP.dmul (FP.i2d x0) (own_f1 x1)))) (4618760256179416344 : UInt64)))])) (fun tG kG => X5.ldc2DoubleC hx hown (mvT hZ (hw _ (List.mem_of_getElem? (i := 11) rfl))) (g := (mkF m 82 #[.val (.int x0), .val (.int x1), .val (.double (4618760256179416344 : UInt64)), .second, .val (.double (FP.dmul (FP.i2d x0) (own_f1 x1))), .second, .val (.double (own_f2 (FP.dmul (FP.i2d x0) (own_f1 x1)))), .second, .val (.double (FP.dsub (FP.dmul (FP.i2d x0) (own_f1 x1)) (own_f2 (FP.dmul (FP.i2d x0) (own_f1 x1))))), .second, .val (.double (FP.ddiv (FP.dsub (FP.dmul (FP.i2d x0) (own_f1 x1)) (own_f2 (FP.dmul (FP.i2d x0) (own_f1 x1)))) (4618760256179416344 : UInt64))), .second, .unset, .unset, .unset, .unset] [(.double (FP.ddiv (FP.dsub (FP.dmul (FP.i2d x0) (own_f1 x1)) (own_f2 (FP.dmul (FP.i2d x0) (own_f1 x1)))) (4618760256179416344 : UInt64)))])) rfl (hb hby at_82) tG kG) ?_
      refine Go.via (U' := T4.setTop (mkF m 86 #[.val (.int x0), .val (.int x1), .val (.double (4618760256179416344 : UInt64)), .second, .val (.double (FP.dmul (FP.i2d x0) (own_f1 x1))), .second, .val (.double (own_f2 (FP.dmul (FP.i2d x0) (own_f1 x1)))), .second, .val (.double (FP.dsub (FP.dmul (FP.i2d x0) (own_f1 x1)) (own_f2 (FP.dmul (FP.i2d x0) (own_f1 x1))))), .second, .val (.double (FP.ddiv (FP.dsub (FP.dmul (FP.i2d x0) (own_f1 x1)) (own_f2 (FP.dmul (FP.i2d x0) (own_f1 x1)))) (4618760256179416344 : UInt64))), .second, .unset, .unset, .unset, .unset] [(.double (FP.dsub (FP.ddiv (FP.dsub (FP.dmul (FP.i2d x0) (own_f1 x1)) (own_f2 (FP.dmul (FP.i2d x0) (own_f1 x1)))) (4618760256179416344 : UInt64)) (4602678819172646912 : UInt64)))])) (fun tG kG => XS.dsubS X5.here hx rfl (hb hby at_85) rfl (own_nn5 x0 x1) rfl kG) ?_
      refine Go.via (U' := T4.setTop (mkF m 95 #[.val (.int x0), .val (.int x1), .val (.double (4618760256179416344 : UInt64)), .second, .val (.double (FP.dmul (FP.i2d x0) (own_f1 x1))), .second, .val (.double (own_f2 (FP.dmul (FP.i2d x0) (own_f1 x1)))), .second, .val (.double (FP.dsub (FP.dmul (FP.i2d x0) (own_f1 x1)) (own_f2 (FP.dmul (FP.i2d x0) (own_f1 x1))))), .second, .val (.double (FP.ddiv (FP.dsub (FP.dmul (FP.i2d x0) (own_f1 x1)) (own_f2 (FP.dmul (FP.i2d x0) (own_f1 x1)))) (4618760256179416344 : UInt64))), .second, .unset, .unset, .unset, .unset] [(.double (FP.dsub (FP.ddiv (FP.dsub (FP.dmul (FP.i2d x0) (own_f1 x1)) (own_f2 (FP.dmul (FP.i2d x0) (own_f1 x1)))) (4618760256179416344 : UInt64)) (4602678819172646912 : UInt64)))])) (fun tG kG => XS.goto X5.here hx rfl (pc0 := 86) (pc' := 95) rfl (hb hby at_86) (by decide) (by decide) kG) ?_
      have q_own_j0_77_s0 : (own_j0_77_s0 x0 x1) = (FP.dsub (FP.ddiv (FP.dsub (FP.dmul (FP.i2d x0) (own_f1 x1)) (own_f2 (FP.dmul (FP.i2d x0) (own_f1 x1)))) (4618760256179416344 : UInt64)) (4602678819172646912 : UInt64)) := by unfold own_j0_77_s0; simp only [if_pos hc77]
      have q_J := J7 T4 X5 e6
      rw [q_own_j0_77_s0] at q_J
      exact q_J
    · refine Go.via (U' := T4.setTop (mkF m 89 #[.val (.int x0), .val (.int x1), .val (.double (4618760256179416344 : UInt64)), .second, .val (.double (FP.dmul (FP.i2d x0) (own_f1 x1))), .second, .val (.double (own_f2 (FP.dmul (FP.i2d x0) (own_f1 x1)))), .second, .val (.double (FP.dsub (FP.dmul (FP.i2d x0) (own_f1 x1)) (own_f2 (FP.dmul (FP.i2d x0) (own_f1 x1))))), .second, .val (.double (FP.ddiv (FP.dsub (FP.dmul (FP.i2d x0) (own_f1 x1)) (own_f2 (FP.dmul (FP.i2d x0) (own_f1 x1)))) (4618760256179416344 : UInt64))), .second, .unset, .unset, .unset, .unset] [])) (fun tG kG => XS.ifYes X5.here hx rfl (pc0 := 77) (pc' := 89) rfl (hb hby at_77) rfl ((if0 _ _).trans (flt hc77).2.1) (by decide) (by decide) kG) ?_
      refine Go.via (U' := T4.setTop (mkF m 91 #[.val (.int x0), .val (.int x1), .val (.double (4618760256179416344 : UInt64)), .second, .val (.double (FP.dmul (FP.i2d x0) (own_f1 x1))), .second, .val (.double (own_f2 (FP.dmul (FP.i2d x0) (own_f1 x1)))), .second, .val (.double (FP.dsub (FP.dmul (FP.i2d x0) (own_f1 x1)) (own_f2 (FP.dmul (FP.i2d x0) (own_f1 x1))))), .second, .val (.double (FP.ddiv (FP.dsub (FP.dmul (FP.i2d x0) (own_f1 x1)) (own_f2 (FP.dmul (FP.i2d x0) (own_f1 x1)))) (4618760256179416344 : UInt64))), .second, .unset, .unset, .unset, .unset] [(.double (FP.ddiv (FP.dsub (FP.dmul (FP.i2d x0) (own_f1 x1)) (own_f2 (FP.dmul (FP.i2d x0) (own_f1 x1)))) (4618760256179416344 : UInt64)))])) (fun tG kG => XS.dload X5.here hx rfl (hb hby at_89) rfl kG) ?_
      refine Go.via (U' := T4.setTop (mkF m 94 #[.val (.int x0), .val (.int x1), .val (.double (4618760256179416344 : UInt64)), .second, .val (.double (FP.dmul (FP.i2d x0) (own_f1 x1))), .second, .val (.double (own_f2 (FP.dmul (FP.i2d x0) (own_f1 x1)))), .second, .val (.double (FP.dsub (FP.dmul (FP.i2d x0) (own_f1 x1)) (own_f2 (FP.dmul (FP.i2d x0) (own_f1 x1))))), .second, .val (.double (FP.ddiv (FP.dsub (FP.dmul (FP.i2d x0) (own_f1 x1)) (own_f2 (FP.dmul (FP.i2d x0) (own_f1 x1)))) (4618760256179416344 : UInt64))), .second, .unset, .unset, .unset, .unset] [(.double (4602678819172646912 : UInt64)), (.double (FP.ddiv (FP.dsub (FP.dmul (FP.i2d x0) (own_f1 x1)) (own_f2 (FP.dmul (FP.i2d x0) (own_f1 x1)))) (4618760256179416344 : UInt64)))])) (fun tG kG => X5.ldc2DoubleC hx hown (mvT hZ (hw _ (List.mem_of_getElem? (i := 11) rfl))) (g := (mkF m 91 #[.val (.int x0), .val (.int x1), .val (.double (4618760256179416344 : UInt64)), .second, .val (.double (FP.dmul (FP.i2d x0) (own_f1 x1))), .second, .val (.double (own_f2 (FP.dmul (FP.i2d x0) (own_f1 x1)))), .second, .val (.double (FP.dsub (FP.dmul (FP.i2d x0) (own_f1 x1)) (own_f2 (FP.dmul (FP.i2d x0) (own_f1 x1))))), .second, .val (.double (FP.ddiv (FP.dsub (FP.dmul (FP.i2d x0) (own_f1 x1)) (own_f2 (FP.dmul (FP.i2d x0) (own_f1 x1)))) (4618760256179416344 : UInt64))), .second, .unset, .unset, .unset, .unset] [(.double (FP.ddiv (FP.dsub (FP.dmul (FP.i2d x0) (own_f1 x1)) (own_f2 (FP.dmul (FP.i2d x0) (own_f1 x1)))) (4618760256179416344 : UInt64)))])) rfl (hb hby at_91) tG kG) ?_
      refine Go.via (U' := T4.setTop (mkF m 95 #[.val (.int x0), .val (.int x1), .val (.double (4618760256179416344 : UInt64)), .second, .val (.double (FP.dmul (FP.i2d x0) (own_f1 x1))), .second, .val (.double (own_f2 (FP.dmul (FP.i2d x0) (own_f1 x1)))), .second, .val (.double (FP.dsub (FP.dmul (FP.i2d x0) (own_f1 x1)) (own_f2 (FP.dmul (FP.i2d x0) (own_f1 x1))))), .second, .val (.double (FP.ddiv (FP.dsub (FP.dmul (FP.i2d x0) (own_f1 x1)) (own_f2 (FP.dmul (FP.i2d x0) (own_f1 x1)))) (4618760256179416344 : UInt64))), .second, .unset, .unset, .unset, .unset] [(.double (FP.dadd (FP.ddiv (FP.dsub (FP.dmul (FP.i2d x0) (own_f1 x1)) (own_f2 (FP.dmul (FP.i2d x0) (own_f1 x1)))) (4618760256179416344 : UInt64)) (4602678819172646912 : UInt64)))])) (fun tG kG => XS.daddS X5.here hx rfl (hb hby at_94) rfl (own_nn6 x0 x1) rfl kG) ?_
      have q_own_j0_77_s0 : (own_j0_77_s0 x0 x1) = (FP.dadd (FP.ddiv (FP.dsub (FP.dmul (FP.i2d x0) (own_f1 x1)) (own_f2 (FP.dmul (FP.i2d x0) (own_f1 x1)))) (4618760256179416344 : UInt64)) (4602678819172646912 : UInt64)) := by unfold own_j0_77_s0; simp only [if_neg hc77]
      have q_J := J7 T4 X5 e6
      rw [q_own_j0_77_s0] at q_J
      exact q_J
  by_cases hc40 : (0 : Int32) < (cmpValue (FP.dcmp (0 : UInt64) (FP.dmul (FP.i2d x0) (own_f1 x1))) .g)
  · refine Go.via (U' := T2.setTop (mkF m 60 #[.val (.int x0), .val (.int x1), .val (.double (4618760256179416344 : UInt64)), .second, .val (.double (FP.dmul (FP.i2d x0) (own_f1 x1))), .second, .val (.double (own_f2 (FP.dmul (FP.i2d x0) (own_f1 x1)))), .second, .unset, .unset, .unset, .unset, .unset, .unset, .unset, .unset] [])) (fun tG kG => XS.ifYes X2.here hx rfl (pc0 := 40) (pc' := 60) rfl (hb hby at_40) rfl ((if0 _ _).trans (tlt hc40).2.2.1) (by decide) (by decide) kG) ?_
    have q_J := J3 T2 X2 e2
    exact q_J
  · refine Go.via (U' := T2.setTop (mkF m 43 #[.val (.int x0), .val (.int x1), .val (.double (4618760256179416344 : UInt64)), .second, .val (.double (FP.dmul (FP.i2d x0) (own_f1 x1))), .second, .val (.double (own_f2 (FP.dmul (FP.i2d x0) (own_f1 x1)))), .second, .unset, .unset, .unset, .unset, .unset, .unset, .unset, .unset] [])) (fun tG kG => XS.ifNo X2.here hx rfl (hb hby at_40) rfl ((if0 _ _).trans (flt hc40).2.2.1) kG) ?_
    refine Go.via (U' := T2.setTop (mkF m 45 #[.val (.int x0), .val (.int x1), .val (.double (4618760256179416344 : UInt64)), .second, .val (.double (FP.dmul (FP.i2d x0) (own_f1 x1))), .second, .val (.double (own_f2 (FP.dmul (FP.i2d x0) (own_f1 x1)))), .second, .unset, .unset, .unset, .unset, .unset, .unset, .unset, .unset] [(.double (FP.dmul (FP.i2d x0) (own_f1 x1)))])) (fun tG kG => XS.dload X2.here hx rfl (hb hby at_43) rfl kG) ?_
    refine Go.via (U' := T2.setTop (mkF m 46 #[.val (.int x0), .val (.int x1), .val (.double (4618760256179416344 : UInt64)), .second, .val (.double (FP.dmul (FP.i2d x0) (own_f1 x1))), .second, .val (.double (own_f2 (FP.dmul (FP.i2d x0) (own_f1 x1)))), .second, .unset, .unset, .unset, .unset, .unset, .unset, .unset, .unset] [(.double (4618760256179416344 : UInt64)), (.double (FP.dmul (FP.i2d x0) (own_f1 x1)))])) (fun tG kG => XS.dloadN X2.here hx rfl (hb hby at_45) rfl kG) ?_
    refine Go.via (U' := T2.setTop (mkF m 47 #[.val (.int x0), .val (.int x1), .val (.double (4618760256179416344 : UInt64)), .second, .val (.double (FP.dmul (FP.i2d x0) (own_f1 x1))), .second, .val (.double (own_f2 (FP.dmul (FP.i2d x0) (own_f1 x1)))), .second, .unset, .unset, .unset, .unset, .unset, .unset, .unset, .unset] [(.int (cmpValue (FP.dcmp (FP.dmul (FP.i2d x0) (own_f1 x1)) (4618760256179416344 : UInt64)) .g))])) (fun tG kG => XS.dcmpS X2.here hx rfl (hb hby at_46) rfl rfl kG) ?_
    by_cases hc47 : (cmpValue (FP.dcmp (FP.dmul (FP.i2d x0) (own_f1 x1)) (4618760256179416344 : UInt64)) .g) < (0 : Int32)
    · refine Go.via (U' := T2.setTop (mkF m 50 #[.val (.int x0), .val (.int x1), .val (.double (4618760256179416344 : UInt64)), .second, .val (.double (FP.dmul (FP.i2d x0) (own_f1 x1))), .second, .val (.double (own_f2 (FP.dmul (FP.i2d x0) (own_f1 x1)))), .second, .unset, .unset, .unset, .unset, .unset, .unset, .unset, .unset] [])) (fun tG kG => XS.ifNo X2.here hx rfl (hb hby at_47) rfl ((if0 _ _).trans (tlt hc47).2.1) kG) ?_
      refine Go.via (U' := T2.setTop (mkF m 52 #[.val (.int x0), .val (.int x1), .val (.double (4618760256179416344 : UInt64)), .second, .val (.double (FP.dmul (FP.i2d x0) (own_f1 x1))), .second, .val (.double (own_f2 (FP.dmul (FP.i2d x0) (own_f1 x1)))), .second, .unset, .unset, .unset, .unset, .unset, .unset, .unset, .unset] [(.double (own_f2 (FP.dmul (FP.i2d x0) (own_f1 x1))))])) (fun tG kG => XS.dload X2.here hx rfl (hb hby at_50) rfl kG) ?_
      refine Go.via (U' := T2.setTop (mkF m 54 #[.val (.int x0), .val (.int x1), .val (.double (4618760256179416344 : UInt64)), .second, .val (.double (FP.dmul (FP.i2d x0) (own_f1 x1))), .second, .val (.double (own_f2 (FP.dmul (FP.i2d x0) (own_f1 x1)))), .second, .unset, .unset, .unset, .unset, .unset, .unset, .unset, .unset] [(.double (FP.dmul (FP.i2d x0) (own_f1 x1))), (.double (own_f2 (FP.dmul (FP.i2d x0) (own_f1 x1))))])) (fun tG kG => XS.dload X2.here hx rfl (hb hby at_52) rfl kG) ?_
      refine Go.via (U' := T2.setTop (mkF m 55 #[.val (.int x0), .val (.int x1), .val (.double (4618760256179416344 : UInt64)), .second, .val (.double (FP.dmul (FP.i2d x0) (own_f1 x1))), .second, .val (.double (own_f2 (FP.dmul (FP.i2d x0) (own_f1 x1)))), .second, .unset, .unset, .unset, .unset, .unset, .unset, .unset, .unset] [(.int (cmpValue (FP.dcmp (own_f2 (FP.dmul (FP.i2d x0) (own_f1 x1))) (FP.dmul (FP.i2d x0) (own_f1 x1))) .l))])) (fun tG kG => XS.dcmpS X2.here hx rfl (hb hby at_54) rfl rfl kG) ?_
      have hc55 : (cmpValue (FP.dcmp (own_f2 (FP.dmul (FP.i2d x0) (own_f1 x1))) (FP.dmul (FP.i2d x0) (own_f1 x1))) .l) = (0 : Int32) := own_same x0 x1 hc40 hc47
      refine Go.via (U' := T2.setTop (mkF m 60 #[.val (.int x0), .val (.int x1), .val (.double (4618760256179416344 : UInt64)), .second, .val (.double (FP.dmul (FP.i2d x0) (own_f1 x1))), .second, .val (.double (own_f2 (FP.dmul (FP.i2d x0) (own_f1 x1)))), .second, .unset, .unset, .unset, .unset, .unset, .unset, .unset, .unset] [])) (fun tG kG => XS.ifYes X2.here hx rfl (pc0 := 55) (pc' := 60) rfl (hb hby at_55) rfl ((if0 _ _).trans (teq hc55).1) (by decide) (by decide) kG) ?_
      have q_J := J3 T2 X2 e2
      exact q_J
    · refine Go.via (U' := T2.setTop (mkF m 60 #[.val (.int x0), .val (.int x1), .val (.double (4618760256179416344 : UInt64)), .second, .val (.double (FP.dmul (FP.i2d x0) (own_f1 x1))), .second, .val (.double (own_f2 (FP.dmul (FP.i2d x0) (own_f1 x1)))), .second, .unset, .unset, .unset, .unset, .unset, .unset, .unset, .unset] [])) (fun tG kG => XS.ifYes X2.here hx rfl (pc0 := 47) (pc' := 60) rfl (hb hby at_47) rfl ((if0 _ _).trans (flt hc47).2.1) (by decide) (by decide) kG) ?_
      have q_J := J3 T2 X2 e2
      exact q_J
set_option maxRecDepth 65536 in
set_option maxHeartbeats 40000000 in
theorem own_comes {Post : Tables → Env → Array Value → State → Outcome → State → Prop} (hpost : ∀ tb e args s v u, (limb_1_1.after args s (.returned v) u = true ∧ limb_1_2.after args s (.returned v) u = true) → FrameEnd s (.returned v) u (Jvm.fieldLocs frame_1_writes args s ++ Jvm.arrayLocs frame_1_arrays args s ++ Jvm.staticLocs frame_1_statics s) 0 0 → Post tb e args s (.returned v) u) :
    ArmFor flags0 classFile x code maxLocals ret World_1 tables_1 room_1 Calls_1 rest_1 Pre_1 Post := by
  intro l hfl _ _ p e ha hc hk s m args below hf hA hF happ hP
  obtain ⟨hcalls, hrest, hpre⟩ := hP
  obtain ⟨-, -, -, hnamed, -, -, -, hat⟩ := (Spec.applies_iff hf).mp happ
  obtain ⟨hg, hn⟩ := and_e (Cond.before_iff.mp (show (Jvm.Cond.and given_1 narrow_1).before args s = true from hpre))
  obtain ⟨hcnt, hg⟩ := and_e hg
  obtain ⟨w0, w1, rfl⟩ : ∃ w0 w1 : Value, args = #[w0, w1] := by
    have hs : args.size = 2 := by simpa [Cond.value, given_1] using hcnt
    obtain ⟨L⟩ := args
    match L, hs with
    | [w0, w1], _ => exact ⟨w0, w1, rfl⟩
  have hw := fun d (hd : d ∈ tables_1) => atoms_spec (ws := Jvm.Cond.code x code maxLocals ret :: tables_1) hat d (List.mem_cons_of_mem _ hd)
  have hfit : Fit s := fun {y c} hc i hi => by
    obtain ⟨ha, rfl⟩ := Array.getElem?_eq_some_iff.mp hc
    have q := List.all_eq_true.mp ((Array.all_eq_true_iff_forall_mem.mp hF) _ (Array.getElem_mem ha)) i (List.mem_range.mpr hi)
    simpa [Array.getElem?_eq_getElem hi] using q
  obtain ⟨hg0, hg⟩ := and_e hg
  obtain ⟨i0, ei0⟩ := is_v hg0
  obtain rfl : w0 = (.int i0) := Option.some.inj ei0
  obtain ⟨i1, ei1⟩ := is_v hg
  obtain rfl : w1 = (.int i1) := Option.some.inj ei1
  obtain ⟨n, o, h1, h2, h3, _, L, rfl, ⟨rfl, -, rfl⟩, hq⟩ := own_rm0 l s _ hw tables_1 i0 i1 s.heap p e ha hc hk s m _ below hf ((Spec.applies_iff_loose hf).mp happ).1 ⟨rfl, State.Warmed39.refl s, rfl⟩ trivial
  refine ⟨n, _, h1, h2, h3, hpost _ _ _ _ _ _ ⟨Cond.after_iff.mpr rfl, Cond.after_iff.mpr (eq_i res_at (Term.int_eval (1)) (congrArg Value.int (rfl)))⟩ ⟨hq.1, hq.2.1, (hq.2.2.sift fun y hy => Or.inr (Fr.nil s.heap.size y hy)).mono (by decide) (by decide)⟩⟩
theorem main_1_1 : Claimed_1_1 := own_comes fun _ _ _ _ _ _ h hF => ⟨h.1, hF⟩
theorem main_1_2 : Claimed_1_2 := own_comes fun _ _ _ _ _ _ h hF => ⟨h.2, hF⟩
end Jvm.Pilot.@@N@@
namespace Jvm.Pilot.@@N@@
open Jvm Jvm.ClassFile Sem Op Lib Jvm.Free Jvm.Stand Jvm.Pilot.@@N@@.Jvm.D
/-! MADE BY PROGRAM (witnessworld.py) out of the Statement's table words and the real class files: 9 classes; the members and pool entries that the words name. The judged class is class 1, her method 2. -/
namespace start1
open Jvm.ClassFile
def u (s : String) : CpInfo := .utf8 (stringToUtf16 s)
/-- a pool by its gaps: so many unusable entries, then the entry; so many at the end -/
def gap : Nat → List CpInfo → List CpInfo
  | 0, r => r
  | n + 1, r => .unusable :: gap n r
def poolList (es : List (Nat × CpInfo)) (last : Nat) : List CpInfo := es.foldr (fun e r => gap e.1 (e.2 :: r)) (gap last [])
def pool (es : List (Nat × CpInfo)) (last : Nat) : Array CpInfo := ⟨poolList es last⟩
def fileOf (pool : Array CpInfo) (this : Nat) (attrs : Array Attribute := #[]) (ms : Array MethodInfo := #[]) (fl : Nat := 33) (sup : Nat := 0) (ifs : Array Nat := #[]) (fds : Array FieldInfo := #[]) : ClassFile where
  minorVersion := 0
  majorVersion := 65
  constantPool := pool
  accessFlags := fl
  thisClass := this
  superClass := sup
  interfaces := ifs
  fields := fds
  methods := ms
  attributes := attrs
def plain (name : String) (sup : Option ClassId) : Class where
  name := name
  kind := .ordinary
  loader := none
  accessFlags := 33
  super := sup
  interfaces := #[]
  cf := none
  fields := #[]
  methods := #[]
  instanceTypes := #[]
  staticTypes := #[]
  resolved := #[]
  callSites := []
  init := .initialized
  statics := none
  mirror := none

def pool0 : Array CpInfo := pool [(5, u "<init>"), (0, u "()V"), (1, .class_ 10), (1, u "java/lang/Object")] 113

def k0m0 : Method := { name := "<init>", desc := "()V", sig := { parameters := [], returnType := none }, accessFlags := 1, code := none }
/-- java/lang/Object -/
def k0 : Class := { plain "java/lang/Object" none with
  accessFlags := 33
  interfaces := #[]
  cf := some (fileOf pool0 8 #[] #[{ accessFlags := 1, nameIndex := 5, descriptorIndex := 6, attributes := #[] }] 33 0 #[] #[])
  fields := #[]
  methods := #[k0m0]
  instanceTypes := #[]
  staticTypes := #[]
  resolved := Array.replicate 124 none
  statics := none }

def pool1 : Array CpInfo := pool [(2, .class_ 4), (1, u "java/lang/Object"), (0, u "<init>"), (0, u "()V"), (0, .double 4562146422526312448), (1, .double 4427038433705197568), (1, .double 4291930444884082688), (1, .double 4618760256179416344), (1, .methodref 16 17), (0, .class_ 18), (0, .nameAndType 19 20), (0, u "com/example/sidik/sidik/template/AnglesNormalizePinLaw"), (0, u "scaleOf"), (0, u "(I)D"), (0, .methodref 22 23), (0, .class_ 24), (0, .nameAndType 25 26), (0, u "com/example/sidik/sidik/template/Angles"), (0, u "normalize"), (0, u "(D)D"), (0, .double 4602678819172646912), (1, .double 13755392620465711345), (1, .double 4532020583610935537), (4, u "law"), (0, u "(II)Z")] 2

def k1m0 : Method := { name := "<init>", desc := "()V", sig := { parameters := [], returnType := none }, accessFlags := 1, code := none }
def k1c1 : Code := { maxStack := 2, maxLocals := 2, code := method_2_code, exceptionTable := #[], attributes := #[] }
def k1m1 : Method := { name := "scaleOf", desc := "(I)D", sig := { parameters := [.int], returnType := some .double }, accessFlags := 10, code := some k1c1 }
def k1c2 : Code := { maxStack := 6, maxLocals := 16, code := code, exceptionTable := #[], attributes := #[] }
def k1m2 : Method := { name := "law", desc := "(II)Z", sig := { parameters := [.int, .int], returnType := some .boolean }, accessFlags := 9, code := some k1c2 }
/-- com/example/sidik/sidik/template/AnglesNormalizePinLaw -/
def k1 : Class := { plain "com/example/sidik/sidik/template/AnglesNormalizePinLaw" (some 0) with
  accessFlags := 49
  interfaces := #[]
  cf := some (fileOf pool1 16 #[] #[{ accessFlags := 1, nameIndex := 5, descriptorIndex := 6, attributes := #[] }, { accessFlags := 10, nameIndex := 19, descriptorIndex := 20, attributes := #[] }, { accessFlags := 9, nameIndex := 36, descriptorIndex := 37, attributes := #[] }] 49 2 #[] #[])
  fields := #[]
  methods := #[k1m0, k1m1, k1m2]
  instanceTypes := #[]
  staticTypes := #[]
  resolved := Array.replicate 40 none
  statics := none }

def pool2 : Array CpInfo := pool [(4, .class_ 6), (1, u "java/lang/Object"), (0, u "<init>"), (0, u "()V"), (0, .class_ 10), (0, u "com/example/sidik/sidik/template/Angles"), (0, .double 4618760256179416344), (4, u "(D)D"), (2, u "TURN"), (0, u "D"), (3, u "normalize")] 5

def k2m0 : Method := { name := "<init>", desc := "()V", sig := { parameters := [], returnType := none }, accessFlags := 2, code := none }
def k2c1 : Code := { maxStack := 4, maxLocals := 4, code := prog_50_method_2_code, exceptionTable := #[], attributes := #[] }
def k2m1 : Method := { name := "normalize", desc := "(D)D", sig := { parameters := [.double], returnType := some .double }, accessFlags := 9, code := some k2c1 }
/-- com/example/sidik/sidik/template/Angles -/
def k2 : Class := { plain "com/example/sidik/sidik/template/Angles" (some 0) with
  accessFlags := 49
  interfaces := #[]
  cf := some (fileOf pool2 9 #[] #[{ accessFlags := 2, nameIndex := 7, descriptorIndex := 8, attributes := #[] }, { accessFlags := 9, nameIndex := 24, descriptorIndex := 16, attributes := #[] }] 49 4 #[] #[{ accessFlags := 26, nameIndex := 19, descriptorIndex := 20, attributes := #[] }])
  fields := #[{ name := "TURN", type := .double, accessFlags := 26, slot := 0, constantValue := 0 }]
  methods := #[k2m0, k2m1]
  instanceTypes := #[]
  staticTypes := #[.double]
  resolved := Array.replicate 30 none
  statics := none }

def pool3 : Array CpInfo := pool [(1, u "java/lang/Cloneable"), (0, .class_ 1), (0, u "java/lang/Object"), (0, .class_ 3)] 3

/-- java/lang/Cloneable -/
def k3 : Class := { plain "java/lang/Cloneable" (some 0) with
  accessFlags := 1537
  interfaces := #[]
  cf := some (fileOf pool3 2 #[] #[] 1537 4 #[] #[])
  fields := #[]
  methods := #[]
  instanceTypes := #[]
  staticTypes := #[]
  resolved := Array.replicate 8 none
  statics := none }

def pool4 : Array CpInfo := pool [(1, u "java/io/Serializable"), (0, .class_ 1), (0, u "java/lang/Object"), (0, .class_ 3)] 3

/-- java/io/Serializable -/
def k4 : Class := { plain "java/io/Serializable" (some 0) with
  accessFlags := 1537
  interfaces := #[]
  cf := some (fileOf pool4 2 #[] #[] 1537 4 #[] #[])
  fields := #[]
  methods := #[]
  instanceTypes := #[]
  staticTypes := #[]
  resolved := Array.replicate 8 none
  statics := none }

/-- the primitive byte -/
def k5 : Class := { plain "byte" none with kind := .primitive 'B', accessFlags := 0x411 }
/-- [B -/
def k6 : Class := { plain "[B" (some 0) with kind := .array 5 .byte, interfaces := #[3, 4], accessFlags := 1041 }

/-- the primitive int -/
def k7 : Class := { plain "int" none with kind := .primitive 'I', accessFlags := 0x411 }
/-- [I -/
def k8 : Class := { plain "[I" (some 0) with kind := .array 7 .int, interfaces := #[3, 4], accessFlags := 1041 }

def heap : Heap := #[]
def classes : Array Class := #[k0, k1, k2, k3, k4, k5, k6, k7, k8]
def interned : List (Array UInt16 × Addr) := []
def slotsUsed : Nat := 0
def theMethod : MethodId := ⟨1, 2⟩
def args0 : Array Value := #[.int 5, .int 1]
def aboutOver (below : List Frame) : State where
  vm := { classes := classes, interned := interned.toArray }
  heap := heap
  slotsUsed := slotsUsed
  threads := #[{ frames := .invoking theMethod args0 :: below }]
def below0 : List Frame := [.native { method := ⟨0, 0⟩, args := #[] }]
def about1 : State := aboutOver below0
def p0 : Program := .bare "" "" ""
def e0 : Env := launch0.env 0 0 0
theorem w_frames : about1.frames = Frame.invoking theMethod args0 :: below0 := rfl
set_option maxRecDepth 65536 in
theorem w_args : argsFit about1.vm theMethod args0 = true := by decide +kernel
set_option maxRecDepth 65536 in
theorem w_heap : heapFits about1 = true := by decide +kernel
set_option maxRecDepth 65536 in
theorem w_runnable : about1.curStatus? = some .runnable := by decide +kernel
set_option maxRecDepth 65536 in
theorem w_alone : about1.alone = true := by decide +kernel
set_option maxRecDepth 65536 in
theorem w_named : about1.methodNamed? x = some theMethod := by decide +kernel
set_option maxRecDepth 65536 in
theorem w_hears : about1.hears theMethod below0 = true := by decide +kernel
set_option maxRecDepth 65536 in
theorem w_ripe : about1.ripe theMethod args0 below0 = true := by decide +kernel
theorem w_running : about1.status = .running := rfl
set_option maxRecDepth 65536 in
theorem w_room : about1.hasRoom e0.platform room_1 = true :=
  launch0.hasRoom_least _ room_1 (by decide +kernel) (by decide +kernel) (by decide +kernel) (by decide +kernel) (by decide +kernel) (by decide +kernel)
theorem allAtoms_all (ts : List Jvm.Cond) (a : Array Jvm.Value) (st : Jvm.State) : (allAtoms ts).before a st = ts.all (fun c => c.before a st) := by
  induction ts with
  | nil => rfl
  | cons c t ih =>
    show (Jvm.Cond.and c (allAtoms t)).before a st = _
    rw [Jvm.Cond.before_and, ih, List.all_cons]
def words1 : List Jvm.Cond := Jvm.Cond.code x code maxLocals ret :: tables_1
/-- a 'code' word, met by the world's own term for the bytes: nothing is compared byte by byte -/
theorem code_word {y : MethodName} {bytes : ByteArray} {mx : Nat} {rt : Option FieldType} {a : Array Value} {s : State} {m : MethodId} {meth : Method} {c : Code} (h1 : s.methodNamed? y = some m) (h2 : s.vm.method? m = some meth) (h3 : meth.code = some c) (h4 : c.code = bytes)
    (h5 : (c.maxLocals == mx && c.exceptionTable.isEmpty && decide (c.maxStack ≤ mostOperands) && decide (meth.sig.returnType = rt) && !meth.locks && decide (parseMethodDescriptor y.desc = some meth.sig)) = true) : (Jvm.Cond.code y bytes mx rt).before a s = true := by
  simp only [Bool.and_eq_true, beq_iff_eq, Bool.not_eq_true', decide_eq_true_eq] at h5
  obtain ⟨⟨⟨⟨⟨g1, g2⟩, g3⟩, g4⟩, g5⟩, g6⟩ := h5
  simp [Cond.before, Cond.holds, Cond.value, h1, h2, h3, h4, g1, g2, g3, g4, g5, g6]
def isCode : Jvm.Cond → Bool
  | .code _ _ _ _ => true
  | _ => false
theorem all_split {L : List Jvm.Cond} {P : Jvm.Cond → Bool} (h1 : L.all (fun c => isCode c || P c) = true) (h2 : ∀ c ∈ L.filter isCode, P c = true) : L.all P = true := by
  refine List.all_eq_true.mpr fun c hc => ?_
  have h := List.all_eq_true.mp h1 c hc
  rcases Bool.eq_false_or_eq_true (isCode c) with hi | hi
  · exact h2 c (List.mem_filter.mpr ⟨hc, hi⟩)
  · simpa [hi] using h
set_option maxRecDepth 65536 in
theorem w_c0 : (Jvm.Cond.code x code maxLocals ret).before args0 about1 = true := code_word (m := ⟨1, 2⟩) (meth := k1m2) (c := k1c2) (by decide +kernel) rfl rfl rfl (by decide +kernel)
set_option maxRecDepth 65536 in
theorem w_c1 : (Jvm.Cond.code ({ cls := "com/example/sidik/sidik/template/AnglesNormalizePinLaw", name := "scaleOf", desc := "(I)D" } : Jvm.MethodName) method_2_code (2 : Nat) (Option.some Jvm.ClassFile.FieldType.double)).before args0 about1 = true := code_word (m := ⟨1, 1⟩) (meth := k1m1) (c := k1c1) (by decide +kernel) rfl rfl rfl (by decide +kernel)
set_option maxRecDepth 65536 in
theorem w_c2 : (Jvm.Cond.code ({ cls := "com/example/sidik/sidik/template/Angles", name := "normalize", desc := "(D)D" } : Jvm.MethodName) prog_50_method_2_code (4 : Nat) (Option.some Jvm.ClassFile.FieldType.double)).before args0 about1 = true := code_word (m := ⟨2, 1⟩) (meth := k2m1) (c := k2c1) (by decide +kernel) rfl rfl rfl (by decide +kernel)
def codes1 : List Jvm.Cond := [Jvm.Cond.code x code maxLocals ret, Jvm.Cond.code ({ cls := "com/example/sidik/sidik/template/AnglesNormalizePinLaw", name := "scaleOf", desc := "(I)D" } : Jvm.MethodName) method_2_code (2 : Nat) (Option.some Jvm.ClassFile.FieldType.double), Jvm.Cond.code ({ cls := "com/example/sidik/sidik/template/Angles", name := "normalize", desc := "(D)D" } : Jvm.MethodName) prog_50_method_2_code (4 : Nat) (Option.some Jvm.ClassFile.FieldType.double)]
set_option maxRecDepth 65536 in
theorem codes_eq : words1.filter isCode = codes1 := rfl
theorem w_codes : ∀ c ∈ words1.filter isCode, c.before args0 about1 = true := by
  rw [codes_eq]
  intro c hc
  simp only [codes1, List.mem_cons, List.not_mem_nil, or_false] at hc
  rcases hc with rfl | rfl | rfl
  · exact w_c0
  · exact w_c1
  · exact w_c2
set_option maxRecDepth 65536 in
theorem w_t1 : words1.all (fun c => isCode c || c.before args0 about1) = true := by decide +kernel
theorem w_tables : (allAtoms (Jvm.Cond.code x code maxLocals ret :: tables_1)).before args0 about1 = true := by
  rw [allAtoms_all]
  show words1.all (fun c => c.before args0 about1) = true
  refine all_split ?_ w_codes
  rw [w_t1]
set_option maxRecDepth 65536 in
theorem w_case : (Jvm.Cond.and given_1 narrow_1).before args0 about1 = true := by decide +kernel
theorem w_applies : (headSpec (Jvm.Cond.code x code maxLocals ret :: tables_1) room_1).applies x e0.platform about1 = true :=
  (Spec.applies_iff w_frames).mpr ⟨w_running, w_runnable, w_alone, w_named, w_hears, w_ripe, w_room, w_tables⟩
theorem atStart : AtStart classFile x code maxLocals ret World_1 tables_1 room_1 Calls_1 rest_1 Pre_1 launch0 p0 e0 about1 theMethod args0 below0 :=
  ⟨lists_1, trivial, launch0.admits_env _ _ _, launch0.least_env, fairChoices_fair.cas, fairChoices_fair.clock, w_frames, w_args, w_heap, w_applies, trivial, trivial, w_case⟩
end start1
theorem witness_1 : WitnessClaimed_1 := ⟨start1.p0, start1.e0, start1.about1, start1.theMethod, start1.args0, start1.below0, start1.atStart⟩
end Jvm.Pilot.@@N@@

import JvmDerived
import JvmDerived.Pilot.@@N@@Statement
import JvmDerived.Pilot.@@N@@Code
set_option linter.unusedVariables false
set_option linter.unusedSimpArgs false
namespace Jvm.Pilot.@@N@@
open Jvm Jvm.ClassFile Sem Op Lib Jvm.Free Jvm.Stand Jvm.LawKit Jvm.RoadKit Bundle Jvm.Pilot.@@N@@.Jvm.D
def own_ushr (x y : Int32) : Int32 := (x.toUInt32 >>> (y &&& 31).toUInt32).toInt32
def own_ushrL (x : Int64) (y : Int32) : Int64 := (x.toUInt64 >>> (y &&& 0x3f).toInt64.toUInt64).toInt64
section OwnKit
variable {p : Program} {l : Launch} {e : Env} {R : Room} {s : State} {m : MethodId} {args : Array Value} {below : List Frame} {meth : Method} {c : Code} {T : State} {locs : List Loc} {cells slots : Nat} {Z : State} {h h0 : Heap} {ce sl : Nat} {Q : Option Value → Heap → List Loc → Prop} {U U' : State} {a0 : Array Value}
/-- from U the walk comes to its return, and what it leaves is Q -/
def Go (p : Program) (e : Env) (below : List Frame) (s : State) (ce sl : Nat) (Q : Option Value → Heap → List Loc → Prop) (U : State) : Prop :=
  ∃ s₂ o, Steps p.tables e below U s₂ ∧ s₂.status = .running ∧ Ended s₂ below o ∧ ∃ v L, o = .returned v ∧ Q v s₂.heap L ∧ FrameEnd s o s₂ L ce sl
theorem Go.via (h : ∀ t, Steps p.tables e below U' t → Steps p.tables e below U t) (g : Go p e below s ce sl Q U') : Go p e below s ce sl Q U := by
  obtain ⟨s₂, o, h1, h2⟩ := g
  exact ⟨s₂, o, h _ h1, h2⟩
theorem Go.cast {g g' : JFrame} (q : g = g') (k : Go p e below s ce sl Q (T.setTop g')) : Go p e below s ce sl Q (T.setTop g) := q ▸ k
/-- the contract of a body: called with as', over the heap h0, it returns and leaves Q -/
def Meets (l : Launch) (Z : State) (y : MethodName) (bytes : ByteArray) (maxL : Nat) (rt : Option FieldType) (ws : List Jvm.Cond) (rm : Room) (as' : Array Value) (h0 : Heap) (Q : Option Value → Heap → List Loc → Prop) : Prop :=
  MetFree l y (head1 (Jvm.Cond.code y bytes maxL rt :: ws) rm) (fun a U => a = as' ∧ Z.Warmed39 U.vm ∧ U.heap = h0) (fun _ _ _ _ _ => True) (fun _ U o U' => ∃ v L, o = .returned v ∧ Q v U'.heap L ∧ FrameEnd U o U' L rm.cells rm.slots)
theorem meets_of {y : MethodName} {bytes : ByteArray} {maxL : Nat} {rt : Option FieldType} {ws : List Jvm.Cond} {rm : Room} {as' : Array Value} (hpl : plainFor y = true)
    (body : ∀ p e s m below meth c s₁, Stand p l e rm s m as' below meth c s₁ [] 0 0 → p.tables.exec = Jvm.exec → Z.Warmed39 s.vm → c.code = bytes → c.maxLocals = maxL → meth.sig.returnType = rt → meth.locks = false → s.vm.findClass y.cls = some m.cls → meth.name = y.name → s₁.heap = h0 →
      Go p e below s rm.cells rm.slots Q (s₁.setTop (entryFrame m as' maxL))) : Meets l Z y bytes maxL rt ws rm as' h0 Q := by
  refine MetFree.of_bodySF hpl hisR ?_
  intro p e s m args below meth c s₁ Bd hml hP hK
  obtain ⟨rfl, hZ, hh⟩ := hP
  exact body p e s m below meth c s₁ (Stand.of_body Bd) Bd.exec hZ Bd.bytes hml Bd.returns Bd.notSynchronized (findClass_of_methodNamed Bd.named) (name_of_methodNamed Bd.named Bd.method).1 (by rw [← hh, Bd.state]; rfl)
theorem go_ret (X : Stand p l e R s m args below meth c T locs cells slots) (hlk : meth.locks = false) {v : Option Value} (hv : meth.sig.returnType = none → v = none) (eT : T.heap = h) (hQ : Q v h locs) (hc : cells ≤ ce) (hs : slots ≤ sl)
    (st : ∀ fs, (∀ (f : JFrame) (acts : List Action), f.method = m → f.locked = none → f.entered = [] → (doReturn e (T.setTop f) acts v).1 = T.setFrames fs) → Steps p.tables e below U (T.setFrames fs)) : Go p e below s ce sl Q U := by
  obtain ⟨fs, hr, hrun, hended, hW, hsame⟩ := X.leave hv hlk
  exact ⟨_, _, st fs hr, hrun, hended, v, locs, rfl, (by show Q v T.heap locs; rw [eT]; exact hQ), ⟨_, rfl⟩, hW, hsame.mono hc hs⟩
theorem go_retN (X : Stand p l e R s m args below meth c T locs cells slots) (hx : p.tables.exec = Jvm.exec) (hlk : meth.locks = false) {t : FieldType} (hret : meth.sig.returnType = some t) (ht : t = .boolean ∨ t = .byte ∨ t = .char ∨ t = .short) {pc : Nat} {Ls : Array Slot} {z : Int32} {rest : List Value}
    (hd : decode c.code pc = .ok (.ireturn, 1)) (eT : T.heap = h) (hQ : Q (some (.int (nar t z))) h locs) (hc : cells ≤ ce) (hs : slots ≤ sl) : Go p e below s ce sl Q (T.setTop (mkF m pc Ls (.int z :: rest))) :=
  go_ret X hlk (fun h => by rw [hret] at h; cases h) eT hQ hc hs (fun fs hr => retN X hx hret ht hd hr)
theorem go_retI (X : Stand p l e R s m args below meth c T locs cells slots) (hx : p.tables.exec = Jvm.exec) (hlk : meth.locks = false) (hret : meth.sig.returnType = some .int) {pc : Nat} {Ls : Array Slot} {z : Int32} {rest : List Value}
    (hd : decode c.code pc = .ok (.ireturn, 1)) (eT : T.heap = h) (hQ : Q (some (.int z)) h locs) (hc : cells ≤ ce) (hs : slots ≤ sl) : Go p e below s ce sl Q (T.setTop (mkF m pc Ls (.int z :: rest))) :=
  go_ret X hlk (fun h => by rw [hret] at h; cases h) eT hQ hc hs (fun fs hr => retOut X hx hret rfl (Or.inl ⟨rfl, Or.inl rfl, z, rfl⟩) hd hr)
theorem go_retJ (X : Stand p l e R s m args below meth c T locs cells slots) (hx : p.tables.exec = Jvm.exec) (hlk : meth.locks = false) (hret : meth.sig.returnType = some .long) {pc : Nat} {Ls : Array Slot} {z : Int64} {rest : List Value}
    (hd : decode c.code pc = .ok (.lreturn, 1)) (eT : T.heap = h) (hQ : Q (some (.long z)) h locs) (hc : cells ≤ ce) (hs : slots ≤ sl) : Go p e below s ce sl Q (T.setTop (mkF m pc Ls (.long z :: rest))) :=
  go_ret X hlk (fun h => by rw [hret] at h; cases h) eT hQ hc hs (fun fs hr => retOut X hx hret rfl (Or.inr (Or.inl ⟨rfl, rfl, z, rfl⟩)) hd hr)
theorem go_retA (X : Stand p l e R s m args below meth c T locs cells slots) (hx : p.tables.exec = Jvm.exec) (hlk : meth.locks = false) {t : FieldType} (hret : meth.sig.returnType = some t) (ht : t.isReference = true) {pc : Nat} {Ls : Array Slot} {w : Value} (hw : w.isRef = true) (hn : narrow t w = w) {rest : List Value}
    (hd : decode c.code pc = .ok (.areturn, 1)) (eT : T.heap = h) (hQ : Q (some w) h locs) (hc : cells ≤ ce) (hs : slots ≤ sl) : Go p e below s ce sl Q (T.setTop (mkF m pc Ls (w :: rest))) :=
  go_ret X hlk (fun h => by rw [hret] at h; cases h) eT hQ hc hs (fun fs hr => retOut X hx hret hn (Or.inr (Or.inr (Or.inr (Or.inr ⟨rfl, ht, hw⟩)))) hd hr)
theorem go_retV (X : Stand p l e R s m args below meth c T locs cells slots) (hx : p.tables.exec = Jvm.exec) (hlk : meth.locks = false) (hret : meth.sig.returnType = none) {pc : Nat} {Ls : Array Slot}
    (hd : decode c.code pc = .ok (.return_, 1)) (eT : T.heap = h) (hQ : Q none h locs) (hc : cells ≤ ce) (hs : slots ≤ sl) : Go p e below s ce sl Q (T.setTop (mkF m pc Ls [])) :=
  go_ret X hlk (fun _ => rfl) eT hQ hc hs (fun fs hr => X.returnOut hx hret hd hr)
/-- it returned v, wrote nothing and made nothing -/
def PureR (v : Option Value) (h0 : Heap) : Option Value → Heap → List Loc → Prop := fun v' h L => v' = v ∧ h = h0 ∧ L = []
/-- a static method by its contract -/
theorem callSQ (X : Stand p l e R s m args below meth c T locs cells slots) (hx : p.tables.exec = Jvm.exec) (hZ : Z.Warmed39 s.vm) {own : String} {index : Nat} {y : MethodName} {bytes : ByteArray} {maxL : Nat} {rt : Option FieldType} {rm : Room}
    (hown : s.vm.findClass own = some m.cls) (w1 : (Jvm.Cond.methodLink own index y).before a0 Z = true) (w2 : (Jvm.Cond.static y).before a0 Z = true) (w3 : (Jvm.Cond.initialized y.cls).before a0 Z = true) (w4 : (Jvm.Cond.code y bytes maxL rt).before a0 Z = true)
    (hy : y.cls ≠ "java/lang/invoke/MethodHandle" ∧ y.cls ≠ "java/lang/invoke/VarHandle") {av : List Value} (hM : Meets l Z y bytes maxL rt [] rm av.toArray h Q) (eT : T.heap = h)
    {pc : Nat} {Ls : Array Slot} {rest : List Value} {ps : List FieldType} {r : Option FieldType} (hsize : Ls.size = c.maxLocals) (hp : parseMethodDescriptor y.desc = some ⟨ps, r⟩) (hlen : av.length = ps.length)
    (W : Nat) (hW : (rest.map fun v => v.category).sum ≤ W) (hf : rm.frames + 1 ≤ R.frames) (hl : W + (maxL + 11) + rm.locals ≤ R.locals) (hc : cells + rm.cells ≤ R.cells) (hs : slots + rm.slots ≤ R.slots) (hd : decode c.code pc = .ok (.invokestatic index, 3)) :
    ∃ v T' L, Stand p l e R s m args below meth c T' (locs ++ L) (cells + rm.cells) (slots + rm.slots) ∧ Q v T'.heap L ∧
      ∀ t, Steps p.tables e below (T'.setTop (mkF m (pc + 3) Ls (v.toList ++ rest))) t → Steps p.tables e below (T.setTop (mkF m pc Ls (av.reverse ++ rest))) t := by
  obtain ⟨v, _, ⟨T2, L2, k2, n2⟩, -, X2, ⟨Lc2, hQ2, l2, y2, z2⟩, st2⟩ := Jvm.LawKit.callS X hx (y := y) hown (mvT hZ w1) (mvT hZ w2) (mvT hZ w3) (mvT hZ w4) hy (backOf (W := W) hM hZ w4 w3 hf hl) (g := mkF m pc Ls (av.reverse ++ rest)) rfl hsize (argsL := av) (rest := rest) (lenOf hp hlen) rfl (by show 2 * 0 + _ ≤ _; rw [Nat.mul_zero, Nat.zero_add]; exact hW) hd (fun _ _ => ⟨rfl, eT, hc, hs⟩)
  dsimp only [Pt.U, Pt.locs, Pt.cells, Pt.slots] at X2 l2 y2 z2 st2 hQ2
  subst l2 y2 z2
  exact ⟨v, T2, Lc2, X2, hQ2, st2⟩
/-- a static method that writes and makes nothing -/
theorem callS0 (X : Stand p l e R s m args below meth c T locs cells slots) (hx : p.tables.exec = Jvm.exec) (hZ : Z.Warmed39 s.vm) {own : String} {index : Nat} {y : MethodName} {bytes : ByteArray} {maxL : Nat} {rt : Option FieldType} {fr lo : Nat} {v : Option Value}
    (hown : s.vm.findClass own = some m.cls) (w1 : (Jvm.Cond.methodLink own index y).before a0 Z = true) (w2 : (Jvm.Cond.static y).before a0 Z = true) (w3 : (Jvm.Cond.initialized y.cls).before a0 Z = true) (w4 : (Jvm.Cond.code y bytes maxL rt).before a0 Z = true)
    (hy : y.cls ≠ "java/lang/invoke/MethodHandle" ∧ y.cls ≠ "java/lang/invoke/VarHandle") {av : List Value} (hM : Meets l Z y bytes maxL rt [] ({ frames := fr, cells := 0, slots := 0, locals := lo } : Room) av.toArray h (PureR v h)) (eT : T.heap = h)
    {pc : Nat} {Ls : Array Slot} {rest : List Value} {ps : List FieldType} {r : Option FieldType} (hsize : Ls.size = c.maxLocals) (hp : parseMethodDescriptor y.desc = some ⟨ps, r⟩) (hlen : av.length = ps.length)
    (W : Nat) (hW : (rest.map fun v => v.category).sum ≤ W) (hf : fr + 1 ≤ R.frames) (hl : W + (maxL + 11) + lo ≤ R.locals) (hc : cells ≤ R.cells) (hs : slots ≤ R.slots) (hd : decode c.code pc = .ok (.invokestatic index, 3)) :
    ∃ T', Stand p l e R s m args below meth c T' locs cells slots ∧ T'.heap = h ∧
      ∀ t, Steps p.tables e below (T'.setTop (mkF m (pc + 3) Ls (v.toList ++ rest))) t → Steps p.tables e below (T.setTop (mkF m pc Ls (av.reverse ++ rest))) t := by
  obtain ⟨_, T2, _, X2, ⟨rfl, h2, rfl⟩, st2⟩ := callSQ X hx hZ hown w1 w2 w3 w4 hy hM eT hsize hp hlen W hW hf hl hc hs hd
  rw [List.append_nil] at X2
  exact ⟨T2, X2, h2, st2⟩
end OwnKit
theorem own_k0 (m : MethodId) (x0 : Int64) : entryFrame m #[(.long x0)] 4 = mkF m 0 #[.val (.long x0), .second, .unset, .unset] [] := by first | (simp [entryFrame, mkF, argsToLocals, Value.category]; done) | rfl
theorem own_k1 : decode method_2_code 0 = .ok (.lload_n 0, 1) := by decide +kernel
theorem own_k2 : decode method_2_code 1 = .ok (.lstore_n 2, 1) := by decide +kernel
theorem own_k3 : decode method_2_code 2 = .ok (.lload_n 2, 1) := by decide +kernel
theorem own_k4 : decode method_2_code 3 = .ok (.ldc2_w 7, 3) := by decide +kernel
theorem own_k5 : decode method_2_code 6 = .ok (.lload_n 0, 1) := by decide +kernel
theorem own_k6 : decode method_2_code 7 = .ok (.lload_n 2, 1) := by decide +kernel
theorem own_k7 : decode method_2_code 8 = .ok (.lmul, 1) := by decide +kernel
theorem own_k8 : decode method_2_code 9 = .ok (.lsub, 1) := by decide +kernel
theorem own_k9 : decode method_2_code 10 = .ok (.lmul, 1) := by decide +kernel
theorem own_k10 : decode method_2_code 11 = .ok (.lstore_n 2, 1) := by decide +kernel
theorem own_k11 : decode method_2_code 12 = .ok (.lload_n 2, 1) := by decide +kernel
theorem own_k12 : decode method_2_code 13 = .ok (.ldc2_w 7, 3) := by decide +kernel
theorem own_k13 : decode method_2_code 16 = .ok (.lload_n 0, 1) := by decide +kernel
theorem own_k14 : decode method_2_code 17 = .ok (.lload_n 2, 1) := by decide +kernel
theorem own_k15 : decode method_2_code 18 = .ok (.lmul, 1) := by decide +kernel
theorem own_k16 : decode method_2_code 19 = .ok (.lsub, 1) := by decide +kernel
def own_w3_0 (x0 : Int64) : Int64 := ((x0 * ((2 : Int64) - (x0 * x0))) * ((2 : Int64) - (x0 * (x0 * ((2 : Int64) - (x0 * x0))))))
theorem own_k17 : decode method_2_code 20 = .ok (.lmul, 1) := by decide +kernel
theorem own_k18 : decode method_2_code 21 = .ok (.lstore_n 2, 1) := by decide +kernel
theorem own_k19 : decode method_2_code 22 = .ok (.lload_n 2, 1) := by decide +kernel
theorem own_k20 : decode method_2_code 23 = .ok (.ldc2_w 7, 3) := by decide +kernel
theorem own_k21 : decode method_2_code 26 = .ok (.lload_n 0, 1) := by decide +kernel
theorem own_k22 : decode method_2_code 27 = .ok (.lload_n 2, 1) := by decide +kernel
theorem own_k23 : decode method_2_code 28 = .ok (.lmul, 1) := by decide +kernel
theorem own_k24 : decode method_2_code 29 = .ok (.lsub, 1) := by decide +kernel
theorem own_k25 : decode method_2_code 30 = .ok (.lmul, 1) := by decide +kernel
theorem own_k26 : decode method_2_code 31 = .ok (.lstore_n 2, 1) := by decide +kernel
theorem own_k27 : decode method_2_code 32 = .ok (.lload_n 2, 1) := by decide +kernel
theorem own_k28 : decode method_2_code 33 = .ok (.ldc2_w 7, 3) := by decide +kernel
theorem own_k29 : decode method_2_code 36 = .ok (.lload_n 0, 1) := by decide +kernel
theorem own_k30 : decode method_2_code 37 = .ok (.lload_n 2, 1) := by decide +kernel
def own_w3_1 (x0 : Int64) : Int64 := (x0 * ((own_w3_0 x0) * ((2 : Int64) - (x0 * (own_w3_0 x0)))))
theorem own_k31 : decode method_2_code 38 = .ok (.lmul, 1) := by decide +kernel
theorem own_k32 : decode method_2_code 39 = .ok (.lsub, 1) := by decide +kernel
def own_w3_2 (x0 : Int64) : Int64 := (((own_w3_0 x0) * ((2 : Int64) - (x0 * (own_w3_0 x0)))) * ((2 : Int64) - (own_w3_1 x0)))
theorem own_k33 : decode method_2_code 40 = .ok (.lmul, 1) := by decide +kernel
theorem own_k34 : decode method_2_code 41 = .ok (.lstore_n 2, 1) := by decide +kernel
theorem own_k35 : decode method_2_code 42 = .ok (.lload_n 2, 1) := by decide +kernel
theorem own_k36 : decode method_2_code 43 = .ok (.ldc2_w 7, 3) := by decide +kernel
theorem own_k37 : decode method_2_code 46 = .ok (.lload_n 0, 1) := by decide +kernel
theorem own_k38 : decode method_2_code 47 = .ok (.lload_n 2, 1) := by decide +kernel
theorem own_k39 : decode method_2_code 48 = .ok (.lmul, 1) := by decide +kernel
theorem own_k40 : decode method_2_code 49 = .ok (.lsub, 1) := by decide +kernel
theorem own_k41 : decode method_2_code 50 = .ok (.lmul, 1) := by decide +kernel
theorem own_k42 : decode method_2_code 51 = .ok (.lstore_n 2, 1) := by decide +kernel
theorem own_k43 : decode method_2_code 52 = .ok (.lload_n 2, 1) := by decide +kernel
theorem own_k44 : decode method_2_code 53 = .ok (.lreturn, 1) := by decide +kernel
theorem own_k45 : plainName "com/example/libhazy/libhazy/SplitMix64MixPinLaw" = true := by first | (simp [plainName, overriddenIn]; done) | decide +kernel
def own_f3 (x0 : Int64) : Int64 := ((own_w3_2 x0) * ((2 : Int64) - (x0 * (own_w3_2 x0))))
set_option maxRecDepth 65536 in
set_option maxHeartbeats 40000000 in
theorem own_rm3 (l : Launch) (Z : State) (a0 : Array Value) (hw : ∀ d ∈ tables_1, d.before a0 Z = true) (ws : List Jvm.Cond) (x0 : Int64) (h0 : Heap) : Meets l Z (⟨"com/example/libhazy/libhazy/SplitMix64MixPinLaw", "inverseOdd", "(J)J"⟩ : MethodName) method_2_code 4 (some .long) ws ({ frames := 0, cells := 0, slots := 0, locals := 0 } : Room) #[(.long x0)] h0 (PureR (some (.long (own_f3 x0))) h0) := by
  refine meets_of (plainFor_of_name own_k45) ?_
  intro p e s m below meth c s₁ X0 hx hZ hby hml hret hlk hown hnm e0
  replace hml : c.maxLocals = 4 := hml
  replace hown : s.vm.findClass "com/example/libhazy/libhazy/SplitMix64MixPinLaw" = some m.cls := hown
  refine Go.cast (own_k0 m x0) ?_
  refine Go.via (U' := s₁.setTop (mkF m 1 #[.val (.long x0), .second, .unset, .unset] [(.long x0)])) (fun t k => XS.lloadN X0.here hx rfl (hb hby own_k1) rfl k) ?_
  refine Go.via (U' := s₁.setTop (mkF m 2 #[.val (.long x0), .second, .val (.long x0), .second] [])) (fun t k => XS.lstoreN X0.here hx rfl (hb hby own_k2) rfl (l' := #[.val (.long x0), .second, .val (.long x0), .second]) rfl k) ?_
  refine Go.via (U' := s₁.setTop (mkF m 3 #[.val (.long x0), .second, .val (.long x0), .second] [(.long x0)])) (fun t k => XS.lloadN X0.here hx rfl (hb hby own_k3) rfl k) ?_
  refine Go.via (U' := s₁.setTop (mkF m 6 #[.val (.long x0), .second, .val (.long x0), .second] [(.long (2 : Int64)), (.long x0)])) (fun t k => X0.ldc2Long hx hown (mvT hZ (hw _ (List.mem_of_getElem? (i := 14) rfl))) (g := (mkF m 3 #[.val (.long x0), .second, .val (.long x0), .second] [(.long x0)])) rfl (hb hby own_k4) t k) ?_
  refine Go.via (U' := s₁.setTop (mkF m 7 #[.val (.long x0), .second, .val (.long x0), .second] [(.long x0), (.long (2 : Int64)), (.long x0)])) (fun t k => XS.lloadN X0.here hx rfl (hb hby own_k5) rfl k) ?_
  refine Go.via (U' := s₁.setTop (mkF m 8 #[.val (.long x0), .second, .val (.long x0), .second] [(.long x0), (.long x0), (.long (2 : Int64)), (.long x0)])) (fun t k => XS.lloadN X0.here hx rfl (hb hby own_k6) rfl k) ?_
  refine Go.via (U' := s₁.setTop (mkF m 9 #[.val (.long x0), .second, .val (.long x0), .second] [(.long (x0 * x0)), (.long (2 : Int64)), (.long x0)])) (fun t k => XS.lmul X0.here hx rfl (hb hby own_k7) rfl k) ?_
  refine Go.via (U' := s₁.setTop (mkF m 10 #[.val (.long x0), .second, .val (.long x0), .second] [(.long ((2 : Int64) - (x0 * x0))), (.long x0)])) (fun t k => XS.lsub X0.here hx rfl (hb hby own_k8) rfl k) ?_
  refine Go.via (U' := s₁.setTop (mkF m 11 #[.val (.long x0), .second, .val (.long x0), .second] [(.long (x0 * ((2 : Int64) - (x0 * x0))))])) (fun t k => XS.lmul X0.here hx rfl (hb hby own_k9) rfl k) ?_
  refine Go.via (U' := s₁.setTop (mkF m 12 #[.val (.long x0), .second, .val (.long (x0 * ((2 : Int64) - (x0 * x0)))), .second] [])) (fun t k => XS.lstoreN X0.here hx rfl (hb hby own_k10) rfl (l' := #[.val (.long x0), .second, .val (.long (x0 * ((2 : Int64) - (x0 * x0)))), .second]) rfl k) ?_
  refine Go.via (U' := s₁.setTop (mkF m 13 #[.val (.long x0), .second, .val (.long (x0 * ((2 : Int64) - (x0 * x0)))), .second] [(.long (x0 * ((2 : Int64) - (x0 * x0))))])) (fun t k => XS.lloadN X0.here hx rfl (hb hby own_k11) rfl k) ?_
  refine Go.via (U' := s₁.setTop (mkF m 16 #[.val (.long x0), .second, .val (.long (x0 * ((2 : Int64) - (x0 * x0)))), .second] [(.long (2 : Int64)), (.long (x0 * ((2 : Int64) - (x0 * x0))))])) (fun t k => X0.ldc2Long hx hown (mvT hZ (hw _ (List.mem_of_getElem? (i := 14) rfl))) (g := (mkF m 13 #[.val (.long x0), .second, .val (.long (x0 * ((2 : Int64) - (x0 * x0)))), .second] [(.long (x0 * ((2 : Int64) - (x0 * x0))))])) rfl (hb hby own_k12) t k) ?_
  refine Go.via (U' := s₁.setTop (mkF m 17 #[.val (.long x0), .second, .val (.long (x0 * ((2 : Int64) - (x0 * x0)))), .second] [(.long x0), (.long (2 : Int64)), (.long (x0 * ((2 : Int64) - (x0 * x0))))])) (fun t k => XS.lloadN X0.here hx rfl (hb hby own_k13) rfl k) ?_
  refine Go.via (U' := s₁.setTop (mkF m 18 #[.val (.long x0), .second, .val (.long (x0 * ((2 : Int64) - (x0 * x0)))), .second] [(.long (x0 * ((2 : Int64) - (x0 * x0)))), (.long x0), (.long (2 : Int64)), (.long (x0 * ((2 : Int64) - (x0 * x0))))])) (fun t k => XS.lloadN X0.here hx rfl (hb hby own_k14) rfl k) ?_
  refine Go.via (U' := s₁.setTop (mkF m 19 #[.val (.long x0), .second, .val (.long (x0 * ((2 : Int64) - (x0 * x0)))), .second] [(.long (x0 * (x0 * ((2 : Int64) - (x0 * x0))))), (.long (2 : Int64)), (.long (x0 * ((2 : Int64) - (x0 * x0))))])) (fun t k => XS.lmul X0.here hx rfl (hb hby own_k15) rfl k) ?_
  refine Go.via (U' := s₁.setTop (mkF m 20 #[.val (.long x0), .second, .val (.long (x0 * ((2 : Int64) - (x0 * x0)))), .second] [(.long ((2 : Int64) - (x0 * (x0 * ((2 : Int64) - (x0 * x0)))))), (.long (x0 * ((2 : Int64) - (x0 * x0))))])) (fun t k => XS.lsub X0.here hx rfl (hb hby own_k16) rfl k) ?_
  refine Go.via (U' := s₁.setTop (mkF m 21 #[.val (.long x0), .second, .val (.long (x0 * ((2 : Int64) - (x0 * x0)))), .second] [(.long (own_w3_0 x0))])) (fun t k => XS.lmul X0.here hx rfl (hb hby own_k17) rfl k) ?_
  refine Go.via (U' := s₁.setTop (mkF m 22 #[.val (.long x0), .second, .val (.long (own_w3_0 x0)), .second] [])) (fun t k => XS.lstoreN X0.here hx rfl (hb hby own_k18) rfl (l' := #[.val (.long x0), .second, .val (.long (own_w3_0 x0)), .second]) rfl k) ?_
  refine Go.via (U' := s₁.setTop (mkF m 23 #[.val (.long x0), .second, .val (.long (own_w3_0 x0)), .second] [(.long (own_w3_0 x0))])) (fun t k => XS.lloadN X0.here hx rfl (hb hby own_k19) rfl k) ?_
  refine Go.via (U' := s₁.setTop (mkF m 26 #[.val (.long x0), .second, .val (.long (own_w3_0 x0)), .second] [(.long (2 : Int64)), (.long (own_w3_0 x0))])) (fun t k => X0.ldc2Long hx hown (mvT hZ (hw _ (List.mem_of_getElem? (i := 14) rfl))) (g := (mkF m 23 #[.val (.long x0), .second, .val (.long (own_w3_0 x0)), .second] [(.long (own_w3_0 x0))])) rfl (hb hby own_k20) t k) ?_
  refine Go.via (U' := s₁.setTop (mkF m 27 #[.val (.long x0), .second, .val (.long (own_w3_0 x0)), .second] [(.long x0), (.long (2 : Int64)), (.long (own_w3_0 x0))])) (fun t k => XS.lloadN X0.here hx rfl (hb hby own_k21) rfl k) ?_
  refine Go.via (U' := s₁.setTop (mkF m 28 #[.val (.long x0), .second, .val (.long (own_w3_0 x0)), .second] [(.long (own_w3_0 x0)), (.long x0), (.long (2 : Int64)), (.long (own_w3_0 x0))])) (fun t k => XS.lloadN X0.here hx rfl (hb hby own_k22) rfl k) ?_
  refine Go.via (U' := s₁.setTop (mkF m 29 #[.val (.long x0), .second, .val (.long (own_w3_0 x0)), .second] [(.long (x0 * (own_w3_0 x0))), (.long (2 : Int64)), (.long (own_w3_0 x0))])) (fun t k => XS.lmul X0.here hx rfl (hb hby own_k23) rfl k) ?_
  refine Go.via (U' := s₁.setTop (mkF m 30 #[.val (.long x0), .second, .val (.long (own_w3_0 x0)), .second] [(.long ((2 : Int64) - (x0 * (own_w3_0 x0)))), (.long (own_w3_0 x0))])) (fun t k => XS.lsub X0.here hx rfl (hb hby own_k24) rfl k) ?_
  refine Go.via (U' := s₁.setTop (mkF m 31 #[.val (.long x0), .second, .val (.long (own_w3_0 x0)), .second] [(.long ((own_w3_0 x0) * ((2 : Int64) - (x0 * (own_w3_0 x0)))))])) (fun t k => XS.lmul X0.here hx rfl (hb hby own_k25) rfl k) ?_
  refine Go.via (U' := s₁.setTop (mkF m 32 #[.val (.long x0), .second, .val (.long ((own_w3_0 x0) * ((2 : Int64) - (x0 * (own_w3_0 x0))))), .second] [])) (fun t k => XS.lstoreN X0.here hx rfl (hb hby own_k26) rfl (l' := #[.val (.long x0), .second, .val (.long ((own_w3_0 x0) * ((2 : Int64) - (x0 * (own_w3_0 x0))))), .second]) rfl k) ?_
  refine Go.via (U' := s₁.setTop (mkF m 33 #[.val (.long x0), .second, .val (.long ((own_w3_0 x0) * ((2 : Int64) - (x0 * (own_w3_0 x0))))), .second] [(.long ((own_w3_0 x0) * ((2 : Int64) - (x0 * (own_w3_0 x0)))))])) (fun t k => XS.lloadN X0.here hx rfl (hb hby own_k27) rfl k) ?_
  refine Go.via (U' := s₁.setTop (mkF m 36 #[.val (.long x0), .second, .val (.long ((own_w3_0 x0) * ((2 : Int64) - (x0 * (own_w3_0 x0))))), .second] [(.long (2 : Int64)), (.long ((own_w3_0 x0) * ((2 : Int64) - (x0 * (own_w3_0 x0)))))])) (fun t k => X0.ldc2Long hx hown (mvT hZ (hw _ (List.mem_of_getElem? (i := 14) rfl))) (g := (mkF m 33 #[.val (.long x0), .second, .val (.long ((own_w3_0 x0) * ((2 : Int64) - (x0 * (own_w3_0 x0))))), .second] [(.long ((own_w3_0 x0) * ((2 : Int64) - (x0 * (own_w3_0 x0)))))])) rfl (hb hby own_k28) t k) ?_
  refine Go.via (U' := s₁.setTop (mkF m 37 #[.val (.long x0), .second, .val (.long ((own_w3_0 x0) * ((2 : Int64) - (x0 * (own_w3_0 x0))))), .second] [(.long x0), (.long (2 : Int64)), (.long ((own_w3_0 x0) * ((2 : Int64) - (x0 * (own_w3_0 x0)))))])) (fun t k => XS.lloadN X0.here hx rfl (hb hby own_k29) rfl k) ?_
  refine Go.via (U' := s₁.setTop (mkF m 38 #[.val (.long x0), .second, .val (.long ((own_w3_0 x0) * ((2 : Int64) - (x0 * (own_w3_0 x0))))), .second] [(.long ((own_w3_0 x0) * ((2 : Int64) - (x0 * (own_w3_0 x0))))), (.long x0), (.long (2 : Int64)), (.long ((own_w3_0 x0) * ((2 : Int64) - (x0 * (own_w3_0 x0)))))])) (fun t k => XS.lloadN X0.here hx rfl (hb hby own_k30) rfl k) ?_
  refine Go.via (U' := s₁.setTop (mkF m 39 #[.val (.long x0), .second, .val (.long ((own_w3_0 x0) * ((2 : Int64) - (x0 * (own_w3_0 x0))))), .second] [(.long (own_w3_1 x0)), (.long (2 : Int64)), (.long ((own_w3_0 x0) * ((2 : Int64) - (x0 * (own_w3_0 x0)))))])) (fun t k => XS.lmul X0.here hx rfl (hb hby own_k31) rfl k) ?_
  refine Go.via (U' := s₁.setTop (mkF m 40 #[.val (.long x0), .second, .val (.long ((own_w3_0 x0) * ((2 : Int64) - (x0 * (own_w3_0 x0))))), .second] [(.long ((2 : Int64) - (own_w3_1 x0))), (.long ((own_w3_0 x0) * ((2 : Int64) - (x0 * (own_w3_0 x0)))))])) (fun t k => XS.lsub X0.here hx rfl (hb hby own_k32) rfl k) ?_
  refine Go.via (U' := s₁.setTop (mkF m 41 #[.val (.long x0), .second, .val (.long ((own_w3_0 x0) * ((2 : Int64) - (x0 * (own_w3_0 x0))))), .second] [(.long (own_w3_2 x0))])) (fun t k => XS.lmul X0.here hx rfl (hb hby own_k33) rfl k) ?_
  refine Go.via (U' := s₁.setTop (mkF m 42 #[.val (.long x0), .second, .val (.long (own_w3_2 x0)), .second] [])) (fun t k => XS.lstoreN X0.here hx rfl (hb hby own_k34) rfl (l' := #[.val (.long x0), .second, .val (.long (own_w3_2 x0)), .second]) rfl k) ?_
  refine Go.via (U' := s₁.setTop (mkF m 43 #[.val (.long x0), .second, .val (.long (own_w3_2 x0)), .second] [(.long (own_w3_2 x0))])) (fun t k => XS.lloadN X0.here hx rfl (hb hby own_k35) rfl k) ?_
  refine Go.via (U' := s₁.setTop (mkF m 46 #[.val (.long x0), .second, .val (.long (own_w3_2 x0)), .second] [(.long (2 : Int64)), (.long (own_w3_2 x0))])) (fun t k => X0.ldc2Long hx hown (mvT hZ (hw _ (List.mem_of_getElem? (i := 14) rfl))) (g := (mkF m 43 #[.val (.long x0), .second, .val (.long (own_w3_2 x0)), .second] [(.long (own_w3_2 x0))])) rfl (hb hby own_k36) t k) ?_
  refine Go.via (U' := s₁.setTop (mkF m 47 #[.val (.long x0), .second, .val (.long (own_w3_2 x0)), .second] [(.long x0), (.long (2 : Int64)), (.long (own_w3_2 x0))])) (fun t k => XS.lloadN X0.here hx rfl (hb hby own_k37) rfl k) ?_
  refine Go.via (U' := s₁.setTop (mkF m 48 #[.val (.long x0), .second, .val (.long (own_w3_2 x0)), .second] [(.long (own_w3_2 x0)), (.long x0), (.long (2 : Int64)), (.long (own_w3_2 x0))])) (fun t k => XS.lloadN X0.here hx rfl (hb hby own_k38) rfl k) ?_
  refine Go.via (U' := s₁.setTop (mkF m 49 #[.val (.long x0), .second, .val (.long (own_w3_2 x0)), .second] [(.long (x0 * (own_w3_2 x0))), (.long (2 : Int64)), (.long (own_w3_2 x0))])) (fun t k => XS.lmul X0.here hx rfl (hb hby own_k39) rfl k) ?_
  refine Go.via (U' := s₁.setTop (mkF m 50 #[.val (.long x0), .second, .val (.long (own_w3_2 x0)), .second] [(.long ((2 : Int64) - (x0 * (own_w3_2 x0)))), (.long (own_w3_2 x0))])) (fun t k => XS.lsub X0.here hx rfl (hb hby own_k40) rfl k) ?_
  refine Go.via (U' := s₁.setTop (mkF m 51 #[.val (.long x0), .second, .val (.long (own_w3_2 x0)), .second] [(.long ((own_w3_2 x0) * ((2 : Int64) - (x0 * (own_w3_2 x0)))))])) (fun t k => XS.lmul X0.here hx rfl (hb hby own_k41) rfl k) ?_
  refine Go.via (U' := s₁.setTop (mkF m 52 #[.val (.long x0), .second, .val (.long ((own_w3_2 x0) * ((2 : Int64) - (x0 * (own_w3_2 x0))))), .second] [])) (fun t k => XS.lstoreN X0.here hx rfl (hb hby own_k42) rfl (l' := #[.val (.long x0), .second, .val (.long ((own_w3_2 x0) * ((2 : Int64) - (x0 * (own_w3_2 x0))))), .second]) rfl k) ?_
  refine Go.via (U' := s₁.setTop (mkF m 53 #[.val (.long x0), .second, .val (.long ((own_w3_2 x0) * ((2 : Int64) - (x0 * (own_w3_2 x0))))), .second] [(.long ((own_w3_2 x0) * ((2 : Int64) - (x0 * (own_w3_2 x0)))))])) (fun t k => XS.lloadN X0.here hx rfl (hb hby own_k43) rfl k) ?_
  exact go_retJ X0 hx hlk hret (hb hby own_k44) e0 ⟨(congrArg (fun z => some (Value.long z)) (show ((own_w3_2 x0) * ((2 : Int64) - (x0 * (own_w3_2 x0)))) = (own_f3 x0) from by rfl)), rfl, rfl⟩ (by decide) (by decide)
theorem own_k46 (m : MethodId) (x0 : Int64) : entryFrame m #[(.long x0)] 4 = mkF m 0 #[.val (.long x0), .second, .unset, .unset] [] := by first | (simp [entryFrame, mkF, argsToLocals, Value.category]; done) | rfl
theorem own_k47 : decode prog_50_method_2_code 0 = .ok (.lload_n 0, 1) := by decide +kernel
theorem own_k48 : decode prog_50_method_2_code 1 = .ok (.lstore_n 2, 1) := by decide +kernel
theorem own_k49 : decode prog_50_method_2_code 2 = .ok (.lload_n 2, 1) := by decide +kernel
theorem own_k50 : decode prog_50_method_2_code 3 = .ok (.lload_n 2, 1) := by decide +kernel
theorem own_k51 : decode prog_50_method_2_code 4 = .ok (.bipush 30, 2) := by decide +kernel
theorem own_k52 : decode prog_50_method_2_code 6 = .ok (.lushr, 1) := by decide +kernel
theorem own_k53 : decode prog_50_method_2_code 7 = .ok (.lxor, 1) := by decide +kernel
theorem own_k54 : decode prog_50_method_2_code 8 = .ok (.ldc2_w 13, 3) := by decide +kernel
def own_w1_3 (x0 : Int64) : Int64 := ((x0 ^^^ (own_ushrL x0 (30 : Int32))) * (-4658895280553007687 : Int64))
theorem own_k55 : decode prog_50_method_2_code 11 = .ok (.lmul, 1) := by decide +kernel
theorem own_k56 : decode prog_50_method_2_code 12 = .ok (.lstore_n 2, 1) := by decide +kernel
theorem own_k57 : decode prog_50_method_2_code 13 = .ok (.lload_n 2, 1) := by decide +kernel
theorem own_k58 : decode prog_50_method_2_code 14 = .ok (.lload_n 2, 1) := by decide +kernel
theorem own_k59 : decode prog_50_method_2_code 15 = .ok (.bipush 27, 2) := by decide +kernel
theorem own_k60 : decode prog_50_method_2_code 17 = .ok (.lushr, 1) := by decide +kernel
theorem own_k61 : decode prog_50_method_2_code 18 = .ok (.lxor, 1) := by decide +kernel
theorem own_k62 : decode prog_50_method_2_code 19 = .ok (.ldc2_w 15, 3) := by decide +kernel
def own_w1_4 (x0 : Int64) : Int64 := (((own_w1_3 x0) ^^^ (own_ushrL (own_w1_3 x0) (27 : Int32))) * (-7723592293110705685 : Int64))
theorem own_k63 : decode prog_50_method_2_code 22 = .ok (.lmul, 1) := by decide +kernel
theorem own_k64 : decode prog_50_method_2_code 23 = .ok (.lstore_n 2, 1) := by decide +kernel
theorem own_k65 : decode prog_50_method_2_code 24 = .ok (.lload_n 2, 1) := by decide +kernel
theorem own_k66 : decode prog_50_method_2_code 25 = .ok (.lload_n 2, 1) := by decide +kernel
theorem own_k67 : decode prog_50_method_2_code 26 = .ok (.bipush 31, 2) := by decide +kernel
theorem own_k68 : decode prog_50_method_2_code 28 = .ok (.lushr, 1) := by decide +kernel
theorem own_k69 : decode prog_50_method_2_code 29 = .ok (.lxor, 1) := by decide +kernel
theorem own_k70 : decode prog_50_method_2_code 30 = .ok (.lreturn, 1) := by decide +kernel
theorem own_k71 : plainName "com/example/libhazy/libhazy/SplitMix64" = true := by first | (simp [plainName, overriddenIn]; done) | decide +kernel
def own_f1 (x0 : Int64) : Int64 := ((own_w1_4 x0) ^^^ (own_ushrL (own_w1_4 x0) (31 : Int32)))
set_option maxRecDepth 65536 in
set_option maxHeartbeats 40000000 in
theorem own_rm1 (l : Launch) (Z : State) (a0 : Array Value) (hw : ∀ d ∈ tables_1, d.before a0 Z = true) (ws : List Jvm.Cond) (x0 : Int64) (h0 : Heap) : Meets l Z (⟨"com/example/libhazy/libhazy/SplitMix64", "mix", "(J)J"⟩ : MethodName) prog_50_method_2_code 4 (some .long) ws ({ frames := 0, cells := 0, slots := 0, locals := 0 } : Room) #[(.long x0)] h0 (PureR (some (.long (own_f1 x0))) h0) := by
  refine meets_of (plainFor_of_name own_k71) ?_
  intro p e s m below meth c s₁ X0 hx hZ hby hml hret hlk hown hnm e0
  replace hml : c.maxLocals = 4 := hml
  replace hown : s.vm.findClass "com/example/libhazy/libhazy/SplitMix64" = some m.cls := hown
  refine Go.cast (own_k46 m x0) ?_
  refine Go.via (U' := s₁.setTop (mkF m 1 #[.val (.long x0), .second, .unset, .unset] [(.long x0)])) (fun t k => XS.lloadN X0.here hx rfl (hb hby own_k47) rfl k) ?_
  refine Go.via (U' := s₁.setTop (mkF m 2 #[.val (.long x0), .second, .val (.long x0), .second] [])) (fun t k => XS.lstoreN X0.here hx rfl (hb hby own_k48) rfl (l' := #[.val (.long x0), .second, .val (.long x0), .second]) rfl k) ?_
  refine Go.via (U' := s₁.setTop (mkF m 3 #[.val (.long x0), .second, .val (.long x0), .second] [(.long x0)])) (fun t k => XS.lloadN X0.here hx rfl (hb hby own_k49) rfl k) ?_
  refine Go.via (U' := s₁.setTop (mkF m 4 #[.val (.long x0), .second, .val (.long x0), .second] [(.long x0), (.long x0)])) (fun t k => XS.lloadN X0.here hx rfl (hb hby own_k50) rfl k) ?_
  refine Go.via (U' := s₁.setTop (mkF m 6 #[.val (.long x0), .second, .val (.long x0), .second] [(.int (30 : Int32)), (.long x0), (.long x0)])) (fun t k => XS.bipush X0.here hx rfl (hb hby own_k51) k) ?_
  refine Go.via (U' := s₁.setTop (mkF m 7 #[.val (.long x0), .second, .val (.long x0), .second] [(.long (own_ushrL x0 (30 : Int32))), (.long x0)])) (fun t k => XS.lushr X0.here hx rfl (hb hby own_k52) rfl k) ?_
  refine Go.via (U' := s₁.setTop (mkF m 8 #[.val (.long x0), .second, .val (.long x0), .second] [(.long (x0 ^^^ (own_ushrL x0 (30 : Int32))))])) (fun t k => XS.lxor X0.here hx rfl (hb hby own_k53) rfl k) ?_
  refine Go.via (U' := s₁.setTop (mkF m 11 #[.val (.long x0), .second, .val (.long x0), .second] [(.long (-4658895280553007687 : Int64)), (.long (x0 ^^^ (own_ushrL x0 (30 : Int32))))])) (fun t k => X0.ldc2Long hx hown (mvT hZ (hw _ (List.mem_of_getElem? (i := 4) rfl))) (g := (mkF m 8 #[.val (.long x0), .second, .val (.long x0), .second] [(.long (x0 ^^^ (own_ushrL x0 (30 : Int32))))])) rfl (hb hby own_k54) t k) ?_
  refine Go.via (U' := s₁.setTop (mkF m 12 #[.val (.long x0), .second, .val (.long x0), .second] [(.long (own_w1_3 x0))])) (fun t k => XS.lmul X0.here hx rfl (hb hby own_k55) rfl k) ?_
  refine Go.via (U' := s₁.setTop (mkF m 13 #[.val (.long x0), .second, .val (.long (own_w1_3 x0)), .second] [])) (fun t k => XS.lstoreN X0.here hx rfl (hb hby own_k56) rfl (l' := #[.val (.long x0), .second, .val (.long (own_w1_3 x0)), .second]) rfl k) ?_
  refine Go.via (U' := s₁.setTop (mkF m 14 #[.val (.long x0), .second, .val (.long (own_w1_3 x0)), .second] [(.long (own_w1_3 x0))])) (fun t k => XS.lloadN X0.here hx rfl (hb hby own_k57) rfl k) ?_
  refine Go.via (U' := s₁.setTop (mkF m 15 #[.val (.long x0), .second, .val (.long (own_w1_3 x0)), .second] [(.long (own_w1_3 x0)), (.long (own_w1_3 x0))])) (fun t k => XS.lloadN X0.here hx rfl (hb hby own_k58) rfl k) ?_
  refine Go.via (U' := s₁.setTop (mkF m 17 #[.val (.long x0), .second, .val (.long (own_w1_3 x0)), .second] [(.int (27 : Int32)), (.long (own_w1_3 x0)), (.long (own_w1_3 x0))])) (fun t k => XS.bipush X0.here hx rfl (hb hby own_k59) k) ?_
  refine Go.via (U' := s₁.setTop (mkF m 18 #[.val (.long x0), .second, .val (.long (own_w1_3 x0)), .second] [(.long (own_ushrL (own_w1_3 x0) (27 : Int32))), (.long (own_w1_3 x0))])) (fun t k => XS.lushr X0.here hx rfl (hb hby own_k60) rfl k) ?_
  refine Go.via (U' := s₁.setTop (mkF m 19 #[.val (.long x0), .second, .val (.long (own_w1_3 x0)), .second] [(.long ((own_w1_3 x0) ^^^ (own_ushrL (own_w1_3 x0) (27 : Int32))))])) (fun t k => XS.lxor X0.here hx rfl (hb hby own_k61) rfl k) ?_
  refine Go.via (U' := s₁.setTop (mkF m 22 #[.val (.long x0), .second, .val (.long (own_w1_3 x0)), .second] [(.long (-7723592293110705685 : Int64)), (.long ((own_w1_3 x0) ^^^ (own_ushrL (own_w1_3 x0) (27 : Int32))))])) (fun t k => X0.ldc2Long hx hown (mvT hZ (hw _ (List.mem_of_getElem? (i := 5) rfl))) (g := (mkF m 19 #[.val (.long x0), .second, .val (.long (own_w1_3 x0)), .second] [(.long ((own_w1_3 x0) ^^^ (own_ushrL (own_w1_3 x0) (27 : Int32))))])) rfl (hb hby own_k62) t k) ?_
  refine Go.via (U' := s₁.setTop (mkF m 23 #[.val (.long x0), .second, .val (.long (own_w1_3 x0)), .second] [(.long (own_w1_4 x0))])) (fun t k => XS.lmul X0.here hx rfl (hb hby own_k63) rfl k) ?_
  refine Go.via (U' := s₁.setTop (mkF m 24 #[.val (.long x0), .second, .val (.long (own_w1_4 x0)), .second] [])) (fun t k => XS.lstoreN X0.here hx rfl (hb hby own_k64) rfl (l' := #[.val (.long x0), .second, .val (.long (own_w1_4 x0)), .second]) rfl k) ?_
  refine Go.via (U' := s₁.setTop (mkF m 25 #[.val (.long x0), .second, .val (.long (own_w1_4 x0)), .second] [(.long (own_w1_4 x0))])) (fun t k => XS.lloadN X0.here hx rfl (hb hby own_k65) rfl k) ?_
  refine Go.via (U' := s₁.setTop (mkF m 26 #[.val (.long x0), .second, .val (.long (own_w1_4 x0)), .second] [(.long (own_w1_4 x0)), (.long (own_w1_4 x0))])) (fun t k => XS.lloadN X0.here hx rfl (hb hby own_k66) rfl k) ?_
  refine Go.via (U' := s₁.setTop (mkF m 28 #[.val (.long x0), .second, .val (.long (own_w1_4 x0)), .second] [(.int (31 : Int32)), (.long (own_w1_4 x0)), (.long (own_w1_4 x0))])) (fun t k => XS.bipush X0.here hx rfl (hb hby own_k67) k) ?_
  refine Go.via (U' := s₁.setTop (mkF m 29 #[.val (.long x0), .second, .val (.long (own_w1_4 x0)), .second] [(.long (own_ushrL (own_w1_4 x0) (31 : Int32))), (.long (own_w1_4 x0))])) (fun t k => XS.lushr X0.here hx rfl (hb hby own_k68) rfl k) ?_
  refine Go.via (U' := s₁.setTop (mkF m 30 #[.val (.long x0), .second, .val (.long (own_w1_4 x0)), .second] [(.long ((own_w1_4 x0) ^^^ (own_ushrL (own_w1_4 x0) (31 : Int32))))])) (fun t k => XS.lxor X0.here hx rfl (hb hby own_k69) rfl k) ?_
  exact go_retJ X0 hx hlk hret (hb hby own_k70) e0 ⟨(congrArg (fun z => some (Value.long z)) (show ((own_w1_4 x0) ^^^ (own_ushrL (own_w1_4 x0) (31 : Int32))) = (own_f1 x0) from by rfl)), rfl, rfl⟩ (by decide) (by decide)
theorem own_k72 (m : MethodId) (x0 : Int64) : entryFrame m #[(.long x0)] 2 = mkF m 0 #[.val (.long x0), .second] [] := by first | (simp [entryFrame, mkF, argsToLocals, Value.category]; done) | rfl
theorem own_k73 : decode method_3_code 0 = .ok (.lload_n 0, 1) := by decide +kernel
theorem own_k74 : decode method_3_code 1 = .ok (.lload_n 0, 1) := by decide +kernel
theorem own_k75 : decode method_3_code 2 = .ok (.bipush 31, 2) := by decide +kernel
theorem own_k76 : decode method_3_code 4 = .ok (.lushr, 1) := by decide +kernel
theorem own_k77 : decode method_3_code 5 = .ok (.lxor, 1) := by decide +kernel
theorem own_k78 : decode method_3_code 6 = .ok (.lload_n 0, 1) := by decide +kernel
theorem own_k79 : decode method_3_code 7 = .ok (.bipush 62, 2) := by decide +kernel
theorem own_k80 : decode method_3_code 9 = .ok (.lushr, 1) := by decide +kernel
def own_w2_5 (x0 : Int64) : Int64 := ((x0 ^^^ (own_ushrL x0 (31 : Int32))) ^^^ (own_ushrL x0 (62 : Int32)))
theorem own_k81 : decode method_3_code 10 = .ok (.lxor, 1) := by decide +kernel
theorem own_k82 : decode method_3_code 11 = .ok (.lstore_n 0, 1) := by decide +kernel
theorem own_k83 : decode method_3_code 12 = .ok (.lload_n 0, 1) := by decide +kernel
theorem own_k84 : decode method_3_code 13 = .ok (.ldc2_w 9, 3) := by decide +kernel
theorem own_k85 : parseMethodDescriptor "(J)J" = some ⟨[.long], some .long⟩ := by decide +kernel
theorem own_k86 : decode method_3_code 16 = .ok (.invokestatic 11, 3) := by decide +kernel
theorem own_k87 : decode method_3_code 19 = .ok (.lmul, 1) := by decide +kernel
theorem own_k88 : decode method_3_code 20 = .ok (.lstore_n 0, 1) := by decide +kernel
theorem own_k89 : decode method_3_code 21 = .ok (.lload_n 0, 1) := by decide +kernel
theorem own_k90 : decode method_3_code 22 = .ok (.lload_n 0, 1) := by decide +kernel
theorem own_k91 : decode method_3_code 23 = .ok (.bipush 27, 2) := by decide +kernel
def own_w2_6 (x0 : Int64) : Int64 := (own_ushrL ((own_w2_5 x0) * (own_f3 (-7723592293110705685 : Int64))) (27 : Int32))
theorem own_k92 : decode method_3_code 25 = .ok (.lushr, 1) := by decide +kernel
def own_w2_7 (x0 : Int64) : Int64 := (((own_w2_5 x0) * (own_f3 (-7723592293110705685 : Int64))) ^^^ (own_w2_6 x0))
theorem own_k93 : decode method_3_code 26 = .ok (.lxor, 1) := by decide +kernel
theorem own_k94 : decode method_3_code 27 = .ok (.lload_n 0, 1) := by decide +kernel
theorem own_k95 : decode method_3_code 28 = .ok (.bipush 54, 2) := by decide +kernel
def own_w2_8 (x0 : Int64) : Int64 := (own_ushrL ((own_w2_5 x0) * (own_f3 (-7723592293110705685 : Int64))) (54 : Int32))
theorem own_k96 : decode method_3_code 30 = .ok (.lushr, 1) := by decide +kernel
theorem own_k97 : decode method_3_code 31 = .ok (.lxor, 1) := by decide +kernel
theorem own_k98 : decode method_3_code 32 = .ok (.lstore_n 0, 1) := by decide +kernel
theorem own_k99 : decode method_3_code 33 = .ok (.lload_n 0, 1) := by decide +kernel
theorem own_k100 : decode method_3_code 34 = .ok (.ldc2_w 17, 3) := by decide +kernel
theorem own_k101 : decode method_3_code 37 = .ok (.invokestatic 11, 3) := by decide +kernel
def own_w2_9 (x0 : Int64) : Int64 := (((own_w2_7 x0) ^^^ (own_w2_8 x0)) * (own_f3 (-4658895280553007687 : Int64)))
theorem own_k102 : decode method_3_code 40 = .ok (.lmul, 1) := by decide +kernel
theorem own_k103 : decode method_3_code 41 = .ok (.lstore_n 0, 1) := by decide +kernel
theorem own_k104 : decode method_3_code 42 = .ok (.lload_n 0, 1) := by decide +kernel
theorem own_k105 : decode method_3_code 43 = .ok (.lload_n 0, 1) := by decide +kernel
theorem own_k106 : decode method_3_code 44 = .ok (.bipush 30, 2) := by decide +kernel
theorem own_k107 : decode method_3_code 46 = .ok (.lushr, 1) := by decide +kernel
theorem own_k108 : decode method_3_code 47 = .ok (.lxor, 1) := by decide +kernel
theorem own_k109 : decode method_3_code 48 = .ok (.lload_n 0, 1) := by decide +kernel
theorem own_k110 : decode method_3_code 49 = .ok (.bipush 60, 2) := by decide +kernel
theorem own_k111 : decode method_3_code 51 = .ok (.lushr, 1) := by decide +kernel
def own_w2_10 (x0 : Int64) : Int64 := (((own_w2_9 x0) ^^^ (own_ushrL (own_w2_9 x0) (30 : Int32))) ^^^ (own_ushrL (own_w2_9 x0) (60 : Int32)))
theorem own_k112 : decode method_3_code 52 = .ok (.lxor, 1) := by decide +kernel
theorem own_k113 : decode method_3_code 53 = .ok (.lstore_n 0, 1) := by decide +kernel
theorem own_k114 : decode method_3_code 54 = .ok (.lload_n 0, 1) := by decide +kernel
theorem own_k115 : decode method_3_code 55 = .ok (.lreturn, 1) := by decide +kernel
def own_f2 (x0 : Int64) : Int64 := (own_w2_10 x0)
set_option maxRecDepth 65536 in
set_option maxHeartbeats 40000000 in
theorem own_rm2 (l : Launch) (Z : State) (a0 : Array Value) (hw : ∀ d ∈ tables_1, d.before a0 Z = true) (ws : List Jvm.Cond) (x0 : Int64) (h0 : Heap) : Meets l Z (⟨"com/example/libhazy/libhazy/SplitMix64MixPinLaw", "unmix", "(J)J"⟩ : MethodName) method_3_code 2 (some .long) ws ({ frames := 1, cells := 0, slots := 0, locals := 17 } : Room) #[(.long x0)] h0 (PureR (some (.long (own_f2 x0))) h0) := by
  refine meets_of (plainFor_of_name own_k45) ?_
  intro p e s m below meth c s₁ X0 hx hZ hby hml hret hlk hown hnm e0
  replace hml : c.maxLocals = 2 := hml
  replace hown : s.vm.findClass "com/example/libhazy/libhazy/SplitMix64MixPinLaw" = some m.cls := hown
  refine Go.cast (own_k72 m x0) ?_
  refine Go.via (U' := s₁.setTop (mkF m 1 #[.val (.long x0), .second] [(.long x0)])) (fun t k => XS.lloadN X0.here hx rfl (hb hby own_k73) rfl k) ?_
  refine Go.via (U' := s₁.setTop (mkF m 2 #[.val (.long x0), .second] [(.long x0), (.long x0)])) (fun t k => XS.lloadN X0.here hx rfl (hb hby own_k74) rfl k) ?_
  refine Go.via (U' := s₁.setTop (mkF m 4 #[.val (.long x0), .second] [(.int (31 : Int32)), (.long x0), (.long x0)])) (fun t k => XS.bipush X0.here hx rfl (hb hby own_k75) k) ?_
  refine Go.via (U' := s₁.setTop (mkF m 5 #[.val (.long x0), .second] [(.long (own_ushrL x0 (31 : Int32))), (.long x0)])) (fun t k => XS.lushr X0.here hx rfl (hb hby own_k76) rfl k) ?_
  refine Go.via (U' := s₁.setTop (mkF m 6 #[.val (.long x0), .second] [(.long (x0 ^^^ (own_ushrL x0 (31 : Int32))))])) (fun t k => XS.lxor X0.here hx rfl (hb hby own_k77) rfl k) ?_
  refine Go.via (U' := s₁.setTop (mkF m 7 #[.val (.long x0), .second] [(.long x0), (.long (x0 ^^^ (own_ushrL x0 (31 : Int32))))])) (fun t k => XS.lloadN X0.here hx rfl (hb hby own_k78) rfl k) ?_
  refine Go.via (U' := s₁.setTop (mkF m 9 #[.val (.long x0), .second] [(.int (62 : Int32)), (.long x0), (.long (x0 ^^^ (own_ushrL x0 (31 : Int32))))])) (fun t k => XS.bipush X0.here hx rfl (hb hby own_k79) k) ?_
  refine Go.via (U' := s₁.setTop (mkF m 10 #[.val (.long x0), .second] [(.long (own_ushrL x0 (62 : Int32))), (.long (x0 ^^^ (own_ushrL x0 (31 : Int32))))])) (fun t k => XS.lushr X0.here hx rfl (hb hby own_k80) rfl k) ?_
  refine Go.via (U' := s₁.setTop (mkF m 11 #[.val (.long x0), .second] [(.long (own_w2_5 x0))])) (fun t k => XS.lxor X0.here hx rfl (hb hby own_k81) rfl k) ?_
  refine Go.via (U' := s₁.setTop (mkF m 12 #[.val (.long (own_w2_5 x0)), .second] [])) (fun t k => XS.lstoreN X0.here hx rfl (hb hby own_k82) rfl (l' := #[.val (.long (own_w2_5 x0)), .second]) rfl k) ?_
  refine Go.via (U' := s₁.setTop (mkF m 13 #[.val (.long (own_w2_5 x0)), .second] [(.long (own_w2_5 x0))])) (fun t k => XS.lloadN X0.here hx rfl (hb hby own_k83) rfl k) ?_
  refine Go.via (U' := s₁.setTop (mkF m 16 #[.val (.long (own_w2_5 x0)), .second] [(.long (-7723592293110705685 : Int64)), (.long (own_w2_5 x0))])) (fun t k => X0.ldc2Long hx hown (mvT hZ (hw _ (List.mem_of_getElem? (i := 10) rfl))) (g := (mkF m 13 #[.val (.long (own_w2_5 x0)), .second] [(.long (own_w2_5 x0))])) rfl (hb hby own_k84) t k) ?_
  obtain ⟨T1, X1, e1, st1⟩ := callS0 X0 hx hZ hown (hw _ (List.mem_of_getElem? (i := 11) rfl)) (hw _ (List.mem_of_getElem? (i := 12) rfl)) (hw _ (List.mem_of_getElem? (i := 8) rfl)) (hw _ (List.mem_of_getElem? (i := 13) rfl)) (by decide) (av := [(.long (-7723592293110705685 : Int64))]) (own_rm3 l Z a0 hw [] (-7723592293110705685 : Int64)  h0) e0 (pc := 16) (Ls := #[.val (.long (own_w2_5 x0)), .second]) (rest := [(.long (own_w2_5 x0))]) (by rw [hml]; rfl) own_k85 rfl 2 (Nat.le_of_eq rfl) (by decide) (by decide) (by decide) (by decide) (hb hby own_k86)
  refine Go.via (U' := T1.setTop (mkF m 19 #[.val (.long (own_w2_5 x0)), .second] [(.long (own_f3 (-7723592293110705685 : Int64))), (.long (own_w2_5 x0))])) (fun t k => st1 t k) ?_
  refine Go.via (U' := T1.setTop (mkF m 20 #[.val (.long (own_w2_5 x0)), .second] [(.long ((own_w2_5 x0) * (own_f3 (-7723592293110705685 : Int64))))])) (fun t k => XS.lmul X1.here hx rfl (hb hby own_k87) rfl k) ?_
  refine Go.via (U' := T1.setTop (mkF m 21 #[.val (.long ((own_w2_5 x0) * (own_f3 (-7723592293110705685 : Int64)))), .second] [])) (fun t k => XS.lstoreN X1.here hx rfl (hb hby own_k88) rfl (l' := #[.val (.long ((own_w2_5 x0) * (own_f3 (-7723592293110705685 : Int64)))), .second]) rfl k) ?_
  refine Go.via (U' := T1.setTop (mkF m 22 #[.val (.long ((own_w2_5 x0) * (own_f3 (-7723592293110705685 : Int64)))), .second] [(.long ((own_w2_5 x0) * (own_f3 (-7723592293110705685 : Int64))))])) (fun t k => XS.lloadN X1.here hx rfl (hb hby own_k89) rfl k) ?_
  refine Go.via (U' := T1.setTop (mkF m 23 #[.val (.long ((own_w2_5 x0) * (own_f3 (-7723592293110705685 : Int64)))), .second] [(.long ((own_w2_5 x0) * (own_f3 (-7723592293110705685 : Int64)))), (.long ((own_w2_5 x0) * (own_f3 (-7723592293110705685 : Int64))))])) (fun t k => XS.lloadN X1.here hx rfl (hb hby own_k90) rfl k) ?_
  refine Go.via (U' := T1.setTop (mkF m 25 #[.val (.long ((own_w2_5 x0) * (own_f3 (-7723592293110705685 : Int64)))), .second] [(.int (27 : Int32)), (.long ((own_w2_5 x0) * (own_f3 (-7723592293110705685 : Int64)))), (.long ((own_w2_5 x0) * (own_f3 (-7723592293110705685 : Int64))))])) (fun t k => XS.bipush X1.here hx rfl (hb hby own_k91) k) ?_
  refine Go.via (U' := T1.setTop (mkF m 26 #[.val (.long ((own_w2_5 x0) * (own_f3 (-7723592293110705685 : Int64)))), .second] [(.long (own_w2_6 x0)), (.long ((own_w2_5 x0) * (own_f3 (-7723592293110705685 : Int64))))])) (fun t k => XS.lushr X1.here hx rfl (hb hby own_k92) rfl k) ?_
  refine Go.via (U' := T1.setTop (mkF m 27 #[.val (.long ((own_w2_5 x0) * (own_f3 (-7723592293110705685 : Int64)))), .second] [(.long (own_w2_7 x0))])) (fun t k => XS.lxor X1.here hx rfl (hb hby own_k93) rfl k) ?_
  refine Go.via (U' := T1.setTop (mkF m 28 #[.val (.long ((own_w2_5 x0) * (own_f3 (-7723592293110705685 : Int64)))), .second] [(.long ((own_w2_5 x0) * (own_f3 (-7723592293110705685 : Int64)))), (.long (own_w2_7 x0))])) (fun t k => XS.lloadN X1.here hx rfl (hb hby own_k94) rfl k) ?_
  refine Go.via (U' := T1.setTop (mkF m 30 #[.val (.long ((own_w2_5 x0) * (own_f3 (-7723592293110705685 : Int64)))), .second] [(.int (54 : Int32)), (.long ((own_w2_5 x0) * (own_f3 (-7723592293110705685 : Int64)))), (.long (own_w2_7 x0))])) (fun t k => XS.bipush X1.here hx rfl (hb hby own_k95) k) ?_
  refine Go.via (U' := T1.setTop (mkF m 31 #[.val (.long ((own_w2_5 x0) * (own_f3 (-7723592293110705685 : Int64)))), .second] [(.long (own_w2_8 x0)), (.long (own_w2_7 x0))])) (fun t k => XS.lushr X1.here hx rfl (hb hby own_k96) rfl k) ?_
  refine Go.via (U' := T1.setTop (mkF m 32 #[.val (.long ((own_w2_5 x0) * (own_f3 (-7723592293110705685 : Int64)))), .second] [(.long ((own_w2_7 x0) ^^^ (own_w2_8 x0)))])) (fun t k => XS.lxor X1.here hx rfl (hb hby own_k97) rfl k) ?_
  refine Go.via (U' := T1.setTop (mkF m 33 #[.val (.long ((own_w2_7 x0) ^^^ (own_w2_8 x0))), .second] [])) (fun t k => XS.lstoreN X1.here hx rfl (hb hby own_k98) rfl (l' := #[.val (.long ((own_w2_7 x0) ^^^ (own_w2_8 x0))), .second]) rfl k) ?_
  refine Go.via (U' := T1.setTop (mkF m 34 #[.val (.long ((own_w2_7 x0) ^^^ (own_w2_8 x0))), .second] [(.long ((own_w2_7 x0) ^^^ (own_w2_8 x0)))])) (fun t k => XS.lloadN X1.here hx rfl (hb hby own_k99) rfl k) ?_
  refine Go.via (U' := T1.setTop (mkF m 37 #[.val (.long ((own_w2_7 x0) ^^^ (own_w2_8 x0))), .second] [(.long (-4658895280553007687 : Int64)), (.long ((own_w2_7 x0) ^^^ (own_w2_8 x0)))])) (fun t k => X1.ldc2Long hx hown (mvT hZ (hw _ (List.mem_of_getElem? (i := 15) rfl))) (g := (mkF m 34 #[.val (.long ((own_w2_7 x0) ^^^ (own_w2_8 x0))), .second] [(.long ((own_w2_7 x0) ^^^ (own_w2_8 x0)))])) rfl (hb hby own_k100) t k) ?_
  obtain ⟨T2, X2, e2, st2⟩ := callS0 X1 hx hZ hown (hw _ (List.mem_of_getElem? (i := 11) rfl)) (hw _ (List.mem_of_getElem? (i := 12) rfl)) (hw _ (List.mem_of_getElem? (i := 8) rfl)) (hw _ (List.mem_of_getElem? (i := 13) rfl)) (by decide) (av := [(.long (-4658895280553007687 : Int64))]) (own_rm3 l Z a0 hw [] (-4658895280553007687 : Int64)  h0) e1 (pc := 37) (Ls := #[.val (.long ((own_w2_7 x0) ^^^ (own_w2_8 x0))), .second]) (rest := [(.long ((own_w2_7 x0) ^^^ (own_w2_8 x0)))]) (by rw [hml]; rfl) own_k85 rfl 2 (Nat.le_of_eq rfl) (by decide) (by decide) (by decide) (by decide) (hb hby own_k101)
  refine Go.via (U' := T2.setTop (mkF m 40 #[.val (.long ((own_w2_7 x0) ^^^ (own_w2_8 x0))), .second] [(.long (own_f3 (-4658895280553007687 : Int64))), (.long ((own_w2_7 x0) ^^^ (own_w2_8 x0)))])) (fun t k => st2 t k) ?_
  refine Go.via (U' := T2.setTop (mkF m 41 #[.val (.long ((own_w2_7 x0) ^^^ (own_w2_8 x0))), .second] [(.long (own_w2_9 x0))])) (fun t k => XS.lmul X2.here hx rfl (hb hby own_k102) rfl k) ?_
  refine Go.via (U' := T2.setTop (mkF m 42 #[.val (.long (own_w2_9 x0)), .second] [])) (fun t k => XS.lstoreN X2.here hx rfl (hb hby own_k103) rfl (l' := #[.val (.long (own_w2_9 x0)), .second]) rfl k) ?_
  refine Go.via (U' := T2.setTop (mkF m 43 #[.val (.long (own_w2_9 x0)), .second] [(.long (own_w2_9 x0))])) (fun t k => XS.lloadN X2.here hx rfl (hb hby own_k104) rfl k) ?_
  refine Go.via (U' := T2.setTop (mkF m 44 #[.val (.long (own_w2_9 x0)), .second] [(.long (own_w2_9 x0)), (.long (own_w2_9 x0))])) (fun t k => XS.lloadN X2.here hx rfl (hb hby own_k105) rfl k) ?_
  refine Go.via (U' := T2.setTop (mkF m 46 #[.val (.long (own_w2_9 x0)), .second] [(.int (30 : Int32)), (.long (own_w2_9 x0)), (.long (own_w2_9 x0))])) (fun t k => XS.bipush X2.here hx rfl (hb hby own_k106) k) ?_
  refine Go.via (U' := T2.setTop (mkF m 47 #[.val (.long (own_w2_9 x0)), .second] [(.long (own_ushrL (own_w2_9 x0) (30 : Int32))), (.long (own_w2_9 x0))])) (fun t k => XS.lushr X2.here hx rfl (hb hby own_k107) rfl k) ?_
  refine Go.via (U' := T2.setTop (mkF m 48 #[.val (.long (own_w2_9 x0)), .second] [(.long ((own_w2_9 x0) ^^^ (own_ushrL (own_w2_9 x0) (30 : Int32))))])) (fun t k => XS.lxor X2.here hx rfl (hb hby own_k108) rfl k) ?_
  refine Go.via (U' := T2.setTop (mkF m 49 #[.val (.long (own_w2_9 x0)), .second] [(.long (own_w2_9 x0)), (.long ((own_w2_9 x0) ^^^ (own_ushrL (own_w2_9 x0) (30 : Int32))))])) (fun t k => XS.lloadN X2.here hx rfl (hb hby own_k109) rfl k) ?_
  refine Go.via (U' := T2.setTop (mkF m 51 #[.val (.long (own_w2_9 x0)), .second] [(.int (60 : Int32)), (.long (own_w2_9 x0)), (.long ((own_w2_9 x0) ^^^ (own_ushrL (own_w2_9 x0) (30 : Int32))))])) (fun t k => XS.bipush X2.here hx rfl (hb hby own_k110) k) ?_
  refine Go.via (U' := T2.setTop (mkF m 52 #[.val (.long (own_w2_9 x0)), .second] [(.long (own_ushrL (own_w2_9 x0) (60 : Int32))), (.long ((own_w2_9 x0) ^^^ (own_ushrL (own_w2_9 x0) (30 : Int32))))])) (fun t k => XS.lushr X2.here hx rfl (hb hby own_k111) rfl k) ?_
  refine Go.via (U' := T2.setTop (mkF m 53 #[.val (.long (own_w2_9 x0)), .second] [(.long (own_w2_10 x0))])) (fun t k => XS.lxor X2.here hx rfl (hb hby own_k112) rfl k) ?_
  refine Go.via (U' := T2.setTop (mkF m 54 #[.val (.long (own_w2_10 x0)), .second] [])) (fun t k => XS.lstoreN X2.here hx rfl (hb hby own_k113) rfl (l' := #[.val (.long (own_w2_10 x0)), .second]) rfl k) ?_
  refine Go.via (U' := T2.setTop (mkF m 55 #[.val (.long (own_w2_10 x0)), .second] [(.long (own_w2_10 x0))])) (fun t k => XS.lloadN X2.here hx rfl (hb hby own_k114) rfl k) ?_
  exact go_retJ X2 hx hlk hret (hb hby own_k115) e2 ⟨(congrArg (fun z => some (Value.long z)) (show (own_w2_10 x0) = (own_f2 x0) from by rfl)), rfl, rfl⟩ (by decide) (by decide)
theorem own_k116 (m : MethodId) (x0 : Int64) : entryFrame m #[(.long x0)] maxLocals = mkF m 0 #[.val (.long x0), .second, .unset, .unset] [] := by first | (simp [entryFrame, mkF, argsToLocals, Value.category, maxLocals]; done) | rfl
def own_f0 (x0 : Int64) : Int32 := (if (lcmpW (own_f2 (own_f1 x0)) x0) = (0 : Int32) then (1 : Int32) else (0 : Int32))
set_option maxRecDepth 65536 in
set_option maxHeartbeats 40000000 in
theorem own_rm0 (l : Launch) (Z : State) (a0 : Array Value) (hw : ∀ d ∈ tables_1, d.before a0 Z = true) (ws : List Jvm.Cond) (x0 : Int64) (h0 : Heap) : Meets l Z x code maxLocals ret ws room_1 #[(.long x0)] h0 (PureR (some (.int (own_f0 x0))) h0) := by
  refine meets_of (plainFor_of_name own_k45) ?_
  intro p e s m below meth c s₁ X0 hx hZ hby hml hret hlk hown hnm e0
  replace hml : c.maxLocals = 4 := hml
  replace hown : s.vm.findClass "com/example/libhazy/libhazy/SplitMix64MixPinLaw" = some m.cls := hown
  refine Go.cast (own_k116 m x0) ?_
  refine Go.via (U' := s₁.setTop (mkF m 1 #[.val (.long x0), .second, .unset, .unset] [(.long x0)])) (fun t k => XS.lloadN X0.here hx rfl (hb hby at_0) rfl k) ?_
  obtain ⟨T1, X1, e1, st1⟩ := callS0 X0 hx hZ hown (hw _ (List.mem_of_getElem? (i := 0) rfl)) (hw _ (List.mem_of_getElem? (i := 1) rfl)) (hw _ (List.mem_of_getElem? (i := 2) rfl)) (hw _ (List.mem_of_getElem? (i := 3) rfl)) (by decide) (av := [(.long x0)]) (own_rm1 l Z a0 hw [] x0  h0) e0 (pc := 1) (Ls := #[.val (.long x0), .second, .unset, .unset]) (rest := []) (by rw [hml]; rfl) own_k85 rfl 0 (Nat.le_of_eq rfl) (by decide) (by decide) (by decide) (by decide) (hb hby at_1)
  refine Go.via (U' := T1.setTop (mkF m 4 #[.val (.long x0), .second, .unset, .unset] [(.long (own_f1 x0))])) (fun t k => st1 t k) ?_
  refine Go.via (U' := T1.setTop (mkF m 5 #[.val (.long x0), .second, .val (.long (own_f1 x0)), .second] [])) (fun t k => XS.lstoreN X1.here hx rfl (hb hby at_4) rfl (l' := #[.val (.long x0), .second, .val (.long (own_f1 x0)), .second]) rfl k) ?_
  refine Go.via (U' := T1.setTop (mkF m 6 #[.val (.long x0), .second, .val (.long (own_f1 x0)), .second] [(.long (own_f1 x0))])) (fun t k => XS.lloadN X1.here hx rfl (hb hby at_5) rfl k) ?_
  obtain ⟨T2, X2, e2, st2⟩ := callS0 X1 hx hZ hown (hw _ (List.mem_of_getElem? (i := 6) rfl)) (hw _ (List.mem_of_getElem? (i := 7) rfl)) (hw _ (List.mem_of_getElem? (i := 8) rfl)) (hw _ (List.mem_of_getElem? (i := 9) rfl)) (by decide) (av := [(.long (own_f1 x0))]) (own_rm2 l Z a0 hw [] (own_f1 x0)  h0) e1 (pc := 6) (Ls := #[.val (.long x0), .second, .val (.long (own_f1 x0)), .second]) (rest := []) (by rw [hml]; rfl) own_k85 rfl 0 (Nat.le_of_eq rfl) (by decide) (by decide) (by decide) (by decide) (hb hby at_6)
  refine Go.via (U' := T2.setTop (mkF m 9 #[.val (.long x0), .second, .val (.long (own_f1 x0)), .second] [(.long (own_f2 (own_f1 x0)))])) (fun t k => st2 t k) ?_
  refine Go.via (U' := T2.setTop (mkF m 10 #[.val (.long x0), .second, .val (.long (own_f1 x0)), .second] [(.long x0), (.long (own_f2 (own_f1 x0)))])) (fun t k => XS.lloadN X2.here hx rfl (hb hby at_9) rfl k) ?_
  refine Go.via (U' := T2.setTop (mkF m 11 #[.val (.long x0), .second, .val (.long (own_f1 x0)), .second] [(.int (lcmpW (own_f2 (own_f1 x0)) x0))])) (fun t k => XS.lcmp X2.here hx rfl (hb hby at_10) rfl k) ?_
  by_cases hc11 : (lcmpW (own_f2 (own_f1 x0)) x0) = (0 : Int32)
  · refine Go.via (U' := T2.setTop (mkF m 14 #[.val (.long x0), .second, .val (.long (own_f1 x0)), .second] [])) (fun t k => XS.ifNo X2.here hx rfl (hb hby at_11) rfl ((if0 _ _).trans (teq hc11).2) k) ?_
    refine Go.via (U' := T2.setTop (mkF m 15 #[.val (.long x0), .second, .val (.long (own_f1 x0)), .second] [(.int (1 : Int32))])) (fun t k => XS.iconst X2.here hx rfl (hb hby at_14) k) ?_
    refine Go.via (U' := T2.setTop (mkF m 19 #[.val (.long x0), .second, .val (.long (own_f1 x0)), .second] [(.int (1 : Int32))])) (fun t k => XS.goto X2.here hx rfl (pc0 := 15) (pc' := 19) rfl (hb hby at_15) (by decide) (by decide) k) ?_
    exact go_retN X2 hx hlk (t := .boolean) hret (by simp) (hb hby at_19) e2 ⟨(congrArg (fun z => some (Value.int z)) (show nar .boolean (1 : Int32) = (own_f0 x0) from by unfold own_f0; simp only [if_pos hc11] <;> rfl)), rfl, rfl⟩ (by decide) (by decide)
  · refine Go.via (U' := T2.setTop (mkF m 18 #[.val (.long x0), .second, .val (.long (own_f1 x0)), .second] [])) (fun t k => XS.ifYes X2.here hx rfl (pc0 := 11) (pc' := 18) rfl (hb hby at_11) rfl ((if0 _ _).trans (feq hc11).2) (by decide) (by decide) k) ?_
    refine Go.via (U' := T2.setTop (mkF m 19 #[.val (.long x0), .second, .val (.long (own_f1 x0)), .second] [(.int (0 : Int32))])) (fun t k => XS.iconst X2.here hx rfl (hb hby at_18) k) ?_
    exact go_retN X2 hx hlk (t := .boolean) hret (by simp) (hb hby at_19) e2 ⟨(congrArg (fun z => some (Value.int z)) (show nar .boolean (0 : Int32) = (own_f0 x0) from by unfold own_f0; simp only [if_neg hc11] <;> rfl)), rfl, rfl⟩ (by decide) (by decide)
theorem own_cmp0 (x y : Int64) : lcmpW x y = 0 ↔ x = y := by
  show (if x > y then (1 : Int32) else if x = y then 0 else -1) = 0 ↔ x = y
  by_cases a : y < x
  · rw [if_pos a]
    exact ⟨fun q => absurd q (by decide), fun q => absurd (q ▸ a) (Int64.lt_irrefl)⟩
  · rw [if_neg a]
    by_cases b : x = y
    · rw [if_pos b]; exact ⟨fun _ => b, fun _ => rfl⟩
    · rw [if_neg b]; exact ⟨fun q => absurd q (by decide), fun q => absurd q b⟩
theorem own_unx (w : BitVec 64) (k : Nat) (hk : 64 ≤ 3 * k) : ((w ^^^ (w >>> k)) ^^^ ((w ^^^ (w >>> k)) >>> k)) ^^^ ((w ^^^ (w >>> k)) >>> (2 * k)) = w := by
  have z : w >>> (k + 2 * k) = 0#64 := BitVec.ushiftRight_eq_zero (by omega)
  rw [BitVec.ushiftRight_xor_distrib, BitVec.ushiftRight_xor_distrib, ← BitVec.shiftRight_add, ← BitVec.shiftRight_add, z, show k + k = 2 * k from by omega]
  generalize w >>> k = a
  generalize w >>> (2 * k) = b
  rw [BitVec.xor_zero, BitVec.xor_assoc (w ^^^ a), BitVec.xor_assoc a b b, BitVec.xor_self, BitVec.xor_zero, BitVec.xor_assoc w, BitVec.xor_self, BitVec.xor_zero]
theorem own_u31 (x : Int64) : ((x ^^^ (own_ushrL x (31 : Int32))) ^^^ (own_ushrL (x ^^^ (own_ushrL x (31 : Int32))) (31 : Int32))) ^^^ (own_ushrL (x ^^^ (own_ushrL x (31 : Int32))) (62 : Int32)) = x :=
  Int64.toBitVec_inj.mp (own_unx x.toBitVec 31 (by decide))
theorem own_u27 (x : Int64) : ((x ^^^ (own_ushrL x (27 : Int32))) ^^^ (own_ushrL (x ^^^ (own_ushrL x (27 : Int32))) (27 : Int32))) ^^^ (own_ushrL (x ^^^ (own_ushrL x (27 : Int32))) (54 : Int32)) = x :=
  Int64.toBitVec_inj.mp (own_unx x.toBitVec 27 (by decide))
theorem own_u30 (x : Int64) : ((x ^^^ (own_ushrL x (30 : Int32))) ^^^ (own_ushrL (x ^^^ (own_ushrL x (30 : Int32))) (30 : Int32))) ^^^ (own_ushrL (x ^^^ (own_ushrL x (30 : Int32))) (60 : Int32)) = x :=
  Int64.toBitVec_inj.mp (own_unx x.toBitVec 30 (by decide))
def own_xa (x : Int64) : Int64 := (x ^^^ (own_ushrL x (30 : Int32))) * (-4658895280553007687 : Int64)
def own_xb (x : Int64) : Int64 := (own_xa x ^^^ (own_ushrL (own_xa x) (27 : Int32))) * (-7723592293110705685 : Int64)
def own_mix (x : Int64) : Int64 := own_xb x ^^^ (own_ushrL (own_xb x) (31 : Int32))
def own_xc (z : Int64) : Int64 := (z ^^^ (own_ushrL z (31 : Int32))) ^^^ (own_ushrL z (62 : Int32))
def own_xd (i2 z : Int64) : Int64 := own_xc z * i2
def own_xe (i2 z : Int64) : Int64 := (own_xd i2 z ^^^ (own_ushrL (own_xd i2 z) (27 : Int32))) ^^^ (own_ushrL (own_xd i2 z) (54 : Int32))
def own_xg (i1 i2 z : Int64) : Int64 := own_xe i2 z * i1
def own_unm (i1 i2 z : Int64) : Int64 := (own_xg i1 i2 z ^^^ (own_ushrL (own_xg i1 i2 z) (30 : Int32))) ^^^ (own_ushrL (own_xg i1 i2 z) (60 : Int32))
theorem own_unm_mix (x i1 i2 : Int64) (h1 : (-4658895280553007687 : Int64) * i1 = 1) (h2 : (-7723592293110705685 : Int64) * i2 = 1) : own_unm i1 i2 (own_mix x) = x := by
  have e1 : own_xc (own_mix x) = own_xb x := own_u31 _
  have e2 : own_xd i2 (own_mix x) = own_xa x ^^^ (own_ushrL (own_xa x) (27 : Int32)) := by
    unfold own_xd
    rw [e1]
    unfold own_xb
    rw [Int64.mul_assoc, h2, Int64.mul_one]
  have e3 : own_xe i2 (own_mix x) = own_xa x := by
    unfold own_xe
    rw [e2]
    exact own_u27 _
  have e4 : own_xg i1 i2 (own_mix x) = x ^^^ (own_ushrL x (30 : Int32)) := by
    unfold own_xg
    rw [e3]
    unfold own_xa
    rw [Int64.mul_assoc, h1, Int64.mul_one]
  unfold own_unm
  rw [e4]
  exact own_u30 x
theorem own_inv2 : (-7723592293110705685 : Int64) * own_f3 (-7723592293110705685 : Int64) = 1 := by decide +kernel
theorem own_inv1 : (-4658895280553007687 : Int64) * own_f3 (-4658895280553007687 : Int64) = 1 := by decide +kernel
theorem own_un (x : Int64) : own_f2 (own_f1 x) = x := own_unm_mix x (own_f3 (-4658895280553007687 : Int64)) (own_f3 (-7723592293110705685 : Int64)) own_inv1 own_inv2
theorem own_plain (x : Int64) : own_f0 x = 1 := by
  unfold own_f0
  exact if_pos ((own_cmp0 _ _).mpr (own_un x))
set_option maxRecDepth 65536 in
set_option maxHeartbeats 40000000 in
theorem own_comes {Post : Tables → Env → Array Value → State → Outcome → State → Prop} (hpost : ∀ tb e args s v u, (limb_1_1.after args s (.returned v) u = true ∧ limb_1_2.after args s (.returned v) u = true) → FrameEnd s (.returned v) u (Jvm.fieldLocs frame_1_writes args s ++ Jvm.arrayLocs frame_1_arrays args s ++ Jvm.staticLocs frame_1_statics s) 0 0 → Post tb e args s (.returned v) u) :
    ArmFor flags0 classFile x code maxLocals ret World_1 tables_1 room_1 Calls_1 rest_1 Pre_1 Post := by
  intro l hfl _ _ p e ha hc hk s m args below hf hA hF happ hP
  obtain ⟨hcalls, hrest, hpre⟩ := hP
  obtain ⟨-, -, -, hnamed, -, -, -, hat⟩ := (Spec.applies_iff hf).mp happ
  obtain ⟨hg, hn⟩ := and_e (Cond.before_iff.mp (show (Jvm.Cond.and given_1 narrow_1).before args s = true from hpre))
  obtain ⟨hcnt, hg⟩ := and_e hg
  obtain ⟨w0, rfl⟩ : ∃ w0 : Value, args = #[w0] := by
    have hs : args.size = 1 := by simpa [Cond.value, given_1] using hcnt
    obtain ⟨L⟩ := args
    match L, hs with
    | [w0], _ => exact ⟨w0, rfl⟩
  have hw := fun d (hd : d ∈ tables_1) => atoms_spec (ws := Jvm.Cond.code x code maxLocals ret :: tables_1) hat d (List.mem_cons_of_mem _ hd)
  have hfit : Fit s := fun {y c} hc i hi => by
    obtain ⟨ha, rfl⟩ := Array.getElem?_eq_some_iff.mp hc
    have q := List.all_eq_true.mp ((Array.all_eq_true_iff_forall_mem.mp hF) _ (Array.getElem_mem ha)) i (List.mem_range.mpr hi)
    simpa [Array.getElem?_eq_getElem hi] using q
  obtain ⟨i0, ei0⟩ := isL_v hg
  obtain rfl : w0 = (.long i0) := Option.some.inj ei0
  obtain ⟨n, o, h1, h2, h3, _, L, rfl, ⟨rfl, -, rfl⟩, hq⟩ := own_rm0 l s _ hw tables_1 i0 s.heap p e ha hc hk s m _ below hf ((Spec.applies_iff_loose hf).mp happ).1 ⟨rfl, State.Warmed39.refl s, rfl⟩ trivial
  refine ⟨n, _, h1, h2, h3, hpost _ _ _ _ _ _ ⟨Cond.after_iff.mpr rfl, Cond.after_iff.mpr (eq_i res_at (Term.int_eval (1)) (congrArg Value.int (own_plain i0)))⟩ ⟨hq.1, hq.2.1, (hq.2.2.sift fun y hy => Or.inr (Fr.nil s.heap.size y hy)).mono (by decide) (by decide)⟩⟩
theorem main_1_1 : Claimed_1_1 := own_comes fun _ _ _ _ _ _ h hF => ⟨h.1, hF⟩
theorem main_1_2 : Claimed_1_2 := own_comes fun _ _ _ _ _ _ h hF => ⟨h.2, hF⟩
end Jvm.Pilot.@@N@@
namespace Jvm.Pilot.@@N@@
open Jvm Jvm.ClassFile Sem Op Lib Jvm.Free Jvm.Stand Jvm.Pilot.@@N@@.Jvm.D
/-! MADE BY PROGRAM (witnessworld.py) out of the Statement's table words and the real class files: 9 classes; the members and pool entries that the words name. The judged class is class 1, her method 3. -/
namespace start1
open Jvm.ClassFile
def u (s : String) : CpInfo := .utf8 (stringToUtf16 s)
/-- a pool by its gaps: so many unusable entries, then the entry; so many at the end -/
def gap : Nat → List CpInfo → List CpInfo
  | 0, r => r
  | n + 1, r => .unusable :: gap n r
def poolList (es : List (Nat × CpInfo)) (last : Nat) : List CpInfo := es.foldr (fun e r => gap e.1 (e.2 :: r)) (gap last [])
def pool (es : List (Nat × CpInfo)) (last : Nat) : Array CpInfo := ⟨poolList es last⟩
def fileOf (pool : Array CpInfo) (this : Nat) (attrs : Array Attribute := #[]) (ms : Array MethodInfo := #[]) (fl : Nat := 33) (sup : Nat := 0) (ifs : Array Nat := #[]) (fds : Array FieldInfo := #[]) : ClassFile where
  minorVersion := 0
  majorVersion := 65
  constantPool := pool
  accessFlags := fl
  thisClass := this
  superClass := sup
  interfaces := ifs
  fields := fds
  methods := ms
  attributes := attrs
def plain (name : String) (sup : Option ClassId) : Class where
  name := name
  kind := .ordinary
  loader := none
  accessFlags := 33
  super := sup
  interfaces := #[]
  cf := none
  fields := #[]
  methods := #[]
  instanceTypes := #[]
  staticTypes := #[]
  resolved := #[]
  callSites := []
  init := .initialized
  statics := none
  mirror := none

def pool0 : Array CpInfo := pool [(5, u "<init>"), (0, u "()V"), (1, .class_ 10), (1, u "java/lang/Object")] 113

def k0m0 : Method := { name := "<init>", desc := "()V", sig := { parameters := [], returnType := none }, accessFlags := 1, code := none }
/-- java/lang/Object -/
def k0 : Class := { plain "java/lang/Object" none with
  accessFlags := 33
  interfaces := #[]
  cf := some (fileOf pool0 8 #[] #[{ accessFlags := 1, nameIndex := 5, descriptorIndex := 6, attributes := #[] }] 33 0 #[] #[])
  fields := #[]
  methods := #[k0m0]
  instanceTypes := #[]
  staticTypes := #[]
  resolved := Array.replicate 124 none
  statics := none }

def pool1 : Array CpInfo := pool [(2, .class_ 4), (1, u "java/lang/Object"), (0, u "<init>"), (0, u "()V"), (0, .long 2), (1, .long 10723151780598845931), (1, .methodref 12 13), (0, .class_ 14), (0, .nameAndType 15 16), (0, u "com/example/libhazy/libhazy/SplitMix64MixPinLaw"), (0, u "inverseOdd"), (0, u "(J)J"), (0, .long 13787848793156543929), (1, .methodref 20 21), (0, .class_ 22), (0, .nameAndType 23 16), (0, u "com/example/libhazy/libhazy/SplitMix64"), (0, u "mix"), (0, .methodref 12 25), (0, .nameAndType 26 16), (0, u "unmix"), (2, u "law"), (0, u "(J)Z")] 3

def k1m0 : Method := { name := "<init>", desc := "()V", sig := { parameters := [], returnType := none }, accessFlags := 1, code := none }
def k1c1 : Code := { maxStack := 8, maxLocals := 4, code := method_2_code, exceptionTable := #[], attributes := #[] }
def k1m1 : Method := { name := "inverseOdd", desc := "(J)J", sig := { parameters := [.long], returnType := some .long }, accessFlags := 10, code := some k1c1 }
def k1c2 : Code := { maxStack := 5, maxLocals := 2, code := method_3_code, exceptionTable := #[], attributes := #[] }
def k1m2 : Method := { name := "unmix", desc := "(J)J", sig := { parameters := [.long], returnType := some .long }, accessFlags := 10, code := some k1c2 }
def k1c3 : Code := { maxStack := 4, maxLocals := 4, code := code, exceptionTable := #[], attributes := #[] }
def k1m3 : Method := { name := "law", desc := "(J)Z", sig := { parameters := [.long], returnType := some .boolean }, accessFlags := 9, code := some k1c3 }
/-- com/example/libhazy/libhazy/SplitMix64MixPinLaw -/
def k1 : Class := { plain "com/example/libhazy/libhazy/SplitMix64MixPinLaw" (some 0) with
  accessFlags := 49
  interfaces := #[]
  cf := some (fileOf pool1 12 #[] #[{ accessFlags := 1, nameIndex := 5, descriptorIndex := 6, attributes := #[] }, { accessFlags := 10, nameIndex := 15, descriptorIndex := 16, attributes := #[] }, { accessFlags := 10, nameIndex := 26, descriptorIndex := 16, attributes := #[] }, { accessFlags := 9, nameIndex := 29, descriptorIndex := 30, attributes := #[] }] 49 2 #[] #[])
  fields := #[]
  methods := #[k1m0, k1m1, k1m2, k1m3]
  instanceTypes := #[]
  staticTypes := #[]
  resolved := Array.replicate 34 none
  statics := none }

def pool2 : Array CpInfo := pool [(2, .class_ 4), (1, u "java/lang/Object"), (3, .class_ 10), (1, u "com/example/libhazy/libhazy/SplitMix64"), (0, u "state"), (0, u "J"), (0, .long 13787848793156543929), (1, .long 10723151780598845931), (5, u "mix"), (0, u "(J)J"), (0, u "GOLDEN_GAMMA")] 11

def k2c0 : Code := { maxStack := 5, maxLocals := 4, code := prog_50_method_2_code, exceptionTable := #[], attributes := #[] }
def k2m0 : Method := { name := "mix", desc := "(J)J", sig := { parameters := [.long], returnType := some .long }, accessFlags := 8, code := some k2c0 }
/-- com/example/libhazy/libhazy/SplitMix64 -/
def k2 : Class := { plain "com/example/libhazy/libhazy/SplitMix64" (some 0) with
  accessFlags := 32
  interfaces := #[]
  cf := some (fileOf pool2 8 #[] #[{ accessFlags := 8, nameIndex := 21, descriptorIndex := 22, attributes := #[] }] 32 2 #[] #[{ accessFlags := 26, nameIndex := 23, descriptorIndex := 12, attributes := #[] }, { accessFlags := 2, nameIndex := 11, descriptorIndex := 12, attributes := #[] }])
  fields := #[{ name := "GOLDEN_GAMMA", type := .long, accessFlags := 26, slot := 0, constantValue := 0 }, { name := "state", type := .long, accessFlags := 2, slot := 0, constantValue := 0 }]
  methods := #[k2m0]
  instanceTypes := #[.long]
  staticTypes := #[.long]
  resolved := Array.replicate 35 none
  statics := none }

def pool3 : Array CpInfo := pool [(1, u "java/lang/Cloneable"), (0, .class_ 1), (0, u "java/lang/Object"), (0, .class_ 3)] 3

/-- java/lang/Cloneable -/
def k3 : Class := { plain "java/lang/Cloneable" (some 0) with
  accessFlags := 1537
  interfaces := #[]
  cf := some (fileOf pool3 2 #[] #[] 1537 4 #[] #[])
  fields := #[]
  methods := #[]
  instanceTypes := #[]
  staticTypes := #[]
  resolved := Array.replicate 8 none
  statics := none }

def pool4 : Array CpInfo := pool [(1, u "java/io/Serializable"), (0, .class_ 1), (0, u "java/lang/Object"), (0, .class_ 3)] 3

/-- java/io/Serializable -/
def k4 : Class := { plain "java/io/Serializable" (some 0) with
  accessFlags := 1537
  interfaces := #[]
  cf := some (fileOf pool4 2 #[] #[] 1537 4 #[] #[])
  fields := #[]
  methods := #[]
  instanceTypes := #[]
  staticTypes := #[]
  resolved := Array.replicate 8 none
  statics := none }

/-- the primitive byte -/
def k5 : Class := { plain "byte" none with kind := .primitive 'B', accessFlags := 0x411 }
/-- [B -/
def k6 : Class := { plain "[B" (some 0) with kind := .array 5 .byte, interfaces := #[3, 4], accessFlags := 1041 }

/-- the primitive int -/
def k7 : Class := { plain "int" none with kind := .primitive 'I', accessFlags := 0x411 }
/-- [I -/
def k8 : Class := { plain "[I" (some 0) with kind := .array 7 .int, interfaces := #[3, 4], accessFlags := 1041 }

def heap : Heap := #[]
def classes : Array Class := #[k0, k1, k2, k3, k4, k5, k6, k7, k8]
def interned : List (Array UInt16 × Addr) := []
def slotsUsed : Nat := 0
def theMethod : MethodId := ⟨1, 3⟩
def args0 : Array Value := #[.long 5]
def aboutOver (below : List Frame) : State where
  vm := { classes := classes, interned := interned.toArray }
  heap := heap
  slotsUsed := slotsUsed
  threads := #[{ frames := .invoking theMethod args0 :: below }]
def below0 : List Frame := [.native { method := ⟨0, 0⟩, args := #[] }]
def about1 : State := aboutOver below0
def p0 : Program := .bare "" "" ""
def e0 : Env := launch0.env 0 0 0
theorem w_frames : about1.frames = Frame.invoking theMethod args0 :: below0 := rfl
set_option maxRecDepth 65536 in
theorem w_args : argsFit about1.vm theMethod args0 = true := by decide +kernel
set_option maxRecDepth 65536 in
theorem w_heap : heapFits about1 = true := by decide +kernel
set_option maxRecDepth 65536 in
theorem w_runnable : about1.curStatus? = some .runnable := by decide +kernel
set_option maxRecDepth 65536 in
theorem w_alone : about1.alone = true := by decide +kernel
set_option maxRecDepth 65536 in
theorem w_named : about1.methodNamed? x = some theMethod := by decide +kernel
set_option maxRecDepth 65536 in
theorem w_hears : about1.hears theMethod below0 = true := by decide +kernel
set_option maxRecDepth 65536 in
theorem w_ripe : about1.ripe theMethod args0 below0 = true := by decide +kernel
theorem w_running : about1.status = .running := rfl
set_option maxRecDepth 65536 in
theorem w_room : about1.hasRoom e0.platform room_1 = true :=
  launch0.hasRoom_least _ room_1 (by decide +kernel) (by decide +kernel) (by decide +kernel) (by decide +kernel) (by decide +kernel) (by decide +kernel)
theorem allAtoms_all (ts : List Jvm.Cond) (a : Array Jvm.Value) (st : Jvm.State) : (allAtoms ts).before a st = ts.all (fun c => c.before a st) := by
  induction ts with
  | nil => rfl
  | cons c t ih =>
    show (Jvm.Cond.and c (allAtoms t)).before a st = _
    rw [Jvm.Cond.before_and, ih, List.all_cons]
def words1 : List Jvm.Cond := Jvm.Cond.code x code maxLocals ret :: tables_1
/-- a 'code' word, met by the world's own term for the bytes: nothing is compared byte by byte -/
theorem code_word {y : MethodName} {bytes : ByteArray} {mx : Nat} {rt : Option FieldType} {a : Array Value} {s : State} {m : MethodId} {meth : Method} {c : Code} (h1 : s.methodNamed? y = some m) (h2 : s.vm.method? m = some meth) (h3 : meth.code = some c) (h4 : c.code = bytes)
    (h5 : (c.maxLocals == mx && c.exceptionTable.isEmpty && decide (c.maxStack ≤ mostOperands) && decide (meth.sig.returnType = rt) && !meth.locks && decide (parseMethodDescriptor y.desc = some meth.sig)) = true) : (Jvm.Cond.code y bytes mx rt).before a s = true := by
  simp only [Bool.and_eq_true, beq_iff_eq, Bool.not_eq_true', decide_eq_true_eq] at h5
  obtain ⟨⟨⟨⟨⟨g1, g2⟩, g3⟩, g4⟩, g5⟩, g6⟩ := h5
  simp [Cond.before, Cond.holds, Cond.value, h1, h2, h3, h4, g1, g2, g3, g4, g5, g6]
def isCode : Jvm.Cond → Bool
  | .code _ _ _ _ => true
  | _ => false
theorem all_split {L : List Jvm.Cond} {P : Jvm.Cond → Bool} (h1 : L.all (fun c => isCode c || P c) = true) (h2 : ∀ c ∈ L.filter isCode, P c = true) : L.all P = true := by
  refine List.all_eq_true.mpr fun c hc => ?_
  have h := List.all_eq_true.mp h1 c hc
  rcases Bool.eq_false_or_eq_true (isCode c) with hi | hi
  · exact h2 c (List.mem_filter.mpr ⟨hc, hi⟩)
  · simpa [hi] using h
set_option maxRecDepth 65536 in
theorem w_c0 : (Jvm.Cond.code x code maxLocals ret).before args0 about1 = true := code_word (m := ⟨1, 3⟩) (meth := k1m3) (c := k1c3) (by decide +kernel) rfl rfl rfl (by decide +kernel)
set_option maxRecDepth 65536 in
theorem w_c1 : (Jvm.Cond.code ({ cls := "com/example/libhazy/libhazy/SplitMix64", name := "mix", desc := "(J)J" } : Jvm.MethodName) prog_50_method_2_code (4 : Nat) (Option.some Jvm.ClassFile.FieldType.long)).before args0 about1 = true := code_word (m := ⟨2, 0⟩) (meth := k2m0) (c := k2c0) (by decide +kernel) rfl rfl rfl (by decide +kernel)
set_option maxRecDepth 65536 in
theorem w_c2 : (Jvm.Cond.code ({ cls := "com/example/libhazy/libhazy/SplitMix64MixPinLaw", name := "unmix", desc := "(J)J" } : Jvm.MethodName) method_3_code (2 : Nat) (Option.some Jvm.ClassFile.FieldType.long)).before args0 about1 = true := code_word (m := ⟨1, 2⟩) (meth := k1m2) (c := k1c2) (by decide +kernel) rfl rfl rfl (by decide +kernel)
set_option maxRecDepth 65536 in
theorem w_c3 : (Jvm.Cond.code ({ cls := "com/example/libhazy/libhazy/SplitMix64MixPinLaw", name := "inverseOdd", desc := "(J)J" } : Jvm.MethodName) method_2_code (4 : Nat) (Option.some Jvm.ClassFile.FieldType.long)).before args0 about1 = true := code_word (m := ⟨1, 1⟩) (meth := k1m1) (c := k1c1) (by decide +kernel) rfl rfl rfl (by decide +kernel)
def codes1 : List Jvm.Cond := [Jvm.Cond.code x code maxLocals ret, Jvm.Cond.code ({ cls := "com/example/libhazy/libhazy/SplitMix64", name := "mix", desc := "(J)J" } : Jvm.MethodName) prog_50_method_2_code (4 : Nat) (Option.some Jvm.ClassFile.FieldType.long), Jvm.Cond.code ({ cls := "com/example/libhazy/libhazy/SplitMix64MixPinLaw", name := "unmix", desc := "(J)J" } : Jvm.MethodName) method_3_code (2 : Nat) (Option.some Jvm.ClassFile.FieldType.long), Jvm.Cond.code ({ cls := "com/example/libhazy/libhazy/SplitMix64MixPinLaw", name := "inverseOdd", desc := "(J)J" } : Jvm.MethodName) method_2_code (4 : Nat) (Option.some Jvm.ClassFile.FieldType.long)]
set_option maxRecDepth 65536 in
theorem codes_eq : words1.filter isCode = codes1 := rfl
theorem w_codes : ∀ c ∈ words1.filter isCode, c.before args0 about1 = true := by
  rw [codes_eq]
  intro c hc
  simp only [codes1, List.mem_cons, List.not_mem_nil, or_false] at hc
  rcases hc with rfl | rfl | rfl | rfl
  · exact w_c0
  · exact w_c1
  · exact w_c2
  · exact w_c3
set_option maxRecDepth 65536 in
theorem w_t1 : words1.all (fun c => isCode c || c.before args0 about1) = true := by decide +kernel
theorem w_tables : (allAtoms (Jvm.Cond.code x code maxLocals ret :: tables_1)).before args0 about1 = true := by
  rw [allAtoms_all]
  show words1.all (fun c => c.before args0 about1) = true
  refine all_split ?_ w_codes
  rw [w_t1]
set_option maxRecDepth 65536 in
theorem w_case : (Jvm.Cond.and given_1 narrow_1).before args0 about1 = true := by decide +kernel
theorem w_applies : (headSpec (Jvm.Cond.code x code maxLocals ret :: tables_1) room_1).applies x e0.platform about1 = true :=
  (Spec.applies_iff w_frames).mpr ⟨w_running, w_runnable, w_alone, w_named, w_hears, w_ripe, w_room, w_tables⟩
theorem atStart : AtStart classFile x code maxLocals ret World_1 tables_1 room_1 Calls_1 rest_1 Pre_1 launch0 p0 e0 about1 theMethod args0 below0 :=
  ⟨lists_1, trivial, launch0.admits_env _ _ _, launch0.least_env, fairChoices_fair.cas, fairChoices_fair.clock, w_frames, w_args, w_heap, w_applies, trivial, trivial, w_case⟩
end start1
theorem witness_1 : WitnessClaimed_1 := ⟨start1.p0, start1.e0, start1.about1, start1.theMethod, start1.args0, start1.below0, start1.atStart⟩
end Jvm.Pilot.@@N@@

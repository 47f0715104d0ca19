import JvmDerived
import JvmDerived.Pilot.@@N@@Statement
import JvmDerived.Pilot.@@N@@Code
set_option linter.unusedVariables false
set_option linter.unusedSimpArgs false
namespace Jvm.RoadKit
open Sem ClassFile Op Lib Jvm.Stand Jvm.Free Jvm.LawKit
section New
variable {p : Program} {l : Launch} {e : Env} {R : Room} {s : State} {m : MethodId} {args : Array Value} {below : List Frame} {meth : Method} {c : Code} {T : State} {locs : List Loc} {cells slots : Nat}
theorem retI (X : Stand p l e R s m args below meth c T locs cells slots) (hx : p.tables.exec = Jvm.exec) {pc : Nat} {Ls : Array Slot} {z : Int32} {rest : List Value} (hret : meth.sig.returnType = some .int) (hd : decode c.code pc = .ok (.ireturn, 1)) {fs : List Frame}
    (hl : ∀ (f : JFrame) (acts : List Action), f.method = m → f.locked = none → f.entered = [] → (doReturn e (T.setTop f) acts (some (.int z))).1 = T.setFrames fs) : Steps p.tables e below (T.setTop (mkF m pc Ls (.int z :: rest))) (T.setFrames fs) := by
  have hm' : T.vm.method? m = some meth := X.method'
  have hn : narrow .int (.int z) = .int z := rfl
  show Steps p.tables e below (T.setTop { method := m, pc := pc, locals := Ls, stack := _ :: rest, locked := none }) _
  jvm_step X.here [X.here.top, hx, hd, hm', hret, hn]
  first | (intro acts; rw [hl _ acts rfl rfl rfl]) | rw [hl _ _ rfl rfl rfl]
  exact Steps.refl _
theorem own_retJ (X : Stand p l e R s m args below meth c T locs cells slots) (hx : p.tables.exec = Jvm.exec) {pc : Nat} {Ls : Array Slot} {z : Int64} {rest : List Value} (hret : meth.sig.returnType = some .long) (hd : decode c.code pc = .ok (.lreturn, 1)) {fs : List Frame}
    (hl : ∀ (f : JFrame) (acts : List Action), f.method = m → f.locked = none → f.entered = [] → (doReturn e (T.setTop f) acts (some (.long z))).1 = T.setFrames fs) : Steps p.tables e below (T.setTop (mkF m pc Ls (.long z :: rest))) (T.setFrames fs) :=
  retOut X hx (t := .long) (i := .lreturn) hret rfl (Or.inr (Or.inl ⟨rfl, rfl, z, rfl⟩)) hd hl
theorem own_retR (X : Stand p l e R s m args below meth c T locs cells slots) (hx : p.tables.exec = Jvm.exec) {pc : Nat} {Ls : Array Slot} {w : Value} {t : FieldType} {rest : List Value} (hret : meth.sig.returnType = some t) (ht : t.isReference = true) (hw : w.isRef = true) (hd : decode c.code pc = .ok (.areturn, 1)) {fs : List Frame}
    (hl : ∀ (f : JFrame) (acts : List Action), f.method = m → f.locked = none → f.entered = [] → (doReturn e (T.setTop f) acts (some w)).1 = T.setFrames fs) : Steps p.tables e below (T.setTop (mkF m pc Ls (w :: rest))) (T.setFrames fs) :=
  retOut X hx (i := .areturn) hret (by cases t <;> simp_all [FieldType.isReference, narrow]) (Or.inr (Or.inr (Or.inr (Or.inr ⟨rfl, ht, hw⟩)))) hd hl
theorem own_narZ (x : Int32) : nar .boolean x = x &&& 1 := rfl
theorem own_narC (x : Int32) : nar .char x = x.toUInt32.toUInt16.toUInt32.toInt32 := rfl
theorem own_narB (x : Int32) : nar .byte x = x.toInt8.toInt32 := rfl
/-- where the run stands, and how it ends -/
abbrev own_Go (tb : Tables) (e : Env) (below : List Frame) (P : State → Outcome → Prop) (T : State) (g : JFrame) : Prop := ∃ s₂ o, Steps tb e below (T.setTop g) s₂ ∧ s₂.status = .running ∧ Ended s₂ below o ∧ P s₂ o
theorem own_go {tb : Tables} {P : State → Outcome → Prop} {T' : State} {g g' : JFrame} (st : ∀ t, Steps tb e below (T'.setTop g') t → Steps tb e below (T.setTop g) t) (k : own_Go tb e below P T' g') : own_Go tb e below P T g := by
  obtain ⟨s₂, o, h1, h2⟩ := k
  exact ⟨s₂, o, st _ h1, h2⟩
theorem own_start {tb : Tables} {P : State → Outcome → Prop} {g g' : JFrame} (q : g = g') (k : own_Go tb e below P T g') : own_Go tb e below P T g := q ▸ k
theorem own_selPriv {z y : MethodName} (hz : z.cls = y.cls) (hs : (Cond.selects y.cls z z).before args s = true) (hp : s.PrivateAt y) (hi : (Cond.instanceMethod y).before args s = true) (hy : y.cls ≠ "java/lang/invoke/MethodHandle" ∧ y.cls ≠ "java/lang/invoke/VarHandle") : (Cond.selects y.cls y y).before args s = true := by
  obtain ⟨c, r, m, h1, -, h3, -, k, h5, h6⟩ := Cond.selects_spec hs
  exact selects_self_of_private (hz ▸ findClass_of_methodNamed h3) h5 h6 hp hi hy
end New
end Jvm.RoadKit
namespace Jvm.Pilot.@@N@@
open Jvm Jvm.ClassFile Sem Op Lib Jvm.Free Jvm.Stand Jvm.LawKit Jvm.RoadKit Bundle Jvm.Pilot.@@N@@.Jvm.D
theorem own_pl_sum (a b : Int64) (ha : 0 ≤ a.toInt) (hb : 0 ≤ b.toInt) : (if (a + b) < (0 : Int64) then (9223372036854775807 : Int64) else (a + b)) = (if ((9223372036854775807 : Int64) - b) < a then (9223372036854775807 : Int64) else (a + b)) := by
  have e1 := c_ladd a b
  have e2 := c_lsub (9223372036854775807 : Int64) b
  have r1 := rng64 (a + b)
  have r2 := rng64 ((9223372036854775807 : Int64) - b)
  have r3 := rng64 a
  have r4 := rng64 b
  have k1 : (9223372036854775807 : Int64).toInt = 9223372036854775807 := rfl
  have k0 : (0 : Int64).toInt = 0 := rfl
  rw [k1] at e2
  have q : (a + b) < (0 : Int64) ↔ ((9223372036854775807 : Int64) - b) < a := by
    rw [Int64.lt_iff_toInt_lt, Int64.lt_iff_toInt_lt, k0]
    omega
  by_cases h : (a + b) < (0 : Int64)
  · rw [if_pos h, if_pos (q.mp h)]
  · rw [if_neg h, if_neg (fun z => h (q.mpr z))]
theorem own_pl_max (x : Int64) : 0 ≤ (x &&& (9223372036854775807 : Int64)).toInt := by
  rw [c_maskL x _ 63 (by decide) (by decide)]
  omega
theorem d1_0 : decode prog_70_method_5_code 0 = .ok (.lload_n 0, 1) := by decide +kernel
theorem d1_1 : decode prog_70_method_5_code 1 = .ok (.lload_n 2, 1) := by decide +kernel
theorem d1_2 : decode prog_70_method_5_code 2 = .ok (.ladd, 1) := by decide +kernel
theorem d1_3 : decode prog_70_method_5_code 3 = .ok (.lstore 4, 2) := by decide +kernel
theorem d1_5 : decode prog_70_method_5_code 5 = .ok (.lload 4, 2) := by decide +kernel
theorem d1_7 : decode prog_70_method_5_code 7 = .ok (.lconst 0, 1) := by decide +kernel
theorem d1_8 : decode prog_70_method_5_code 8 = .ok (.lcmp, 1) := by decide +kernel
theorem d1_9 : decode prog_70_method_5_code 9 = .ok (.ifCond .ge 9, 3) := by decide +kernel
theorem d1_12 : decode prog_70_method_5_code 12 = .ok (.ldc2_w 38, 3) := by decide +kernel
theorem d1_15 : decode prog_70_method_5_code 15 = .ok (.goto 5, 3) := by decide +kernel
theorem d1_18 : decode prog_70_method_5_code 18 = .ok (.lload 4, 2) := by decide +kernel
theorem d1_20 : decode prog_70_method_5_code 20 = .ok (.lreturn, 1) := by decide +kernel
theorem pn_0 : plainName "com/example/portunus/portunus/Work" = true := by first | (simp [plainName, overriddenIn]; done) | decide +kernel
theorem ef_1 (m : MethodId) (q1 : Int64) (q2 : Int64) : entryFrame m #[(.long q1), (.long q2)] 6 = mkF m 0 #[.val (.long q1), .second, .val (.long q2), .second, .unset, .unset] [] := by first | (simp [entryFrame, mkF, argsToLocals, Value.category]; done) | rfl
def r_1 (q1 : Int64) (q2 : Int64) : Int64 := ((if (q1 + q2) < (0 : Int64) then (9223372036854775807 : Int64) else (q1 + q2)))
def Q1 (Z : State) (q1 : Int64) (q2 : Int64) (h0 : Heap) (n0 : Nat) (v : Option Value) (h : Heap) (L : List Loc) : Prop := v = some (.long (r_1 q1 q2)) ∧ Fr n0 L ∧ h = h0
set_option maxRecDepth 65536 in
set_option maxHeartbeats 40000000 in
theorem rm1 (l : Launch) (Z : State) (a0 : Array Value) (hw : ∀ d ∈ tables_1, d.before a0 Z = true) (ws : List Jvm.Cond) (q1 : Int64) (q2 : Int64) (h0 : Heap) (n0 : Nat) (Z0 : n0 ≤ h0.size) :
    MetFree l (⟨"com/example/portunus/portunus/Work", "sum", "(JJ)J"⟩ : MethodName) (head1 (Jvm.Cond.code (⟨"com/example/portunus/portunus/Work", "sum", "(JJ)J"⟩ : MethodName) prog_70_method_5_code 6 (some .long) :: ws) ({ frames := 0, cells := 0, slots := 0, locals := 0 } : Room)) (fun a U => a = #[(.long q1), (.long q2)] ∧ Z.Warmed39 U.vm ∧ U.heap = h0) (fun _ _ _ _ _ => True) (fun _ U o U' => ∃ v L, o = .returned v ∧ Q1 Z q1 q2 h0 n0 v U'.heap L ∧ FrameEnd U o U' L ({ frames := 0, cells := 0, slots := 0, locals := 0 } : Room).cells ({ frames := 0, cells := 0, slots := 0, locals := 0 } : Room).slots) := by
  refine MetFree.of_bodySF (plainFor_of_name pn_0) hisR ?_
  intro p e s m args below meth c s₁ Bd hml0 hP hK
  obtain ⟨rfl, hZ, hh⟩ := hP
  have hx := Bd.exec
  have hby := Bd.bytes
  have hml : c.maxLocals = 6 := hml0
  have hown : s.vm.findClass "com/example/portunus/portunus/Work" = some m.cls := findClass_of_methodNamed Bd.named
  have hnm := (name_of_methodNamed Bd.named Bd.method).1
  have X0 : Stand p l e ({ frames := 0, cells := 0, slots := 0, locals := 0 } : Room) s m #[(.long q1), (.long q2)] below meth c s₁ [] 0 0 := Stand.of_body Bd
  have e0 : s₁.heap = h0 := by rw [← hh, Bd.state]; rfl
  have NN := Fr.nil n0
  have KK : Keep h0 h0 [] := Keep.refl h0 []
  refine own_start (ef_1 m q1 q2) ?_
  refine own_go (T' := s₁) (g' := (mkF m 9 #[.val (.long q1), .second, .val (.long q2), .second, .val (.long (q1 + q2)), .second] [(.int (lcmpW (q1 + q2) (0 : Int64)))])) (fun t k => ?_) ?_
  · show Steps p.tables e below (s₁.setTop (mkF m 0 #[.val (.long q1), .second, .val (.long q2), .second, .unset, .unset] [])) _
    refine XS.lloadN X0.here hx rfl (hb hby d1_0) rfl ?_
    show Steps p.tables e below (s₁.setTop (mkF m 1 #[.val (.long q1), .second, .val (.long q2), .second, .unset, .unset] [(.long q1)])) _
    refine XS.lloadN X0.here hx rfl (hb hby d1_1) rfl ?_
    show Steps p.tables e below (s₁.setTop (mkF m 2 #[.val (.long q1), .second, .val (.long q2), .second, .unset, .unset] [(.long q2), (.long q1)])) _
    refine XS.ladd X0.here hx rfl (hb hby d1_2) rfl ?_
    show Steps p.tables e below (s₁.setTop (mkF m 3 #[.val (.long q1), .second, .val (.long q2), .second, .unset, .unset] [(.long (q1 + q2))])) _
    refine XS.lstore X0.here hx rfl (hb hby d1_3) rfl (l' := #[.val (.long q1), .second, .val (.long q2), .second, .val (.long (q1 + q2)), .second]) rfl ?_
    show Steps p.tables e below (s₁.setTop (mkF m 5 #[.val (.long q1), .second, .val (.long q2), .second, .val (.long (q1 + q2)), .second] [])) _
    refine XS.lload X0.here hx rfl (hb hby d1_5) rfl ?_
    show Steps p.tables e below (s₁.setTop (mkF m 7 #[.val (.long q1), .second, .val (.long q2), .second, .val (.long (q1 + q2)), .second] [(.long (q1 + q2))])) _
    refine XS.lconst X0.here hx rfl (hb hby d1_7) ?_
    show Steps p.tables e below (s₁.setTop (mkF m 8 #[.val (.long q1), .second, .val (.long q2), .second, .val (.long (q1 + q2)), .second] [(.long (0 : Int64)), (.long (q1 + q2))])) _
    refine XS.lcmp X0.here hx rfl (hb hby d1_8) rfl ?_
    exact k
  obtain ⟨j1, hj1, st2⟩ : ∃ (j1 : Int64), j1 = (if (q1 + q2) < (0 : Int64) then (9223372036854775807 : Int64) else (q1 + q2)) ∧ ∀ t, Steps p.tables e below (s₁.setTop (mkF m 20 #[.val (.long q1), .second, .val (.long q2), .second, .val (.long (q1 + q2)), .second] [(.long j1)])) t → Steps p.tables e below (s₁.setTop (mkF m 9 #[.val (.long q1), .second, .val (.long q2), .second, .val (.long (q1 + q2)), .second] [(.int (lcmpW (q1 + q2) (0 : Int64)))])) t := by
    by_cases hc9_1 : (q1 + q2) < (0 : Int64)
    · skip
      refine ⟨(9223372036854775807 : Int64), (by simp only [if_pos hc9_1]), fun t k => ?_⟩
      show Steps p.tables e below (s₁.setTop (mkF m 9 #[.val (.long q1), .second, .val (.long q2), .second, .val (.long (q1 + q2)), .second] [(.int (lcmpW (q1 + q2) (0 : Int64)))])) _
      refine XS.ifNo X0.here hx rfl (hb hby d1_9) rfl ((if0 _ _).trans (tlt ((lw_lt (q1 + q2) (0 : Int64)).mpr hc9_1)).2.1) ?_
      show Steps p.tables e below (s₁.setTop (mkF m 12 #[.val (.long q1), .second, .val (.long q2), .second, .val (.long (q1 + q2)), .second] [])) _
      refine X0.ldc2Long hx hown (mvT hZ (hw _ (List.mem_of_getElem? (i := 6) rfl))) (g := (mkF m 12 #[.val (.long q1), .second, .val (.long q2), .second, .val (.long (q1 + q2)), .second] [])) rfl (hb hby d1_12) _ ?_
      show Steps p.tables e below (s₁.setTop (mkF m 15 #[.val (.long q1), .second, .val (.long q2), .second, .val (.long (q1 + q2)), .second] [(.long (9223372036854775807 : Int64))])) _
      refine XS.goto X0.here hx rfl (pc0 := 15) (pc' := 20) rfl (hb hby d1_15) (by decide) (by decide) ?_
      exact k
    · skip
      refine ⟨(q1 + q2), (by simp only [if_neg hc9_1]), fun t k => ?_⟩
      show Steps p.tables e below (s₁.setTop (mkF m 9 #[.val (.long q1), .second, .val (.long q2), .second, .val (.long (q1 + q2)), .second] [(.int (lcmpW (q1 + q2) (0 : Int64)))])) _
      refine XS.ifYes X0.here hx rfl (pc0 := 9) (pc' := 18) rfl (hb hby d1_9) rfl ((if0 _ _).trans (flt (fun q => hc9_1 ((lw_lt (q1 + q2) (0 : Int64)).mp q))).2.1) (by decide) (by decide) ?_
      show Steps p.tables e below (s₁.setTop (mkF m 18 #[.val (.long q1), .second, .val (.long q2), .second, .val (.long (q1 + q2)), .second] [])) _
      refine XS.lload X0.here hx rfl (hb hby d1_18) rfl ?_
      exact k
  refine own_go st2 ?_
  show own_Go p.tables e below _ s₁ (mkF m 20 #[.val (.long q1), .second, .val (.long q2), .second, .val (.long (q1 + q2)), .second] [(.long j1)])
  obtain ⟨fs, hr, hrun, hended, hW, hsame⟩ := X0.leave (v := some (.long j1)) (fun h => by rw [Bd.returns] at h; cases h)
  refine ⟨_, _, ?_, hrun, hended, _, _, rfl, ?_, ⟨_, rfl⟩, hW, hsame.mono (by decide) (by decide)⟩
  · exact own_retJ X0 hx Bd.returns (hb hby d1_20) hr
  · show Q1 Z q1 q2 h0 n0 _ s₁.heap _
    rw [e0]
    exact ⟨(by subst hj1; first | (simp only [r_1]; done) | rfl), NN, rfl⟩
theorem pn_1 : plainName "com/example/portunus/portunus/WorkSumPinLaw" = true := by first | (simp [plainName, overriddenIn]; done) | decide +kernel
theorem pd_0 : parseMethodDescriptor "(JJ)J" = some ⟨[.long, .long], some .long⟩ := by decide +kernel
theorem ef_0 (m : MethodId) (q1 : Int64) (q2 : Int64) (p3 : Int32) : entryFrame m #[(.long q1), (.long q2), (.int p3)] maxLocals = mkF m 0 #[.val (.long q1), .second, .val (.long q2), .second, .val (.int p3), .unset, .unset, .unset, .unset, .unset, .unset, .unset, .unset] [] := by first | (simp [entryFrame, mkF, argsToLocals, Value.category, maxLocals]; done) | rfl
def Q0 (Z : State) (q1 : Int64) (q2 : Int64) (p3 : Int32) (h0 : Heap) (n0 : Nat) (v : Option Value) (h : Heap) (L : List Loc) : Prop := v = some (.int 1) ∧ Fr n0 L
theorem own_yes_t (q1 : Int64) (q2 : Int64) (p3 : Int32) (j1 : Int64) (j3 : Int64) (j4 : Int64) (j7 : Int64) (j8 : Int32) (hj1 : j1 = (q1 &&& (9223372036854775807 : Int64))) (hj3 : j3 = (q2 &&& (9223372036854775807 : Int64))) (hj4 : j4 = (if ((9223372036854775807 : Int64) - j3) < j1 then (9223372036854775807 : Int64) else (j1 + j3))) (hj7 : j7 = (r_1 j1 j3)) (hj8 : j8 = (if j7 = j4 then (1 : Int32) else (0 : Int32))) (hc11_2 : (p3 &&& (1 : Int32)) = (0 : Int32)) : (nar .boolean j8) = 1 := by
  have e := own_pl_sum j1 j3 (by rw [hj1]; exact own_pl_max _) (by rw [hj3]; exact own_pl_max _)
  have q : j7 = j4 := by rw [hj7, hj4]; exact e
  rw [hj8, if_pos q]
  rfl
theorem own_yes_f (q1 : Int64) (p3 : Int32) (j1 : Int64) (j10 : Int64) (j11 : Int64) (j12 : Int64) (j13 : Int64) (j16 : Int64) (j17 : Int32) (hj1 : j1 = (q1 &&& (9223372036854775807 : Int64))) (hj10 : j10 = (((p3 >>> ((1 : Int32) &&& 31)) &&& (7 : Int32)).toInt64 - (3 : Int64))) (hj11 : j11 = ((9223372036854775807 : Int64) - j1)) (hj12 : j12 = ((j11 - j10) &&& (9223372036854775807 : Int64))) (hj13 : j13 = (if ((9223372036854775807 : Int64) - j12) < j1 then (9223372036854775807 : Int64) else (j1 + j12))) (hj16 : j16 = (r_1 j1 j12)) (hj17 : j17 = (if j16 = j13 then (1 : Int32) else (0 : Int32))) (hc11_2 : ¬ ((p3 &&& (1 : Int32)) = (0 : Int32))) : (nar .boolean j17) = 1 := by
  have e := own_pl_sum j1 j12 (by rw [hj1]; exact own_pl_max _) (by rw [hj12]; exact own_pl_max _)
  have q : j16 = j13 := by rw [hj16, hj13]; exact e
  rw [hj17, if_pos q]
  rfl
set_option maxRecDepth 65536 in
set_option maxHeartbeats 40000000 in
theorem rm0 (l : Launch) (Z : State) (a0 : Array Value) (hw : ∀ d ∈ tables_1, d.before a0 Z = true) (ws : List Jvm.Cond) (q1 : Int64) (q2 : Int64) (p3 : Int32) (h0 : Heap) (n0 : Nat) (Z0 : n0 ≤ h0.size) :
    MetFree l x (head1 (Jvm.Cond.code x code maxLocals ret :: ws) room_1) (fun a U => a = #[(.long q1), (.long q2), (.int p3)] ∧ Z.Warmed39 U.vm ∧ U.heap = h0) (fun _ _ _ _ _ => True) (fun _ U o U' => ∃ v L, o = .returned v ∧ Q0 Z q1 q2 p3 h0 n0 v U'.heap L ∧ FrameEnd U o U' L room_1.cells room_1.slots) := by
  refine MetFree.of_bodySF (plainFor_of_name pn_1) hisR ?_
  intro p e s m args below meth c s₁ Bd hml0 hP hK
  obtain ⟨rfl, hZ, hh⟩ := hP
  have hx := Bd.exec
  have hby := Bd.bytes
  have hml : c.maxLocals = 13 := hml0
  have hown : s.vm.findClass "com/example/portunus/portunus/WorkSumPinLaw" = some m.cls := findClass_of_methodNamed Bd.named
  have hnm := (name_of_methodNamed Bd.named Bd.method).1
  have X0 : Stand p l e room_1 s m #[(.long q1), (.long q2), (.int p3)] below meth c s₁ [] 0 0 := Stand.of_body Bd
  have e0 : s₁.heap = h0 := by rw [← hh, Bd.state]; rfl
  have NN := Fr.nil n0
  have KK : Keep h0 h0 [] := Keep.refl h0 []
  refine own_start (ef_0 m q1 q2 p3) ?_
  refine own_go (T' := s₁) (g' := (mkF m 7 #[.val (.long q1), .second, .val (.long q2), .second, .val (.int p3), .val (.long (q1 &&& (9223372036854775807 : Int64))), .second, .unset, .unset, .unset, .unset, .unset, .unset] [])) (fun t k => ?_) ?_
  · show Steps p.tables e below (s₁.setTop (mkF m 0 #[.val (.long q1), .second, .val (.long q2), .second, .val (.int p3), .unset, .unset, .unset, .unset, .unset, .unset, .unset, .unset] [])) _
    refine XS.lloadN X0.here hx rfl (hb hby at_0) rfl ?_
    show Steps p.tables e below (s₁.setTop (mkF m 1 #[.val (.long q1), .second, .val (.long q2), .second, .val (.int p3), .unset, .unset, .unset, .unset, .unset, .unset, .unset, .unset] [(.long q1)])) _
    refine X0.ldc2Long hx hown (mvT hZ (hw _ (List.mem_of_getElem? (i := 0) rfl))) (g := (mkF m 1 #[.val (.long q1), .second, .val (.long q2), .second, .val (.int p3), .unset, .unset, .unset, .unset, .unset, .unset, .unset, .unset] [(.long q1)])) rfl (hb hby at_1) _ ?_
    show Steps p.tables e below (s₁.setTop (mkF m 4 #[.val (.long q1), .second, .val (.long q2), .second, .val (.int p3), .unset, .unset, .unset, .unset, .unset, .unset, .unset, .unset] [(.long (9223372036854775807 : Int64)), (.long q1)])) _
    refine XS.land X0.here hx rfl (hb hby at_4) rfl ?_
    show Steps p.tables e below (s₁.setTop (mkF m 5 #[.val (.long q1), .second, .val (.long q2), .second, .val (.int p3), .unset, .unset, .unset, .unset, .unset, .unset, .unset, .unset] [(.long (q1 &&& (9223372036854775807 : Int64)))])) _
    refine XS.lstore X0.here hx rfl (hb hby at_5) rfl (l' := #[.val (.long q1), .second, .val (.long q2), .second, .val (.int p3), .val (.long (q1 &&& (9223372036854775807 : Int64))), .second, .unset, .unset, .unset, .unset, .unset, .unset]) rfl ?_
    exact k
  show own_Go p.tables e below _ s₁ (mkF m 7 #[.val (.long q1), .second, .val (.long q2), .second, .val (.int p3), .val (.long (q1 &&& (9223372036854775807 : Int64))), .second, .unset, .unset, .unset, .unset, .unset, .unset] [])
  obtain ⟨j1, hj1⟩ : ∃ z : Int64, z = (q1 &&& (9223372036854775807 : Int64)) := ⟨_, rfl⟩
  rw [← hj1]
  show own_Go p.tables e below _ s₁ (mkF m 7 #[.val (.long q1), .second, .val (.long q2), .second, .val (.int p3), .val (.long j1), .second, .unset, .unset, .unset, .unset, .unset, .unset] [])
  refine own_go (T' := s₁) (g' := (mkF m 11 #[.val (.long q1), .second, .val (.long q2), .second, .val (.int p3), .val (.long j1), .second, .unset, .unset, .unset, .unset, .unset, .unset] [(.int (p3 &&& (1 : Int32)))])) (fun t k => ?_) ?_
  · show Steps p.tables e below (s₁.setTop (mkF m 7 #[.val (.long q1), .second, .val (.long q2), .second, .val (.int p3), .val (.long j1), .second, .unset, .unset, .unset, .unset, .unset, .unset] [])) _
    refine XS.iload X0.here hx rfl (hb hby at_7) rfl ?_
    show Steps p.tables e below (s₁.setTop (mkF m 9 #[.val (.long q1), .second, .val (.long q2), .second, .val (.int p3), .val (.long j1), .second, .unset, .unset, .unset, .unset, .unset, .unset] [(.int p3)])) _
    refine XS.iconst X0.here hx rfl (hb hby at_9) ?_
    show Steps p.tables e below (s₁.setTop (mkF m 10 #[.val (.long q1), .second, .val (.long q2), .second, .val (.int p3), .val (.long j1), .second, .unset, .unset, .unset, .unset, .unset, .unset] [(.int (1 : Int32)), (.int p3)])) _
    refine XS.iand X0.here hx rfl (hb hby at_10) rfl ?_
    exact k
  by_cases hc11_2 : (p3 &&& (1 : Int32)) = (0 : Int32)
  · skip
    refine own_go (T' := s₁) (g' := (mkF m 57 #[.val (.long q1), .second, .val (.long q2), .second, .val (.int p3), .val (.long j1), .second, .val (.long (q2 &&& (9223372036854775807 : Int64))), .second, .unset, .unset, .unset, .unset] [])) (fun t k => ?_) ?_
    · show Steps p.tables e below (s₁.setTop (mkF m 11 #[.val (.long q1), .second, .val (.long q2), .second, .val (.int p3), .val (.long j1), .second, .unset, .unset, .unset, .unset, .unset, .unset] [(.int (p3 &&& (1 : Int32)))])) _
      refine XS.ifYes X0.here hx rfl (pc0 := 11) (pc' := 50) rfl (hb hby at_11) rfl ((if0 _ _).trans (teq hc11_2).1) (by decide) (by decide) ?_
      show Steps p.tables e below (s₁.setTop (mkF m 50 #[.val (.long q1), .second, .val (.long q2), .second, .val (.int p3), .val (.long j1), .second, .unset, .unset, .unset, .unset, .unset, .unset] [])) _
      refine XS.lloadN X0.here hx rfl (hb hby at_50) rfl ?_
      show Steps p.tables e below (s₁.setTop (mkF m 51 #[.val (.long q1), .second, .val (.long q2), .second, .val (.int p3), .val (.long j1), .second, .unset, .unset, .unset, .unset, .unset, .unset] [(.long q2)])) _
      refine X0.ldc2Long hx hown (mvT hZ (hw _ (List.mem_of_getElem? (i := 0) rfl))) (g := (mkF m 51 #[.val (.long q1), .second, .val (.long q2), .second, .val (.int p3), .val (.long j1), .second, .unset, .unset, .unset, .unset, .unset, .unset] [(.long q2)])) rfl (hb hby at_51) _ ?_
      show Steps p.tables e below (s₁.setTop (mkF m 54 #[.val (.long q1), .second, .val (.long q2), .second, .val (.int p3), .val (.long j1), .second, .unset, .unset, .unset, .unset, .unset, .unset] [(.long (9223372036854775807 : Int64)), (.long q2)])) _
      refine XS.land X0.here hx rfl (hb hby at_54) rfl ?_
      show Steps p.tables e below (s₁.setTop (mkF m 55 #[.val (.long q1), .second, .val (.long q2), .second, .val (.int p3), .val (.long j1), .second, .unset, .unset, .unset, .unset, .unset, .unset] [(.long (q2 &&& (9223372036854775807 : Int64)))])) _
      refine XS.lstore X0.here hx rfl (hb hby at_55) rfl (l' := #[.val (.long q1), .second, .val (.long q2), .second, .val (.int p3), .val (.long j1), .second, .val (.long (q2 &&& (9223372036854775807 : Int64))), .second, .unset, .unset, .unset, .unset]) rfl ?_
      exact k
    show own_Go p.tables e below _ s₁ (mkF m 57 #[.val (.long q1), .second, .val (.long q2), .second, .val (.int p3), .val (.long j1), .second, .val (.long (q2 &&& (9223372036854775807 : Int64))), .second, .unset, .unset, .unset, .unset] [])
    obtain ⟨j3, hj3⟩ : ∃ z : Int64, z = (q2 &&& (9223372036854775807 : Int64)) := ⟨_, rfl⟩
    rw [← hj3]
    show own_Go p.tables e below _ s₁ (mkF m 57 #[.val (.long q1), .second, .val (.long q2), .second, .val (.int p3), .val (.long j1), .second, .val (.long j3), .second, .unset, .unset, .unset, .unset] [])
    refine own_go (T' := s₁) (g' := (mkF m 66 #[.val (.long q1), .second, .val (.long q2), .second, .val (.int p3), .val (.long j1), .second, .val (.long j3), .second, .unset, .unset, .unset, .unset] [(.int (lcmpW j1 ((9223372036854775807 : Int64) - j3)))])) (fun t k => ?_) ?_
    · show Steps p.tables e below (s₁.setTop (mkF m 57 #[.val (.long q1), .second, .val (.long q2), .second, .val (.int p3), .val (.long j1), .second, .val (.long j3), .second, .unset, .unset, .unset, .unset] [])) _
      refine XS.lload X0.here hx rfl (hb hby at_57) rfl ?_
      show Steps p.tables e below (s₁.setTop (mkF m 59 #[.val (.long q1), .second, .val (.long q2), .second, .val (.int p3), .val (.long j1), .second, .val (.long j3), .second, .unset, .unset, .unset, .unset] [(.long j1)])) _
      refine X0.ldc2Long hx hown (mvT hZ (hw _ (List.mem_of_getElem? (i := 0) rfl))) (g := (mkF m 59 #[.val (.long q1), .second, .val (.long q2), .second, .val (.int p3), .val (.long j1), .second, .val (.long j3), .second, .unset, .unset, .unset, .unset] [(.long j1)])) rfl (hb hby at_59) _ ?_
      show Steps p.tables e below (s₁.setTop (mkF m 62 #[.val (.long q1), .second, .val (.long q2), .second, .val (.int p3), .val (.long j1), .second, .val (.long j3), .second, .unset, .unset, .unset, .unset] [(.long (9223372036854775807 : Int64)), (.long j1)])) _
      refine XS.lload X0.here hx rfl (hb hby at_62) rfl ?_
      show Steps p.tables e below (s₁.setTop (mkF m 64 #[.val (.long q1), .second, .val (.long q2), .second, .val (.int p3), .val (.long j1), .second, .val (.long j3), .second, .unset, .unset, .unset, .unset] [(.long j3), (.long (9223372036854775807 : Int64)), (.long j1)])) _
      refine XS.lsub X0.here hx rfl (hb hby at_64) rfl ?_
      show Steps p.tables e below (s₁.setTop (mkF m 65 #[.val (.long q1), .second, .val (.long q2), .second, .val (.int p3), .val (.long j1), .second, .val (.long j3), .second, .unset, .unset, .unset, .unset] [(.long ((9223372036854775807 : Int64) - j3)), (.long j1)])) _
      refine XS.lcmp X0.here hx rfl (hb hby at_65) rfl ?_
      exact k
    obtain ⟨j4, hj4, st5⟩ : ∃ (j4 : Int64), j4 = (if ((9223372036854775807 : Int64) - j3) < j1 then (9223372036854775807 : Int64) else (j1 + j3)) ∧ ∀ t, Steps p.tables e below (s₁.setTop (mkF m 84 #[.val (.long q1), .second, .val (.long q2), .second, .val (.int p3), .val (.long j1), .second, .val (.long j3), .second, .val (.long j4), .second, .unset, .unset] [])) t → Steps p.tables e below (s₁.setTop (mkF m 66 #[.val (.long q1), .second, .val (.long q2), .second, .val (.int p3), .val (.long j1), .second, .val (.long j3), .second, .unset, .unset, .unset, .unset] [(.int (lcmpW j1 ((9223372036854775807 : Int64) - j3)))])) t := by
      by_cases hc66_3 : ((9223372036854775807 : Int64) - j3) < j1
      · skip
        refine ⟨(9223372036854775807 : Int64), (by simp only [if_pos hc66_3]), fun t k => ?_⟩
        show Steps p.tables e below (s₁.setTop (mkF m 66 #[.val (.long q1), .second, .val (.long q2), .second, .val (.int p3), .val (.long j1), .second, .val (.long j3), .second, .unset, .unset, .unset, .unset] [(.int (lcmpW j1 ((9223372036854775807 : Int64) - j3)))])) _
        refine XS.ifNo X0.here hx rfl (hb hby at_66) rfl ((if0 _ _).trans (tlt ((lw_gt j1 ((9223372036854775807 : Int64) - j3)).mpr hc66_3)).2.2.2) ?_
        show Steps p.tables e below (s₁.setTop (mkF m 69 #[.val (.long q1), .second, .val (.long q2), .second, .val (.int p3), .val (.long j1), .second, .val (.long j3), .second, .unset, .unset, .unset, .unset] [])) _
        refine X0.ldc2Long hx hown (mvT hZ (hw _ (List.mem_of_getElem? (i := 0) rfl))) (g := (mkF m 69 #[.val (.long q1), .second, .val (.long q2), .second, .val (.int p3), .val (.long j1), .second, .val (.long j3), .second, .unset, .unset, .unset, .unset] [])) rfl (hb hby at_69) _ ?_
        show Steps p.tables e below (s₁.setTop (mkF m 72 #[.val (.long q1), .second, .val (.long q2), .second, .val (.int p3), .val (.long j1), .second, .val (.long j3), .second, .unset, .unset, .unset, .unset] [(.long (9223372036854775807 : Int64))])) _
        refine XS.lstore X0.here hx rfl (hb hby at_72) rfl (l' := #[.val (.long q1), .second, .val (.long q2), .second, .val (.int p3), .val (.long j1), .second, .val (.long j3), .second, .val (.long (9223372036854775807 : Int64)), .second, .unset, .unset]) rfl ?_
        show Steps p.tables e below (s₁.setTop (mkF m 74 #[.val (.long q1), .second, .val (.long q2), .second, .val (.int p3), .val (.long j1), .second, .val (.long j3), .second, .val (.long (9223372036854775807 : Int64)), .second, .unset, .unset] [])) _
        refine XS.goto X0.here hx rfl (pc0 := 74) (pc' := 84) rfl (hb hby at_74) (by decide) (by decide) ?_
        exact k
      · skip
        refine ⟨(j1 + j3), (by simp only [if_neg hc66_3]), fun t k => ?_⟩
        show Steps p.tables e below (s₁.setTop (mkF m 66 #[.val (.long q1), .second, .val (.long q2), .second, .val (.int p3), .val (.long j1), .second, .val (.long j3), .second, .unset, .unset, .unset, .unset] [(.int (lcmpW j1 ((9223372036854775807 : Int64) - j3)))])) _
        refine XS.ifYes X0.here hx rfl (pc0 := 66) (pc' := 77) rfl (hb hby at_66) rfl ((if0 _ _).trans (flt (fun q => hc66_3 ((lw_gt j1 ((9223372036854775807 : Int64) - j3)).mp q))).2.2.2) (by decide) (by decide) ?_
        show Steps p.tables e below (s₁.setTop (mkF m 77 #[.val (.long q1), .second, .val (.long q2), .second, .val (.int p3), .val (.long j1), .second, .val (.long j3), .second, .unset, .unset, .unset, .unset] [])) _
        refine XS.lload X0.here hx rfl (hb hby at_77) rfl ?_
        show Steps p.tables e below (s₁.setTop (mkF m 79 #[.val (.long q1), .second, .val (.long q2), .second, .val (.int p3), .val (.long j1), .second, .val (.long j3), .second, .unset, .unset, .unset, .unset] [(.long j1)])) _
        refine XS.lload X0.here hx rfl (hb hby at_79) rfl ?_
        show Steps p.tables e below (s₁.setTop (mkF m 81 #[.val (.long q1), .second, .val (.long q2), .second, .val (.int p3), .val (.long j1), .second, .val (.long j3), .second, .unset, .unset, .unset, .unset] [(.long j3), (.long j1)])) _
        refine XS.ladd X0.here hx rfl (hb hby at_81) rfl ?_
        show Steps p.tables e below (s₁.setTop (mkF m 82 #[.val (.long q1), .second, .val (.long q2), .second, .val (.int p3), .val (.long j1), .second, .val (.long j3), .second, .unset, .unset, .unset, .unset] [(.long (j1 + j3))])) _
        refine XS.lstore X0.here hx rfl (hb hby at_82) rfl (l' := #[.val (.long q1), .second, .val (.long q2), .second, .val (.int p3), .val (.long j1), .second, .val (.long j3), .second, .val (.long (j1 + j3)), .second, .unset, .unset]) rfl ?_
        exact k
    refine own_go st5 ?_
    show own_Go p.tables e below _ s₁ (mkF m 84 #[.val (.long q1), .second, .val (.long q2), .second, .val (.int p3), .val (.long j1), .second, .val (.long j3), .second, .val (.long j4), .second, .unset, .unset] [])
    refine own_go (T' := s₁) (g' := (mkF m 88 #[.val (.long q1), .second, .val (.long q2), .second, .val (.int p3), .val (.long j1), .second, .val (.long j3), .second, .val (.long j4), .second, .unset, .unset] [(.long j3), (.long j1)])) (fun t k => ?_) ?_
    · show Steps p.tables e below (s₁.setTop (mkF m 84 #[.val (.long q1), .second, .val (.long q2), .second, .val (.int p3), .val (.long j1), .second, .val (.long j3), .second, .val (.long j4), .second, .unset, .unset] [])) _
      refine XS.lload X0.here hx rfl (hb hby at_84) rfl ?_
      show Steps p.tables e below (s₁.setTop (mkF m 86 #[.val (.long q1), .second, .val (.long q2), .second, .val (.int p3), .val (.long j1), .second, .val (.long j3), .second, .val (.long j4), .second, .unset, .unset] [(.long j1)])) _
      refine XS.lload X0.here hx rfl (hb hby at_86) rfl ?_
      exact k
    obtain ⟨_, _, ⟨T6, L6, k6, n6⟩, -, X6, ⟨Lc6, hQ6, l6, y6, z6⟩, st6⟩ := Jvm.LawKit.callS X0 hx (y := (⟨"com/example/portunus/portunus/Work", "sum", "(JJ)J"⟩ : MethodName)) hown (mvT hZ (hw _ (List.mem_of_getElem? (i := 1) rfl))) (mvT hZ (hw _ (List.mem_of_getElem? (i := 2) rfl))) (mvT hZ (hw _ (List.mem_of_getElem? (i := 3) rfl))) (mvT hZ (hw _ (List.mem_of_getElem? (i := 4) rfl))) (by decide) (backOf (W := 0) (rm1 l Z a0 hw [] j1 j3 h0 n0 Z0 ) hZ (hw _ (List.mem_of_getElem? (i := 4) rfl)) (hw _ (List.mem_of_getElem? (i := 3) rfl)) (by decide) (by decide)) (g := (mkF m 88 #[.val (.long q1), .second, .val (.long q2), .second, .val (.int p3), .val (.long j1), .second, .val (.long j3), .second, .val (.long j4), .second, .unset, .unset] [(.long j3), (.long j1)])) rfl (by rw [hml]; rfl) (argsL := [(.long j1), (.long j3)]) (rest := []) (lenOf pd_0 rfl) rfl (by show 2 * 0 + _ ≤ _; exact Nat.le_of_eq rfl) (hb hby at_88) (fun _ _ => ⟨rfl, e0, (by decide : 0 + 0 ≤ _), (by decide : 0 + 0 ≤ _)⟩)
    dsimp only [Pt.U, Pt.locs, Pt.cells, Pt.slots] at X6 l6 y6 z6 st6 hQ6
    subst l6 y6 z6
    obtain ⟨rfl, N6q, e6⟩ := hQ6
    have NN := Fr.app NN N6q
    refine own_go st6 ?_
    show own_Go p.tables e below _ T6 (mkF m 91 #[.val (.long q1), .second, .val (.long q2), .second, .val (.int p3), .val (.long j1), .second, .val (.long j3), .second, .val (.long j4), .second, .unset, .unset] [(.long (r_1 j1 j3))])
    refine own_go (T' := T6) (g' := (mkF m 93 #[.val (.long q1), .second, .val (.long q2), .second, .val (.int p3), .val (.long j1), .second, .val (.long j3), .second, .val (.long j4), .second, .val (.long (r_1 j1 j3)), .second] [])) (fun t k => ?_) ?_
    · show Steps p.tables e below (T6.setTop (mkF m 91 #[.val (.long q1), .second, .val (.long q2), .second, .val (.int p3), .val (.long j1), .second, .val (.long j3), .second, .val (.long j4), .second, .unset, .unset] [(.long (r_1 j1 j3))])) _
      refine XS.lstore X6.here hx rfl (hb hby at_91) rfl (l' := #[.val (.long q1), .second, .val (.long q2), .second, .val (.int p3), .val (.long j1), .second, .val (.long j3), .second, .val (.long j4), .second, .val (.long (r_1 j1 j3)), .second]) rfl ?_
      exact k
    show own_Go p.tables e below _ T6 (mkF m 93 #[.val (.long q1), .second, .val (.long q2), .second, .val (.int p3), .val (.long j1), .second, .val (.long j3), .second, .val (.long j4), .second, .val (.long (r_1 j1 j3)), .second] [])
    obtain ⟨j7, hj7⟩ : ∃ z : Int64, z = (r_1 j1 j3) := ⟨_, rfl⟩
    rw [← hj7]
    show own_Go p.tables e below _ T6 (mkF m 93 #[.val (.long q1), .second, .val (.long q2), .second, .val (.int p3), .val (.long j1), .second, .val (.long j3), .second, .val (.long j4), .second, .val (.long j7), .second] [])
    refine own_go (T' := T6) (g' := (mkF m 98 #[.val (.long q1), .second, .val (.long q2), .second, .val (.int p3), .val (.long j1), .second, .val (.long j3), .second, .val (.long j4), .second, .val (.long j7), .second] [(.int (lcmpW j7 j4))])) (fun t k => ?_) ?_
    · show Steps p.tables e below (T6.setTop (mkF m 93 #[.val (.long q1), .second, .val (.long q2), .second, .val (.int p3), .val (.long j1), .second, .val (.long j3), .second, .val (.long j4), .second, .val (.long j7), .second] [])) _
      refine XS.lload X6.here hx rfl (hb hby at_93) rfl ?_
      show Steps p.tables e below (T6.setTop (mkF m 95 #[.val (.long q1), .second, .val (.long q2), .second, .val (.int p3), .val (.long j1), .second, .val (.long j3), .second, .val (.long j4), .second, .val (.long j7), .second] [(.long j7)])) _
      refine XS.lload X6.here hx rfl (hb hby at_95) rfl ?_
      show Steps p.tables e below (T6.setTop (mkF m 97 #[.val (.long q1), .second, .val (.long q2), .second, .val (.int p3), .val (.long j1), .second, .val (.long j3), .second, .val (.long j4), .second, .val (.long j7), .second] [(.long j4), (.long j7)])) _
      refine XS.lcmp X6.here hx rfl (hb hby at_97) rfl ?_
      exact k
    obtain ⟨j8, hj8, st9⟩ : ∃ (j8 : Int32), j8 = (if j7 = j4 then (1 : Int32) else (0 : Int32)) ∧ ∀ t, Steps p.tables e below (T6.setTop (mkF m 106 #[.val (.long q1), .second, .val (.long q2), .second, .val (.int p3), .val (.long j1), .second, .val (.long j3), .second, .val (.long j4), .second, .val (.long j7), .second] [(.int j8)])) t → Steps p.tables e below (T6.setTop (mkF m 98 #[.val (.long q1), .second, .val (.long q2), .second, .val (.int p3), .val (.long j1), .second, .val (.long j3), .second, .val (.long j4), .second, .val (.long j7), .second] [(.int (lcmpW j7 j4))])) t := by
      by_cases hc98_4 : j7 = j4
      · skip
        refine ⟨(1 : Int32), (by simp only [if_pos hc98_4]), fun t k => ?_⟩
        show Steps p.tables e below (T6.setTop (mkF m 98 #[.val (.long q1), .second, .val (.long q2), .second, .val (.int p3), .val (.long j1), .second, .val (.long j3), .second, .val (.long j4), .second, .val (.long j7), .second] [(.int (lcmpW j7 j4))])) _
        refine XS.ifNo X6.here hx rfl (hb hby at_98) rfl ((if0 _ _).trans (teq ((lw_eq j7 j4).mpr hc98_4)).2) ?_
        show Steps p.tables e below (T6.setTop (mkF m 101 #[.val (.long q1), .second, .val (.long q2), .second, .val (.int p3), .val (.long j1), .second, .val (.long j3), .second, .val (.long j4), .second, .val (.long j7), .second] [])) _
        refine XS.iconst X6.here hx rfl (hb hby at_101) ?_
        show Steps p.tables e below (T6.setTop (mkF m 102 #[.val (.long q1), .second, .val (.long q2), .second, .val (.int p3), .val (.long j1), .second, .val (.long j3), .second, .val (.long j4), .second, .val (.long j7), .second] [(.int (1 : Int32))])) _
        refine XS.goto X6.here hx rfl (pc0 := 102) (pc' := 106) rfl (hb hby at_102) (by decide) (by decide) ?_
        exact k
      · skip
        refine ⟨(0 : Int32), (by simp only [if_neg hc98_4]), fun t k => ?_⟩
        show Steps p.tables e below (T6.setTop (mkF m 98 #[.val (.long q1), .second, .val (.long q2), .second, .val (.int p3), .val (.long j1), .second, .val (.long j3), .second, .val (.long j4), .second, .val (.long j7), .second] [(.int (lcmpW j7 j4))])) _
        refine XS.ifYes X6.here hx rfl (pc0 := 98) (pc' := 105) rfl (hb hby at_98) rfl ((if0 _ _).trans (feq (fun q => hc98_4 ((lw_eq j7 j4).mp q))).2) (by decide) (by decide) ?_
        show Steps p.tables e below (T6.setTop (mkF m 105 #[.val (.long q1), .second, .val (.long q2), .second, .val (.int p3), .val (.long j1), .second, .val (.long j3), .second, .val (.long j4), .second, .val (.long j7), .second] [])) _
        refine XS.iconst X6.here hx rfl (hb hby at_105) ?_
        exact k
    refine own_go st9 ?_
    show own_Go p.tables e below _ T6 (mkF m 106 #[.val (.long q1), .second, .val (.long q2), .second, .val (.int p3), .val (.long j1), .second, .val (.long j3), .second, .val (.long j4), .second, .val (.long j7), .second] [(.int j8)])
    have hv1 : (nar .boolean j8) = 1 := own_yes_t q1 q2 p3 j1 j3 j4 j7 j8 hj1 hj3 hj4 hj7 hj8 hc11_2
    obtain ⟨fs, hr, hrun, hended, hW, hsame⟩ := X6.leave (v := some (.int (nar .boolean j8))) (fun h => by rw [Bd.returns] at h; cases h)
    refine ⟨_, _, ?_, hrun, hended, _, _, rfl, ?_, ⟨_, rfl⟩, hW, hsame.mono (by decide) (by decide)⟩
    · exact retN X6 hx (t := .boolean) Bd.returns (by simp) (hb hby at_106) hr
    · show Q0 Z q1 q2 p3 h0 n0 _ _ _
      exact ⟨by rw [hv1], NN⟩
  · skip
    refine own_go (T' := s₁) (g' := (mkF m 28 #[.val (.long q1), .second, .val (.long q2), .second, .val (.int p3), .val (.long j1), .second, .unset, .unset, .val (.long (((p3 >>> ((1 : Int32) &&& 31)) &&& (7 : Int32)).toInt64 - (3 : Int64))), .second, .unset, .unset] [])) (fun t k => ?_) ?_
    · show Steps p.tables e below (s₁.setTop (mkF m 11 #[.val (.long q1), .second, .val (.long q2), .second, .val (.int p3), .val (.long j1), .second, .unset, .unset, .unset, .unset, .unset, .unset] [(.int (p3 &&& (1 : Int32)))])) _
      refine XS.ifNo X0.here hx rfl (hb hby at_11) rfl ((if0 _ _).trans (feq hc11_2).1) ?_
      show Steps p.tables e below (s₁.setTop (mkF m 14 #[.val (.long q1), .second, .val (.long q2), .second, .val (.int p3), .val (.long j1), .second, .unset, .unset, .unset, .unset, .unset, .unset] [])) _
      refine XS.iload X0.here hx rfl (hb hby at_14) rfl ?_
      show Steps p.tables e below (s₁.setTop (mkF m 16 #[.val (.long q1), .second, .val (.long q2), .second, .val (.int p3), .val (.long j1), .second, .unset, .unset, .unset, .unset, .unset, .unset] [(.int p3)])) _
      refine XS.iconst X0.here hx rfl (hb hby at_16) ?_
      show Steps p.tables e below (s₁.setTop (mkF m 17 #[.val (.long q1), .second, .val (.long q2), .second, .val (.int p3), .val (.long j1), .second, .unset, .unset, .unset, .unset, .unset, .unset] [(.int (1 : Int32)), (.int p3)])) _
      refine XS.ishr X0.here hx rfl (hb hby at_17) rfl ?_
      show Steps p.tables e below (s₁.setTop (mkF m 18 #[.val (.long q1), .second, .val (.long q2), .second, .val (.int p3), .val (.long j1), .second, .unset, .unset, .unset, .unset, .unset, .unset] [(.int (p3 >>> ((1 : Int32) &&& 31)))])) _
      refine XS.bipush X0.here hx rfl (hb hby at_18) ?_
      show Steps p.tables e below (s₁.setTop (mkF m 20 #[.val (.long q1), .second, .val (.long q2), .second, .val (.int p3), .val (.long j1), .second, .unset, .unset, .unset, .unset, .unset, .unset] [(.int (7 : Int32)), (.int (p3 >>> ((1 : Int32) &&& 31)))])) _
      refine XS.iand X0.here hx rfl (hb hby at_20) rfl ?_
      show Steps p.tables e below (s₁.setTop (mkF m 21 #[.val (.long q1), .second, .val (.long q2), .second, .val (.int p3), .val (.long j1), .second, .unset, .unset, .unset, .unset, .unset, .unset] [(.int ((p3 >>> ((1 : Int32) &&& 31)) &&& (7 : Int32)))])) _
      refine XS.i2l X0.here hx rfl (hb hby at_21) rfl ?_
      show Steps p.tables e below (s₁.setTop (mkF m 22 #[.val (.long q1), .second, .val (.long q2), .second, .val (.int p3), .val (.long j1), .second, .unset, .unset, .unset, .unset, .unset, .unset] [(.long ((p3 >>> ((1 : Int32) &&& 31)) &&& (7 : Int32)).toInt64)])) _
      refine X0.ldc2Long hx hown (mvT hZ (hw _ (List.mem_of_getElem? (i := 5) rfl))) (g := (mkF m 22 #[.val (.long q1), .second, .val (.long q2), .second, .val (.int p3), .val (.long j1), .second, .unset, .unset, .unset, .unset, .unset, .unset] [(.long ((p3 >>> ((1 : Int32) &&& 31)) &&& (7 : Int32)).toInt64)])) rfl (hb hby at_22) _ ?_
      show Steps p.tables e below (s₁.setTop (mkF m 25 #[.val (.long q1), .second, .val (.long q2), .second, .val (.int p3), .val (.long j1), .second, .unset, .unset, .unset, .unset, .unset, .unset] [(.long (3 : Int64)), (.long ((p3 >>> ((1 : Int32) &&& 31)) &&& (7 : Int32)).toInt64)])) _
      refine XS.lsub X0.here hx rfl (hb hby at_25) rfl ?_
      show Steps p.tables e below (s₁.setTop (mkF m 26 #[.val (.long q1), .second, .val (.long q2), .second, .val (.int p3), .val (.long j1), .second, .unset, .unset, .unset, .unset, .unset, .unset] [(.long (((p3 >>> ((1 : Int32) &&& 31)) &&& (7 : Int32)).toInt64 - (3 : Int64)))])) _
      refine XS.lstore X0.here hx rfl (hb hby at_26) rfl (l' := #[.val (.long q1), .second, .val (.long q2), .second, .val (.int p3), .val (.long j1), .second, .unset, .unset, .val (.long (((p3 >>> ((1 : Int32) &&& 31)) &&& (7 : Int32)).toInt64 - (3 : Int64))), .second, .unset, .unset]) rfl ?_
      exact k
    show own_Go p.tables e below _ s₁ (mkF m 28 #[.val (.long q1), .second, .val (.long q2), .second, .val (.int p3), .val (.long j1), .second, .unset, .unset, .val (.long (((p3 >>> ((1 : Int32) &&& 31)) &&& (7 : Int32)).toInt64 - (3 : Int64))), .second, .unset, .unset] [])
    obtain ⟨j10, hj10⟩ : ∃ z : Int64, z = (((p3 >>> ((1 : Int32) &&& 31)) &&& (7 : Int32)).toInt64 - (3 : Int64)) := ⟨_, rfl⟩
    rw [← hj10]
    show own_Go p.tables e below _ s₁ (mkF m 28 #[.val (.long q1), .second, .val (.long q2), .second, .val (.int p3), .val (.long j1), .second, .unset, .unset, .val (.long j10), .second, .unset, .unset] [])
    refine own_go (T' := s₁) (g' := (mkF m 36 #[.val (.long q1), .second, .val (.long q2), .second, .val (.int p3), .val (.long j1), .second, .unset, .unset, .val (.long j10), .second, .val (.long ((9223372036854775807 : Int64) - j1)), .second] [])) (fun t k => ?_) ?_
    · show Steps p.tables e below (s₁.setTop (mkF m 28 #[.val (.long q1), .second, .val (.long q2), .second, .val (.int p3), .val (.long j1), .second, .unset, .unset, .val (.long j10), .second, .unset, .unset] [])) _
      refine X0.ldc2Long hx hown (mvT hZ (hw _ (List.mem_of_getElem? (i := 0) rfl))) (g := (mkF m 28 #[.val (.long q1), .second, .val (.long q2), .second, .val (.int p3), .val (.long j1), .second, .unset, .unset, .val (.long j10), .second, .unset, .unset] [])) rfl (hb hby at_28) _ ?_
      show Steps p.tables e below (s₁.setTop (mkF m 31 #[.val (.long q1), .second, .val (.long q2), .second, .val (.int p3), .val (.long j1), .second, .unset, .unset, .val (.long j10), .second, .unset, .unset] [(.long (9223372036854775807 : Int64))])) _
      refine XS.lload X0.here hx rfl (hb hby at_31) rfl ?_
      show Steps p.tables e below (s₁.setTop (mkF m 33 #[.val (.long q1), .second, .val (.long q2), .second, .val (.int p3), .val (.long j1), .second, .unset, .unset, .val (.long j10), .second, .unset, .unset] [(.long j1), (.long (9223372036854775807 : Int64))])) _
      refine XS.lsub X0.here hx rfl (hb hby at_33) rfl ?_
      show Steps p.tables e below (s₁.setTop (mkF m 34 #[.val (.long q1), .second, .val (.long q2), .second, .val (.int p3), .val (.long j1), .second, .unset, .unset, .val (.long j10), .second, .unset, .unset] [(.long ((9223372036854775807 : Int64) - j1))])) _
      refine XS.lstore X0.here hx rfl (hb hby at_34) rfl (l' := #[.val (.long q1), .second, .val (.long q2), .second, .val (.int p3), .val (.long j1), .second, .unset, .unset, .val (.long j10), .second, .val (.long ((9223372036854775807 : Int64) - j1)), .second]) rfl ?_
      exact k
    show own_Go p.tables e below _ s₁ (mkF m 36 #[.val (.long q1), .second, .val (.long q2), .second, .val (.int p3), .val (.long j1), .second, .unset, .unset, .val (.long j10), .second, .val (.long ((9223372036854775807 : Int64) - j1)), .second] [])
    obtain ⟨j11, hj11⟩ : ∃ z : Int64, z = ((9223372036854775807 : Int64) - j1) := ⟨_, rfl⟩
    rw [← hj11]
    show own_Go p.tables e below _ s₁ (mkF m 36 #[.val (.long q1), .second, .val (.long q2), .second, .val (.int p3), .val (.long j1), .second, .unset, .unset, .val (.long j10), .second, .val (.long j11), .second] [])
    refine own_go (T' := s₁) (g' := (mkF m 47 #[.val (.long q1), .second, .val (.long q2), .second, .val (.int p3), .val (.long j1), .second, .val (.long ((j11 - j10) &&& (9223372036854775807 : Int64))), .second, .val (.long j10), .second, .val (.long j11), .second] [])) (fun t k => ?_) ?_
    · show Steps p.tables e below (s₁.setTop (mkF m 36 #[.val (.long q1), .second, .val (.long q2), .second, .val (.int p3), .val (.long j1), .second, .unset, .unset, .val (.long j10), .second, .val (.long j11), .second] [])) _
      refine XS.lload X0.here hx rfl (hb hby at_36) rfl ?_
      show Steps p.tables e below (s₁.setTop (mkF m 38 #[.val (.long q1), .second, .val (.long q2), .second, .val (.int p3), .val (.long j1), .second, .unset, .unset, .val (.long j10), .second, .val (.long j11), .second] [(.long j11)])) _
      refine XS.lload X0.here hx rfl (hb hby at_38) rfl ?_
      show Steps p.tables e below (s₁.setTop (mkF m 40 #[.val (.long q1), .second, .val (.long q2), .second, .val (.int p3), .val (.long j1), .second, .unset, .unset, .val (.long j10), .second, .val (.long j11), .second] [(.long j10), (.long j11)])) _
      refine XS.lsub X0.here hx rfl (hb hby at_40) rfl ?_
      show Steps p.tables e below (s₁.setTop (mkF m 41 #[.val (.long q1), .second, .val (.long q2), .second, .val (.int p3), .val (.long j1), .second, .unset, .unset, .val (.long j10), .second, .val (.long j11), .second] [(.long (j11 - j10))])) _
      refine X0.ldc2Long hx hown (mvT hZ (hw _ (List.mem_of_getElem? (i := 0) rfl))) (g := (mkF m 41 #[.val (.long q1), .second, .val (.long q2), .second, .val (.int p3), .val (.long j1), .second, .unset, .unset, .val (.long j10), .second, .val (.long j11), .second] [(.long (j11 - j10))])) rfl (hb hby at_41) _ ?_
      show Steps p.tables e below (s₁.setTop (mkF m 44 #[.val (.long q1), .second, .val (.long q2), .second, .val (.int p3), .val (.long j1), .second, .unset, .unset, .val (.long j10), .second, .val (.long j11), .second] [(.long (9223372036854775807 : Int64)), (.long (j11 - j10))])) _
      refine XS.land X0.here hx rfl (hb hby at_44) rfl ?_
      show Steps p.tables e below (s₁.setTop (mkF m 45 #[.val (.long q1), .second, .val (.long q2), .second, .val (.int p3), .val (.long j1), .second, .unset, .unset, .val (.long j10), .second, .val (.long j11), .second] [(.long ((j11 - j10) &&& (9223372036854775807 : Int64)))])) _
      refine XS.lstore X0.here hx rfl (hb hby at_45) rfl (l' := #[.val (.long q1), .second, .val (.long q2), .second, .val (.int p3), .val (.long j1), .second, .val (.long ((j11 - j10) &&& (9223372036854775807 : Int64))), .second, .val (.long j10), .second, .val (.long j11), .second]) rfl ?_
      exact k
    show own_Go p.tables e below _ s₁ (mkF m 47 #[.val (.long q1), .second, .val (.long q2), .second, .val (.int p3), .val (.long j1), .second, .val (.long ((j11 - j10) &&& (9223372036854775807 : Int64))), .second, .val (.long j10), .second, .val (.long j11), .second] [])
    obtain ⟨j12, hj12⟩ : ∃ z : Int64, z = ((j11 - j10) &&& (9223372036854775807 : Int64)) := ⟨_, rfl⟩
    rw [← hj12]
    show own_Go p.tables e below _ s₁ (mkF m 47 #[.val (.long q1), .second, .val (.long q2), .second, .val (.int p3), .val (.long j1), .second, .val (.long j12), .second, .val (.long j10), .second, .val (.long j11), .second] [])
    refine own_go (T' := s₁) (g' := (mkF m 66 #[.val (.long q1), .second, .val (.long q2), .second, .val (.int p3), .val (.long j1), .second, .val (.long j12), .second, .val (.long j10), .second, .val (.long j11), .second] [(.int (lcmpW j1 ((9223372036854775807 : Int64) - j12)))])) (fun t k => ?_) ?_
    · show Steps p.tables e below (s₁.setTop (mkF m 47 #[.val (.long q1), .second, .val (.long q2), .second, .val (.int p3), .val (.long j1), .second, .val (.long j12), .second, .val (.long j10), .second, .val (.long j11), .second] [])) _
      refine XS.goto X0.here hx rfl (pc0 := 47) (pc' := 57) rfl (hb hby at_47) (by decide) (by decide) ?_
      show Steps p.tables e below (s₁.setTop (mkF m 57 #[.val (.long q1), .second, .val (.long q2), .second, .val (.int p3), .val (.long j1), .second, .val (.long j12), .second, .val (.long j10), .second, .val (.long j11), .second] [])) _
      refine XS.lload X0.here hx rfl (hb hby at_57) rfl ?_
      show Steps p.tables e below (s₁.setTop (mkF m 59 #[.val (.long q1), .second, .val (.long q2), .second, .val (.int p3), .val (.long j1), .second, .val (.long j12), .second, .val (.long j10), .second, .val (.long j11), .second] [(.long j1)])) _
      refine X0.ldc2Long hx hown (mvT hZ (hw _ (List.mem_of_getElem? (i := 0) rfl))) (g := (mkF m 59 #[.val (.long q1), .second, .val (.long q2), .second, .val (.int p3), .val (.long j1), .second, .val (.long j12), .second, .val (.long j10), .second, .val (.long j11), .second] [(.long j1)])) rfl (hb hby at_59) _ ?_
      show Steps p.tables e below (s₁.setTop (mkF m 62 #[.val (.long q1), .second, .val (.long q2), .second, .val (.int p3), .val (.long j1), .second, .val (.long j12), .second, .val (.long j10), .second, .val (.long j11), .second] [(.long (9223372036854775807 : Int64)), (.long j1)])) _
      refine XS.lload X0.here hx rfl (hb hby at_62) rfl ?_
      show Steps p.tables e below (s₁.setTop (mkF m 64 #[.val (.long q1), .second, .val (.long q2), .second, .val (.int p3), .val (.long j1), .second, .val (.long j12), .second, .val (.long j10), .second, .val (.long j11), .second] [(.long j12), (.long (9223372036854775807 : Int64)), (.long j1)])) _
      refine XS.lsub X0.here hx rfl (hb hby at_64) rfl ?_
      show Steps p.tables e below (s₁.setTop (mkF m 65 #[.val (.long q1), .second, .val (.long q2), .second, .val (.int p3), .val (.long j1), .second, .val (.long j12), .second, .val (.long j10), .second, .val (.long j11), .second] [(.long ((9223372036854775807 : Int64) - j12)), (.long j1)])) _
      refine XS.lcmp X0.here hx rfl (hb hby at_65) rfl ?_
      exact k
    obtain ⟨j13, hj13, st14⟩ : ∃ (j13 : Int64), j13 = (if ((9223372036854775807 : Int64) - j12) < j1 then (9223372036854775807 : Int64) else (j1 + j12)) ∧ ∀ t, Steps p.tables e below (s₁.setTop (mkF m 84 #[.val (.long q1), .second, .val (.long q2), .second, .val (.int p3), .val (.long j1), .second, .val (.long j12), .second, .val (.long j13), .second, .val (.long j11), .second] [])) t → Steps p.tables e below (s₁.setTop (mkF m 66 #[.val (.long q1), .second, .val (.long q2), .second, .val (.int p3), .val (.long j1), .second, .val (.long j12), .second, .val (.long j10), .second, .val (.long j11), .second] [(.int (lcmpW j1 ((9223372036854775807 : Int64) - j12)))])) t := by
      by_cases hc66_5 : ((9223372036854775807 : Int64) - j12) < j1
      · skip
        refine ⟨(9223372036854775807 : Int64), (by simp only [if_pos hc66_5]), fun t k => ?_⟩
        show Steps p.tables e below (s₁.setTop (mkF m 66 #[.val (.long q1), .second, .val (.long q2), .second, .val (.int p3), .val (.long j1), .second, .val (.long j12), .second, .val (.long j10), .second, .val (.long j11), .second] [(.int (lcmpW j1 ((9223372036854775807 : Int64) - j12)))])) _
        refine XS.ifNo X0.here hx rfl (hb hby at_66) rfl ((if0 _ _).trans (tlt ((lw_gt j1 ((9223372036854775807 : Int64) - j12)).mpr hc66_5)).2.2.2) ?_
        show Steps p.tables e below (s₁.setTop (mkF m 69 #[.val (.long q1), .second, .val (.long q2), .second, .val (.int p3), .val (.long j1), .second, .val (.long j12), .second, .val (.long j10), .second, .val (.long j11), .second] [])) _
        refine X0.ldc2Long hx hown (mvT hZ (hw _ (List.mem_of_getElem? (i := 0) rfl))) (g := (mkF m 69 #[.val (.long q1), .second, .val (.long q2), .second, .val (.int p3), .val (.long j1), .second, .val (.long j12), .second, .val (.long j10), .second, .val (.long j11), .second] [])) rfl (hb hby at_69) _ ?_
        show Steps p.tables e below (s₁.setTop (mkF m 72 #[.val (.long q1), .second, .val (.long q2), .second, .val (.int p3), .val (.long j1), .second, .val (.long j12), .second, .val (.long j10), .second, .val (.long j11), .second] [(.long (9223372036854775807 : Int64))])) _
        refine XS.lstore X0.here hx rfl (hb hby at_72) rfl (l' := #[.val (.long q1), .second, .val (.long q2), .second, .val (.int p3), .val (.long j1), .second, .val (.long j12), .second, .val (.long (9223372036854775807 : Int64)), .second, .val (.long j11), .second]) rfl ?_
        show Steps p.tables e below (s₁.setTop (mkF m 74 #[.val (.long q1), .second, .val (.long q2), .second, .val (.int p3), .val (.long j1), .second, .val (.long j12), .second, .val (.long (9223372036854775807 : Int64)), .second, .val (.long j11), .second] [])) _
        refine XS.goto X0.here hx rfl (pc0 := 74) (pc' := 84) rfl (hb hby at_74) (by decide) (by decide) ?_
        exact k
      · skip
        refine ⟨(j1 + j12), (by simp only [if_neg hc66_5]), fun t k => ?_⟩
        show Steps p.tables e below (s₁.setTop (mkF m 66 #[.val (.long q1), .second, .val (.long q2), .second, .val (.int p3), .val (.long j1), .second, .val (.long j12), .second, .val (.long j10), .second, .val (.long j11), .second] [(.int (lcmpW j1 ((9223372036854775807 : Int64) - j12)))])) _
        refine XS.ifYes X0.here hx rfl (pc0 := 66) (pc' := 77) rfl (hb hby at_66) rfl ((if0 _ _).trans (flt (fun q => hc66_5 ((lw_gt j1 ((9223372036854775807 : Int64) - j12)).mp q))).2.2.2) (by decide) (by decide) ?_
        show Steps p.tables e below (s₁.setTop (mkF m 77 #[.val (.long q1), .second, .val (.long q2), .second, .val (.int p3), .val (.long j1), .second, .val (.long j12), .second, .val (.long j10), .second, .val (.long j11), .second] [])) _
        refine XS.lload X0.here hx rfl (hb hby at_77) rfl ?_
        show Steps p.tables e below (s₁.setTop (mkF m 79 #[.val (.long q1), .second, .val (.long q2), .second, .val (.int p3), .val (.long j1), .second, .val (.long j12), .second, .val (.long j10), .second, .val (.long j11), .second] [(.long j1)])) _
        refine XS.lload X0.here hx rfl (hb hby at_79) rfl ?_
        show Steps p.tables e below (s₁.setTop (mkF m 81 #[.val (.long q1), .second, .val (.long q2), .second, .val (.int p3), .val (.long j1), .second, .val (.long j12), .second, .val (.long j10), .second, .val (.long j11), .second] [(.long j12), (.long j1)])) _
        refine XS.ladd X0.here hx rfl (hb hby at_81) rfl ?_
        show Steps p.tables e below (s₁.setTop (mkF m 82 #[.val (.long q1), .second, .val (.long q2), .second, .val (.int p3), .val (.long j1), .second, .val (.long j12), .second, .val (.long j10), .second, .val (.long j11), .second] [(.long (j1 + j12))])) _
        refine XS.lstore X0.here hx rfl (hb hby at_82) rfl (l' := #[.val (.long q1), .second, .val (.long q2), .second, .val (.int p3), .val (.long j1), .second, .val (.long j12), .second, .val (.long (j1 + j12)), .second, .val (.long j11), .second]) rfl ?_
        exact k
    refine own_go st14 ?_
    show own_Go p.tables e below _ s₁ (mkF m 84 #[.val (.long q1), .second, .val (.long q2), .second, .val (.int p3), .val (.long j1), .second, .val (.long j12), .second, .val (.long j13), .second, .val (.long j11), .second] [])
    refine own_go (T' := s₁) (g' := (mkF m 88 #[.val (.long q1), .second, .val (.long q2), .second, .val (.int p3), .val (.long j1), .second, .val (.long j12), .second, .val (.long j13), .second, .val (.long j11), .second] [(.long j12), (.long j1)])) (fun t k => ?_) ?_
    · show Steps p.tables e below (s₁.setTop (mkF m 84 #[.val (.long q1), .second, .val (.long q2), .second, .val (.int p3), .val (.long j1), .second, .val (.long j12), .second, .val (.long j13), .second, .val (.long j11), .second] [])) _
      refine XS.lload X0.here hx rfl (hb hby at_84) rfl ?_
      show Steps p.tables e below (s₁.setTop (mkF m 86 #[.val (.long q1), .second, .val (.long q2), .second, .val (.int p3), .val (.long j1), .second, .val (.long j12), .second, .val (.long j13), .second, .val (.long j11), .second] [(.long j1)])) _
      refine XS.lload X0.here hx rfl (hb hby at_86) rfl ?_
      exact k
    obtain ⟨_, _, ⟨T15, L15, k15, n15⟩, -, X15, ⟨Lc15, hQ15, l15, y15, z15⟩, st15⟩ := Jvm.LawKit.callS X0 hx (y := (⟨"com/example/portunus/portunus/Work", "sum", "(JJ)J"⟩ : MethodName)) hown (mvT hZ (hw _ (List.mem_of_getElem? (i := 1) rfl))) (mvT hZ (hw _ (List.mem_of_getElem? (i := 2) rfl))) (mvT hZ (hw _ (List.mem_of_getElem? (i := 3) rfl))) (mvT hZ (hw _ (List.mem_of_getElem? (i := 4) rfl))) (by decide) (backOf (W := 0) (rm1 l Z a0 hw [] j1 j12 h0 n0 Z0 ) hZ (hw _ (List.mem_of_getElem? (i := 4) rfl)) (hw _ (List.mem_of_getElem? (i := 3) rfl)) (by decide) (by decide)) (g := (mkF m 88 #[.val (.long q1), .second, .val (.long q2), .second, .val (.int p3), .val (.long j1), .second, .val (.long j12), .second, .val (.long j13), .second, .val (.long j11), .second] [(.long j12), (.long j1)])) rfl (by rw [hml]; rfl) (argsL := [(.long j1), (.long j12)]) (rest := []) (lenOf pd_0 rfl) rfl (by show 2 * 0 + _ ≤ _; exact Nat.le_of_eq rfl) (hb hby at_88) (fun _ _ => ⟨rfl, e0, (by decide : 0 + 0 ≤ _), (by decide : 0 + 0 ≤ _)⟩)
    dsimp only [Pt.U, Pt.locs, Pt.cells, Pt.slots] at X15 l15 y15 z15 st15 hQ15
    subst l15 y15 z15
    obtain ⟨rfl, N15q, e15⟩ := hQ15
    have NN := Fr.app NN N15q
    refine own_go st15 ?_
    show own_Go p.tables e below _ T15 (mkF m 91 #[.val (.long q1), .second, .val (.long q2), .second, .val (.int p3), .val (.long j1), .second, .val (.long j12), .second, .val (.long j13), .second, .val (.long j11), .second] [(.long (r_1 j1 j12))])
    refine own_go (T' := T15) (g' := (mkF m 93 #[.val (.long q1), .second, .val (.long q2), .second, .val (.int p3), .val (.long j1), .second, .val (.long j12), .second, .val (.long j13), .second, .val (.long (r_1 j1 j12)), .second] [])) (fun t k => ?_) ?_
    · show Steps p.tables e below (T15.setTop (mkF m 91 #[.val (.long q1), .second, .val (.long q2), .second, .val (.int p3), .val (.long j1), .second, .val (.long j12), .second, .val (.long j13), .second, .val (.long j11), .second] [(.long (r_1 j1 j12))])) _
      refine XS.lstore X15.here hx rfl (hb hby at_91) rfl (l' := #[.val (.long q1), .second, .val (.long q2), .second, .val (.int p3), .val (.long j1), .second, .val (.long j12), .second, .val (.long j13), .second, .val (.long (r_1 j1 j12)), .second]) rfl ?_
      exact k
    show own_Go p.tables e below _ T15 (mkF m 93 #[.val (.long q1), .second, .val (.long q2), .second, .val (.int p3), .val (.long j1), .second, .val (.long j12), .second, .val (.long j13), .second, .val (.long (r_1 j1 j12)), .second] [])
    obtain ⟨j16, hj16⟩ : ∃ z : Int64, z = (r_1 j1 j12) := ⟨_, rfl⟩
    rw [← hj16]
    show own_Go p.tables e below _ T15 (mkF m 93 #[.val (.long q1), .second, .val (.long q2), .second, .val (.int p3), .val (.long j1), .second, .val (.long j12), .second, .val (.long j13), .second, .val (.long j16), .second] [])
    refine own_go (T' := T15) (g' := (mkF m 98 #[.val (.long q1), .second, .val (.long q2), .second, .val (.int p3), .val (.long j1), .second, .val (.long j12), .second, .val (.long j13), .second, .val (.long j16), .second] [(.int (lcmpW j16 j13))])) (fun t k => ?_) ?_
    · show Steps p.tables e below (T15.setTop (mkF m 93 #[.val (.long q1), .second, .val (.long q2), .second, .val (.int p3), .val (.long j1), .second, .val (.long j12), .second, .val (.long j13), .second, .val (.long j16), .second] [])) _
      refine XS.lload X15.here hx rfl (hb hby at_93) rfl ?_
      show Steps p.tables e below (T15.setTop (mkF m 95 #[.val (.long q1), .second, .val (.long q2), .second, .val (.int p3), .val (.long j1), .second, .val (.long j12), .second, .val (.long j13), .second, .val (.long j16), .second] [(.long j16)])) _
      refine XS.lload X15.here hx rfl (hb hby at_95) rfl ?_
      show Steps p.tables e below (T15.setTop (mkF m 97 #[.val (.long q1), .second, .val (.long q2), .second, .val (.int p3), .val (.long j1), .second, .val (.long j12), .second, .val (.long j13), .second, .val (.long j16), .second] [(.long j13), (.long j16)])) _
      refine XS.lcmp X15.here hx rfl (hb hby at_97) rfl ?_
      exact k
    obtain ⟨j17, hj17, st18⟩ : ∃ (j17 : Int32), j17 = (if j16 = j13 then (1 : Int32) else (0 : Int32)) ∧ ∀ t, Steps p.tables e below (T15.setTop (mkF m 106 #[.val (.long q1), .second, .val (.long q2), .second, .val (.int p3), .val (.long j1), .second, .val (.long j12), .second, .val (.long j13), .second, .val (.long j16), .second] [(.int j17)])) t → Steps p.tables e below (T15.setTop (mkF m 98 #[.val (.long q1), .second, .val (.long q2), .second, .val (.int p3), .val (.long j1), .second, .val (.long j12), .second, .val (.long j13), .second, .val (.long j16), .second] [(.int (lcmpW j16 j13))])) t := by
      by_cases hc98_6 : j16 = j13
      · skip
        refine ⟨(1 : Int32), (by simp only [if_pos hc98_6]), fun t k => ?_⟩
        show Steps p.tables e below (T15.setTop (mkF m 98 #[.val (.long q1), .second, .val (.long q2), .second, .val (.int p3), .val (.long j1), .second, .val (.long j12), .second, .val (.long j13), .second, .val (.long j16), .second] [(.int (lcmpW j16 j13))])) _
        refine XS.ifNo X15.here hx rfl (hb hby at_98) rfl ((if0 _ _).trans (teq ((lw_eq j16 j13).mpr hc98_6)).2) ?_
        show Steps p.tables e below (T15.setTop (mkF m 101 #[.val (.long q1), .second, .val (.long q2), .second, .val (.int p3), .val (.long j1), .second, .val (.long j12), .second, .val (.long j13), .second, .val (.long j16), .second] [])) _
        refine XS.iconst X15.here hx rfl (hb hby at_101) ?_
        show Steps p.tables e below (T15.setTop (mkF m 102 #[.val (.long q1), .second, .val (.long q2), .second, .val (.int p3), .val (.long j1), .second, .val (.long j12), .second, .val (.long j13), .second, .val (.long j16), .second] [(.int (1 : Int32))])) _
        refine XS.goto X15.here hx rfl (pc0 := 102) (pc' := 106) rfl (hb hby at_102) (by decide) (by decide) ?_
        exact k
      · skip
        refine ⟨(0 : Int32), (by simp only [if_neg hc98_6]), fun t k => ?_⟩
        show Steps p.tables e below (T15.setTop (mkF m 98 #[.val (.long q1), .second, .val (.long q2), .second, .val (.int p3), .val (.long j1), .second, .val (.long j12), .second, .val (.long j13), .second, .val (.long j16), .second] [(.int (lcmpW j16 j13))])) _
        refine XS.ifYes X15.here hx rfl (pc0 := 98) (pc' := 105) rfl (hb hby at_98) rfl ((if0 _ _).trans (feq (fun q => hc98_6 ((lw_eq j16 j13).mp q))).2) (by decide) (by decide) ?_
        show Steps p.tables e below (T15.setTop (mkF m 105 #[.val (.long q1), .second, .val (.long q2), .second, .val (.int p3), .val (.long j1), .second, .val (.long j12), .second, .val (.long j13), .second, .val (.long j16), .second] [])) _
        refine XS.iconst X15.here hx rfl (hb hby at_105) ?_
        exact k
    refine own_go st18 ?_
    show own_Go p.tables e below _ T15 (mkF m 106 #[.val (.long q1), .second, .val (.long q2), .second, .val (.int p3), .val (.long j1), .second, .val (.long j12), .second, .val (.long j13), .second, .val (.long j16), .second] [(.int j17)])
    have hv1 : (nar .boolean j17) = 1 := own_yes_f q1 p3 j1 j10 j11 j12 j13 j16 j17 hj1 hj10 hj11 hj12 hj13 hj16 hj17 hc11_2
    obtain ⟨fs, hr, hrun, hended, hW, hsame⟩ := X15.leave (v := some (.int (nar .boolean j17))) (fun h => by rw [Bd.returns] at h; cases h)
    refine ⟨_, _, ?_, hrun, hended, _, _, rfl, ?_, ⟨_, rfl⟩, hW, hsame.mono (by decide) (by decide)⟩
    · exact retN X15 hx (t := .boolean) Bd.returns (by simp) (hb hby at_106) hr
    · show Q0 Z q1 q2 p3 h0 n0 _ _ _
      exact ⟨by rw [hv1], NN⟩
set_option maxRecDepth 65536 in
set_option maxHeartbeats 40000000 in
theorem comes_1 {Post : Tables → Env → Array Value → State → Outcome → State → Prop} (hpost : ∀ tb e args s v u, (limb_1_1.after args s (.returned v) u = true ∧ limb_1_2.after args s (.returned v) u = true ∧ True) → FrameEnd s (.returned v) u (Jvm.fieldLocs frame_1_writes args s ++ Jvm.arrayLocs frame_1_arrays args s ++ Jvm.staticLocs frame_1_statics s) 0 0 → Post tb e args s (.returned v) u) :
    ArmFor flags0 classFile x code maxLocals ret World_1 tables_1 room_1 Calls_1 rest_1 Pre_1 Post := by
  intro l hfl _ _ p e ha hc hk s m args below hf hA hF happ hP
  obtain ⟨hcalls, hrest, hpre⟩ := hP
  obtain ⟨-, -, -, hnamed, -, -, -, hat⟩ := (Spec.applies_iff hf).mp happ
  obtain ⟨hg, hn⟩ := and_e (Cond.before_iff.mp (show (Jvm.Cond.and given_1 narrow_1).before args s = true from hpre))
  obtain ⟨hcount, hg0⟩ := and_e hg
  obtain ⟨ha0, hg1⟩ := and_e hg0
  obtain ⟨ha1, hg2⟩ := and_e hg1
  have ha2 := hg2
  obtain ⟨w0, w1, w2, rfl⟩ : ∃ w0 w1 w2 : Value, args = #[w0, w1, w2] := by
    have hs : args.size = 3 := by simpa [Cond.value, given_1] using hcount
    obtain ⟨L⟩ := args
    match L, hs with
    | [w0, w1, w2], _ => exact ⟨w0, w1, w2, rfl⟩
  have hw := fun d (hd : d ∈ tables_1) => atoms_spec (ws := Jvm.Cond.code x code maxLocals ret :: tables_1) hat d (List.mem_cons_of_mem _ hd)
  obtain ⟨i0, ei0⟩ := isL_v ha0
  obtain rfl : w0 = (.long i0) := Option.some.inj ei0
  obtain ⟨i1, ei1⟩ := isL_v ha1
  obtain rfl : w1 = (.long i1) := Option.some.inj ei1
  obtain ⟨i2, ei2⟩ := is_v ha2
  obtain rfl : w2 = (.int i2) := Option.some.inj ei2
  obtain ⟨n, o, h1, h2, h3, _, L, rfl, ⟨rfl, N⟩, hq⟩ := rm0 l s _ hw tables_1 i0 i1 i2 s.heap s.heap.size (Nat.le_refl _) p e ha hc hk s m _ below hf ((Spec.applies_iff_loose hf).mp happ).1 ⟨rfl, State.Warmed39.refl s, rfl⟩ trivial
  refine ⟨n, _, h1, h2, h3, hpost _ _ _ _ _ _ ⟨Cond.after_iff.mpr rfl, Cond.after_iff.mpr (eq_i res_at (Term.int_eval (1)) rfl), trivial⟩ ⟨hq.1, hq.2.1, (hq.2.2.sift fun y hy => Or.inr (N y hy)).mono (by decide) (by decide)⟩⟩
theorem main_1_1 : Claimed_1_1 := comes_1 fun _ _ _ _ _ _ h hF => ⟨h.1, hF⟩
theorem main_1_2 : Claimed_1_2 := comes_1 fun _ _ _ _ _ _ h hF => ⟨h.2.1, hF⟩
end Jvm.Pilot.@@N@@
namespace Jvm.Pilot.@@N@@
open Jvm Jvm.ClassFile Sem Op Lib Jvm.Free Jvm.Stand Jvm.Pilot.@@N@@.Jvm.D
/-! MADE BY PROGRAM (witnessworld.py) out of the Statement's table words and the real class files: 9 classes; the members and pool entries that the words name. The judged class is class 1, her method 1. -/
namespace start1
open Jvm.ClassFile
def u (s : String) : CpInfo := .utf8 (stringToUtf16 s)
/-- a pool by its gaps: so many unusable entries, then the entry; so many at the end -/
def gap : Nat → List CpInfo → List CpInfo
  | 0, r => r
  | n + 1, r => .unusable :: gap n r
def poolList (es : List (Nat × CpInfo)) (last : Nat) : List CpInfo := es.foldr (fun e r => gap e.1 (e.2 :: r)) (gap last [])
def pool (es : List (Nat × CpInfo)) (last : Nat) : Array CpInfo := ⟨poolList es last⟩
def fileOf (pool : Array CpInfo) (this : Nat) (attrs : Array Attribute := #[]) (ms : Array MethodInfo := #[]) (fl : Nat := 33) (sup : Nat := 0) (ifs : Array Nat := #[]) (fds : Array FieldInfo := #[]) : ClassFile where
  minorVersion := 0
  majorVersion := 65
  constantPool := pool
  accessFlags := fl
  thisClass := this
  superClass := sup
  interfaces := ifs
  fields := fds
  methods := ms
  attributes := attrs
def plain (name : String) (sup : Option ClassId) : Class where
  name := name
  kind := .ordinary
  loader := none
  accessFlags := 33
  super := sup
  interfaces := #[]
  cf := none
  fields := #[]
  methods := #[]
  instanceTypes := #[]
  staticTypes := #[]
  resolved := #[]
  callSites := []
  init := .initialized
  statics := none
  mirror := none

def pool0 : Array CpInfo := pool [(5, u "<init>"), (0, u "()V"), (1, .class_ 10), (1, u "java/lang/Object")] 113

def k0m0 : Method := { name := "<init>", desc := "()V", sig := { parameters := [], returnType := none }, accessFlags := 1, code := none }
/-- java/lang/Object -/
def k0 : Class := { plain "java/lang/Object" none with
  accessFlags := 33
  interfaces := #[]
  cf := some (fileOf pool0 8 #[] #[{ accessFlags := 1, nameIndex := 5, descriptorIndex := 6, attributes := #[] }] 33 0 #[] #[])
  fields := #[]
  methods := #[k0m0]
  instanceTypes := #[]
  staticTypes := #[]
  resolved := Array.replicate 124 none
  statics := none }

def pool1 : Array CpInfo := pool [(2, .class_ 4), (1, u "java/lang/Object"), (0, u "<init>"), (0, u "()V"), (2, .long 9223372036854775807), (1, .long 3), (1, .methodref 14 15), (0, .class_ 16), (0, .nameAndType 17 18), (0, u "com/example/portunus/portunus/Work"), (0, u "sum"), (0, u "(JJ)J"), (0, .class_ 20), (0, u "com/example/portunus/portunus/WorkSumPinLaw"), (2, u "law"), (0, u "(JJI)Z")] 3

def k1m0 : Method := { name := "<init>", desc := "()V", sig := { parameters := [], returnType := none }, accessFlags := 2, code := none }
def k1c1 : Code := { maxStack := 6, maxLocals := 13, code := code, exceptionTable := #[], attributes := #[] }
def k1m1 : Method := { name := "law", desc := "(JJI)Z", sig := { parameters := [.long, .long, .int], returnType := some .boolean }, accessFlags := 9, code := some k1c1 }
/-- com/example/portunus/portunus/WorkSumPinLaw -/
def k1 : Class := { plain "com/example/portunus/portunus/WorkSumPinLaw" (some 0) with
  accessFlags := 49
  interfaces := #[]
  cf := some (fileOf pool1 19 #[] #[{ accessFlags := 2, nameIndex := 5, descriptorIndex := 6, attributes := #[] }, { accessFlags := 9, nameIndex := 23, descriptorIndex := 24, attributes := #[] }] 49 2 #[] #[])
  fields := #[]
  methods := #[k1m0, k1m1]
  instanceTypes := #[]
  staticTypes := #[]
  resolved := Array.replicate 28 none
  statics := none }

def pool2 : Array CpInfo := pool [(2, .class_ 4), (1, u "java/lang/Object"), (0, u "<init>"), (0, u "()V"), (6, .class_ 14), (0, u "com/example/portunus/portunus/Work"), (5, u "(JJ)J"), (8, u "sum"), (8, .long 9223372036854775807), (10, u "PER_CHARACTER"), (0, u "I"), (2, u "PER_COMMA"), (1, u "PER_PLAIN_CHARACTER"), (1, u "PER_SEPARATOR"), (0, u "CHARACTERS_PER_UNIT"), (12, .class_ 72), (0, u "com/example/portunus/portunus/Work$Limit")] 2

def k2m0 : Method := { name := "<init>", desc := "()V", sig := { parameters := [], returnType := none }, accessFlags := 2, code := none }
def k2c1 : Code := { maxStack := 4, maxLocals := 6, code := prog_70_method_5_code, exceptionTable := #[], attributes := #[] }
def k2m1 : Method := { name := "sum", desc := "(JJ)J", sig := { parameters := [.long, .long], returnType := some .long }, accessFlags := 9, code := some k2c1 }
/-- com/example/portunus/portunus/Work -/
def k2 : Class := { plain "com/example/portunus/portunus/Work" (some 0) with
  accessFlags := 49
  interfaces := #[]
  cf := some (fileOf pool2 13 #[.nestMembers #[71]] #[{ accessFlags := 2, nameIndex := 5, descriptorIndex := 6, attributes := #[] }, { accessFlags := 9, nameIndex := 29, descriptorIndex := 20, attributes := #[] }] 49 2 #[] #[{ accessFlags := 25, nameIndex := 49, descriptorIndex := 50, attributes := #[] }, { accessFlags := 25, nameIndex := 53, descriptorIndex := 50, attributes := #[] }, { accessFlags := 25, nameIndex := 55, descriptorIndex := 50, attributes := #[] }, { accessFlags := 25, nameIndex := 57, descriptorIndex := 50, attributes := #[] }, { accessFlags := 26, nameIndex := 58, descriptorIndex := 50, attributes := #[] }])
  fields := #[{ name := "PER_CHARACTER", type := .int, accessFlags := 25, slot := 0, constantValue := 0 }, { name := "PER_COMMA", type := .int, accessFlags := 25, slot := 1, constantValue := 0 }, { name := "PER_PLAIN_CHARACTER", type := .int, accessFlags := 25, slot := 2, constantValue := 0 }, { name := "PER_SEPARATOR", type := .int, accessFlags := 25, slot := 3, constantValue := 0 }, { name := "CHARACTERS_PER_UNIT", type := .int, accessFlags := 26, slot := 4, constantValue := 0 }]
  methods := #[k2m0, k2m1]
  instanceTypes := #[]
  staticTypes := #[.int, .int, .int, .int, .int]
  resolved := Array.replicate 75 none
  statics := none }

def pool3 : Array CpInfo := pool [(1, u "java/lang/Cloneable"), (0, .class_ 1), (0, u "java/lang/Object"), (0, .class_ 3)] 3

/-- java/lang/Cloneable -/
def k3 : Class := { plain "java/lang/Cloneable" (some 0) with
  accessFlags := 1537
  interfaces := #[]
  cf := some (fileOf pool3 2 #[] #[] 1537 4 #[] #[])
  fields := #[]
  methods := #[]
  instanceTypes := #[]
  staticTypes := #[]
  resolved := Array.replicate 8 none
  statics := none }

def pool4 : Array CpInfo := pool [(1, u "java/io/Serializable"), (0, .class_ 1), (0, u "java/lang/Object"), (0, .class_ 3)] 3

/-- java/io/Serializable -/
def k4 : Class := { plain "java/io/Serializable" (some 0) with
  accessFlags := 1537
  interfaces := #[]
  cf := some (fileOf pool4 2 #[] #[] 1537 4 #[] #[])
  fields := #[]
  methods := #[]
  instanceTypes := #[]
  staticTypes := #[]
  resolved := Array.replicate 8 none
  statics := none }

/-- the primitive byte -/
def k5 : Class := { plain "byte" none with kind := .primitive 'B', accessFlags := 0x411 }
/-- [B -/
def k6 : Class := { plain "[B" (some 0) with kind := .array 5 .byte, interfaces := #[3, 4], accessFlags := 1041 }

/-- the primitive int -/
def k7 : Class := { plain "int" none with kind := .primitive 'I', accessFlags := 0x411 }
/-- [I -/
def k8 : Class := { plain "[I" (some 0) with kind := .array 7 .int, interfaces := #[3, 4], accessFlags := 1041 }

def heap : Heap := #[]
def classes : Array Class := #[k0, k1, k2, k3, k4, k5, k6, k7, k8]
def interned : List (Array UInt16 × Addr) := []
def slotsUsed : Nat := 0
def theMethod : MethodId := ⟨1, 1⟩
def args0 : Array Value := #[.long 7, .long 8, .int 7]
def aboutOver (below : List Frame) : State where
  vm := { classes := classes, interned := interned.toArray }
  heap := heap
  slotsUsed := slotsUsed
  threads := #[{ frames := .invoking theMethod args0 :: below }]
def below0 : List Frame := [.native { method := ⟨0, 0⟩, args := #[] }]
def about1 : State := aboutOver below0
def p0 : Program := .bare "" "" ""
def e0 : Env := launch0.env 0 0 0
theorem w_frames : about1.frames = Frame.invoking theMethod args0 :: below0 := rfl
set_option maxRecDepth 65536 in
theorem w_args : argsFit about1.vm theMethod args0 = true := by decide +kernel
set_option maxRecDepth 65536 in
theorem w_heap : heapFits about1 = true := by decide +kernel
set_option maxRecDepth 65536 in
theorem w_runnable : about1.curStatus? = some .runnable := by decide +kernel
set_option maxRecDepth 65536 in
theorem w_alone : about1.alone = true := by decide +kernel
set_option maxRecDepth 65536 in
theorem w_named : about1.methodNamed? x = some theMethod := by decide +kernel
set_option maxRecDepth 65536 in
theorem w_hears : about1.hears theMethod below0 = true := by decide +kernel
set_option maxRecDepth 65536 in
theorem w_ripe : about1.ripe theMethod args0 below0 = true := by decide +kernel
theorem w_running : about1.status = .running := rfl
set_option maxRecDepth 65536 in
theorem w_room : about1.hasRoom e0.platform room_1 = true :=
  launch0.hasRoom_least _ room_1 (by decide +kernel) (by decide +kernel) (by decide +kernel) (by decide +kernel) (by decide +kernel) (by decide +kernel)
theorem allAtoms_all (ts : List Jvm.Cond) (a : Array Jvm.Value) (st : Jvm.State) : (allAtoms ts).before a st = ts.all (fun c => c.before a st) := by
  induction ts with
  | nil => rfl
  | cons c t ih =>
    show (Jvm.Cond.and c (allAtoms t)).before a st = _
    rw [Jvm.Cond.before_and, ih, List.all_cons]
def words1 : List Jvm.Cond := Jvm.Cond.code x code maxLocals ret :: tables_1
/-- a 'code' word, met by the world's own term for the bytes: nothing is compared byte by byte -/
theorem code_word {y : MethodName} {bytes : ByteArray} {mx : Nat} {rt : Option FieldType} {a : Array Value} {s : State} {m : MethodId} {meth : Method} {c : Code} (h1 : s.methodNamed? y = some m) (h2 : s.vm.method? m = some meth) (h3 : meth.code = some c) (h4 : c.code = bytes)
    (h5 : (c.maxLocals == mx && c.exceptionTable.isEmpty && decide (c.maxStack ≤ mostOperands) && decide (meth.sig.returnType = rt) && !meth.locks && decide (parseMethodDescriptor y.desc = some meth.sig)) = true) : (Jvm.Cond.code y bytes mx rt).before a s = true := by
  simp only [Bool.and_eq_true, beq_iff_eq, Bool.not_eq_true', decide_eq_true_eq] at h5
  obtain ⟨⟨⟨⟨⟨g1, g2⟩, g3⟩, g4⟩, g5⟩, g6⟩ := h5
  simp [Cond.before, Cond.holds, Cond.value, h1, h2, h3, h4, g1, g2, g3, g4, g5, g6]
def isCode : Jvm.Cond → Bool
  | .code _ _ _ _ => true
  | _ => false
theorem all_split {L : List Jvm.Cond} {P : Jvm.Cond → Bool} (h1 : L.all (fun c => isCode c || P c) = true) (h2 : ∀ c ∈ L.filter isCode, P c = true) : L.all P = true := by
  refine List.all_eq_true.mpr fun c hc => ?_
  have h := List.all_eq_true.mp h1 c hc
  rcases Bool.eq_false_or_eq_true (isCode c) with hi | hi
  · exact h2 c (List.mem_filter.mpr ⟨hc, hi⟩)
  · simpa [hi] using h
set_option maxRecDepth 65536 in
theorem w_c0 : (Jvm.Cond.code x code maxLocals ret).before args0 about1 = true := code_word (m := ⟨1, 1⟩) (meth := k1m1) (c := k1c1) (by decide +kernel) rfl rfl rfl (by decide +kernel)
set_option maxRecDepth 65536 in
theorem w_c1 : (Jvm.Cond.code ({ cls := "com/example/portunus/portunus/Work", name := "sum", desc := "(JJ)J" } : Jvm.MethodName) prog_70_method_5_code (6 : Nat) (Option.some Jvm.ClassFile.FieldType.long)).before args0 about1 = true := code_word (m := ⟨2, 1⟩) (meth := k2m1) (c := k2c1) (by decide +kernel) rfl rfl rfl (by decide +kernel)
def codes1 : List Jvm.Cond := [Jvm.Cond.code x code maxLocals ret, Jvm.Cond.code ({ cls := "com/example/portunus/portunus/Work", name := "sum", desc := "(JJ)J" } : Jvm.MethodName) prog_70_method_5_code (6 : Nat) (Option.some Jvm.ClassFile.FieldType.long)]
set_option maxRecDepth 65536 in
theorem codes_eq : words1.filter isCode = codes1 := rfl
theorem w_codes : ∀ c ∈ words1.filter isCode, c.before args0 about1 = true := by
  rw [codes_eq]
  intro c hc
  simp only [codes1, List.mem_cons, List.not_mem_nil, or_false] at hc
  rcases hc with rfl | rfl
  · exact w_c0
  · exact w_c1
set_option maxRecDepth 65536 in
theorem w_t1 : words1.all (fun c => isCode c || c.before args0 about1) = true := by decide +kernel
theorem w_tables : (allAtoms (Jvm.Cond.code x code maxLocals ret :: tables_1)).before args0 about1 = true := by
  rw [allAtoms_all]
  show words1.all (fun c => c.before args0 about1) = true
  refine all_split ?_ w_codes
  rw [w_t1]
set_option maxRecDepth 65536 in
theorem w_case : (Jvm.Cond.and given_1 narrow_1).before args0 about1 = true := by decide +kernel
theorem w_applies : (headSpec (Jvm.Cond.code x code maxLocals ret :: tables_1) room_1).applies x e0.platform about1 = true :=
  (Spec.applies_iff w_frames).mpr ⟨w_running, w_runnable, w_alone, w_named, w_hears, w_ripe, w_room, w_tables⟩
theorem atStart : AtStart classFile x code maxLocals ret World_1 tables_1 room_1 Calls_1 rest_1 Pre_1 launch0 p0 e0 about1 theMethod args0 below0 :=
  ⟨lists_1, trivial, launch0.admits_env _ _ _, launch0.least_env, fairChoices_fair.cas, fairChoices_fair.clock, w_frames, w_args, w_heap, w_applies, trivial, trivial, w_case⟩
end start1
theorem witness_1 : WitnessClaimed_1 := ⟨start1.p0, start1.e0, start1.about1, start1.theMethod, start1.args0, start1.below0, start1.atStart⟩
end Jvm.Pilot.@@N@@

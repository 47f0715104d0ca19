import JvmDerived
import JvmDerived.Pilot.@@N@@Statement
import JvmDerived.Pilot.@@N@@Code
set_option linter.unusedVariables false
set_option linter.unusedSimpArgs false
namespace Jvm.RoadKit
open Sem ClassFile Op Lib Jvm.Stand Jvm.Free Jvm.LawKit
section New
variable {p : Program} {l : Launch} {e : Env} {R : Room} {s : State} {m : MethodId} {args : Array Value} {below : List Frame} {meth : Method} {c : Code} {T : State} {locs : List Loc} {cells slots : Nat}
theorem retI (X : Stand p l e R s m args below meth c T locs cells slots) (hx : p.tables.exec = Jvm.exec) {pc : Nat} {Ls : Array Slot} {z : Int32} {rest : List Value} (hret : meth.sig.returnType = some .int) (hd : decode c.code pc = .ok (.ireturn, 1)) {fs : List Frame}
    (hl : ∀ (f : JFrame) (acts : List Action), f.method = m → f.locked = none → f.entered = [] → (doReturn e (T.setTop f) acts (some (.int z))).1 = T.setFrames fs) : Steps p.tables e below (T.setTop (mkF m pc Ls (.int z :: rest))) (T.setFrames fs) := by
  have hm' : T.vm.method? m = some meth := X.method'
  have hn : narrow .int (.int z) = .int z := rfl
  show Steps p.tables e below (T.setTop { method := m, pc := pc, locals := Ls, stack := _ :: rest, locked := none }) _
  jvm_step X.here [X.here.top, hx, hd, hm', hret, hn]
  first | (intro acts; rw [hl _ acts rfl rfl rfl]) | rw [hl _ _ rfl rfl rfl]
  exact Steps.refl _
theorem own_retJ (X : Stand p l e R s m args below meth c T locs cells slots) (hx : p.tables.exec = Jvm.exec) {pc : Nat} {Ls : Array Slot} {z : Int64} {rest : List Value} (hret : meth.sig.returnType = some .long) (hd : decode c.code pc = .ok (.lreturn, 1)) {fs : List Frame}
    (hl : ∀ (f : JFrame) (acts : List Action), f.method = m → f.locked = none → f.entered = [] → (doReturn e (T.setTop f) acts (some (.long z))).1 = T.setFrames fs) : Steps p.tables e below (T.setTop (mkF m pc Ls (.long z :: rest))) (T.setFrames fs) :=
  retOut X hx (t := .long) (i := .lreturn) hret rfl (Or.inr (Or.inl ⟨rfl, rfl, z, rfl⟩)) hd hl
theorem own_retR (X : Stand p l e R s m args below meth c T locs cells slots) (hx : p.tables.exec = Jvm.exec) {pc : Nat} {Ls : Array Slot} {w : Value} {t : FieldType} {rest : List Value} (hret : meth.sig.returnType = some t) (ht : t.isReference = true) (hw : w.isRef = true) (hd : decode c.code pc = .ok (.areturn, 1)) {fs : List Frame}
    (hl : ∀ (f : JFrame) (acts : List Action), f.method = m → f.locked = none → f.entered = [] → (doReturn e (T.setTop f) acts (some w)).1 = T.setFrames fs) : Steps p.tables e below (T.setTop (mkF m pc Ls (w :: rest))) (T.setFrames fs) :=
  retOut X hx (i := .areturn) hret (by cases t <;> simp_all [FieldType.isReference, narrow]) (Or.inr (Or.inr (Or.inr (Or.inr ⟨rfl, ht, hw⟩)))) hd hl
theorem own_narZ (x : Int32) : nar .boolean x = x &&& 1 := rfl
theorem own_narC (x : Int32) : nar .char x = x.toUInt32.toUInt16.toUInt32.toInt32 := rfl
theorem own_narB (x : Int32) : nar .byte x = x.toInt8.toInt32 := rfl
/-- where the run stands, and how it ends -/
abbrev own_Go (tb : Tables) (e : Env) (below : List Frame) (P : State → Outcome → Prop) (T : State) (g : JFrame) : Prop := ∃ s₂ o, Steps tb e below (T.setTop g) s₂ ∧ s₂.status = .running ∧ Ended s₂ below o ∧ P s₂ o
theorem own_go {tb : Tables} {P : State → Outcome → Prop} {T' : State} {g g' : JFrame} (st : ∀ t, Steps tb e below (T'.setTop g') t → Steps tb e below (T.setTop g) t) (k : own_Go tb e below P T' g') : own_Go tb e below P T g := by
  obtain ⟨s₂, o, h1, h2⟩ := k
  exact ⟨s₂, o, st _ h1, h2⟩
theorem own_start {tb : Tables} {P : State → Outcome → Prop} {g g' : JFrame} (q : g = g') (k : own_Go tb e below P T g') : own_Go tb e below P T g := q ▸ k
theorem own_selPriv {z y : MethodName} (hz : z.cls = y.cls) (hs : (Cond.selects y.cls z z).before args s = true) (hp : s.PrivateAt y) (hi : (Cond.instanceMethod y).before args s = true) (hy : y.cls ≠ "java/lang/invoke/MethodHandle" ∧ y.cls ≠ "java/lang/invoke/VarHandle") : (Cond.selects y.cls y y).before args s = true := by
  obtain ⟨c, r, m, h1, -, h3, -, k, h5, h6⟩ := Cond.selects_spec hs
  exact selects_self_of_private (hz ▸ findClass_of_methodNamed h3) h5 h6 hp hi hy
end New
end Jvm.RoadKit
namespace Jvm.Pilot.@@N@@
open Jvm Jvm.ClassFile Sem Op Lib Jvm.Free Jvm.Stand Jvm.LawKit Jvm.RoadKit Bundle Jvm.Pilot.@@N@@.Jvm.D
theorem d7_0 : decode jdk_35_method_42_code 0 = .ok (.lload_n 0, 1) := by decide +kernel
theorem d7_1 : decode jdk_35_method_42_code 1 = .ok (.lload_n 2, 1) := by decide +kernel
theorem d7_2 : decode jdk_35_method_42_code 2 = .ok (.lcmp, 1) := by decide +kernel
theorem d7_3 : decode jdk_35_method_42_code 3 = .ok (.ifCond .ge 7, 3) := by decide +kernel
theorem d7_6 : decode jdk_35_method_42_code 6 = .ok (.iconst (-1), 1) := by decide +kernel
theorem d7_7 : decode jdk_35_method_42_code 7 = .ok (.goto 14, 3) := by decide +kernel
theorem d7_10 : decode jdk_35_method_42_code 10 = .ok (.lload_n 0, 1) := by decide +kernel
theorem d7_11 : decode jdk_35_method_42_code 11 = .ok (.lload_n 2, 1) := by decide +kernel
theorem d7_12 : decode jdk_35_method_42_code 12 = .ok (.lcmp, 1) := by decide +kernel
theorem d7_13 : decode jdk_35_method_42_code 13 = .ok (.ifCond .ne 7, 3) := by decide +kernel
theorem d7_16 : decode jdk_35_method_42_code 16 = .ok (.iconst 0, 1) := by decide +kernel
theorem d7_17 : decode jdk_35_method_42_code 17 = .ok (.goto 4, 3) := by decide +kernel
theorem d7_20 : decode jdk_35_method_42_code 20 = .ok (.iconst 1, 1) := by decide +kernel
theorem d7_21 : decode jdk_35_method_42_code 21 = .ok (.ireturn, 1) := by decide +kernel
theorem pn_0 : plainName "java/lang/Long" = true := by first | (simp [plainName, overriddenIn]; done) | decide +kernel
theorem ef_7 (m : MethodId) (q1 : Int64) (q2 : Int64) : entryFrame m #[(.long q1), (.long q2)] 4 = mkF m 0 #[.val (.long q1), .second, .val (.long q2), .second] [] := by first | (simp [entryFrame, mkF, argsToLocals, Value.category]; done) | rfl
def r_7 (q1 : Int64) (q2 : Int64) : Int32 := ((if q1 < q2 then (-1 : Int32) else (if q1 = q2 then (0 : Int32) else (1 : Int32))))
def Q7 (Z : State) (q1 : Int64) (q2 : Int64) (h0 : Heap) (n0 : Nat) (v : Option Value) (h : Heap) (L : List Loc) : Prop := v = some (.int (r_7 q1 q2)) ∧ Fr n0 L ∧ h = h0
set_option maxRecDepth 65536 in
set_option maxHeartbeats 40000000 in
theorem rm7 (l : Launch) (Z : State) (a0 : Array Value) (hw : ∀ d ∈ tables_1, d.before a0 Z = true) (ws : List Jvm.Cond) (q1 : Int64) (q2 : Int64) (h0 : Heap) (n0 : Nat) (Z0 : n0 ≤ h0.size) :
    MetFree l (⟨"java/lang/Long", "compare", "(JJ)I"⟩ : MethodName) (head1 (Jvm.Cond.code (⟨"java/lang/Long", "compare", "(JJ)I"⟩ : MethodName) jdk_35_method_42_code 4 (some .int) :: ws) ({ frames := 0, cells := 0, slots := 0, locals := 0 } : Room)) (fun a U => a = #[(.long q1), (.long q2)] ∧ Z.Warmed39 U.vm ∧ U.heap = h0) (fun _ _ _ _ _ => True) (fun _ U o U' => ∃ v L, o = .returned v ∧ Q7 Z q1 q2 h0 n0 v U'.heap L ∧ FrameEnd U o U' L ({ frames := 0, cells := 0, slots := 0, locals := 0 } : Room).cells ({ frames := 0, cells := 0, slots := 0, locals := 0 } : Room).slots) := by
  refine MetFree.of_bodySF (plainFor_of_name pn_0) hisR ?_
  intro p e s m args below meth c s₁ Bd hml0 hP hK
  obtain ⟨rfl, hZ, hh⟩ := hP
  have hx := Bd.exec
  have hby := Bd.bytes
  have hml : c.maxLocals = 4 := hml0
  have hown : s.vm.findClass "java/lang/Long" = some m.cls := findClass_of_methodNamed Bd.named
  have hnm := (name_of_methodNamed Bd.named Bd.method).1
  have X0 : Stand p l e ({ frames := 0, cells := 0, slots := 0, locals := 0 } : Room) s m #[(.long q1), (.long q2)] below meth c s₁ [] 0 0 := Stand.of_body Bd
  have e0 : s₁.heap = h0 := by rw [← hh, Bd.state]; rfl
  have NN := Fr.nil n0
  have KK : Keep h0 h0 [] := Keep.refl h0 []
  refine own_start (ef_7 m q1 q2) ?_
  refine own_go (T' := s₁) (g' := (mkF m 3 #[.val (.long q1), .second, .val (.long q2), .second] [(.int (lcmpW q1 q2))])) (fun t k => ?_) ?_
  · show Steps p.tables e below (s₁.setTop (mkF m 0 #[.val (.long q1), .second, .val (.long q2), .second] [])) _
    refine XS.lloadN X0.here hx rfl (hb hby d7_0) rfl ?_
    show Steps p.tables e below (s₁.setTop (mkF m 1 #[.val (.long q1), .second, .val (.long q2), .second] [(.long q1)])) _
    refine XS.lloadN X0.here hx rfl (hb hby d7_1) rfl ?_
    show Steps p.tables e below (s₁.setTop (mkF m 2 #[.val (.long q1), .second, .val (.long q2), .second] [(.long q2), (.long q1)])) _
    refine XS.lcmp X0.here hx rfl (hb hby d7_2) rfl ?_
    exact k
  obtain ⟨j1, hj1, st2⟩ : ∃ (j1 : Int32), j1 = (if q1 < q2 then (-1 : Int32) else (if q1 = q2 then (0 : Int32) else (1 : Int32))) ∧ ∀ t, Steps p.tables e below (s₁.setTop (mkF m 21 #[.val (.long q1), .second, .val (.long q2), .second] [(.int j1)])) t → Steps p.tables e below (s₁.setTop (mkF m 3 #[.val (.long q1), .second, .val (.long q2), .second] [(.int (lcmpW q1 q2))])) t := by
    by_cases hc3_1 : q1 < q2
    · skip
      refine ⟨(-1 : Int32), (by simp only [if_pos hc3_1]), fun t k => ?_⟩
      show Steps p.tables e below (s₁.setTop (mkF m 3 #[.val (.long q1), .second, .val (.long q2), .second] [(.int (lcmpW q1 q2))])) _
      refine XS.ifNo X0.here hx rfl (hb hby d7_3) rfl ((if0 _ _).trans (tlt ((lw_lt q1 q2).mpr hc3_1)).2.1) ?_
      show Steps p.tables e below (s₁.setTop (mkF m 6 #[.val (.long q1), .second, .val (.long q2), .second] [])) _
      refine XS.iconst X0.here hx rfl (hb hby d7_6) ?_
      show Steps p.tables e below (s₁.setTop (mkF m 7 #[.val (.long q1), .second, .val (.long q2), .second] [(.int (-1 : Int32))])) _
      refine XS.goto X0.here hx rfl (pc0 := 7) (pc' := 21) rfl (hb hby d7_7) (by decide) (by decide) ?_
      exact k
    · skip
      by_cases hc13_2 : q1 = q2
      · skip
        refine ⟨(0 : Int32), (by simp only [if_neg hc3_1, if_pos hc13_2]), fun t k => ?_⟩
        show Steps p.tables e below (s₁.setTop (mkF m 3 #[.val (.long q1), .second, .val (.long q2), .second] [(.int (lcmpW q1 q2))])) _
        refine XS.ifYes X0.here hx rfl (pc0 := 3) (pc' := 10) rfl (hb hby d7_3) rfl ((if0 _ _).trans (flt (fun q => hc3_1 ((lw_lt q1 q2).mp q))).2.1) (by decide) (by decide) ?_
        show Steps p.tables e below (s₁.setTop (mkF m 10 #[.val (.long q1), .second, .val (.long q2), .second] [])) _
        refine XS.lloadN X0.here hx rfl (hb hby d7_10) rfl ?_
        show Steps p.tables e below (s₁.setTop (mkF m 11 #[.val (.long q1), .second, .val (.long q2), .second] [(.long q1)])) _
        refine XS.lloadN X0.here hx rfl (hb hby d7_11) rfl ?_
        show Steps p.tables e below (s₁.setTop (mkF m 12 #[.val (.long q1), .second, .val (.long q2), .second] [(.long q2), (.long q1)])) _
        refine XS.lcmp X0.here hx rfl (hb hby d7_12) rfl ?_
        show Steps p.tables e below (s₁.setTop (mkF m 13 #[.val (.long q1), .second, .val (.long q2), .second] [(.int (lcmpW q1 q2))])) _
        refine XS.ifNo X0.here hx rfl (hb hby d7_13) rfl ((if0 _ _).trans (teq ((lw_eq q1 q2).mpr hc13_2)).2) ?_
        show Steps p.tables e below (s₁.setTop (mkF m 16 #[.val (.long q1), .second, .val (.long q2), .second] [])) _
        refine XS.iconst X0.here hx rfl (hb hby d7_16) ?_
        show Steps p.tables e below (s₁.setTop (mkF m 17 #[.val (.long q1), .second, .val (.long q2), .second] [(.int (0 : Int32))])) _
        refine XS.goto X0.here hx rfl (pc0 := 17) (pc' := 21) rfl (hb hby d7_17) (by decide) (by decide) ?_
        exact k
      · skip
        refine ⟨(1 : Int32), (by simp only [if_neg hc3_1, if_neg hc13_2]), fun t k => ?_⟩
        show Steps p.tables e below (s₁.setTop (mkF m 3 #[.val (.long q1), .second, .val (.long q2), .second] [(.int (lcmpW q1 q2))])) _
        refine XS.ifYes X0.here hx rfl (pc0 := 3) (pc' := 10) rfl (hb hby d7_3) rfl ((if0 _ _).trans (flt (fun q => hc3_1 ((lw_lt q1 q2).mp q))).2.1) (by decide) (by decide) ?_
        show Steps p.tables e below (s₁.setTop (mkF m 10 #[.val (.long q1), .second, .val (.long q2), .second] [])) _
        refine XS.lloadN X0.here hx rfl (hb hby d7_10) rfl ?_
        show Steps p.tables e below (s₁.setTop (mkF m 11 #[.val (.long q1), .second, .val (.long q2), .second] [(.long q1)])) _
        refine XS.lloadN X0.here hx rfl (hb hby d7_11) rfl ?_
        show Steps p.tables e below (s₁.setTop (mkF m 12 #[.val (.long q1), .second, .val (.long q2), .second] [(.long q2), (.long q1)])) _
        refine XS.lcmp X0.here hx rfl (hb hby d7_12) rfl ?_
        show Steps p.tables e below (s₁.setTop (mkF m 13 #[.val (.long q1), .second, .val (.long q2), .second] [(.int (lcmpW q1 q2))])) _
        refine XS.ifYes X0.here hx rfl (pc0 := 13) (pc' := 20) rfl (hb hby d7_13) rfl ((if0 _ _).trans (feq (fun q => hc13_2 ((lw_eq q1 q2).mp q))).2) (by decide) (by decide) ?_
        show Steps p.tables e below (s₁.setTop (mkF m 20 #[.val (.long q1), .second, .val (.long q2), .second] [])) _
        refine XS.iconst X0.here hx rfl (hb hby d7_20) ?_
        exact k
  refine own_go st2 ?_
  show own_Go p.tables e below _ s₁ (mkF m 21 #[.val (.long q1), .second, .val (.long q2), .second] [(.int j1)])
  obtain ⟨fs, hr, hrun, hended, hW, hsame⟩ := X0.leave (v := some (.int j1)) (fun h => by rw [Bd.returns] at h; cases h)
  refine ⟨_, _, ?_, hrun, hended, _, _, rfl, ?_, ⟨_, rfl⟩, hW, hsame.mono (by decide) (by decide)⟩
  · exact retI X0 hx Bd.returns (hb hby d7_21) hr
  · show Q7 Z q1 q2 h0 n0 _ s₁.heap _
    rw [e0]
    exact ⟨(by first | (simp only [hj1, r_7]; done) | (subst hj1; first | (simp only [r_7]; done) | rfl)), NN, rfl⟩
theorem d6_0 : decode jdk_35_method_43_code 0 = .ok (.lload_n 0, 1) := by decide +kernel
theorem d6_1 : decode jdk_35_method_43_code 1 = .ok (.ldc2_w 168, 3) := by decide +kernel
theorem d6_4 : decode jdk_35_method_43_code 4 = .ok (.ladd, 1) := by decide +kernel
theorem d6_5 : decode jdk_35_method_43_code 5 = .ok (.lload_n 2, 1) := by decide +kernel
theorem d6_6 : decode jdk_35_method_43_code 6 = .ok (.ldc2_w 168, 3) := by decide +kernel
theorem d6_9 : decode jdk_35_method_43_code 9 = .ok (.ladd, 1) := by decide +kernel
theorem d6_10 : decode jdk_35_method_43_code 10 = .ok (.invokestatic 302, 3) := by decide +kernel
theorem d6_13 : decode jdk_35_method_43_code 13 = .ok (.ireturn, 1) := by decide +kernel
theorem pd_4 : parseMethodDescriptor "(JJ)I" = some ⟨[.long, .long], some .int⟩ := by decide +kernel
theorem ef_6 (m : MethodId) (q1 : Int64) (q2 : Int64) : entryFrame m #[(.long q1), (.long q2)] 4 = mkF m 0 #[.val (.long q1), .second, .val (.long q2), .second] [] := by first | (simp [entryFrame, mkF, argsToLocals, Value.category]; done) | rfl
def r_6 (q1 : Int64) (q2 : Int64) : Int32 := (r_7 (q1 + (-9223372036854775808 : Int64)) (q2 + (-9223372036854775808 : Int64)))
def Q6 (Z : State) (q1 : Int64) (q2 : Int64) (h0 : Heap) (n0 : Nat) (v : Option Value) (h : Heap) (L : List Loc) : Prop := v = some (.int (r_6 q1 q2)) ∧ Fr n0 L ∧ h = h0
set_option maxRecDepth 65536 in
set_option maxHeartbeats 40000000 in
theorem rm6 (l : Launch) (Z : State) (a0 : Array Value) (hw : ∀ d ∈ tables_1, d.before a0 Z = true) (ws : List Jvm.Cond) (q1 : Int64) (q2 : Int64) (h0 : Heap) (n0 : Nat) (Z0 : n0 ≤ h0.size) :
    MetFree l (⟨"java/lang/Long", "compareUnsigned", "(JJ)I"⟩ : MethodName) (head1 (Jvm.Cond.code (⟨"java/lang/Long", "compareUnsigned", "(JJ)I"⟩ : MethodName) jdk_35_method_43_code 4 (some .int) :: ws) ({ frames := 1, cells := 0, slots := 0, locals := 15 } : Room)) (fun a U => a = #[(.long q1), (.long q2)] ∧ Z.Warmed39 U.vm ∧ U.heap = h0) (fun _ _ _ _ _ => True) (fun _ U o U' => ∃ v L, o = .returned v ∧ Q6 Z q1 q2 h0 n0 v U'.heap L ∧ FrameEnd U o U' L ({ frames := 1, cells := 0, slots := 0, locals := 15 } : Room).cells ({ frames := 1, cells := 0, slots := 0, locals := 15 } : Room).slots) := by
  refine MetFree.of_bodySF (plainFor_of_name pn_0) hisR ?_
  intro p e s m args below meth c s₁ Bd hml0 hP hK
  obtain ⟨rfl, hZ, hh⟩ := hP
  have hx := Bd.exec
  have hby := Bd.bytes
  have hml : c.maxLocals = 4 := hml0
  have hown : s.vm.findClass "java/lang/Long" = some m.cls := findClass_of_methodNamed Bd.named
  have hnm := (name_of_methodNamed Bd.named Bd.method).1
  have X0 : Stand p l e ({ frames := 1, cells := 0, slots := 0, locals := 15 } : Room) s m #[(.long q1), (.long q2)] below meth c s₁ [] 0 0 := Stand.of_body Bd
  have e0 : s₁.heap = h0 := by rw [← hh, Bd.state]; rfl
  have NN := Fr.nil n0
  have KK : Keep h0 h0 [] := Keep.refl h0 []
  refine own_start (ef_6 m q1 q2) ?_
  refine own_go (T' := s₁) (g' := (mkF m 10 #[.val (.long q1), .second, .val (.long q2), .second] [(.long (q2 + (-9223372036854775808 : Int64))), (.long (q1 + (-9223372036854775808 : Int64)))])) (fun t k => ?_) ?_
  · show Steps p.tables e below (s₁.setTop (mkF m 0 #[.val (.long q1), .second, .val (.long q2), .second] [])) _
    refine XS.lloadN X0.here hx rfl (hb hby d6_0) rfl ?_
    show Steps p.tables e below (s₁.setTop (mkF m 1 #[.val (.long q1), .second, .val (.long q2), .second] [(.long q1)])) _
    refine X0.ldc2Long hx hown (mvT hZ (hw _ (List.mem_of_getElem? (i := 29) rfl))) (g := (mkF m 1 #[.val (.long q1), .second, .val (.long q2), .second] [(.long q1)])) rfl (hb hby d6_1) _ ?_
    show Steps p.tables e below (s₁.setTop (mkF m 4 #[.val (.long q1), .second, .val (.long q2), .second] [(.long (-9223372036854775808 : Int64)), (.long q1)])) _
    refine XS.ladd X0.here hx rfl (hb hby d6_4) rfl ?_
    show Steps p.tables e below (s₁.setTop (mkF m 5 #[.val (.long q1), .second, .val (.long q2), .second] [(.long (q1 + (-9223372036854775808 : Int64)))])) _
    refine XS.lloadN X0.here hx rfl (hb hby d6_5) rfl ?_
    show Steps p.tables e below (s₁.setTop (mkF m 6 #[.val (.long q1), .second, .val (.long q2), .second] [(.long q2), (.long (q1 + (-9223372036854775808 : Int64)))])) _
    refine X0.ldc2Long hx hown (mvT hZ (hw _ (List.mem_of_getElem? (i := 29) rfl))) (g := (mkF m 6 #[.val (.long q1), .second, .val (.long q2), .second] [(.long q2), (.long (q1 + (-9223372036854775808 : Int64)))])) rfl (hb hby d6_6) _ ?_
    show Steps p.tables e below (s₁.setTop (mkF m 9 #[.val (.long q1), .second, .val (.long q2), .second] [(.long (-9223372036854775808 : Int64)), (.long q2), (.long (q1 + (-9223372036854775808 : Int64)))])) _
    refine XS.ladd X0.here hx rfl (hb hby d6_9) rfl ?_
    exact k
  obtain ⟨_, _, ⟨T1, L1, k1, n1⟩, -, X1, ⟨Lc1, hQ1, l1, y1, z1⟩, st1⟩ := Jvm.LawKit.callS X0 hx (y := (⟨"java/lang/Long", "compare", "(JJ)I"⟩ : MethodName)) hown (mvT hZ (hw _ (List.mem_of_getElem? (i := 30) rfl))) (mvT hZ (hw _ (List.mem_of_getElem? (i := 31) rfl))) (mvT hZ (hw _ (List.mem_of_getElem? (i := 27) rfl))) (mvT hZ (hw _ (List.mem_of_getElem? (i := 32) rfl))) (by decide) (backOf (W := 0) (rm7 l Z a0 hw [] (q1 + (-9223372036854775808 : Int64)) (q2 + (-9223372036854775808 : Int64)) h0 n0 Z0 ) hZ (hw _ (List.mem_of_getElem? (i := 32) rfl)) (hw _ (List.mem_of_getElem? (i := 27) rfl)) (by decide) (by decide)) (g := (mkF m 10 #[.val (.long q1), .second, .val (.long q2), .second] [(.long (q2 + (-9223372036854775808 : Int64))), (.long (q1 + (-9223372036854775808 : Int64)))])) rfl (by rw [hml]; rfl) (argsL := [(.long (q1 + (-9223372036854775808 : Int64))), (.long (q2 + (-9223372036854775808 : Int64)))]) (rest := []) (lenOf pd_4 rfl) rfl (by show 2 * 0 + _ ≤ _; exact Nat.le_of_eq rfl) (hb hby d6_10) (fun _ _ => ⟨rfl, e0, (by decide : 0 + 0 ≤ _), (by decide : 0 + 0 ≤ _)⟩)
  dsimp only [Pt.U, Pt.locs, Pt.cells, Pt.slots] at X1 l1 y1 z1 st1 hQ1
  subst l1 y1 z1
  obtain ⟨rfl, N1q, e1⟩ := hQ1
  have NN := Fr.app NN N1q
  refine own_go st1 ?_
  show own_Go p.tables e below _ T1 (mkF m 13 #[.val (.long q1), .second, .val (.long q2), .second] [(.int (r_7 (q1 + (-9223372036854775808 : Int64)) (q2 + (-9223372036854775808 : Int64))))])
  obtain ⟨fs, hr, hrun, hended, hW, hsame⟩ := X1.leave (v := some (.int (r_7 (q1 + (-9223372036854775808 : Int64)) (q2 + (-9223372036854775808 : Int64))))) (fun h => by rw [Bd.returns] at h; cases h)
  refine ⟨_, _, ?_, hrun, hended, _, _, rfl, ?_, ⟨_, rfl⟩, hW, hsame.mono (by decide) (by decide)⟩
  · exact retI X1 hx Bd.returns (hb hby d6_13) hr
  · show Q6 Z q1 q2 h0 n0 _ T1.heap _
    rw [e1]
    exact ⟨rfl, NN, rfl⟩
theorem d1_0 : decode prog_10_method_1_code 0 = .ok (.aload_n 0, 1) := by decide +kernel
theorem d1_1 : decode prog_10_method_1_code 1 = .ok (.invokespecial 1, 3) := by decide +kernel
theorem d1_4 : decode prog_10_method_1_code 4 = .ok (.return_, 1) := by decide +kernel
theorem pn_1 : plainName "com/example/laden_graph/ladengraph/locality/Tally" = true := by first | (simp [plainName, overriddenIn]; done) | decide +kernel
theorem ef_1 (m : MethodId) (a1 : Addr) : entryFrame m #[(.ref a1)] 1 = mkF m 0 #[.val (.ref a1)] [] := by first | (simp [entryFrame, mkF, argsToLocals, Value.category]; done) | rfl
def Q1 (Z : State) (a1 : Addr) (h0 : Heap) (n0 : Nat) (v : Option Value) (h : Heap) (L : List Loc) : Prop := v = none ∧ Fr n0 L ∧ h = h0
set_option maxRecDepth 65536 in
set_option maxHeartbeats 40000000 in
theorem rm1 (l : Launch) (Z : State) (a0 : Array Value) (hw : ∀ d ∈ tables_1, d.before a0 Z = true) (ws : List Jvm.Cond) (a1 : Addr) (h0 : Heap) (n0 : Nat) (Z0 : n0 ≤ h0.size) :
    MetFree l (⟨"com/example/laden_graph/ladengraph/locality/Tally", "<init>", "()V"⟩ : MethodName) (head1 (Jvm.Cond.code (⟨"com/example/laden_graph/ladengraph/locality/Tally", "<init>", "()V"⟩ : MethodName) prog_10_method_1_code 1 none :: ws) ({ frames := 1, cells := 0, slots := 0, locals := 12 } : Room)) (fun a U => a = #[(.ref a1)] ∧ Z.Warmed39 U.vm ∧ U.heap = h0) (fun _ _ _ _ _ => True) (fun _ U o U' => ∃ v L, o = .returned v ∧ Q1 Z a1 h0 n0 v U'.heap L ∧ FrameEnd U o U' L ({ frames := 1, cells := 0, slots := 0, locals := 12 } : Room).cells ({ frames := 1, cells := 0, slots := 0, locals := 12 } : Room).slots) := by
  refine MetFree.of_bodySF (plainFor_of_name pn_1) hisR ?_
  intro p e s m args below meth c s₁ Bd hml0 hP hK
  obtain ⟨rfl, hZ, hh⟩ := hP
  have hx := Bd.exec
  have hby := Bd.bytes
  have hml : c.maxLocals = 1 := hml0
  have hown : s.vm.findClass "com/example/laden_graph/ladengraph/locality/Tally" = some m.cls := findClass_of_methodNamed Bd.named
  have hnm := (name_of_methodNamed Bd.named Bd.method).1
  have X0 : Stand p l e ({ frames := 1, cells := 0, slots := 0, locals := 12 } : Room) s m #[(.ref a1)] below meth c s₁ [] 0 0 := Stand.of_body Bd
  have e0 : s₁.heap = h0 := by rw [← hh, Bd.state]; rfl
  have NN := Fr.nil n0
  have KK : Keep h0 h0 [] := Keep.refl h0 []
  refine own_start (ef_1 m a1) ?_
  refine own_go (T' := s₁) (g' := (mkF m 1 #[.val (.ref a1)] [(.ref a1)])) (fun t k => ?_) ?_
  · show Steps p.tables e below (s₁.setTop (mkF m 0 #[.val (.ref a1)] [])) _
    refine XS.aloadN X0.here hx rfl (hb hby d1_0) rfl rfl ?_
    exact k
  obtain ⟨T1, X1, e1, st1⟩ := initO X0 hx hZ hown (hw _ (List.mem_of_getElem? (i := 6) rfl)) (hw _ (List.mem_of_getElem? (i := 7) rfl)) (hw _ (List.mem_of_getElem? (i := 8) rfl)) e0 (g := (mkF m 1 #[.val (.ref a1)] [(.ref a1)])) rfl (by rw [hml]; rfl) rfl (hb hby d1_1) (by decide) (W := 0) (by show 2 * 0 + _ ≤ _; exact Nat.le_of_eq rfl) (by decide)
  refine own_go st1 ?_
  show own_Go p.tables e below _ T1 (mkF m 4 #[.val (.ref a1)] [])
  obtain ⟨fs, hr, hrun, hended, hW, hsame⟩ := X1.leave (v := none) (fun _ => rfl)
  refine ⟨_, _, ?_, hrun, hended, _, _, rfl, ?_, ⟨_, rfl⟩, hW, hsame.mono (by decide) (by decide)⟩
  · exact X1.returnOut hx Bd.returns (hb hby d1_4) hr
  · show Q1 Z a1 h0 n0 _ T1.heap _
    rw [e1]
    exact ⟨rfl, NN, rfl⟩
theorem d5_0 : decode prog_10_method_2_code 0 = .ok (.lload_n 2, 1) := by decide +kernel
theorem d5_1 : decode prog_10_method_2_code 1 = .ok (.lload_n 0, 1) := by decide +kernel
theorem d5_2 : decode prog_10_method_2_code 2 = .ok (.invokestatic 7, 3) := by decide +kernel
theorem d5_5 : decode prog_10_method_2_code 5 = .ok (.ifCond .ge 7, 3) := by decide +kernel
theorem d5_8 : decode prog_10_method_2_code 8 = .ok (.lconst 1, 1) := by decide +kernel
theorem d5_9 : decode prog_10_method_2_code 9 = .ok (.goto 4, 3) := by decide +kernel
theorem d5_12 : decode prog_10_method_2_code 12 = .ok (.lconst 0, 1) := by decide +kernel
theorem d5_13 : decode prog_10_method_2_code 13 = .ok (.lreturn, 1) := by decide +kernel
theorem ef_5 (m : MethodId) (q1 : Int64) (q2 : Int64) : entryFrame m #[(.long q1), (.long q2)] 4 = mkF m 0 #[.val (.long q1), .second, .val (.long q2), .second] [] := by first | (simp [entryFrame, mkF, argsToLocals, Value.category]; done) | rfl
def r_5 (q1 : Int64) (q2 : Int64) : Int64 := ((if (r_6 q2 q1) < (0 : Int32) then (1 : Int64) else (0 : Int64)))
def Q5 (Z : State) (q1 : Int64) (q2 : Int64) (h0 : Heap) (n0 : Nat) (v : Option Value) (h : Heap) (L : List Loc) : Prop := v = some (.long (r_5 q1 q2)) ∧ Fr n0 L ∧ h = h0
set_option maxRecDepth 65536 in
set_option maxHeartbeats 40000000 in
theorem rm5 (l : Launch) (Z : State) (a0 : Array Value) (hw : ∀ d ∈ tables_1, d.before a0 Z = true) (ws : List Jvm.Cond) (q1 : Int64) (q2 : Int64) (h0 : Heap) (n0 : Nat) (Z0 : n0 ≤ h0.size) :
    MetFree l (⟨"com/example/laden_graph/ladengraph/locality/Tally", "carry", "(JJ)J"⟩ : MethodName) (head1 (Jvm.Cond.code (⟨"com/example/laden_graph/ladengraph/locality/Tally", "carry", "(JJ)J"⟩ : MethodName) prog_10_method_2_code 4 (some .long) :: ws) ({ frames := 2, cells := 0, slots := 0, locals := 30 } : Room)) (fun a U => a = #[(.long q1), (.long q2)] ∧ Z.Warmed39 U.vm ∧ U.heap = h0) (fun _ _ _ _ _ => True) (fun _ U o U' => ∃ v L, o = .returned v ∧ Q5 Z q1 q2 h0 n0 v U'.heap L ∧ FrameEnd U o U' L ({ frames := 2, cells := 0, slots := 0, locals := 30 } : Room).cells ({ frames := 2, cells := 0, slots := 0, locals := 30 } : Room).slots) := by
  refine MetFree.of_bodySF (plainFor_of_name pn_1) hisR ?_
  intro p e s m args below meth c s₁ Bd hml0 hP hK
  obtain ⟨rfl, hZ, hh⟩ := hP
  have hx := Bd.exec
  have hby := Bd.bytes
  have hml : c.maxLocals = 4 := hml0
  have hown : s.vm.findClass "com/example/laden_graph/ladengraph/locality/Tally" = some m.cls := findClass_of_methodNamed Bd.named
  have hnm := (name_of_methodNamed Bd.named Bd.method).1
  have X0 : Stand p l e ({ frames := 2, cells := 0, slots := 0, locals := 30 } : Room) s m #[(.long q1), (.long q2)] below meth c s₁ [] 0 0 := Stand.of_body Bd
  have e0 : s₁.heap = h0 := by rw [← hh, Bd.state]; rfl
  have NN := Fr.nil n0
  have KK : Keep h0 h0 [] := Keep.refl h0 []
  refine own_start (ef_5 m q1 q2) ?_
  refine own_go (T' := s₁) (g' := (mkF m 2 #[.val (.long q1), .second, .val (.long q2), .second] [(.long q1), (.long q2)])) (fun t k => ?_) ?_
  · show Steps p.tables e below (s₁.setTop (mkF m 0 #[.val (.long q1), .second, .val (.long q2), .second] [])) _
    refine XS.lloadN X0.here hx rfl (hb hby d5_0) rfl ?_
    show Steps p.tables e below (s₁.setTop (mkF m 1 #[.val (.long q1), .second, .val (.long q2), .second] [(.long q2)])) _
    refine XS.lloadN X0.here hx rfl (hb hby d5_1) rfl ?_
    exact k
  obtain ⟨_, _, ⟨T1, L1, k1, n1⟩, -, X1, ⟨Lc1, hQ1, l1, y1, z1⟩, st1⟩ := Jvm.LawKit.callS X0 hx (y := (⟨"java/lang/Long", "compareUnsigned", "(JJ)I"⟩ : MethodName)) hown (mvT hZ (hw _ (List.mem_of_getElem? (i := 25) rfl))) (mvT hZ (hw _ (List.mem_of_getElem? (i := 26) rfl))) (mvT hZ (hw _ (List.mem_of_getElem? (i := 27) rfl))) (mvT hZ (hw _ (List.mem_of_getElem? (i := 28) rfl))) (by decide) (backOf (W := 0) (rm6 l Z a0 hw [] q2 q1 h0 n0 Z0 ) hZ (hw _ (List.mem_of_getElem? (i := 28) rfl)) (hw _ (List.mem_of_getElem? (i := 27) rfl)) (by decide) (by decide)) (g := (mkF m 2 #[.val (.long q1), .second, .val (.long q2), .second] [(.long q1), (.long q2)])) rfl (by rw [hml]; rfl) (argsL := [(.long q2), (.long q1)]) (rest := []) (lenOf pd_4 rfl) rfl (by show 2 * 0 + _ ≤ _; exact Nat.le_of_eq rfl) (hb hby d5_2) (fun _ _ => ⟨rfl, e0, (by decide : 0 + 0 ≤ _), (by decide : 0 + 0 ≤ _)⟩)
  dsimp only [Pt.U, Pt.locs, Pt.cells, Pt.slots] at X1 l1 y1 z1 st1 hQ1
  subst l1 y1 z1
  obtain ⟨rfl, N1q, e1⟩ := hQ1
  have NN := Fr.app NN N1q
  refine own_go st1 ?_
  show own_Go p.tables e below _ T1 (mkF m 5 #[.val (.long q1), .second, .val (.long q2), .second] [(.int (r_6 q2 q1))])
  obtain ⟨j2, hj2, st3⟩ : ∃ (j2 : Int64), j2 = (if (r_6 q2 q1) < (0 : Int32) then (1 : Int64) else (0 : Int64)) ∧ ∀ t, Steps p.tables e below (T1.setTop (mkF m 13 #[.val (.long q1), .second, .val (.long q2), .second] [(.long j2)])) t → Steps p.tables e below (T1.setTop (mkF m 5 #[.val (.long q1), .second, .val (.long q2), .second] [(.int (r_6 q2 q1))])) t := by
    by_cases hc5_1 : (r_6 q2 q1) < (0 : Int32)
    · skip
      refine ⟨(1 : Int64), (by simp only [if_pos hc5_1]), fun t k => ?_⟩
      show Steps p.tables e below (T1.setTop (mkF m 5 #[.val (.long q1), .second, .val (.long q2), .second] [(.int (r_6 q2 q1))])) _
      refine XS.ifNo X1.here hx rfl (hb hby d5_5) rfl ((if0 _ _).trans (tlt hc5_1).2.1) ?_
      show Steps p.tables e below (T1.setTop (mkF m 8 #[.val (.long q1), .second, .val (.long q2), .second] [])) _
      refine XS.lconst X1.here hx rfl (hb hby d5_8) ?_
      show Steps p.tables e below (T1.setTop (mkF m 9 #[.val (.long q1), .second, .val (.long q2), .second] [(.long (1 : Int64))])) _
      refine XS.goto X1.here hx rfl (pc0 := 9) (pc' := 13) rfl (hb hby d5_9) (by decide) (by decide) ?_
      exact k
    · skip
      refine ⟨(0 : Int64), (by simp only [if_neg hc5_1]), fun t k => ?_⟩
      show Steps p.tables e below (T1.setTop (mkF m 5 #[.val (.long q1), .second, .val (.long q2), .second] [(.int (r_6 q2 q1))])) _
      refine XS.ifYes X1.here hx rfl (pc0 := 5) (pc' := 12) rfl (hb hby d5_5) rfl ((if0 _ _).trans (flt hc5_1).2.1) (by decide) (by decide) ?_
      show Steps p.tables e below (T1.setTop (mkF m 12 #[.val (.long q1), .second, .val (.long q2), .second] [])) _
      refine XS.lconst X1.here hx rfl (hb hby d5_12) ?_
      exact k
  refine own_go st3 ?_
  show own_Go p.tables e below _ T1 (mkF m 13 #[.val (.long q1), .second, .val (.long q2), .second] [(.long j2)])
  obtain ⟨fs, hr, hrun, hended, hW, hsame⟩ := X1.leave (v := some (.long j2)) (fun h => by rw [Bd.returns] at h; cases h)
  refine ⟨_, _, ?_, hrun, hended, _, _, rfl, ?_, ⟨_, rfl⟩, hW, hsame.mono (by decide) (by decide)⟩
  · exact own_retJ X1 hx Bd.returns (hb hby d5_13) hr
  · show Q5 Z q1 q2 h0 n0 _ T1.heap _
    rw [e1]
    exact ⟨(by first | (simp only [hj2, r_5]; done) | (subst hj2; first | (simp only [r_5]; done) | rfl)), NN, rfl⟩
theorem d4_0 : decode prog_10_method_6_code 0 = .ok (.aload_n 0, 1) := by decide +kernel
theorem d4_1 : decode prog_10_method_6_code 1 = .ok (.getfield 19, 3) := by decide +kernel
theorem d4_4 : decode prog_10_method_6_code 4 = .ok (.lload_n 3, 1) := by decide +kernel
theorem d4_5 : decode prog_10_method_6_code 5 = .ok (.ladd, 1) := by decide +kernel
theorem d4_6 : decode prog_10_method_6_code 6 = .ok (.lstore 5, 2) := by decide +kernel
theorem d4_8 : decode prog_10_method_6_code 8 = .ok (.aload_n 0, 1) := by decide +kernel
theorem d4_9 : decode prog_10_method_6_code 9 = .ok (.dup, 1) := by decide +kernel
theorem d4_10 : decode prog_10_method_6_code 10 = .ok (.getfield 13, 3) := by decide +kernel
theorem d4_13 : decode prog_10_method_6_code 13 = .ok (.lload_n 1, 1) := by decide +kernel
theorem d4_14 : decode prog_10_method_6_code 14 = .ok (.aload_n 0, 1) := by decide +kernel
theorem d4_15 : decode prog_10_method_6_code 15 = .ok (.getfield 19, 3) := by decide +kernel
theorem d4_18 : decode prog_10_method_6_code 18 = .ok (.lload 5, 2) := by decide +kernel
theorem d4_20 : decode prog_10_method_6_code 20 = .ok (.invokestatic 26, 3) := by decide +kernel
theorem d4_23 : decode prog_10_method_6_code 23 = .ok (.ladd, 1) := by decide +kernel
theorem d4_24 : decode prog_10_method_6_code 24 = .ok (.ladd, 1) := by decide +kernel
theorem d4_25 : decode prog_10_method_6_code 25 = .ok (.putfield 13, 3) := by decide +kernel
theorem d4_28 : decode prog_10_method_6_code 28 = .ok (.aload_n 0, 1) := by decide +kernel
theorem d4_29 : decode prog_10_method_6_code 29 = .ok (.lload 5, 2) := by decide +kernel
theorem d4_31 : decode prog_10_method_6_code 31 = .ok (.putfield 19, 3) := by decide +kernel
theorem d4_34 : decode prog_10_method_6_code 34 = .ok (.return_, 1) := by decide +kernel
theorem pd_3 : parseMethodDescriptor "(JJ)J" = some ⟨[.long, .long], some .long⟩ := by decide +kernel
theorem ef_4 (m : MethodId) (a1 : Addr) (q2 : Int64) (q3 : Int64) : entryFrame m #[(.ref a1), (.long q2), (.long q3)] 7 = mkF m 0 #[.val (.ref a1), .val (.long q2), .second, .val (.long q3), .second, .unset, .unset] [] := by first | (simp [entryFrame, mkF, argsToLocals, Value.category]; done) | rfl
def Q4 (Z : State) (a1 : Addr) (q2 : Int64) (q3 : Int64) (w_low_a1 : Int64) (w_high_a1 : Int64) (h0 : Heap) (n0 : Nat) (v : Option Value) (h : Heap) (L : List Loc) : Prop := v = none ∧ Fr n0 L ∧ Keep h0 h [a1] ∧ Exa Z h a1 "com/example/laden_graph/ladengraph/locality/Tally" ∧ Fld Z h a1 "com/example/laden_graph/ladengraph/locality/Tally" "low" "J" (.long (w_low_a1 + q3)) ∧ Fld Z h a1 "com/example/laden_graph/ladengraph/locality/Tally" "high" "J" (.long (w_high_a1 + (q2 + (r_5 w_low_a1 (w_low_a1 + q3)))))
set_option maxRecDepth 65536 in
set_option maxHeartbeats 40000000 in
theorem rm4 (l : Launch) (Z : State) (a0 : Array Value) (hw : ∀ d ∈ tables_1, d.before a0 Z = true) (ws : List Jvm.Cond) (a1 : Addr) (q2 : Int64) (q3 : Int64) (w_low_a1 : Int64) (w_high_a1 : Int64) (h0 : Heap) (n0 : Nat) (Z0 : n0 ≤ h0.size) (F_a1_low : Fld Z h0 a1 "com/example/laden_graph/ladengraph/locality/Tally" "low" "J" (.long w_low_a1)) (F_a1_high : Fld Z h0 a1 "com/example/laden_graph/ladengraph/locality/Tally" "high" "J" (.long w_high_a1)) (E_a1 : Exa Z h0 a1 "com/example/laden_graph/ladengraph/locality/Tally") (g_a1 : n0 ≤ a1) :
    MetFree l (⟨"com/example/laden_graph/ladengraph/locality/Tally", "add", "(JJ)V"⟩ : MethodName) (head1 (Jvm.Cond.code (⟨"com/example/laden_graph/ladengraph/locality/Tally", "add", "(JJ)V"⟩ : MethodName) prog_10_method_6_code 7 none :: ws) ({ frames := 3, cells := 0, slots := 0, locals := 50 } : Room)) (fun a U => a = #[(.ref a1), (.long q2), (.long q3)] ∧ Z.Warmed39 U.vm ∧ U.heap = h0) (fun _ _ _ _ _ => True) (fun _ U o U' => ∃ v L, o = .returned v ∧ Q4 Z a1 q2 q3 w_low_a1 w_high_a1 h0 n0 v U'.heap L ∧ FrameEnd U o U' L ({ frames := 3, cells := 0, slots := 0, locals := 50 } : Room).cells ({ frames := 3, cells := 0, slots := 0, locals := 50 } : Room).slots) := by
  refine MetFree.of_bodySF (plainFor_of_name pn_1) hisR ?_
  intro p e s m args below meth c s₁ Bd hml0 hP hK
  obtain ⟨rfl, hZ, hh⟩ := hP
  have hx := Bd.exec
  have hby := Bd.bytes
  have hml : c.maxLocals = 7 := hml0
  have hown : s.vm.findClass "com/example/laden_graph/ladengraph/locality/Tally" = some m.cls := findClass_of_methodNamed Bd.named
  have hnm := (name_of_methodNamed Bd.named Bd.method).1
  have X0 : Stand p l e ({ frames := 3, cells := 0, slots := 0, locals := 50 } : Room) s m #[(.ref a1), (.long q2), (.long q3)] below meth c s₁ [] 0 0 := Stand.of_body Bd
  have e0 : s₁.heap = h0 := by rw [← hh, Bd.state]; rfl
  have NN := Fr.nil n0
  have KK : Keep h0 h0 [a1] := Keep.refl h0 [a1]
  refine own_start (ef_4 m a1 q2 q3) ?_
  refine own_go (T' := s₁) (g' := (mkF m 1 #[.val (.ref a1), .val (.long q2), .second, .val (.long q3), .second, .unset, .unset] [(.ref a1)])) (fun t k => ?_) ?_
  · show Steps p.tables e below (s₁.setTop (mkF m 0 #[.val (.ref a1), .val (.long q2), .second, .val (.long q3), .second, .unset, .unset] [])) _
    refine XS.aloadN X0.here hx rfl (hb hby d4_0) rfl rfl ?_
    exact k
  obtain ⟨T1, X1, e1, st1⟩ := getF X0 hx hZ hown (host := "") (Or.inl (hw _ (List.mem_of_getElem? (i := 18) rfl))) Via.refl e0 F_a1_low (g := (mkF m 1 #[.val (.ref a1), .val (.long q2), .second, .val (.long q3), .second, .unset, .unset] [(.ref a1)])) rfl rfl (hb hby d4_1)
  refine own_go st1 ?_
  show own_Go p.tables e below _ T1 (mkF m 4 #[.val (.ref a1), .val (.long q2), .second, .val (.long q3), .second, .unset, .unset] [(.long w_low_a1)])
  refine own_go (T' := T1) (g' := (mkF m 10 #[.val (.ref a1), .val (.long q2), .second, .val (.long q3), .second, .val (.long (w_low_a1 + q3)), .second] [(.ref a1), (.ref a1)])) (fun t k => ?_) ?_
  · show Steps p.tables e below (T1.setTop (mkF m 4 #[.val (.ref a1), .val (.long q2), .second, .val (.long q3), .second, .unset, .unset] [(.long w_low_a1)])) _
    refine XS.lloadN X1.here hx rfl (hb hby d4_4) rfl ?_
    show Steps p.tables e below (T1.setTop (mkF m 5 #[.val (.ref a1), .val (.long q2), .second, .val (.long q3), .second, .unset, .unset] [(.long q3), (.long w_low_a1)])) _
    refine XS.ladd X1.here hx rfl (hb hby d4_5) rfl ?_
    show Steps p.tables e below (T1.setTop (mkF m 6 #[.val (.ref a1), .val (.long q2), .second, .val (.long q3), .second, .unset, .unset] [(.long (w_low_a1 + q3))])) _
    refine XS.lstore X1.here hx rfl (hb hby d4_6) rfl (l' := #[.val (.ref a1), .val (.long q2), .second, .val (.long q3), .second, .val (.long (w_low_a1 + q3)), .second]) rfl ?_
    show Steps p.tables e below (T1.setTop (mkF m 8 #[.val (.ref a1), .val (.long q2), .second, .val (.long q3), .second, .val (.long (w_low_a1 + q3)), .second] [])) _
    refine XS.aloadN X1.here hx rfl (hb hby d4_8) rfl rfl ?_
    show Steps p.tables e below (T1.setTop (mkF m 9 #[.val (.ref a1), .val (.long q2), .second, .val (.long q3), .second, .val (.long (w_low_a1 + q3)), .second] [(.ref a1)])) _
    refine XS.dup X1.here hx rfl (hb hby d4_9) rfl rfl ?_
    exact k
  obtain ⟨T2, X2, e2, st2⟩ := getF X1 hx hZ hown (host := "") (Or.inl (hw _ (List.mem_of_getElem? (i := 20) rfl))) Via.refl e1 F_a1_high (g := (mkF m 10 #[.val (.ref a1), .val (.long q2), .second, .val (.long q3), .second, .val (.long (w_low_a1 + q3)), .second] [(.ref a1), (.ref a1)])) rfl rfl (hb hby d4_10)
  refine own_go st2 ?_
  show own_Go p.tables e below _ T2 (mkF m 13 #[.val (.ref a1), .val (.long q2), .second, .val (.long q3), .second, .val (.long (w_low_a1 + q3)), .second] [(.long w_high_a1), (.ref a1)])
  refine own_go (T' := T2) (g' := (mkF m 15 #[.val (.ref a1), .val (.long q2), .second, .val (.long q3), .second, .val (.long (w_low_a1 + q3)), .second] [(.ref a1), (.long q2), (.long w_high_a1), (.ref a1)])) (fun t k => ?_) ?_
  · show Steps p.tables e below (T2.setTop (mkF m 13 #[.val (.ref a1), .val (.long q2), .second, .val (.long q3), .second, .val (.long (w_low_a1 + q3)), .second] [(.long w_high_a1), (.ref a1)])) _
    refine XS.lloadN X2.here hx rfl (hb hby d4_13) rfl ?_
    show Steps p.tables e below (T2.setTop (mkF m 14 #[.val (.ref a1), .val (.long q2), .second, .val (.long q3), .second, .val (.long (w_low_a1 + q3)), .second] [(.long q2), (.long w_high_a1), (.ref a1)])) _
    refine XS.aloadN X2.here hx rfl (hb hby d4_14) rfl rfl ?_
    exact k
  obtain ⟨T3, X3, e3, st3⟩ := getF X2 hx hZ hown (host := "") (Or.inl (hw _ (List.mem_of_getElem? (i := 18) rfl))) Via.refl e2 F_a1_low (g := (mkF m 15 #[.val (.ref a1), .val (.long q2), .second, .val (.long q3), .second, .val (.long (w_low_a1 + q3)), .second] [(.ref a1), (.long q2), (.long w_high_a1), (.ref a1)])) rfl rfl (hb hby d4_15)
  refine own_go st3 ?_
  show own_Go p.tables e below _ T3 (mkF m 18 #[.val (.ref a1), .val (.long q2), .second, .val (.long q3), .second, .val (.long (w_low_a1 + q3)), .second] [(.long w_low_a1), (.long q2), (.long w_high_a1), (.ref a1)])
  refine own_go (T' := T3) (g' := (mkF m 20 #[.val (.ref a1), .val (.long q2), .second, .val (.long q3), .second, .val (.long (w_low_a1 + q3)), .second] [(.long (w_low_a1 + q3)), (.long w_low_a1), (.long q2), (.long w_high_a1), (.ref a1)])) (fun t k => ?_) ?_
  · show Steps p.tables e below (T3.setTop (mkF m 18 #[.val (.ref a1), .val (.long q2), .second, .val (.long q3), .second, .val (.long (w_low_a1 + q3)), .second] [(.long w_low_a1), (.long q2), (.long w_high_a1), (.ref a1)])) _
    refine XS.lload X3.here hx rfl (hb hby d4_18) rfl ?_
    exact k
  obtain ⟨_, _, ⟨T4, L4, k4, n4⟩, -, X4, ⟨Lc4, hQ4, l4, y4, z4⟩, st4⟩ := Jvm.LawKit.callS X3 hx (y := (⟨"com/example/laden_graph/ladengraph/locality/Tally", "carry", "(JJ)J"⟩ : MethodName)) hown (mvT hZ (hw _ (List.mem_of_getElem? (i := 22) rfl))) (mvT hZ (hw _ (List.mem_of_getElem? (i := 23) rfl))) (mvT hZ (hw _ (List.mem_of_getElem? (i := 2) rfl))) (mvT hZ (hw _ (List.mem_of_getElem? (i := 24) rfl))) (by decide) (backOf (W := 5) (rm5 l Z a0 hw [] w_low_a1 (w_low_a1 + q3) h0 n0 Z0 ) hZ (hw _ (List.mem_of_getElem? (i := 24) rfl)) (hw _ (List.mem_of_getElem? (i := 2) rfl)) (by decide) (by decide)) (g := (mkF m 20 #[.val (.ref a1), .val (.long q2), .second, .val (.long q3), .second, .val (.long (w_low_a1 + q3)), .second] [(.long (w_low_a1 + q3)), (.long w_low_a1), (.long q2), (.long w_high_a1), (.ref a1)])) rfl (by rw [hml]; rfl) (argsL := [(.long w_low_a1), (.long (w_low_a1 + q3))]) (rest := [(.long q2), (.long w_high_a1), (.ref a1)]) (lenOf pd_3 rfl) rfl (by show 2 * 0 + _ ≤ _; exact Nat.le_of_eq rfl) (hb hby d4_20) (fun _ _ => ⟨rfl, e3, (by decide : 0 + 0 ≤ _), (by decide : 0 + 0 ≤ _)⟩)
  dsimp only [Pt.U, Pt.locs, Pt.cells, Pt.slots] at X4 l4 y4 z4 st4 hQ4
  subst l4 y4 z4
  obtain ⟨rfl, N4q, e4⟩ := hQ4
  have NN := Fr.app NN N4q
  refine own_go st4 ?_
  show own_Go p.tables e below _ T4 (mkF m 23 #[.val (.ref a1), .val (.long q2), .second, .val (.long q3), .second, .val (.long (w_low_a1 + q3)), .second] [(.long (r_5 w_low_a1 (w_low_a1 + q3))), (.long q2), (.long w_high_a1), (.ref a1)])
  refine own_go (T' := T4) (g' := (mkF m 25 #[.val (.ref a1), .val (.long q2), .second, .val (.long q3), .second, .val (.long (w_low_a1 + q3)), .second] [(.long (w_high_a1 + (q2 + (r_5 w_low_a1 (w_low_a1 + q3))))), (.ref a1)])) (fun t k => ?_) ?_
  · show Steps p.tables e below (T4.setTop (mkF m 23 #[.val (.ref a1), .val (.long q2), .second, .val (.long q3), .second, .val (.long (w_low_a1 + q3)), .second] [(.long (r_5 w_low_a1 (w_low_a1 + q3))), (.long q2), (.long w_high_a1), (.ref a1)])) _
    refine XS.ladd X4.here hx rfl (hb hby d4_23) rfl ?_
    show Steps p.tables e below (T4.setTop (mkF m 24 #[.val (.ref a1), .val (.long q2), .second, .val (.long q3), .second, .val (.long (w_low_a1 + q3)), .second] [(.long (q2 + (r_5 w_low_a1 (w_low_a1 + q3)))), (.long w_high_a1), (.ref a1)])) _
    refine XS.ladd X4.here hx rfl (hb hby d4_24) rfl ?_
    exact k
  obtain ⟨T5, h5, X5, e5, W5, st5⟩ := putF X4 hx hZ hown (host := "") (Or.inl (hw _ (List.mem_of_getElem? (i := 20) rfl))) Via.refl e4 F_a1_high E_a1 (Or.inl (hw _ (List.mem_of_getElem? (i := 21) rfl))) (hw _ (List.mem_of_getElem? (i := 1) rfl)) (ty := .long) (by decide) rfl rfl (g := (mkF m 25 #[.val (.ref a1), .val (.long q2), .second, .val (.long q3), .second, .val (.long (w_low_a1 + q3)), .second] [(.long (w_high_a1 + (q2 + (r_5 w_low_a1 (w_low_a1 + q3))))), (.ref a1)])) rfl rfl (hb hby d4_25)
  refine own_go st5 ?_
  have F_a1_low := F_a1_low.other W5 (Or.inr (slot_ne (Or.inl (hw _ (List.mem_of_getElem? (i := 19) rfl))) (Or.inl (hw _ (List.mem_of_getElem? (i := 21) rfl))) (by decide) (t := .long) (t' := .long) (by decide) (by decide)))
  have F_a1_high := F_a1_high.same W5
  have E_a1 := E_a1.wr W5
  have Z0 := Nat.le_trans Z0 (Keep.of_wr W5).1
  have KK := KK.wr W5 (Or.inl (List.mem_of_getElem? (i := 0) rfl))
  have NN := Fr.snoc X5 NN g_a1
  show own_Go p.tables e below _ T5 (mkF m 28 #[.val (.ref a1), .val (.long q2), .second, .val (.long q3), .second, .val (.long (w_low_a1 + q3)), .second] [])
  refine own_go (T' := T5) (g' := (mkF m 31 #[.val (.ref a1), .val (.long q2), .second, .val (.long q3), .second, .val (.long (w_low_a1 + q3)), .second] [(.long (w_low_a1 + q3)), (.ref a1)])) (fun t k => ?_) ?_
  · show Steps p.tables e below (T5.setTop (mkF m 28 #[.val (.ref a1), .val (.long q2), .second, .val (.long q3), .second, .val (.long (w_low_a1 + q3)), .second] [])) _
    refine XS.aloadN X5.here hx rfl (hb hby d4_28) rfl rfl ?_
    show Steps p.tables e below (T5.setTop (mkF m 29 #[.val (.ref a1), .val (.long q2), .second, .val (.long q3), .second, .val (.long (w_low_a1 + q3)), .second] [(.ref a1)])) _
    refine XS.lload X5.here hx rfl (hb hby d4_29) rfl ?_
    exact k
  obtain ⟨T6, h6, X6, e6, W6, st6⟩ := putF X5 hx hZ hown (host := "") (Or.inl (hw _ (List.mem_of_getElem? (i := 18) rfl))) Via.refl e5 F_a1_low E_a1 (Or.inl (hw _ (List.mem_of_getElem? (i := 19) rfl))) (hw _ (List.mem_of_getElem? (i := 1) rfl)) (ty := .long) (by decide) rfl rfl (g := (mkF m 31 #[.val (.ref a1), .val (.long q2), .second, .val (.long q3), .second, .val (.long (w_low_a1 + q3)), .second] [(.long (w_low_a1 + q3)), (.ref a1)])) rfl rfl (hb hby d4_31)
  refine own_go st6 ?_
  have F_a1_low := F_a1_low.same W6
  have F_a1_high := F_a1_high.other W6 (Or.inr (slot_ne (Or.inl (hw _ (List.mem_of_getElem? (i := 21) rfl))) (Or.inl (hw _ (List.mem_of_getElem? (i := 19) rfl))) (by decide) (t := .long) (t' := .long) (by decide) (by decide)))
  have E_a1 := E_a1.wr W6
  have Z0 := Nat.le_trans Z0 (Keep.of_wr W6).1
  have KK := KK.wr W6 (Or.inl (List.mem_of_getElem? (i := 0) rfl))
  have NN := Fr.snoc X6 NN g_a1
  show own_Go p.tables e below _ T6 (mkF m 34 #[.val (.ref a1), .val (.long q2), .second, .val (.long q3), .second, .val (.long (w_low_a1 + q3)), .second] [])
  obtain ⟨fs, hr, hrun, hended, hW, hsame⟩ := X6.leave (v := none) (fun _ => rfl)
  refine ⟨_, _, ?_, hrun, hended, _, _, rfl, ?_, ⟨_, rfl⟩, hW, hsame.mono (by decide) (by decide)⟩
  · exact X6.returnOut hx Bd.returns (hb hby d4_34) hr
  · show Q4 Z a1 q2 q3 w_low_a1 w_high_a1 h0 n0 _ T6.heap _
    rw [e6]
    exact ⟨rfl, NN, KK, E_a1, F_a1_low, F_a1_high⟩
theorem d3_0 : decode prog_10_method_4_code 0 = .ok (.aload_n 0, 1) := by decide +kernel
theorem d3_1 : decode prog_10_method_4_code 1 = .ok (.lload_n 1, 1) := by decide +kernel
theorem d3_2 : decode prog_10_method_4_code 2 = .ok (.bipush 63, 2) := by decide +kernel
theorem d3_4 : decode prog_10_method_4_code 4 = .ok (.lshr, 1) := by decide +kernel
theorem d3_5 : decode prog_10_method_4_code 5 = .ok (.lload_n 1, 1) := by decide +kernel
theorem d3_6 : decode prog_10_method_4_code 6 = .ok (.invokevirtual 22, 3) := by decide +kernel
theorem d3_9 : decode prog_10_method_4_code 9 = .ok (.return_, 1) := by decide +kernel
theorem pd_2 : parseMethodDescriptor "(JJ)V" = some ⟨[.long, .long], none⟩ := by decide +kernel
theorem ef_3 (m : MethodId) (a1 : Addr) (q2 : Int64) : entryFrame m #[(.ref a1), (.long q2)] 3 = mkF m 0 #[.val (.ref a1), .val (.long q2), .second] [] := by first | (simp [entryFrame, mkF, argsToLocals, Value.category]; done) | rfl
def Q3 (Z : State) (a1 : Addr) (q2 : Int64) (w_low_a1 : Int64) (w_high_a1 : Int64) (h0 : Heap) (n0 : Nat) (v : Option Value) (h : Heap) (L : List Loc) : Prop := v = none ∧ Fr n0 L ∧ Keep h0 h [a1] ∧ Exa Z h a1 "com/example/laden_graph/ladengraph/locality/Tally" ∧ Fld Z h a1 "com/example/laden_graph/ladengraph/locality/Tally" "low" "J" (.long (w_low_a1 + q2)) ∧ Fld Z h a1 "com/example/laden_graph/ladengraph/locality/Tally" "high" "J" (.long (w_high_a1 + ((q2 >>> ((63 : Int32) &&& 0x3f).toInt64) + (r_5 w_low_a1 (w_low_a1 + q2)))))
set_option maxRecDepth 65536 in
set_option maxHeartbeats 40000000 in
theorem rm3 (l : Launch) (Z : State) (a0 : Array Value) (hw : ∀ d ∈ tables_1, d.before a0 Z = true) (ws : List Jvm.Cond) (a1 : Addr) (q2 : Int64) (w_low_a1 : Int64) (w_high_a1 : Int64) (h0 : Heap) (n0 : Nat) (Z0 : n0 ≤ h0.size) (F_a1_low : Fld Z h0 a1 "com/example/laden_graph/ladengraph/locality/Tally" "low" "J" (.long w_low_a1)) (F_a1_high : Fld Z h0 a1 "com/example/laden_graph/ladengraph/locality/Tally" "high" "J" (.long w_high_a1)) (E_a1 : Exa Z h0 a1 "com/example/laden_graph/ladengraph/locality/Tally") (g_a1 : n0 ≤ a1) :
    MetFree l (⟨"com/example/laden_graph/ladengraph/locality/Tally", "add", "(J)V"⟩ : MethodName) (head1 (Jvm.Cond.code (⟨"com/example/laden_graph/ladengraph/locality/Tally", "add", "(J)V"⟩ : MethodName) prog_10_method_4_code 3 none :: ws) ({ frames := 4, cells := 0, slots := 0, locals := 68 } : Room)) (fun a U => a = #[(.ref a1), (.long q2)] ∧ Z.Warmed39 U.vm ∧ U.heap = h0) (fun _ _ _ _ _ => True) (fun _ U o U' => ∃ v L, o = .returned v ∧ Q3 Z a1 q2 w_low_a1 w_high_a1 h0 n0 v U'.heap L ∧ FrameEnd U o U' L ({ frames := 4, cells := 0, slots := 0, locals := 68 } : Room).cells ({ frames := 4, cells := 0, slots := 0, locals := 68 } : Room).slots) := by
  refine MetFree.of_bodySF (plainFor_of_name pn_1) hisR ?_
  intro p e s m args below meth c s₁ Bd hml0 hP hK
  obtain ⟨rfl, hZ, hh⟩ := hP
  have hx := Bd.exec
  have hby := Bd.bytes
  have hml : c.maxLocals = 3 := hml0
  have hown : s.vm.findClass "com/example/laden_graph/ladengraph/locality/Tally" = some m.cls := findClass_of_methodNamed Bd.named
  have hnm := (name_of_methodNamed Bd.named Bd.method).1
  have X0 : Stand p l e ({ frames := 4, cells := 0, slots := 0, locals := 68 } : Room) s m #[(.ref a1), (.long q2)] below meth c s₁ [] 0 0 := Stand.of_body Bd
  have e0 : s₁.heap = h0 := by rw [← hh, Bd.state]; rfl
  have NN := Fr.nil n0
  have KK : Keep h0 h0 [a1] := Keep.refl h0 [a1]
  refine own_start (ef_3 m a1 q2) ?_
  refine own_go (T' := s₁) (g' := (mkF m 6 #[.val (.ref a1), .val (.long q2), .second] [(.long q2), (.long (q2 >>> ((63 : Int32) &&& 0x3f).toInt64)), (.ref a1)])) (fun t k => ?_) ?_
  · show Steps p.tables e below (s₁.setTop (mkF m 0 #[.val (.ref a1), .val (.long q2), .second] [])) _
    refine XS.aloadN X0.here hx rfl (hb hby d3_0) rfl rfl ?_
    show Steps p.tables e below (s₁.setTop (mkF m 1 #[.val (.ref a1), .val (.long q2), .second] [(.ref a1)])) _
    refine XS.lloadN X0.here hx rfl (hb hby d3_1) rfl ?_
    show Steps p.tables e below (s₁.setTop (mkF m 2 #[.val (.ref a1), .val (.long q2), .second] [(.long q2), (.ref a1)])) _
    refine XS.bipush X0.here hx rfl (hb hby d3_2) ?_
    show Steps p.tables e below (s₁.setTop (mkF m 4 #[.val (.ref a1), .val (.long q2), .second] [(.int (63 : Int32)), (.long q2), (.ref a1)])) _
    refine XS.lshr X0.here hx rfl (hb hby d3_4) rfl ?_
    show Steps p.tables e below (s₁.setTop (mkF m 5 #[.val (.ref a1), .val (.long q2), .second] [(.long (q2 >>> ((63 : Int32) &&& 0x3f).toInt64)), (.ref a1)])) _
    refine XS.lloadN X0.here hx rfl (hb hby d3_5) rfl ?_
    exact k
  obtain ⟨cq1, q1, q1'⟩ := E_a1.cell
  obtain ⟨_, _, ⟨T1, L1, k1, n1⟩, -, X1, ⟨Lc1, hQ1, l1, y1, z1⟩, st1⟩ := X0.privateBack hx (y := (⟨"com/example/laden_graph/ladengraph/locality/Tally", "add", "(JJ)V"⟩ : MethodName)) hown (mvT hZ (hw _ (List.mem_of_getElem? (i := 14) rfl))) (mvT hZ (hw _ (List.mem_of_getElem? (i := 15) rfl))) (own_selPriv (z := (⟨"com/example/laden_graph/ladengraph/locality/Tally", "add", "(J)V"⟩ : MethodName)) rfl (mvT hZ (hw _ (List.mem_of_getElem? (i := 12) rfl))) (Cond.privateMethod_at (mvP hZ (hw _ (List.mem_of_getElem? (i := 16) rfl)) (args := #[]))) (mvT hZ (hw _ (List.mem_of_getElem? (i := 15) rfl))) (by decide)) (Cond.privateMethod_at (mvP hZ (hw _ (List.mem_of_getElem? (i := 16) rfl)) (args := #[]))) (mvT hZ (hw _ (List.mem_of_getElem? (i := 17) rfl))) (by decide) (backOf (W := 0) (rm4 l Z a0 hw [] a1 (q2 >>> ((63 : Int32) &&& 0x3f).toInt64) q2 w_low_a1 w_high_a1 h0 n0 Z0 F_a1_low F_a1_high E_a1 g_a1) hZ (hw _ (List.mem_of_getElem? (i := 17) rfl)) (hw _ (List.mem_of_getElem? (i := 2) rfl)) (by decide) (by decide)) (g := (mkF m 6 #[.val (.ref a1), .val (.long q2), .second] [(.long q2), (.long (q2 >>> ((63 : Int32) &&& 0x3f).toInt64)), (.ref a1)])) rfl (by rw [hml]; rfl) (Steps.refl _) (a := a1) (by rw [e0]; exact q1) q1' (argsL := [(.long (q2 >>> ((63 : Int32) &&& 0x3f).toInt64)), (.long q2)]) (rest := []) (lenOf pd_2 rfl) rfl (by show 2 * 0 + _ ≤ _; exact Nat.le_of_eq rfl) (hb hby d3_6) (fun _ _ => ⟨rfl, e0, (by decide : 0 + 0 ≤ _), (by decide : 0 + 0 ≤ _)⟩)
  dsimp only [Pt.U, Pt.locs, Pt.cells, Pt.slots] at X1 l1 y1 z1 st1 hQ1
  subst l1 y1 z1
  obtain ⟨rfl, N1q, K1, Q1_0, Q1_1, Q1_2⟩ := hQ1
  have E_a1 := Q1_0
  have F_a1_low := Q1_1
  have F_a1_high := Q1_2
  have Z0 := Nat.le_trans Z0 K1.1
  have KK := KK.trans K1 (allS (Or.inl (List.mem_of_getElem? (i := 0) rfl)) all0)
  have NN := Fr.app NN N1q
  refine own_go (fun t k => st1.trans k) ?_
  show own_Go p.tables e below _ T1 (mkF m 9 #[.val (.ref a1), .val (.long q2), .second] [])
  obtain ⟨fs, hr, hrun, hended, hW, hsame⟩ := X1.leave (v := none) (fun _ => rfl)
  refine ⟨_, _, ?_, hrun, hended, _, _, rfl, ?_, ⟨_, rfl⟩, hW, hsame.mono (by decide) (by decide)⟩
  · exact X1.returnOut hx Bd.returns (hb hby d3_9) hr
  · show Q3 Z a1 q2 w_low_a1 w_high_a1 h0 n0 _ T1.heap _
    exact ⟨rfl, NN, KK, E_a1, F_a1_low, F_a1_high⟩
theorem d9_0 : decode prog_10_method_9_code 0 = .ok (.aload_n 0, 1) := by decide +kernel
theorem d9_1 : decode prog_10_method_9_code 1 = .ok (.getfield 19, 3) := by decide +kernel
theorem d9_4 : decode prog_10_method_9_code 4 = .ok (.lload_n 3, 1) := by decide +kernel
theorem d9_5 : decode prog_10_method_9_code 5 = .ok (.invokestatic 7, 3) := by decide +kernel
theorem d9_8 : decode prog_10_method_9_code 8 = .ok (.ifCond .ge 7, 3) := by decide +kernel
theorem d9_11 : decode prog_10_method_9_code 11 = .ok (.lconst 1, 1) := by decide +kernel
theorem d9_12 : decode prog_10_method_9_code 12 = .ok (.goto 4, 3) := by decide +kernel
theorem d9_15 : decode prog_10_method_9_code 15 = .ok (.lconst 0, 1) := by decide +kernel
theorem d9_16 : decode prog_10_method_9_code 16 = .ok (.lstore 5, 2) := by decide +kernel
theorem d9_18 : decode prog_10_method_9_code 18 = .ok (.aload_n 0, 1) := by decide +kernel
theorem d9_19 : decode prog_10_method_9_code 19 = .ok (.dup, 1) := by decide +kernel
theorem d9_20 : decode prog_10_method_9_code 20 = .ok (.getfield 13, 3) := by decide +kernel
theorem d9_23 : decode prog_10_method_9_code 23 = .ok (.lload_n 1, 1) := by decide +kernel
theorem d9_24 : decode prog_10_method_9_code 24 = .ok (.lload 5, 2) := by decide +kernel
theorem d9_26 : decode prog_10_method_9_code 26 = .ok (.ladd, 1) := by decide +kernel
theorem d9_27 : decode prog_10_method_9_code 27 = .ok (.lsub, 1) := by decide +kernel
theorem d9_28 : decode prog_10_method_9_code 28 = .ok (.putfield 13, 3) := by decide +kernel
theorem d9_31 : decode prog_10_method_9_code 31 = .ok (.aload_n 0, 1) := by decide +kernel
theorem d9_32 : decode prog_10_method_9_code 32 = .ok (.dup, 1) := by decide +kernel
theorem d9_33 : decode prog_10_method_9_code 33 = .ok (.getfield 19, 3) := by decide +kernel
theorem d9_36 : decode prog_10_method_9_code 36 = .ok (.lload_n 3, 1) := by decide +kernel
theorem d9_37 : decode prog_10_method_9_code 37 = .ok (.lsub, 1) := by decide +kernel
theorem d9_38 : decode prog_10_method_9_code 38 = .ok (.putfield 19, 3) := by decide +kernel
theorem d9_41 : decode prog_10_method_9_code 41 = .ok (.return_, 1) := by decide +kernel
theorem ef_9 (m : MethodId) (a1 : Addr) (q2 : Int64) (q3 : Int64) : entryFrame m #[(.ref a1), (.long q2), (.long q3)] 7 = mkF m 0 #[.val (.ref a1), .val (.long q2), .second, .val (.long q3), .second, .unset, .unset] [] := by first | (simp [entryFrame, mkF, argsToLocals, Value.category]; done) | rfl
def u_9_a1_high (q2 : Int64) (q3 : Int64) (w_low_a1 : Int64) (w_high_a1 : Int64) : Int64 := (w_high_a1 - (q2 + ((if (r_6 w_low_a1 q3) < (0 : Int32) then (1 : Int64) else (0 : Int64)))))
def Q9 (Z : State) (a1 : Addr) (q2 : Int64) (q3 : Int64) (w_low_a1 : Int64) (w_high_a1 : Int64) (h0 : Heap) (n0 : Nat) (v : Option Value) (h : Heap) (L : List Loc) : Prop := v = none ∧ Fr n0 L ∧ Keep h0 h [a1] ∧ Exa Z h a1 "com/example/laden_graph/ladengraph/locality/Tally" ∧ Fld Z h a1 "com/example/laden_graph/ladengraph/locality/Tally" "low" "J" (.long (w_low_a1 - q3)) ∧ Fld Z h a1 "com/example/laden_graph/ladengraph/locality/Tally" "high" "J" (.long (u_9_a1_high q2 q3 w_low_a1 w_high_a1))
set_option maxRecDepth 65536 in
set_option maxHeartbeats 40000000 in
theorem rm9 (l : Launch) (Z : State) (a0 : Array Value) (hw : ∀ d ∈ tables_1, d.before a0 Z = true) (ws : List Jvm.Cond) (a1 : Addr) (q2 : Int64) (q3 : Int64) (w_low_a1 : Int64) (w_high_a1 : Int64) (h0 : Heap) (n0 : Nat) (Z0 : n0 ≤ h0.size) (F_a1_low : Fld Z h0 a1 "com/example/laden_graph/ladengraph/locality/Tally" "low" "J" (.long w_low_a1)) (F_a1_high : Fld Z h0 a1 "com/example/laden_graph/ladengraph/locality/Tally" "high" "J" (.long w_high_a1)) (E_a1 : Exa Z h0 a1 "com/example/laden_graph/ladengraph/locality/Tally") (g_a1 : n0 ≤ a1) :
    MetFree l (⟨"com/example/laden_graph/ladengraph/locality/Tally", "subtract", "(JJ)V"⟩ : MethodName) (head1 (Jvm.Cond.code (⟨"com/example/laden_graph/ladengraph/locality/Tally", "subtract", "(JJ)V"⟩ : MethodName) prog_10_method_9_code 7 none :: ws) ({ frames := 2, cells := 0, slots := 0, locals := 30 } : Room)) (fun a U => a = #[(.ref a1), (.long q2), (.long q3)] ∧ Z.Warmed39 U.vm ∧ U.heap = h0) (fun _ _ _ _ _ => True) (fun _ U o U' => ∃ v L, o = .returned v ∧ Q9 Z a1 q2 q3 w_low_a1 w_high_a1 h0 n0 v U'.heap L ∧ FrameEnd U o U' L ({ frames := 2, cells := 0, slots := 0, locals := 30 } : Room).cells ({ frames := 2, cells := 0, slots := 0, locals := 30 } : Room).slots) := by
  refine MetFree.of_bodySF (plainFor_of_name pn_1) hisR ?_
  intro p e s m args below meth c s₁ Bd hml0 hP hK
  obtain ⟨rfl, hZ, hh⟩ := hP
  have hx := Bd.exec
  have hby := Bd.bytes
  have hml : c.maxLocals = 7 := hml0
  have hown : s.vm.findClass "com/example/laden_graph/ladengraph/locality/Tally" = some m.cls := findClass_of_methodNamed Bd.named
  have hnm := (name_of_methodNamed Bd.named Bd.method).1
  have X0 : Stand p l e ({ frames := 2, cells := 0, slots := 0, locals := 30 } : Room) s m #[(.ref a1), (.long q2), (.long q3)] below meth c s₁ [] 0 0 := Stand.of_body Bd
  have e0 : s₁.heap = h0 := by rw [← hh, Bd.state]; rfl
  have NN := Fr.nil n0
  have KK : Keep h0 h0 [a1] := Keep.refl h0 [a1]
  refine own_start (ef_9 m a1 q2 q3) ?_
  refine own_go (T' := s₁) (g' := (mkF m 1 #[.val (.ref a1), .val (.long q2), .second, .val (.long q3), .second, .unset, .unset] [(.ref a1)])) (fun t k => ?_) ?_
  · show Steps p.tables e below (s₁.setTop (mkF m 0 #[.val (.ref a1), .val (.long q2), .second, .val (.long q3), .second, .unset, .unset] [])) _
    refine XS.aloadN X0.here hx rfl (hb hby d9_0) rfl rfl ?_
    exact k
  obtain ⟨T1, X1, e1, st1⟩ := getF X0 hx hZ hown (host := "") (Or.inl (hw _ (List.mem_of_getElem? (i := 18) rfl))) Via.refl e0 F_a1_low (g := (mkF m 1 #[.val (.ref a1), .val (.long q2), .second, .val (.long q3), .second, .unset, .unset] [(.ref a1)])) rfl rfl (hb hby d9_1)
  refine own_go st1 ?_
  show own_Go p.tables e below _ T1 (mkF m 4 #[.val (.ref a1), .val (.long q2), .second, .val (.long q3), .second, .unset, .unset] [(.long w_low_a1)])
  refine own_go (T' := T1) (g' := (mkF m 5 #[.val (.ref a1), .val (.long q2), .second, .val (.long q3), .second, .unset, .unset] [(.long q3), (.long w_low_a1)])) (fun t k => ?_) ?_
  · show Steps p.tables e below (T1.setTop (mkF m 4 #[.val (.ref a1), .val (.long q2), .second, .val (.long q3), .second, .unset, .unset] [(.long w_low_a1)])) _
    refine XS.lloadN X1.here hx rfl (hb hby d9_4) rfl ?_
    exact k
  obtain ⟨_, _, ⟨T2, L2, k2, n2⟩, -, X2, ⟨Lc2, hQ2, l2, y2, z2⟩, st2⟩ := Jvm.LawKit.callS X1 hx (y := (⟨"java/lang/Long", "compareUnsigned", "(JJ)I"⟩ : MethodName)) hown (mvT hZ (hw _ (List.mem_of_getElem? (i := 25) rfl))) (mvT hZ (hw _ (List.mem_of_getElem? (i := 26) rfl))) (mvT hZ (hw _ (List.mem_of_getElem? (i := 27) rfl))) (mvT hZ (hw _ (List.mem_of_getElem? (i := 28) rfl))) (by decide) (backOf (W := 0) (rm6 l Z a0 hw [] w_low_a1 q3 h0 n0 Z0 ) hZ (hw _ (List.mem_of_getElem? (i := 28) rfl)) (hw _ (List.mem_of_getElem? (i := 27) rfl)) (by decide) (by decide)) (g := (mkF m 5 #[.val (.ref a1), .val (.long q2), .second, .val (.long q3), .second, .unset, .unset] [(.long q3), (.long w_low_a1)])) rfl (by rw [hml]; rfl) (argsL := [(.long w_low_a1), (.long q3)]) (rest := []) (lenOf pd_4 rfl) rfl (by show 2 * 0 + _ ≤ _; exact Nat.le_of_eq rfl) (hb hby d9_5) (fun _ _ => ⟨rfl, e1, (by decide : 0 + 0 ≤ _), (by decide : 0 + 0 ≤ _)⟩)
  dsimp only [Pt.U, Pt.locs, Pt.cells, Pt.slots] at X2 l2 y2 z2 st2 hQ2
  subst l2 y2 z2
  obtain ⟨rfl, N2q, e2⟩ := hQ2
  have NN := Fr.app NN N2q
  refine own_go st2 ?_
  show own_Go p.tables e below _ T2 (mkF m 8 #[.val (.ref a1), .val (.long q2), .second, .val (.long q3), .second, .unset, .unset] [(.int (r_6 w_low_a1 q3))])
  obtain ⟨j3, hj3, st4⟩ : ∃ (j3 : Int64), j3 = (if (r_6 w_low_a1 q3) < (0 : Int32) then (1 : Int64) else (0 : Int64)) ∧ ∀ t, Steps p.tables e below (T2.setTop (mkF m 16 #[.val (.ref a1), .val (.long q2), .second, .val (.long q3), .second, .unset, .unset] [(.long j3)])) t → Steps p.tables e below (T2.setTop (mkF m 8 #[.val (.ref a1), .val (.long q2), .second, .val (.long q3), .second, .unset, .unset] [(.int (r_6 w_low_a1 q3))])) t := by
    by_cases hc8_1 : (r_6 w_low_a1 q3) < (0 : Int32)
    · skip
      refine ⟨(1 : Int64), (by simp only [if_pos hc8_1]), fun t k => ?_⟩
      show Steps p.tables e below (T2.setTop (mkF m 8 #[.val (.ref a1), .val (.long q2), .second, .val (.long q3), .second, .unset, .unset] [(.int (r_6 w_low_a1 q3))])) _
      refine XS.ifNo X2.here hx rfl (hb hby d9_8) rfl ((if0 _ _).trans (tlt hc8_1).2.1) ?_
      show Steps p.tables e below (T2.setTop (mkF m 11 #[.val (.ref a1), .val (.long q2), .second, .val (.long q3), .second, .unset, .unset] [])) _
      refine XS.lconst X2.here hx rfl (hb hby d9_11) ?_
      show Steps p.tables e below (T2.setTop (mkF m 12 #[.val (.ref a1), .val (.long q2), .second, .val (.long q3), .second, .unset, .unset] [(.long (1 : Int64))])) _
      refine XS.goto X2.here hx rfl (pc0 := 12) (pc' := 16) rfl (hb hby d9_12) (by decide) (by decide) ?_
      exact k
    · skip
      refine ⟨(0 : Int64), (by simp only [if_neg hc8_1]), fun t k => ?_⟩
      show Steps p.tables e below (T2.setTop (mkF m 8 #[.val (.ref a1), .val (.long q2), .second, .val (.long q3), .second, .unset, .unset] [(.int (r_6 w_low_a1 q3))])) _
      refine XS.ifYes X2.here hx rfl (pc0 := 8) (pc' := 15) rfl (hb hby d9_8) rfl ((if0 _ _).trans (flt hc8_1).2.1) (by decide) (by decide) ?_
      show Steps p.tables e below (T2.setTop (mkF m 15 #[.val (.ref a1), .val (.long q2), .second, .val (.long q3), .second, .unset, .unset] [])) _
      refine XS.lconst X2.here hx rfl (hb hby d9_15) ?_
      exact k
  refine own_go st4 ?_
  show own_Go p.tables e below _ T2 (mkF m 16 #[.val (.ref a1), .val (.long q2), .second, .val (.long q3), .second, .unset, .unset] [(.long j3)])
  refine own_go (T' := T2) (g' := (mkF m 20 #[.val (.ref a1), .val (.long q2), .second, .val (.long q3), .second, .val (.long j3), .second] [(.ref a1), (.ref a1)])) (fun t k => ?_) ?_
  · show Steps p.tables e below (T2.setTop (mkF m 16 #[.val (.ref a1), .val (.long q2), .second, .val (.long q3), .second, .unset, .unset] [(.long j3)])) _
    refine XS.lstore X2.here hx rfl (hb hby d9_16) rfl (l' := #[.val (.ref a1), .val (.long q2), .second, .val (.long q3), .second, .val (.long j3), .second]) rfl ?_
    show Steps p.tables e below (T2.setTop (mkF m 18 #[.val (.ref a1), .val (.long q2), .second, .val (.long q3), .second, .val (.long j3), .second] [])) _
    refine XS.aloadN X2.here hx rfl (hb hby d9_18) rfl rfl ?_
    show Steps p.tables e below (T2.setTop (mkF m 19 #[.val (.ref a1), .val (.long q2), .second, .val (.long q3), .second, .val (.long j3), .second] [(.ref a1)])) _
    refine XS.dup X2.here hx rfl (hb hby d9_19) rfl rfl ?_
    exact k
  obtain ⟨T5, X5, e5, st5⟩ := getF X2 hx hZ hown (host := "") (Or.inl (hw _ (List.mem_of_getElem? (i := 20) rfl))) Via.refl e2 F_a1_high (g := (mkF m 20 #[.val (.ref a1), .val (.long q2), .second, .val (.long q3), .second, .val (.long j3), .second] [(.ref a1), (.ref a1)])) rfl rfl (hb hby d9_20)
  refine own_go st5 ?_
  show own_Go p.tables e below _ T5 (mkF m 23 #[.val (.ref a1), .val (.long q2), .second, .val (.long q3), .second, .val (.long j3), .second] [(.long w_high_a1), (.ref a1)])
  refine own_go (T' := T5) (g' := (mkF m 28 #[.val (.ref a1), .val (.long q2), .second, .val (.long q3), .second, .val (.long j3), .second] [(.long (w_high_a1 - (q2 + j3))), (.ref a1)])) (fun t k => ?_) ?_
  · show Steps p.tables e below (T5.setTop (mkF m 23 #[.val (.ref a1), .val (.long q2), .second, .val (.long q3), .second, .val (.long j3), .second] [(.long w_high_a1), (.ref a1)])) _
    refine XS.lloadN X5.here hx rfl (hb hby d9_23) rfl ?_
    show Steps p.tables e below (T5.setTop (mkF m 24 #[.val (.ref a1), .val (.long q2), .second, .val (.long q3), .second, .val (.long j3), .second] [(.long q2), (.long w_high_a1), (.ref a1)])) _
    refine XS.lload X5.here hx rfl (hb hby d9_24) rfl ?_
    show Steps p.tables e below (T5.setTop (mkF m 26 #[.val (.ref a1), .val (.long q2), .second, .val (.long q3), .second, .val (.long j3), .second] [(.long j3), (.long q2), (.long w_high_a1), (.ref a1)])) _
    refine XS.ladd X5.here hx rfl (hb hby d9_26) rfl ?_
    show Steps p.tables e below (T5.setTop (mkF m 27 #[.val (.ref a1), .val (.long q2), .second, .val (.long q3), .second, .val (.long j3), .second] [(.long (q2 + j3)), (.long w_high_a1), (.ref a1)])) _
    refine XS.lsub X5.here hx rfl (hb hby d9_27) rfl ?_
    exact k
  obtain ⟨T6, h6, X6, e6, W6, st6⟩ := putF X5 hx hZ hown (host := "") (Or.inl (hw _ (List.mem_of_getElem? (i := 20) rfl))) Via.refl e5 F_a1_high E_a1 (Or.inl (hw _ (List.mem_of_getElem? (i := 21) rfl))) (hw _ (List.mem_of_getElem? (i := 1) rfl)) (ty := .long) (by decide) rfl rfl (g := (mkF m 28 #[.val (.ref a1), .val (.long q2), .second, .val (.long q3), .second, .val (.long j3), .second] [(.long (w_high_a1 - (q2 + j3))), (.ref a1)])) rfl rfl (hb hby d9_28)
  refine own_go st6 ?_
  have F_a1_low := F_a1_low.other W6 (Or.inr (slot_ne (Or.inl (hw _ (List.mem_of_getElem? (i := 19) rfl))) (Or.inl (hw _ (List.mem_of_getElem? (i := 21) rfl))) (by decide) (t := .long) (t' := .long) (by decide) (by decide)))
  have F_a1_high := F_a1_high.same W6
  have E_a1 := E_a1.wr W6
  have Z0 := Nat.le_trans Z0 (Keep.of_wr W6).1
  have KK := KK.wr W6 (Or.inl (List.mem_of_getElem? (i := 0) rfl))
  have NN := Fr.snoc X6 NN g_a1
  show own_Go p.tables e below _ T6 (mkF m 31 #[.val (.ref a1), .val (.long q2), .second, .val (.long q3), .second, .val (.long j3), .second] [])
  refine own_go (T' := T6) (g' := (mkF m 33 #[.val (.ref a1), .val (.long q2), .second, .val (.long q3), .second, .val (.long j3), .second] [(.ref a1), (.ref a1)])) (fun t k => ?_) ?_
  · show Steps p.tables e below (T6.setTop (mkF m 31 #[.val (.ref a1), .val (.long q2), .second, .val (.long q3), .second, .val (.long j3), .second] [])) _
    refine XS.aloadN X6.here hx rfl (hb hby d9_31) rfl rfl ?_
    show Steps p.tables e below (T6.setTop (mkF m 32 #[.val (.ref a1), .val (.long q2), .second, .val (.long q3), .second, .val (.long j3), .second] [(.ref a1)])) _
    refine XS.dup X6.here hx rfl (hb hby d9_32) rfl rfl ?_
    exact k
  obtain ⟨T7, X7, e7, st7⟩ := getF X6 hx hZ hown (host := "") (Or.inl (hw _ (List.mem_of_getElem? (i := 18) rfl))) Via.refl e6 F_a1_low (g := (mkF m 33 #[.val (.ref a1), .val (.long q2), .second, .val (.long q3), .second, .val (.long j3), .second] [(.ref a1), (.ref a1)])) rfl rfl (hb hby d9_33)
  refine own_go st7 ?_
  show own_Go p.tables e below _ T7 (mkF m 36 #[.val (.ref a1), .val (.long q2), .second, .val (.long q3), .second, .val (.long j3), .second] [(.long w_low_a1), (.ref a1)])
  refine own_go (T' := T7) (g' := (mkF m 38 #[.val (.ref a1), .val (.long q2), .second, .val (.long q3), .second, .val (.long j3), .second] [(.long (w_low_a1 - q3)), (.ref a1)])) (fun t k => ?_) ?_
  · show Steps p.tables e below (T7.setTop (mkF m 36 #[.val (.ref a1), .val (.long q2), .second, .val (.long q3), .second, .val (.long j3), .second] [(.long w_low_a1), (.ref a1)])) _
    refine XS.lloadN X7.here hx rfl (hb hby d9_36) rfl ?_
    show Steps p.tables e below (T7.setTop (mkF m 37 #[.val (.ref a1), .val (.long q2), .second, .val (.long q3), .second, .val (.long j3), .second] [(.long q3), (.long w_low_a1), (.ref a1)])) _
    refine XS.lsub X7.here hx rfl (hb hby d9_37) rfl ?_
    exact k
  obtain ⟨T8, h8, X8, e8, W8, st8⟩ := putF X7 hx hZ hown (host := "") (Or.inl (hw _ (List.mem_of_getElem? (i := 18) rfl))) Via.refl e7 F_a1_low E_a1 (Or.inl (hw _ (List.mem_of_getElem? (i := 19) rfl))) (hw _ (List.mem_of_getElem? (i := 1) rfl)) (ty := .long) (by decide) rfl rfl (g := (mkF m 38 #[.val (.ref a1), .val (.long q2), .second, .val (.long q3), .second, .val (.long j3), .second] [(.long (w_low_a1 - q3)), (.ref a1)])) rfl rfl (hb hby d9_38)
  refine own_go st8 ?_
  have F_a1_low := F_a1_low.same W8
  have F_a1_high := F_a1_high.other W8 (Or.inr (slot_ne (Or.inl (hw _ (List.mem_of_getElem? (i := 21) rfl))) (Or.inl (hw _ (List.mem_of_getElem? (i := 19) rfl))) (by decide) (t := .long) (t' := .long) (by decide) (by decide)))
  have E_a1 := E_a1.wr W8
  have Z0 := Nat.le_trans Z0 (Keep.of_wr W8).1
  have KK := KK.wr W8 (Or.inl (List.mem_of_getElem? (i := 0) rfl))
  have NN := Fr.snoc X8 NN g_a1
  show own_Go p.tables e below _ T8 (mkF m 41 #[.val (.ref a1), .val (.long q2), .second, .val (.long q3), .second, .val (.long j3), .second] [])
  obtain ⟨fs, hr, hrun, hended, hW, hsame⟩ := X8.leave (v := none) (fun _ => rfl)
  refine ⟨_, _, ?_, hrun, hended, _, _, rfl, ?_, ⟨_, rfl⟩, hW, hsame.mono (by decide) (by decide)⟩
  · exact X8.returnOut hx Bd.returns (hb hby d9_41) hr
  · show Q9 Z a1 q2 q3 w_low_a1 w_high_a1 h0 n0 _ T8.heap _
    rw [e8]
    exact ⟨rfl, NN, KK, E_a1, F_a1_low, (by rw [← ((by first | (simp only [hj3, u_9_a1_high]; done) | (subst hj3; simp only [u_9_a1_high])) : (w_high_a1 - (q2 + j3)) = u_9_a1_high q2 q3 w_low_a1 w_high_a1)]; exact F_a1_high)⟩
theorem d8_0 : decode prog_10_method_7_code 0 = .ok (.aload_n 0, 1) := by decide +kernel
theorem d8_1 : decode prog_10_method_7_code 1 = .ok (.lload_n 1, 1) := by decide +kernel
theorem d8_2 : decode prog_10_method_7_code 2 = .ok (.bipush 63, 2) := by decide +kernel
theorem d8_4 : decode prog_10_method_7_code 4 = .ok (.lshr, 1) := by decide +kernel
theorem d8_5 : decode prog_10_method_7_code 5 = .ok (.lload_n 1, 1) := by decide +kernel
theorem d8_6 : decode prog_10_method_7_code 6 = .ok (.invokevirtual 30, 3) := by decide +kernel
theorem d8_9 : decode prog_10_method_7_code 9 = .ok (.return_, 1) := by decide +kernel
theorem ef_8 (m : MethodId) (a1 : Addr) (q2 : Int64) : entryFrame m #[(.ref a1), (.long q2)] 3 = mkF m 0 #[.val (.ref a1), .val (.long q2), .second] [] := by first | (simp [entryFrame, mkF, argsToLocals, Value.category]; done) | rfl
def Q8 (Z : State) (a1 : Addr) (q2 : Int64) (w_low_a1 : Int64) (w_high_a1 : Int64) (h0 : Heap) (n0 : Nat) (v : Option Value) (h : Heap) (L : List Loc) : Prop := v = none ∧ Fr n0 L ∧ Keep h0 h [a1] ∧ Exa Z h a1 "com/example/laden_graph/ladengraph/locality/Tally" ∧ Fld Z h a1 "com/example/laden_graph/ladengraph/locality/Tally" "low" "J" (.long (w_low_a1 - q2)) ∧ Fld Z h a1 "com/example/laden_graph/ladengraph/locality/Tally" "high" "J" (.long (u_9_a1_high (q2 >>> ((63 : Int32) &&& 0x3f).toInt64) q2 w_low_a1 w_high_a1))
set_option maxRecDepth 65536 in
set_option maxHeartbeats 40000000 in
theorem rm8 (l : Launch) (Z : State) (a0 : Array Value) (hw : ∀ d ∈ tables_1, d.before a0 Z = true) (ws : List Jvm.Cond) (a1 : Addr) (q2 : Int64) (w_low_a1 : Int64) (w_high_a1 : Int64) (h0 : Heap) (n0 : Nat) (Z0 : n0 ≤ h0.size) (F_a1_low : Fld Z h0 a1 "com/example/laden_graph/ladengraph/locality/Tally" "low" "J" (.long w_low_a1)) (F_a1_high : Fld Z h0 a1 "com/example/laden_graph/ladengraph/locality/Tally" "high" "J" (.long w_high_a1)) (E_a1 : Exa Z h0 a1 "com/example/laden_graph/ladengraph/locality/Tally") (g_a1 : n0 ≤ a1) :
    MetFree l (⟨"com/example/laden_graph/ladengraph/locality/Tally", "subtract", "(J)V"⟩ : MethodName) (head1 (Jvm.Cond.code (⟨"com/example/laden_graph/ladengraph/locality/Tally", "subtract", "(J)V"⟩ : MethodName) prog_10_method_7_code 3 none :: ws) ({ frames := 3, cells := 0, slots := 0, locals := 48 } : Room)) (fun a U => a = #[(.ref a1), (.long q2)] ∧ Z.Warmed39 U.vm ∧ U.heap = h0) (fun _ _ _ _ _ => True) (fun _ U o U' => ∃ v L, o = .returned v ∧ Q8 Z a1 q2 w_low_a1 w_high_a1 h0 n0 v U'.heap L ∧ FrameEnd U o U' L ({ frames := 3, cells := 0, slots := 0, locals := 48 } : Room).cells ({ frames := 3, cells := 0, slots := 0, locals := 48 } : Room).slots) := by
  refine MetFree.of_bodySF (plainFor_of_name pn_1) hisR ?_
  intro p e s m args below meth c s₁ Bd hml0 hP hK
  obtain ⟨rfl, hZ, hh⟩ := hP
  have hx := Bd.exec
  have hby := Bd.bytes
  have hml : c.maxLocals = 3 := hml0
  have hown : s.vm.findClass "com/example/laden_graph/ladengraph/locality/Tally" = some m.cls := findClass_of_methodNamed Bd.named
  have hnm := (name_of_methodNamed Bd.named Bd.method).1
  have X0 : Stand p l e ({ frames := 3, cells := 0, slots := 0, locals := 48 } : Room) s m #[(.ref a1), (.long q2)] below meth c s₁ [] 0 0 := Stand.of_body Bd
  have e0 : s₁.heap = h0 := by rw [← hh, Bd.state]; rfl
  have NN := Fr.nil n0
  have KK : Keep h0 h0 [a1] := Keep.refl h0 [a1]
  refine own_start (ef_8 m a1 q2) ?_
  refine own_go (T' := s₁) (g' := (mkF m 6 #[.val (.ref a1), .val (.long q2), .second] [(.long q2), (.long (q2 >>> ((63 : Int32) &&& 0x3f).toInt64)), (.ref a1)])) (fun t k => ?_) ?_
  · show Steps p.tables e below (s₁.setTop (mkF m 0 #[.val (.ref a1), .val (.long q2), .second] [])) _
    refine XS.aloadN X0.here hx rfl (hb hby d8_0) rfl rfl ?_
    show Steps p.tables e below (s₁.setTop (mkF m 1 #[.val (.ref a1), .val (.long q2), .second] [(.ref a1)])) _
    refine XS.lloadN X0.here hx rfl (hb hby d8_1) rfl ?_
    show Steps p.tables e below (s₁.setTop (mkF m 2 #[.val (.ref a1), .val (.long q2), .second] [(.long q2), (.ref a1)])) _
    refine XS.bipush X0.here hx rfl (hb hby d8_2) ?_
    show Steps p.tables e below (s₁.setTop (mkF m 4 #[.val (.ref a1), .val (.long q2), .second] [(.int (63 : Int32)), (.long q2), (.ref a1)])) _
    refine XS.lshr X0.here hx rfl (hb hby d8_4) rfl ?_
    show Steps p.tables e below (s₁.setTop (mkF m 5 #[.val (.ref a1), .val (.long q2), .second] [(.long (q2 >>> ((63 : Int32) &&& 0x3f).toInt64)), (.ref a1)])) _
    refine XS.lloadN X0.here hx rfl (hb hby d8_5) rfl ?_
    exact k
  obtain ⟨cq1, kq1, q1a, q1b, q1c⟩ := isOf hZ e0 E_a1
  obtain ⟨_, _, ⟨T1, L1, k1, n1⟩, -, X1, ⟨Lc1, hQ1, l1, y1, z1⟩, st1⟩ := X0.virtualBack hx (y := (⟨"com/example/laden_graph/ladengraph/locality/Tally", "subtract", "(JJ)V"⟩ : MethodName)) (z := (⟨"com/example/laden_graph/ladengraph/locality/Tally", "subtract", "(JJ)V"⟩ : MethodName)) hown (mvT hZ (hw _ (List.mem_of_getElem? (i := 38) rfl))) (mvT hZ (hw _ (List.mem_of_getElem? (i := 39) rfl))) (notFace_of_selects (args := #[]) (mvT hZ (hw _ (List.mem_of_getElem? (i := 41) rfl)))) (mvT hZ (hw _ (List.mem_of_getElem? (i := 41) rfl))) (mvT hZ (hw _ (List.mem_of_getElem? (i := 40) rfl))) (by decide) (backOf (W := 0) (rm9 l Z a0 hw [] a1 (q2 >>> ((63 : Int32) &&& 0x3f).toInt64) q2 w_low_a1 w_high_a1 h0 n0 Z0 F_a1_low F_a1_high E_a1 g_a1) hZ (hw _ (List.mem_of_getElem? (i := 42) rfl)) (hw _ (List.mem_of_getElem? (i := 2) rfl)) (by decide) (by decide)) q1a q1c (g := (mkF m 6 #[.val (.ref a1), .val (.long q2), .second] [(.long q2), (.long (q2 >>> ((63 : Int32) &&& 0x3f).toInt64)), (.ref a1)])) rfl (by rw [hml]; rfl) (Steps.refl _) (argsL := [(.long (q2 >>> ((63 : Int32) &&& 0x3f).toInt64)), (.long q2)]) (rest := []) (lenOf pd_2 rfl) rfl (by show 2 * 0 + _ ≤ _; exact Nat.le_of_eq rfl) (hb hby d8_6) (fun _ _ => ⟨rfl, e0, (by decide : 0 + 0 ≤ _), (by decide : 0 + 0 ≤ _)⟩)
  dsimp only [Pt.U, Pt.locs, Pt.cells, Pt.slots] at X1 l1 y1 z1 st1 hQ1
  subst l1 y1 z1
  obtain ⟨rfl, N1q, K1, Q1_0, Q1_1, Q1_2⟩ := hQ1
  have E_a1 := Q1_0
  have F_a1_low := Q1_1
  have F_a1_high := Q1_2
  have Z0 := Nat.le_trans Z0 K1.1
  have KK := KK.trans K1 (allS (Or.inl (List.mem_of_getElem? (i := 0) rfl)) all0)
  have NN := Fr.app NN N1q
  refine own_go (fun t k => st1.trans k) ?_
  show own_Go p.tables e below _ T1 (mkF m 9 #[.val (.ref a1), .val (.long q2), .second] [])
  obtain ⟨fs, hr, hrun, hended, hW, hsame⟩ := X1.leave (v := none) (fun _ => rfl)
  refine ⟨_, _, ?_, hrun, hended, _, _, rfl, ?_, ⟨_, rfl⟩, hW, hsame.mono (by decide) (by decide)⟩
  · exact X1.returnOut hx Bd.returns (hb hby d8_9) hr
  · show Q8 Z a1 q2 w_low_a1 w_high_a1 h0 n0 _ T1.heap _
    exact ⟨rfl, NN, KK, E_a1, F_a1_low, F_a1_high⟩
theorem d10_0 : decode prog_10_method_10_code 0 = .ok (.aload_n 0, 1) := by decide +kernel
theorem d10_1 : decode prog_10_method_10_code 1 = .ok (.getfield 13, 3) := by decide +kernel
theorem d10_4 : decode prog_10_method_10_code 4 = .ok (.aload_n 1, 1) := by decide +kernel
theorem d10_5 : decode prog_10_method_10_code 5 = .ok (.getfield 13, 3) := by decide +kernel
theorem d10_8 : decode prog_10_method_10_code 8 = .ok (.invokestatic 33, 3) := by decide +kernel
theorem d10_11 : decode prog_10_method_10_code 11 = .ok (.istore_n 2, 1) := by decide +kernel
theorem d10_12 : decode prog_10_method_10_code 12 = .ok (.iload_n 2, 1) := by decide +kernel
theorem d10_13 : decode prog_10_method_10_code 13 = .ok (.ifCond .eq 7, 3) := by decide +kernel
theorem d10_16 : decode prog_10_method_10_code 16 = .ok (.iload_n 2, 1) := by decide +kernel
theorem d10_17 : decode prog_10_method_10_code 17 = .ok (.goto 14, 3) := by decide +kernel
theorem d10_20 : decode prog_10_method_10_code 20 = .ok (.aload_n 0, 1) := by decide +kernel
theorem d10_21 : decode prog_10_method_10_code 21 = .ok (.getfield 19, 3) := by decide +kernel
theorem d10_24 : decode prog_10_method_10_code 24 = .ok (.aload_n 1, 1) := by decide +kernel
theorem d10_25 : decode prog_10_method_10_code 25 = .ok (.getfield 19, 3) := by decide +kernel
theorem d10_28 : decode prog_10_method_10_code 28 = .ok (.invokestatic 7, 3) := by decide +kernel
theorem d10_31 : decode prog_10_method_10_code 31 = .ok (.ireturn, 1) := by decide +kernel
theorem ef_10 (m : MethodId) (a1 : Addr) (a2 : Addr) : entryFrame m #[(.ref a1), (.ref a2)] 3 = mkF m 0 #[.val (.ref a1), .val (.ref a2), .unset] [] := by first | (simp [entryFrame, mkF, argsToLocals, Value.category]; done) | rfl
def r_10 (w_high_a1 : Int64) (w_high_a2 : Int64) (w_low_a1 : Int64) (w_low_a2 : Int64) : Int32 := (if (r_7 w_high_a1 w_high_a2) = (0 : Int32) then (r_6 w_low_a1 w_low_a2) else (r_7 w_high_a1 w_high_a2))
def Q10 (Z : State) (a1 : Addr) (a2 : Addr) (w_high_a1 : Int64) (w_high_a2 : Int64) (w_low_a1 : Int64) (w_low_a2 : Int64) (h0 : Heap) (n0 : Nat) (v : Option Value) (h : Heap) (L : List Loc) : Prop := v = some (.int (r_10 w_high_a1 w_high_a2 w_low_a1 w_low_a2)) ∧ Fr n0 L ∧ h = h0
set_option maxRecDepth 65536 in
set_option maxHeartbeats 40000000 in
theorem rm10 (l : Launch) (Z : State) (a0 : Array Value) (hw : ∀ d ∈ tables_1, d.before a0 Z = true) (ws : List Jvm.Cond) (a1 : Addr) (a2 : Addr) (w_high_a1 : Int64) (w_high_a2 : Int64) (w_low_a1 : Int64) (w_low_a2 : Int64) (h0 : Heap) (n0 : Nat) (Z0 : n0 ≤ h0.size) (F_a1_high : Fld Z h0 a1 "com/example/laden_graph/ladengraph/locality/Tally" "high" "J" (.long w_high_a1)) (F_a2_high : Fld Z h0 a2 "com/example/laden_graph/ladengraph/locality/Tally" "high" "J" (.long w_high_a2)) (F_a1_low : Fld Z h0 a1 "com/example/laden_graph/ladengraph/locality/Tally" "low" "J" (.long w_low_a1)) (F_a2_low : Fld Z h0 a2 "com/example/laden_graph/ladengraph/locality/Tally" "low" "J" (.long w_low_a2)) :
    MetFree l (⟨"com/example/laden_graph/ladengraph/locality/Tally", "compareTo", "(Lcom/example/laden_graph/ladengraph/locality/Tally;)I"⟩ : MethodName) (head1 (Jvm.Cond.code (⟨"com/example/laden_graph/ladengraph/locality/Tally", "compareTo", "(Lcom/example/laden_graph/ladengraph/locality/Tally;)I"⟩ : MethodName) prog_10_method_10_code 3 (some .int) :: ws) ({ frames := 2, cells := 0, slots := 0, locals := 30 } : Room)) (fun a U => a = #[(.ref a1), (.ref a2)] ∧ Z.Warmed39 U.vm ∧ U.heap = h0) (fun _ _ _ _ _ => True) (fun _ U o U' => ∃ v L, o = .returned v ∧ Q10 Z a1 a2 w_high_a1 w_high_a2 w_low_a1 w_low_a2 h0 n0 v U'.heap L ∧ FrameEnd U o U' L ({ frames := 2, cells := 0, slots := 0, locals := 30 } : Room).cells ({ frames := 2, cells := 0, slots := 0, locals := 30 } : Room).slots) := by
  refine MetFree.of_bodySF (plainFor_of_name pn_1) hisR ?_
  intro p e s m args below meth c s₁ Bd hml0 hP hK
  obtain ⟨rfl, hZ, hh⟩ := hP
  have hx := Bd.exec
  have hby := Bd.bytes
  have hml : c.maxLocals = 3 := hml0
  have hown : s.vm.findClass "com/example/laden_graph/ladengraph/locality/Tally" = some m.cls := findClass_of_methodNamed Bd.named
  have hnm := (name_of_methodNamed Bd.named Bd.method).1
  have X0 : Stand p l e ({ frames := 2, cells := 0, slots := 0, locals := 30 } : Room) s m #[(.ref a1), (.ref a2)] below meth c s₁ [] 0 0 := Stand.of_body Bd
  have e0 : s₁.heap = h0 := by rw [← hh, Bd.state]; rfl
  have NN := Fr.nil n0
  have KK : Keep h0 h0 [] := Keep.refl h0 []
  refine own_start (ef_10 m a1 a2) ?_
  refine own_go (T' := s₁) (g' := (mkF m 1 #[.val (.ref a1), .val (.ref a2), .unset] [(.ref a1)])) (fun t k => ?_) ?_
  · show Steps p.tables e below (s₁.setTop (mkF m 0 #[.val (.ref a1), .val (.ref a2), .unset] [])) _
    refine XS.aloadN X0.here hx rfl (hb hby d10_0) rfl rfl ?_
    exact k
  obtain ⟨T1, X1, e1, st1⟩ := getF X0 hx hZ hown (host := "") (Or.inl (hw _ (List.mem_of_getElem? (i := 20) rfl))) Via.refl e0 F_a1_high (g := (mkF m 1 #[.val (.ref a1), .val (.ref a2), .unset] [(.ref a1)])) rfl rfl (hb hby d10_1)
  refine own_go st1 ?_
  show own_Go p.tables e below _ T1 (mkF m 4 #[.val (.ref a1), .val (.ref a2), .unset] [(.long w_high_a1)])
  refine own_go (T' := T1) (g' := (mkF m 5 #[.val (.ref a1), .val (.ref a2), .unset] [(.ref a2), (.long w_high_a1)])) (fun t k => ?_) ?_
  · show Steps p.tables e below (T1.setTop (mkF m 4 #[.val (.ref a1), .val (.ref a2), .unset] [(.long w_high_a1)])) _
    refine XS.aloadN X1.here hx rfl (hb hby d10_4) rfl rfl ?_
    exact k
  obtain ⟨T2, X2, e2, st2⟩ := getF X1 hx hZ hown (host := "") (Or.inl (hw _ (List.mem_of_getElem? (i := 20) rfl))) Via.refl e1 F_a2_high (g := (mkF m 5 #[.val (.ref a1), .val (.ref a2), .unset] [(.ref a2), (.long w_high_a1)])) rfl rfl (hb hby d10_5)
  refine own_go st2 ?_
  show own_Go p.tables e below _ T2 (mkF m 8 #[.val (.ref a1), .val (.ref a2), .unset] [(.long w_high_a2), (.long w_high_a1)])
  obtain ⟨_, _, ⟨T3, L3, k3, n3⟩, -, X3, ⟨Lc3, hQ3, l3, y3, z3⟩, st3⟩ := Jvm.LawKit.callS X2 hx (y := (⟨"java/lang/Long", "compare", "(JJ)I"⟩ : MethodName)) hown (mvT hZ (hw _ (List.mem_of_getElem? (i := 48) rfl))) (mvT hZ (hw _ (List.mem_of_getElem? (i := 31) rfl))) (mvT hZ (hw _ (List.mem_of_getElem? (i := 27) rfl))) (mvT hZ (hw _ (List.mem_of_getElem? (i := 32) rfl))) (by decide) (backOf (W := 0) (rm7 l Z a0 hw [] w_high_a1 w_high_a2 h0 n0 Z0 ) hZ (hw _ (List.mem_of_getElem? (i := 32) rfl)) (hw _ (List.mem_of_getElem? (i := 27) rfl)) (by decide) (by decide)) (g := (mkF m 8 #[.val (.ref a1), .val (.ref a2), .unset] [(.long w_high_a2), (.long w_high_a1)])) rfl (by rw [hml]; rfl) (argsL := [(.long w_high_a1), (.long w_high_a2)]) (rest := []) (lenOf pd_4 rfl) rfl (by show 2 * 0 + _ ≤ _; exact Nat.le_of_eq rfl) (hb hby d10_8) (fun _ _ => ⟨rfl, e2, (by decide : 0 + 0 ≤ _), (by decide : 0 + 0 ≤ _)⟩)
  dsimp only [Pt.U, Pt.locs, Pt.cells, Pt.slots] at X3 l3 y3 z3 st3 hQ3
  subst l3 y3 z3
  obtain ⟨rfl, N3q, e3⟩ := hQ3
  have NN := Fr.app NN N3q
  refine own_go st3 ?_
  show own_Go p.tables e below _ T3 (mkF m 11 #[.val (.ref a1), .val (.ref a2), .unset] [(.int (r_7 w_high_a1 w_high_a2))])
  refine own_go (T' := T3) (g' := (mkF m 13 #[.val (.ref a1), .val (.ref a2), .val (.int (r_7 w_high_a1 w_high_a2))] [(.int (r_7 w_high_a1 w_high_a2))])) (fun t k => ?_) ?_
  · show Steps p.tables e below (T3.setTop (mkF m 11 #[.val (.ref a1), .val (.ref a2), .unset] [(.int (r_7 w_high_a1 w_high_a2))])) _
    refine XS.istoreN X3.here hx rfl (hb hby d10_11) rfl (l' := #[.val (.ref a1), .val (.ref a2), .val (.int (r_7 w_high_a1 w_high_a2))]) rfl ?_
    show Steps p.tables e below (T3.setTop (mkF m 12 #[.val (.ref a1), .val (.ref a2), .val (.int (r_7 w_high_a1 w_high_a2))] [])) _
    refine XS.iloadN X3.here hx rfl (hb hby d10_12) rfl ?_
    exact k
  by_cases hc13_1 : (r_7 w_high_a1 w_high_a2) = (0 : Int32)
  · skip
    refine own_go (T' := T3) (g' := (mkF m 21 #[.val (.ref a1), .val (.ref a2), .val (.int (r_7 w_high_a1 w_high_a2))] [(.ref a1)])) (fun t k => ?_) ?_
    · show Steps p.tables e below (T3.setTop (mkF m 13 #[.val (.ref a1), .val (.ref a2), .val (.int (r_7 w_high_a1 w_high_a2))] [(.int (r_7 w_high_a1 w_high_a2))])) _
      refine XS.ifYes X3.here hx rfl (pc0 := 13) (pc' := 20) rfl (hb hby d10_13) rfl ((if0 _ _).trans (teq hc13_1).1) (by decide) (by decide) ?_
      show Steps p.tables e below (T3.setTop (mkF m 20 #[.val (.ref a1), .val (.ref a2), .val (.int (r_7 w_high_a1 w_high_a2))] [])) _
      refine XS.aloadN X3.here hx rfl (hb hby d10_20) rfl rfl ?_
      exact k
    obtain ⟨T4, X4, e4, st4⟩ := getF X3 hx hZ hown (host := "") (Or.inl (hw _ (List.mem_of_getElem? (i := 18) rfl))) Via.refl e3 F_a1_low (g := (mkF m 21 #[.val (.ref a1), .val (.ref a2), .val (.int (r_7 w_high_a1 w_high_a2))] [(.ref a1)])) rfl rfl (hb hby d10_21)
    refine own_go st4 ?_
    show own_Go p.tables e below _ T4 (mkF m 24 #[.val (.ref a1), .val (.ref a2), .val (.int (r_7 w_high_a1 w_high_a2))] [(.long w_low_a1)])
    refine own_go (T' := T4) (g' := (mkF m 25 #[.val (.ref a1), .val (.ref a2), .val (.int (r_7 w_high_a1 w_high_a2))] [(.ref a2), (.long w_low_a1)])) (fun t k => ?_) ?_
    · show Steps p.tables e below (T4.setTop (mkF m 24 #[.val (.ref a1), .val (.ref a2), .val (.int (r_7 w_high_a1 w_high_a2))] [(.long w_low_a1)])) _
      refine XS.aloadN X4.here hx rfl (hb hby d10_24) rfl rfl ?_
      exact k
    obtain ⟨T5, X5, e5, st5⟩ := getF X4 hx hZ hown (host := "") (Or.inl (hw _ (List.mem_of_getElem? (i := 18) rfl))) Via.refl e4 F_a2_low (g := (mkF m 25 #[.val (.ref a1), .val (.ref a2), .val (.int (r_7 w_high_a1 w_high_a2))] [(.ref a2), (.long w_low_a1)])) rfl rfl (hb hby d10_25)
    refine own_go st5 ?_
    show own_Go p.tables e below _ T5 (mkF m 28 #[.val (.ref a1), .val (.ref a2), .val (.int (r_7 w_high_a1 w_high_a2))] [(.long w_low_a2), (.long w_low_a1)])
    obtain ⟨_, _, ⟨T6, L6, k6, n6⟩, -, X6, ⟨Lc6, hQ6, l6, y6, z6⟩, st6⟩ := Jvm.LawKit.callS X5 hx (y := (⟨"java/lang/Long", "compareUnsigned", "(JJ)I"⟩ : MethodName)) hown (mvT hZ (hw _ (List.mem_of_getElem? (i := 25) rfl))) (mvT hZ (hw _ (List.mem_of_getElem? (i := 26) rfl))) (mvT hZ (hw _ (List.mem_of_getElem? (i := 27) rfl))) (mvT hZ (hw _ (List.mem_of_getElem? (i := 28) rfl))) (by decide) (backOf (W := 0) (rm6 l Z a0 hw [] w_low_a1 w_low_a2 h0 n0 Z0 ) hZ (hw _ (List.mem_of_getElem? (i := 28) rfl)) (hw _ (List.mem_of_getElem? (i := 27) rfl)) (by decide) (by decide)) (g := (mkF m 28 #[.val (.ref a1), .val (.ref a2), .val (.int (r_7 w_high_a1 w_high_a2))] [(.long w_low_a2), (.long w_low_a1)])) rfl (by rw [hml]; rfl) (argsL := [(.long w_low_a1), (.long w_low_a2)]) (rest := []) (lenOf pd_4 rfl) rfl (by show 2 * 0 + _ ≤ _; exact Nat.le_of_eq rfl) (hb hby d10_28) (fun _ _ => ⟨rfl, e5, (by decide : 0 + 0 ≤ _), (by decide : 0 + 0 ≤ _)⟩)
    dsimp only [Pt.U, Pt.locs, Pt.cells, Pt.slots] at X6 l6 y6 z6 st6 hQ6
    subst l6 y6 z6
    obtain ⟨rfl, N6q, e6⟩ := hQ6
    have NN := Fr.app NN N6q
    refine own_go st6 ?_
    show own_Go p.tables e below _ T6 (mkF m 31 #[.val (.ref a1), .val (.ref a2), .val (.int (r_7 w_high_a1 w_high_a2))] [(.int (r_6 w_low_a1 w_low_a2))])
    obtain ⟨fs, hr, hrun, hended, hW, hsame⟩ := X6.leave (v := some (.int (r_6 w_low_a1 w_low_a2))) (fun h => by rw [Bd.returns] at h; cases h)
    refine ⟨_, _, ?_, hrun, hended, _, _, rfl, ?_, ⟨_, rfl⟩, hW, hsame.mono (by decide) (by decide)⟩
    · exact retI X6 hx Bd.returns (hb hby d10_31) hr
    · show Q10 Z a1 a2 w_high_a1 w_high_a2 w_low_a1 w_low_a2 h0 n0 _ T6.heap _
      rw [e6]
      exact ⟨(by simp only [r_10, if_pos hc13_1]), NN, rfl⟩
  · skip
    refine own_go (T' := T3) (g' := (mkF m 31 #[.val (.ref a1), .val (.ref a2), .val (.int (r_7 w_high_a1 w_high_a2))] [(.int (r_7 w_high_a1 w_high_a2))])) (fun t k => ?_) ?_
    · show Steps p.tables e below (T3.setTop (mkF m 13 #[.val (.ref a1), .val (.ref a2), .val (.int (r_7 w_high_a1 w_high_a2))] [(.int (r_7 w_high_a1 w_high_a2))])) _
      refine XS.ifNo X3.here hx rfl (hb hby d10_13) rfl ((if0 _ _).trans (feq hc13_1).1) ?_
      show Steps p.tables e below (T3.setTop (mkF m 16 #[.val (.ref a1), .val (.ref a2), .val (.int (r_7 w_high_a1 w_high_a2))] [])) _
      refine XS.iloadN X3.here hx rfl (hb hby d10_16) rfl ?_
      show Steps p.tables e below (T3.setTop (mkF m 17 #[.val (.ref a1), .val (.ref a2), .val (.int (r_7 w_high_a1 w_high_a2))] [(.int (r_7 w_high_a1 w_high_a2))])) _
      refine XS.goto X3.here hx rfl (pc0 := 17) (pc' := 31) rfl (hb hby d10_17) (by decide) (by decide) ?_
      exact k
    obtain ⟨fs, hr, hrun, hended, hW, hsame⟩ := X3.leave (v := some (.int (r_7 w_high_a1 w_high_a2))) (fun h => by rw [Bd.returns] at h; cases h)
    refine ⟨_, _, ?_, hrun, hended, _, _, rfl, ?_, ⟨_, rfl⟩, hW, hsame.mono (by decide) (by decide)⟩
    · exact retI X3 hx Bd.returns (hb hby d10_31) hr
    · show Q10 Z a1 a2 w_high_a1 w_high_a2 w_low_a1 w_low_a2 h0 n0 _ T3.heap _
      rw [e3]
      exact ⟨(by simp only [r_10, if_neg hc13_1]), NN, rfl⟩
theorem own_pl_ult (x y : Int64) : (x + (-9223372036854775808 : Int64)) < (y + (-9223372036854775808 : Int64)) ↔ x.toInt % 18446744073709551616 < y.toInt % 18446744073709551616 := by
  have e1 := c_ladd x (-9223372036854775808 : Int64)
  have e2 := c_ladd y (-9223372036854775808 : Int64)
  have r1 := rng64 (x + (-9223372036854775808 : Int64))
  have r2 := rng64 (y + (-9223372036854775808 : Int64))
  have r3 := rng64 x
  have r4 := rng64 y
  have k : (-9223372036854775808 : Int64).toInt = -9223372036854775808 := rfl
  rw [Int64.lt_iff_toInt_lt]
  rw [k] at e1 e2
  omega
theorem own_pl_neg (x y : Int64) : r_6 x y < (0 : Int32) ↔ x.toInt % 18446744073709551616 < y.toInt % 18446744073709551616 := by
  rw [← own_pl_ult]
  simp only [r_6, r_7]
  by_cases h : (x + (-9223372036854775808 : Int64)) < (y + (-9223372036854775808 : Int64))
  · simp only [if_pos h]; exact ⟨fun _ => h, fun _ => by decide⟩
  · by_cases h2 : (x + (-9223372036854775808 : Int64)) = (y + (-9223372036854775808 : Int64))
    · simp only [if_neg h, if_pos h2]; exact ⟨fun q => absurd q (by decide), fun q => absurd q h⟩
    · simp only [if_neg h, if_neg h2]; exact ⟨fun q => absurd q (by decide), fun q => absurd q h⟩
theorem own_pl_bit (x y : Int64) (b : Int64) (hb : b = if r_6 x y < (0 : Int32) then (1 : Int64) else (0 : Int64)) : (b.toInt = 1 ∧ x.toInt % 18446744073709551616 < y.toInt % 18446744073709551616) ∨ (b.toInt = 0 ∧ ¬ x.toInt % 18446744073709551616 < y.toInt % 18446744073709551616) := by
  by_cases h : r_6 x y < (0 : Int32)
  · rw [if_pos h] at hb; rw [hb]; exact Or.inl ⟨rfl, (own_pl_neg x y).mp h⟩
  · rw [if_neg h] at hb; rw [hb]; exact Or.inr ⟨rfl, fun q => h ((own_pl_neg x y).mpr q)⟩
def own_pl_N (h l : Int64) : Int := h.toInt * 18446744073709551616 + l.toInt % 18446744073709551616
theorem own_pl_cmp (a b : Int64) : (a.toInt < b.toInt ∧ r_7 a b = -1) ∨ (a = b ∧ r_7 a b = 0) ∨ (b.toInt < a.toInt ∧ r_7 a b = 1) := by
  simp only [r_7]
  by_cases h : a < b
  · rw [if_pos h]; rw [Int64.lt_iff_toInt_lt] at h; exact Or.inl ⟨h, rfl⟩
  · rw [if_neg h]
    by_cases h2 : a = b
    · rw [if_pos h2]; exact Or.inr (Or.inl ⟨h2, rfl⟩)
    · rw [if_neg h2]
      rw [Int64.lt_iff_toInt_lt] at h
      rw [← Int64.toInt_inj] at h2
      exact Or.inr (Or.inr ⟨by omega, rfl⟩)
theorem own_pl_tri (h1 h2 l1 l2 : Int64) : (own_pl_N h1 l1 < own_pl_N h2 l2 ∧ r_10 h1 h2 l1 l2 = -1) ∨ (own_pl_N h1 l1 = own_pl_N h2 l2 ∧ r_10 h1 h2 l1 l2 = 0) ∨ (own_pl_N h2 l2 < own_pl_N h1 l1 ∧ r_10 h1 h2 l1 l2 = 1) := by
  simp only [r_10, own_pl_N]
  have r1 := rng64 l1
  have r2 := rng64 l2
  rcases own_pl_cmp h1 h2 with ⟨h, e⟩ | ⟨h, e⟩ | ⟨h, e⟩
  · rw [e, if_neg (by decide)]; exact Or.inl ⟨by omega, rfl⟩
  · rw [e, if_pos rfl, h]
    simp only [r_6]
    have u1 := own_pl_ult l1 l2
    have u2 := own_pl_ult l2 l1
    rw [Int64.lt_iff_toInt_lt] at u1 u2
    rcases own_pl_cmp (l1 + (-9223372036854775808 : Int64)) (l2 + (-9223372036854775808 : Int64)) with ⟨g, d⟩ | ⟨g, d⟩ | ⟨g, d⟩
    · exact Or.inl ⟨by omega, d⟩
    · rw [g] at u1 u2; exact Or.inr (Or.inl ⟨by omega, d⟩)
    · exact Or.inr (Or.inr ⟨by omega, d⟩)
  · rw [e, if_neg (by decide)]; exact Or.inr (Or.inr ⟨by omega, rfl⟩)
theorem own_pl_sar (v : Int64) : (v >>> ((63 : Int32) &&& 0x3f).toInt64).toInt = if v.toInt < 0 then -1 else 0 := by
  have h := c_lshr v (63 : Int32) 63 (by decide)
  have r := rng64 v
  rw [h]
  split <;> omega
theorem own_pl_add (h l v : Int64) (b : Int) (hb : b ≤ 1000) (h1 : -b ≤ h.toInt) (h2 : h.toInt ≤ b) : own_pl_N (h + ((v >>> ((63 : Int32) &&& 0x3f).toInt64) + (r_5 l (l + v)))) (l + v) = own_pl_N h l + v.toInt ∧ -(b + 2) ≤ (h + ((v >>> ((63 : Int32) &&& 0x3f).toInt64) + (r_5 l (l + v)))).toInt ∧ (h + ((v >>> ((63 : Int32) &&& 0x3f).toInt64) + (r_5 l (l + v)))).toInt ≤ b + 2 := by
  have s := own_pl_sar v
  generalize (v >>> ((63 : Int32) &&& 0x3f).toInt64) = sv at *
  generalize hc : r_5 l (l + v) = c
  have d := own_pl_bit (l + v) l c hc.symm
  have e1 := c_ladd l v
  have e2 := c_ladd sv c
  have e3 := c_ladd h (sv + c)
  have r1 := rng64 (l + v)
  have r2 := rng64 (sv + c)
  have r3 := rng64 (h + (sv + c))
  have r4 := rng64 l
  have r5 := rng64 v
  simp only [own_pl_N]
  split at s <;> omega
theorem own_pl_sub (h l v : Int64) (b : Int) (hb : b ≤ 1000) (h1 : -b ≤ h.toInt) (h2 : h.toInt ≤ b) : own_pl_N (u_9_a1_high (v >>> ((63 : Int32) &&& 0x3f).toInt64) v l h) (l - v) = own_pl_N h l - v.toInt := by
  have s := own_pl_sar v
  simp only [u_9_a1_high]
  generalize (v >>> ((63 : Int32) &&& 0x3f).toInt64) = sv at *
  generalize hc : (if r_6 l v < (0 : Int32) then (1 : Int64) else (0 : Int64)) = c
  have d := own_pl_bit l v c hc.symm
  have e1 := c_lsub l v
  have e2 := c_ladd sv c
  have e3 := c_lsub h (sv + c)
  have r1 := rng64 (l - v)
  have r2 := rng64 (sv + c)
  have r3 := rng64 (h - (sv + c))
  have r4 := rng64 l
  have r5 := rng64 v
  simp only [own_pl_N]
  split at s <;> omega
theorem own_pl_not (v : Int64) : (v ^^^ (-1 : Int64)).toInt = -v.toInt - 1 := by
  have e : (v ^^^ (-1 : Int64)) = ~~~v := by
    apply Int64.toBitVec_inj.mp
    rw [Int64.toBitVec_xor, Int64.toBitVec_not]
    exact BitVec.xor_allOnes
  rw [e]
  have := Int64.not_eq_neg_sub (a := v)
  rw [this]
  have a1 := c_lneg v
  have a2 := c_lsub (-v) 1
  have r1 := rng64 v
  have r2 := rng64 (-v - 1)
  have k1 : (1 : Int64).toInt = 1 := rfl
  omega
theorem pn_2 : plainName "com/example/laden_graph/ladengraph/locality/TallySubtract264PinLaw" = true := by first | (simp [plainName, overriddenIn]; done) | decide +kernel
theorem pd_0 : parseMethodDescriptor "()V" = some ⟨[], none⟩ := by decide +kernel
theorem pd_1 : parseMethodDescriptor "(J)V" = some ⟨[.long], none⟩ := by decide +kernel
theorem pd_5 : parseMethodDescriptor "(Lcom/example/laden_graph/ladengraph/locality/Tally;)I" = some ⟨[(.object "com/example/laden_graph/ladengraph/locality/Tally")], some .int⟩ := by decide +kernel
theorem ef_0 (m : MethodId) (q1 : Int64) (q2 : Int64) (q3 : Int64) : entryFrame m #[(.long q1), (.long q2), (.long q3)] maxLocals = mkF m 0 #[.val (.long q1), .second, .val (.long q2), .second, .val (.long q3), .second, .unset, .unset, .unset, .unset, .unset] [] := by first | (simp [entryFrame, mkF, argsToLocals, Value.category, maxLocals]; done) | rfl
def Q0 (Z : State) (q1 : Int64) (q2 : Int64) (q3 : Int64) (h0 : Heap) (n0 : Nat) (v : Option Value) (h : Heap) (L : List Loc) : Prop := v = some (.int 1) ∧ Fr n0 L
theorem own_yes_x (q1 : Int64) (q2 : Int64) (q3 : Int64) (j11 : Int32) (j12 : Int32) (j17 : Int32) (j19 : Int32) (hj11 : j11 = (r_10 (u_9_a1_high (q3 >>> ((63 : Int32) &&& 0x3f).toInt64) q3 (((0 : Int64) + q1) + q2) (((0 : Int64) + ((q1 >>> ((63 : Int32) &&& 0x3f).toInt64) + (r_5 (0 : Int64) ((0 : Int64) + q1)))) + ((q2 >>> ((63 : Int32) &&& 0x3f).toInt64) + (r_5 ((0 : Int64) + q1) (((0 : Int64) + q1) + q2))))) (((0 : Int64) + ((q1 >>> ((63 : Int32) &&& 0x3f).toInt64) + (r_5 (0 : Int64) ((0 : Int64) + q1)))) + ((q2 >>> ((63 : Int32) &&& 0x3f).toInt64) + (r_5 ((0 : Int64) + q1) (((0 : Int64) + q1) + q2)))) ((((0 : Int64) + q1) + q2) - q3) (((0 : Int64) + q1) + q2))) (hj12 : j12 = (if (0 : Int64) < q3 then (if j11 < (0 : Int32) then (1 : Int32) else (0 : Int32)) else (if q3 < (0 : Int64) then (if (0 : Int32) < j11 then (1 : Int32) else (0 : Int32)) else (if j11 = (0 : Int32) then (1 : Int32) else (0 : Int32))))) (hj17 : j17 = (if (r_10 (u_9_a1_high (q3 >>> ((63 : Int32) &&& 0x3f).toInt64) q3 (((0 : Int64) + q1) + q2) (((0 : Int64) + ((q1 >>> ((63 : Int32) &&& 0x3f).toInt64) + (r_5 (0 : Int64) ((0 : Int64) + q1)))) + ((q2 >>> ((63 : Int32) &&& 0x3f).toInt64) + (r_5 ((0 : Int64) + q1) (((0 : Int64) + q1) + q2))))) (((((0 : Int64) + ((q1 >>> ((63 : Int32) &&& 0x3f).toInt64) + (r_5 (0 : Int64) ((0 : Int64) + q1)))) + ((q2 >>> ((63 : Int32) &&& 0x3f).toInt64) + (r_5 ((0 : Int64) + q1) (((0 : Int64) + q1) + q2)))) + (((q3 ^^^ (-1 : Int64)) >>> ((63 : Int32) &&& 0x3f).toInt64) + (r_5 (((0 : Int64) + q1) + q2) ((((0 : Int64) + q1) + q2) + (q3 ^^^ (-1 : Int64)))))) + (((1 : Int64) >>> ((63 : Int32) &&& 0x3f).toInt64) + (r_5 ((((0 : Int64) + q1) + q2) + (q3 ^^^ (-1 : Int64))) (((((0 : Int64) + q1) + q2) + (q3 ^^^ (-1 : Int64))) + (1 : Int64))))) ((((0 : Int64) + q1) + q2) - q3) (((((0 : Int64) + q1) + q2) + (q3 ^^^ (-1 : Int64))) + (1 : Int64))) = (0 : Int32) then (1 : Int32) else (0 : Int32))) (hj19 : j19 = (if j12 = (0 : Int32) then (0 : Int32) else (if j17 = (0 : Int32) then (0 : Int32) else (1 : Int32)))) : (nar .boolean j19) = 1 := by
  generalize hH : (((0 : Int64) + ((q1 >>> ((63 : Int32) &&& 0x3f).toInt64) + (r_5 (0 : Int64) ((0 : Int64) + q1)))) + ((q2 >>> ((63 : Int32) &&& 0x3f).toInt64) + (r_5 ((0 : Int64) + q1) (((0 : Int64) + q1) + q2)))) = H at *
  have a1 := own_pl_add 0 0 q1 0 (by decide) (by decide) (by decide)
  generalize hH1 : ((0 : Int64) + ((q1 >>> ((63 : Int32) &&& 0x3f).toInt64) + (r_5 (0 : Int64) ((0 : Int64) + q1)))) = H1 at *
  generalize hL1 : (0 : Int64) + q1 = L1 at *
  have a2 := own_pl_add H1 L1 q2 2 (by decide) (by omega) (by omega)
  generalize hL : L1 + q2 = L at *
  rw [hH] at a2
  have t := own_pl_sub H L q3 4 (by decide) (by omega) (by omega)
  generalize u_9_a1_high (q3 >>> ((63 : Int32) &&& 0x3f).toInt64) q3 L H = TH at *
  generalize L - q3 = TL at *
  have a3 := own_pl_add H L (q3 ^^^ (-1 : Int64)) 4 (by decide) (by omega) (by omega)
  have nt := own_pl_not q3
  generalize (q3 ^^^ (-1 : Int64)) = nv at *
  generalize hL3 : L + nv = L3 at *
  generalize hH3 : (H + ((nv >>> ((63 : Int32) &&& 0x3f).toInt64) + (r_5 L L3))) = H3 at *
  have a4 := own_pl_add H3 L3 1 6 (by decide) (by omega) (by omega)
  generalize hL4 : L3 + (1 : Int64) = L4 at *
  generalize hH4 : (H3 + (((1 : Int64) >>> ((63 : Int32) &&& 0x3f).toInt64) + (r_5 L3 L4))) = H4 at *
  have k0 : (0 : Int64).toInt = 0 := rfl
  have k1 : (1 : Int64).toInt = 1 := rfl
  have c1 := own_pl_tri TH H TL L
  have c2 := own_pl_tri TH H4 TL L4
  rw [← hj11] at c1
  have s17 : j17 = 1 := by
    rcases c2 with ⟨g, e⟩ | ⟨g, e⟩ | ⟨g, e⟩
    · omega
    · rw [hj17, e, if_pos rfl]
    · omega
  have s12 : j12 = 1 := by
    rw [hj12]
    by_cases p : (0 : Int64) < q3
    · rw [if_pos p]
      rw [Int64.lt_iff_toInt_lt] at p
      rcases c1 with ⟨g, e⟩ | ⟨g, e⟩ | ⟨g, e⟩
      · rw [e]; decide
      · omega
      · omega
    · rw [if_neg p]
      rw [Int64.lt_iff_toInt_lt] at p
      by_cases n : q3 < (0 : Int64)
      · rw [if_pos n]
        rw [Int64.lt_iff_toInt_lt] at n
        rcases c1 with ⟨g, e⟩ | ⟨g, e⟩ | ⟨g, e⟩
        · omega
        · omega
        · rw [e]; decide
      · rw [if_neg n]
        rw [Int64.lt_iff_toInt_lt] at n
        rcases c1 with ⟨g, e⟩ | ⟨g, e⟩ | ⟨g, e⟩
        · omega
        · rw [e]; decide
        · omega
  rw [hj19, s12, s17]
  decide
set_option maxRecDepth 65536 in
set_option maxHeartbeats 40000000 in
theorem rm0 (l : Launch) (Z : State) (a0 : Array Value) (hw : ∀ d ∈ tables_1, d.before a0 Z = true) (ws : List Jvm.Cond) (q1 : Int64) (q2 : Int64) (q3 : Int64) (h0 : Heap) (n0 : Nat) (Z0 : n0 ≤ h0.size) :
    MetFree l x (head1 (Jvm.Cond.code x code maxLocals ret :: ws) room_1) (fun a U => a = #[(.long q1), (.long q2), (.long q3)] ∧ Z.Warmed39 U.vm ∧ U.heap = h0) (fun _ _ _ _ _ => True) (fun _ U o U' => ∃ v L, o = .returned v ∧ Q0 Z q1 q2 q3 h0 n0 v U'.heap L ∧ FrameEnd U o U' L room_1.cells room_1.slots) := by
  refine MetFree.of_bodySF (plainFor_of_name pn_2) hisR ?_
  intro p e s m args below meth c s₁ Bd hml0 hP hK
  obtain ⟨rfl, hZ, hh⟩ := hP
  have hx := Bd.exec
  have hby := Bd.bytes
  have hml : c.maxLocals = 11 := hml0
  have hown : s.vm.findClass "com/example/laden_graph/ladengraph/locality/TallySubtract264PinLaw" = some m.cls := findClass_of_methodNamed Bd.named
  have hnm := (name_of_methodNamed Bd.named Bd.method).1
  have X0 : Stand p l e room_1 s m #[(.long q1), (.long q2), (.long q3)] below meth c s₁ [] 0 0 := Stand.of_body Bd
  have e0 : s₁.heap = h0 := by rw [← hh, Bd.state]; rfl
  have NN := Fr.nil n0
  have KK : Keep h0 h0 [] := Keep.refl h0 []
  refine own_start (ef_0 m q1 q2 q3) ?_
  obtain ⟨T1, h1, X1, e1, E1, A1, D1, -, st1⟩ := newO X0 hx hZ hown (hw _ (List.mem_of_getElem? (i := 0) rfl)) (hw _ (List.mem_of_getElem? (i := 1) rfl)) (hw _ (List.mem_of_getElem? (i := 2) rfl)) e0 (g := (mkF m 0 #[.val (.long q1), .second, .val (.long q2), .second, .val (.long q3), .second, .unset, .unset, .unset, .unset, .unset] [])) rfl (hb hby at_0) (by decide) (by decide)
  obtain ⟨b1, g1⟩ : ∃ z, z = h0.size := ⟨_, rfl⟩
  rw [← g1] at A1 D1 st1
  have g_b1 : n0 ≤ b1 := Nat.le_trans Z0 (Nat.le_of_eq g1.symm)
  have sz_b1 : h0.size ≤ b1 := Nat.le_trans KK.1 (Nat.le_of_eq g1.symm)
  have Z0 := Nat.le_trans Z0 E1.1
  have KK := KK.ext E1
  have E_b1 := A1
  have F_b1_low : Fld Z h1 b1 "com/example/laden_graph/ladengraph/locality/Tally" "low" "J" (.long (0 : Int64)) := D1 (Or.inl (hw _ (List.mem_of_getElem? (i := 19) rfl))) (ty := .long) (by decide)
  have F_b1_high : Fld Z h1 b1 "com/example/laden_graph/ladengraph/locality/Tally" "high" "J" (.long (0 : Int64)) := D1 (Or.inl (hw _ (List.mem_of_getElem? (i := 21) rfl))) (ty := .long) (by decide)
  refine own_go st1 ?_
  show own_Go p.tables e below _ T1 (mkF m 3 #[.val (.long q1), .second, .val (.long q2), .second, .val (.long q3), .second, .unset, .unset, .unset, .unset, .unset] [(.ref b1)])
  refine own_go (T' := T1) (g' := (mkF m 4 #[.val (.long q1), .second, .val (.long q2), .second, .val (.long q3), .second, .unset, .unset, .unset, .unset, .unset] [(.ref b1), (.ref b1)])) (fun t k => ?_) ?_
  · show Steps p.tables e below (T1.setTop (mkF m 3 #[.val (.long q1), .second, .val (.long q2), .second, .val (.long q3), .second, .unset, .unset, .unset, .unset, .unset] [(.ref b1)])) _
    refine XS.dup X1.here hx rfl (hb hby at_3) rfl rfl ?_
    exact k
  obtain ⟨_, _, ⟨T2, L2, k2, n2⟩, -, X2, ⟨Lc2, hQ2, l2, y2, z2⟩, st2⟩ := X1.specialBack hx (y := (⟨"com/example/laden_graph/ladengraph/locality/Tally", "<init>", "()V"⟩ : MethodName)) rfl hown (mvT hZ (hw _ (List.mem_of_getElem? (i := 3) rfl))) (mvT hZ (hw _ (List.mem_of_getElem? (i := 4) rfl))) (mvT hZ (hw _ (List.mem_of_getElem? (i := 5) rfl))) (by decide) (backOf (W := 1) (rm1 l Z a0 hw [] b1 h1 n0 Z0 ) hZ (hw _ (List.mem_of_getElem? (i := 5) rfl)) (hw _ (List.mem_of_getElem? (i := 2) rfl)) (by decide) (by decide)) (g := (mkF m 4 #[.val (.long q1), .second, .val (.long q2), .second, .val (.long q3), .second, .unset, .unset, .unset, .unset, .unset] [(.ref b1), (.ref b1)])) rfl (by rw [hml]; rfl) (Steps.refl _) (a := b1) (argsL := []) (rest := [(.ref b1)]) (lenOf pd_0 rfl) rfl (by show 2 * 0 + _ ≤ _; exact Nat.le_of_eq rfl) (hb hby at_4) (fun _ _ => ⟨rfl, e1, (by decide : 1 + 0 ≤ _), (by decide : 2 + 0 ≤ _)⟩)
  dsimp only [Pt.U, Pt.locs, Pt.cells, Pt.slots] at X2 l2 y2 z2 st2 hQ2
  subst l2 y2 z2
  obtain ⟨rfl, N2q, e2⟩ := hQ2
  have NN := Fr.app NN N2q
  refine own_go (fun t k => st2.trans k) ?_
  show own_Go p.tables e below _ T2 (mkF m 7 #[.val (.long q1), .second, .val (.long q2), .second, .val (.long q3), .second, .unset, .unset, .unset, .unset, .unset] [(.ref b1)])
  refine own_go (T' := T2) (g' := (mkF m 12 #[.val (.long q1), .second, .val (.long q2), .second, .val (.long q3), .second, .val (.ref b1), .unset, .unset, .unset, .unset] [(.long q1), (.ref b1)])) (fun t k => ?_) ?_
  · show Steps p.tables e below (T2.setTop (mkF m 7 #[.val (.long q1), .second, .val (.long q2), .second, .val (.long q3), .second, .unset, .unset, .unset, .unset, .unset] [(.ref b1)])) _
    refine XS.astore X2.here hx rfl (hb hby at_7) rfl rfl (l' := #[.val (.long q1), .second, .val (.long q2), .second, .val (.long q3), .second, .val (.ref b1), .unset, .unset, .unset, .unset]) rfl ?_
    show Steps p.tables e below (T2.setTop (mkF m 9 #[.val (.long q1), .second, .val (.long q2), .second, .val (.long q3), .second, .val (.ref b1), .unset, .unset, .unset, .unset] [])) _
    refine XS.aload X2.here hx rfl (hb hby at_9) rfl rfl ?_
    show Steps p.tables e below (T2.setTop (mkF m 11 #[.val (.long q1), .second, .val (.long q2), .second, .val (.long q3), .second, .val (.ref b1), .unset, .unset, .unset, .unset] [(.ref b1)])) _
    refine XS.lloadN X2.here hx rfl (hb hby at_11) rfl ?_
    exact k
  obtain ⟨cq3, kq3, q3a, q3b, q3c⟩ := isOf hZ e2 E_b1
  obtain ⟨_, _, ⟨T3, L3, k3, n3⟩, -, X3, ⟨Lc3, hQ3, l3, y3, z3⟩, st3⟩ := X2.virtualBack hx (y := (⟨"com/example/laden_graph/ladengraph/locality/Tally", "add", "(J)V"⟩ : MethodName)) (z := (⟨"com/example/laden_graph/ladengraph/locality/Tally", "add", "(J)V"⟩ : MethodName)) hown (mvT hZ (hw _ (List.mem_of_getElem? (i := 9) rfl))) (mvT hZ (hw _ (List.mem_of_getElem? (i := 10) rfl))) (notFace_of_selects (args := #[]) (mvT hZ (hw _ (List.mem_of_getElem? (i := 12) rfl)))) (mvT hZ (hw _ (List.mem_of_getElem? (i := 12) rfl))) (mvT hZ (hw _ (List.mem_of_getElem? (i := 11) rfl))) (by decide) (backOf (W := 0) (rm3 l Z a0 hw [] b1 q1 (0 : Int64) (0 : Int64) h1 n0 Z0 F_b1_low F_b1_high E_b1 g_b1) hZ (hw _ (List.mem_of_getElem? (i := 13) rfl)) (hw _ (List.mem_of_getElem? (i := 2) rfl)) (by decide) (by decide)) q3a q3c (g := (mkF m 12 #[.val (.long q1), .second, .val (.long q2), .second, .val (.long q3), .second, .val (.ref b1), .unset, .unset, .unset, .unset] [(.long q1), (.ref b1)])) rfl (by rw [hml]; rfl) (Steps.refl _) (argsL := [(.long q1)]) (rest := []) (lenOf pd_1 rfl) rfl (by show 2 * 0 + _ ≤ _; exact Nat.le_of_eq rfl) (hb hby at_12) (fun _ _ => ⟨rfl, e2, (by decide : 1 + 0 ≤ _), (by decide : 2 + 0 ≤ _)⟩)
  dsimp only [Pt.U, Pt.locs, Pt.cells, Pt.slots] at X3 l3 y3 z3 st3 hQ3
  subst l3 y3 z3
  obtain ⟨rfl, N3q, K3, Q3_0, Q3_1, Q3_2⟩ := hQ3
  have E_b1 := Q3_0
  have F_b1_low := Q3_1
  have F_b1_high := Q3_2
  have Z0 := Nat.le_trans Z0 K3.1
  have KK := KK.trans K3 (allS (Or.inr sz_b1) all0)
  have NN := Fr.app NN N3q
  refine own_go (fun t k => st3.trans k) ?_
  show own_Go p.tables e below _ T3 (mkF m 15 #[.val (.long q1), .second, .val (.long q2), .second, .val (.long q3), .second, .val (.ref b1), .unset, .unset, .unset, .unset] [])
  refine own_go (T' := T3) (g' := (mkF m 18 #[.val (.long q1), .second, .val (.long q2), .second, .val (.long q3), .second, .val (.ref b1), .unset, .unset, .unset, .unset] [(.long q2), (.ref b1)])) (fun t k => ?_) ?_
  · show Steps p.tables e below (T3.setTop (mkF m 15 #[.val (.long q1), .second, .val (.long q2), .second, .val (.long q3), .second, .val (.ref b1), .unset, .unset, .unset, .unset] [])) _
    refine XS.aload X3.here hx rfl (hb hby at_15) rfl rfl ?_
    show Steps p.tables e below (T3.setTop (mkF m 17 #[.val (.long q1), .second, .val (.long q2), .second, .val (.long q3), .second, .val (.ref b1), .unset, .unset, .unset, .unset] [(.ref b1)])) _
    refine XS.lloadN X3.here hx rfl (hb hby at_17) rfl ?_
    exact k
  obtain ⟨cq4, kq4, q4a, q4b, q4c⟩ := isOf hZ rfl E_b1
  obtain ⟨_, _, ⟨T4, L4, k4, n4⟩, -, X4, ⟨Lc4, hQ4, l4, y4, z4⟩, st4⟩ := X3.virtualBack hx (y := (⟨"com/example/laden_graph/ladengraph/locality/Tally", "add", "(J)V"⟩ : MethodName)) (z := (⟨"com/example/laden_graph/ladengraph/locality/Tally", "add", "(J)V"⟩ : MethodName)) hown (mvT hZ (hw _ (List.mem_of_getElem? (i := 9) rfl))) (mvT hZ (hw _ (List.mem_of_getElem? (i := 10) rfl))) (notFace_of_selects (args := #[]) (mvT hZ (hw _ (List.mem_of_getElem? (i := 12) rfl)))) (mvT hZ (hw _ (List.mem_of_getElem? (i := 12) rfl))) (mvT hZ (hw _ (List.mem_of_getElem? (i := 11) rfl))) (by decide) (backOf (W := 0) (rm3 l Z a0 hw [] b1 q2 ((0 : Int64) + q1) ((0 : Int64) + ((q1 >>> ((63 : Int32) &&& 0x3f).toInt64) + (r_5 (0 : Int64) ((0 : Int64) + q1)))) T3.heap n0 Z0 F_b1_low F_b1_high E_b1 g_b1) hZ (hw _ (List.mem_of_getElem? (i := 13) rfl)) (hw _ (List.mem_of_getElem? (i := 2) rfl)) (by decide) (by decide)) q4a q4c (g := (mkF m 18 #[.val (.long q1), .second, .val (.long q2), .second, .val (.long q3), .second, .val (.ref b1), .unset, .unset, .unset, .unset] [(.long q2), (.ref b1)])) rfl (by rw [hml]; rfl) (Steps.refl _) (argsL := [(.long q2)]) (rest := []) (lenOf pd_1 rfl) rfl (by show 2 * 0 + _ ≤ _; exact Nat.le_of_eq rfl) (hb hby at_18) (fun _ _ => ⟨rfl, rfl, (by decide : 1 + 0 ≤ _), (by decide : 2 + 0 ≤ _)⟩)
  dsimp only [Pt.U, Pt.locs, Pt.cells, Pt.slots] at X4 l4 y4 z4 st4 hQ4
  subst l4 y4 z4
  obtain ⟨rfl, N4q, K4, Q4_0, Q4_1, Q4_2⟩ := hQ4
  have E_b1 := Q4_0
  have F_b1_low := Q4_1
  have F_b1_high := Q4_2
  have Z0 := Nat.le_trans Z0 K4.1
  have KK := KK.trans K4 (allS (Or.inr sz_b1) all0)
  have NN := Fr.app NN N4q
  refine own_go (fun t k => st4.trans k) ?_
  show own_Go p.tables e below _ T4 (mkF m 21 #[.val (.long q1), .second, .val (.long q2), .second, .val (.long q3), .second, .val (.ref b1), .unset, .unset, .unset, .unset] [])
  obtain ⟨T5, h5, X5, e5, E5, A5, D5, -, st5⟩ := newO X4 hx hZ hown (hw _ (List.mem_of_getElem? (i := 0) rfl)) (hw _ (List.mem_of_getElem? (i := 1) rfl)) (hw _ (List.mem_of_getElem? (i := 2) rfl)) rfl (g := (mkF m 21 #[.val (.long q1), .second, .val (.long q2), .second, .val (.long q3), .second, .val (.ref b1), .unset, .unset, .unset, .unset] [])) rfl (hb hby at_21) (by decide) (by decide)
  obtain ⟨b5, g5⟩ : ∃ z, z = T4.heap.size := ⟨_, rfl⟩
  rw [← g5] at A5 D5 st5
  have g_b5 : n0 ≤ b5 := Nat.le_trans Z0 (Nat.le_of_eq g5.symm)
  have sz_b5 : h0.size ≤ b5 := Nat.le_trans KK.1 (Nat.le_of_eq g5.symm)
  have ne_b1_b5 : b1 ≠ b5 := Nat.ne_of_lt (Nat.lt_of_lt_of_le E_b1.lt (Nat.le_of_eq g5.symm))
  have E_b1 := E_b1.ext E5
  have F_b1_low := F_b1_low.ext E5
  have F_b1_high := F_b1_high.ext E5
  have Z0 := Nat.le_trans Z0 E5.1
  have KK := KK.ext E5
  have E_b5 := A5
  have F_b5_low : Fld Z h5 b5 "com/example/laden_graph/ladengraph/locality/Tally" "low" "J" (.long (0 : Int64)) := D5 (Or.inl (hw _ (List.mem_of_getElem? (i := 19) rfl))) (ty := .long) (by decide)
  have F_b5_high : Fld Z h5 b5 "com/example/laden_graph/ladengraph/locality/Tally" "high" "J" (.long (0 : Int64)) := D5 (Or.inl (hw _ (List.mem_of_getElem? (i := 21) rfl))) (ty := .long) (by decide)
  refine own_go st5 ?_
  show own_Go p.tables e below _ T5 (mkF m 24 #[.val (.long q1), .second, .val (.long q2), .second, .val (.long q3), .second, .val (.ref b1), .unset, .unset, .unset, .unset] [(.ref b5)])
  refine own_go (T' := T5) (g' := (mkF m 25 #[.val (.long q1), .second, .val (.long q2), .second, .val (.long q3), .second, .val (.ref b1), .unset, .unset, .unset, .unset] [(.ref b5), (.ref b5)])) (fun t k => ?_) ?_
  · show Steps p.tables e below (T5.setTop (mkF m 24 #[.val (.long q1), .second, .val (.long q2), .second, .val (.long q3), .second, .val (.ref b1), .unset, .unset, .unset, .unset] [(.ref b5)])) _
    refine XS.dup X5.here hx rfl (hb hby at_24) rfl rfl ?_
    exact k
  obtain ⟨_, _, ⟨T6, L6, k6, n6⟩, -, X6, ⟨Lc6, hQ6, l6, y6, z6⟩, st6⟩ := X5.specialBack hx (y := (⟨"com/example/laden_graph/ladengraph/locality/Tally", "<init>", "()V"⟩ : MethodName)) rfl hown (mvT hZ (hw _ (List.mem_of_getElem? (i := 3) rfl))) (mvT hZ (hw _ (List.mem_of_getElem? (i := 4) rfl))) (mvT hZ (hw _ (List.mem_of_getElem? (i := 5) rfl))) (by decide) (backOf (W := 1) (rm1 l Z a0 hw [] b5 h5 n0 Z0 ) hZ (hw _ (List.mem_of_getElem? (i := 5) rfl)) (hw _ (List.mem_of_getElem? (i := 2) rfl)) (by decide) (by decide)) (g := (mkF m 25 #[.val (.long q1), .second, .val (.long q2), .second, .val (.long q3), .second, .val (.ref b1), .unset, .unset, .unset, .unset] [(.ref b5), (.ref b5)])) rfl (by rw [hml]; rfl) (Steps.refl _) (a := b5) (argsL := []) (rest := [(.ref b5)]) (lenOf pd_0 rfl) rfl (by show 2 * 0 + _ ≤ _; exact Nat.le_of_eq rfl) (hb hby at_25) (fun _ _ => ⟨rfl, e5, (by decide : 2 + 0 ≤ _), (by decide : 4 + 0 ≤ _)⟩)
  dsimp only [Pt.U, Pt.locs, Pt.cells, Pt.slots] at X6 l6 y6 z6 st6 hQ6
  subst l6 y6 z6
  obtain ⟨rfl, N6q, e6⟩ := hQ6
  have NN := Fr.app NN N6q
  refine own_go (fun t k => st6.trans k) ?_
  show own_Go p.tables e below _ T6 (mkF m 28 #[.val (.long q1), .second, .val (.long q2), .second, .val (.long q3), .second, .val (.ref b1), .unset, .unset, .unset, .unset] [(.ref b5)])
  refine own_go (T' := T6) (g' := (mkF m 33 #[.val (.long q1), .second, .val (.long q2), .second, .val (.long q3), .second, .val (.ref b1), .val (.ref b5), .unset, .unset, .unset] [(.long q1), (.ref b5)])) (fun t k => ?_) ?_
  · show Steps p.tables e below (T6.setTop (mkF m 28 #[.val (.long q1), .second, .val (.long q2), .second, .val (.long q3), .second, .val (.ref b1), .unset, .unset, .unset, .unset] [(.ref b5)])) _
    refine XS.astore X6.here hx rfl (hb hby at_28) rfl rfl (l' := #[.val (.long q1), .second, .val (.long q2), .second, .val (.long q3), .second, .val (.ref b1), .val (.ref b5), .unset, .unset, .unset]) rfl ?_
    show Steps p.tables e below (T6.setTop (mkF m 30 #[.val (.long q1), .second, .val (.long q2), .second, .val (.long q3), .second, .val (.ref b1), .val (.ref b5), .unset, .unset, .unset] [])) _
    refine XS.aload X6.here hx rfl (hb hby at_30) rfl rfl ?_
    show Steps p.tables e below (T6.setTop (mkF m 32 #[.val (.long q1), .second, .val (.long q2), .second, .val (.long q3), .second, .val (.ref b1), .val (.ref b5), .unset, .unset, .unset] [(.ref b5)])) _
    refine XS.lloadN X6.here hx rfl (hb hby at_32) rfl ?_
    exact k
  obtain ⟨cq7, kq7, q7a, q7b, q7c⟩ := isOf hZ e6 E_b5
  obtain ⟨_, _, ⟨T7, L7, k7, n7⟩, -, X7, ⟨Lc7, hQ7, l7, y7, z7⟩, st7⟩ := X6.virtualBack hx (y := (⟨"com/example/laden_graph/ladengraph/locality/Tally", "add", "(J)V"⟩ : MethodName)) (z := (⟨"com/example/laden_graph/ladengraph/locality/Tally", "add", "(J)V"⟩ : MethodName)) hown (mvT hZ (hw _ (List.mem_of_getElem? (i := 9) rfl))) (mvT hZ (hw _ (List.mem_of_getElem? (i := 10) rfl))) (notFace_of_selects (args := #[]) (mvT hZ (hw _ (List.mem_of_getElem? (i := 12) rfl)))) (mvT hZ (hw _ (List.mem_of_getElem? (i := 12) rfl))) (mvT hZ (hw _ (List.mem_of_getElem? (i := 11) rfl))) (by decide) (backOf (W := 0) (rm3 l Z a0 hw [] b5 q1 (0 : Int64) (0 : Int64) h5 n0 Z0 F_b5_low F_b5_high E_b5 g_b5) hZ (hw _ (List.mem_of_getElem? (i := 13) rfl)) (hw _ (List.mem_of_getElem? (i := 2) rfl)) (by decide) (by decide)) q7a q7c (g := (mkF m 33 #[.val (.long q1), .second, .val (.long q2), .second, .val (.long q3), .second, .val (.ref b1), .val (.ref b5), .unset, .unset, .unset] [(.long q1), (.ref b5)])) rfl (by rw [hml]; rfl) (Steps.refl _) (argsL := [(.long q1)]) (rest := []) (lenOf pd_1 rfl) rfl (by show 2 * 0 + _ ≤ _; exact Nat.le_of_eq rfl) (hb hby at_33) (fun _ _ => ⟨rfl, e6, (by decide : 2 + 0 ≤ _), (by decide : 4 + 0 ≤ _)⟩)
  dsimp only [Pt.U, Pt.locs, Pt.cells, Pt.slots] at X7 l7 y7 z7 st7 hQ7
  subst l7 y7 z7
  obtain ⟨rfl, N7q, K7, Q7_0, Q7_1, Q7_2⟩ := hQ7
  have E_b1 := E_b1.keep K7
  have F_b1_low := F_b1_low.keep K7 (ninS ne_b1_b5 nin0)
  have F_b1_high := F_b1_high.keep K7 (ninS ne_b1_b5 nin0)
  have E_b5 := Q7_0
  have F_b5_low := Q7_1
  have F_b5_high := Q7_2
  have Z0 := Nat.le_trans Z0 K7.1
  have KK := KK.trans K7 (allS (Or.inr sz_b5) all0)
  have NN := Fr.app NN N7q
  refine own_go (fun t k => st7.trans k) ?_
  show own_Go p.tables e below _ T7 (mkF m 36 #[.val (.long q1), .second, .val (.long q2), .second, .val (.long q3), .second, .val (.ref b1), .val (.ref b5), .unset, .unset, .unset] [])
  refine own_go (T' := T7) (g' := (mkF m 39 #[.val (.long q1), .second, .val (.long q2), .second, .val (.long q3), .second, .val (.ref b1), .val (.ref b5), .unset, .unset, .unset] [(.long q2), (.ref b5)])) (fun t k => ?_) ?_
  · show Steps p.tables e below (T7.setTop (mkF m 36 #[.val (.long q1), .second, .val (.long q2), .second, .val (.long q3), .second, .val (.ref b1), .val (.ref b5), .unset, .unset, .unset] [])) _
    refine XS.aload X7.here hx rfl (hb hby at_36) rfl rfl ?_
    show Steps p.tables e below (T7.setTop (mkF m 38 #[.val (.long q1), .second, .val (.long q2), .second, .val (.long q3), .second, .val (.ref b1), .val (.ref b5), .unset, .unset, .unset] [(.ref b5)])) _
    refine XS.lloadN X7.here hx rfl (hb hby at_38) rfl ?_
    exact k
  obtain ⟨cq8, kq8, q8a, q8b, q8c⟩ := isOf hZ rfl E_b5
  obtain ⟨_, _, ⟨T8, L8, k8, n8⟩, -, X8, ⟨Lc8, hQ8, l8, y8, z8⟩, st8⟩ := X7.virtualBack hx (y := (⟨"com/example/laden_graph/ladengraph/locality/Tally", "add", "(J)V"⟩ : MethodName)) (z := (⟨"com/example/laden_graph/ladengraph/locality/Tally", "add", "(J)V"⟩ : MethodName)) hown (mvT hZ (hw _ (List.mem_of_getElem? (i := 9) rfl))) (mvT hZ (hw _ (List.mem_of_getElem? (i := 10) rfl))) (notFace_of_selects (args := #[]) (mvT hZ (hw _ (List.mem_of_getElem? (i := 12) rfl)))) (mvT hZ (hw _ (List.mem_of_getElem? (i := 12) rfl))) (mvT hZ (hw _ (List.mem_of_getElem? (i := 11) rfl))) (by decide) (backOf (W := 0) (rm3 l Z a0 hw [] b5 q2 ((0 : Int64) + q1) ((0 : Int64) + ((q1 >>> ((63 : Int32) &&& 0x3f).toInt64) + (r_5 (0 : Int64) ((0 : Int64) + q1)))) T7.heap n0 Z0 F_b5_low F_b5_high E_b5 g_b5) hZ (hw _ (List.mem_of_getElem? (i := 13) rfl)) (hw _ (List.mem_of_getElem? (i := 2) rfl)) (by decide) (by decide)) q8a q8c (g := (mkF m 39 #[.val (.long q1), .second, .val (.long q2), .second, .val (.long q3), .second, .val (.ref b1), .val (.ref b5), .unset, .unset, .unset] [(.long q2), (.ref b5)])) rfl (by rw [hml]; rfl) (Steps.refl _) (argsL := [(.long q2)]) (rest := []) (lenOf pd_1 rfl) rfl (by show 2 * 0 + _ ≤ _; exact Nat.le_of_eq rfl) (hb hby at_39) (fun _ _ => ⟨rfl, rfl, (by decide : 2 + 0 ≤ _), (by decide : 4 + 0 ≤ _)⟩)
  dsimp only [Pt.U, Pt.locs, Pt.cells, Pt.slots] at X8 l8 y8 z8 st8 hQ8
  subst l8 y8 z8
  obtain ⟨rfl, N8q, K8, Q8_0, Q8_1, Q8_2⟩ := hQ8
  have E_b1 := E_b1.keep K8
  have F_b1_low := F_b1_low.keep K8 (ninS ne_b1_b5 nin0)
  have F_b1_high := F_b1_high.keep K8 (ninS ne_b1_b5 nin0)
  have E_b5 := Q8_0
  have F_b5_low := Q8_1
  have F_b5_high := Q8_2
  have Z0 := Nat.le_trans Z0 K8.1
  have KK := KK.trans K8 (allS (Or.inr sz_b5) all0)
  have NN := Fr.app NN N8q
  refine own_go (fun t k => st8.trans k) ?_
  show own_Go p.tables e below _ T8 (mkF m 42 #[.val (.long q1), .second, .val (.long q2), .second, .val (.long q3), .second, .val (.ref b1), .val (.ref b5), .unset, .unset, .unset] [])
  refine own_go (T' := T8) (g' := (mkF m 46 #[.val (.long q1), .second, .val (.long q2), .second, .val (.long q3), .second, .val (.ref b1), .val (.ref b5), .unset, .unset, .unset] [(.long q3), (.ref b1)])) (fun t k => ?_) ?_
  · show Steps p.tables e below (T8.setTop (mkF m 42 #[.val (.long q1), .second, .val (.long q2), .second, .val (.long q3), .second, .val (.ref b1), .val (.ref b5), .unset, .unset, .unset] [])) _
    refine XS.aload X8.here hx rfl (hb hby at_42) rfl rfl ?_
    show Steps p.tables e below (T8.setTop (mkF m 44 #[.val (.long q1), .second, .val (.long q2), .second, .val (.long q3), .second, .val (.ref b1), .val (.ref b5), .unset, .unset, .unset] [(.ref b1)])) _
    refine XS.lload X8.here hx rfl (hb hby at_44) rfl ?_
    exact k
  obtain ⟨cq9, kq9, q9a, q9b, q9c⟩ := isOf hZ rfl E_b1
  obtain ⟨_, _, ⟨T9, L9, k9, n9⟩, -, X9, ⟨Lc9, hQ9, l9, y9, z9⟩, st9⟩ := X8.virtualBack hx (y := (⟨"com/example/laden_graph/ladengraph/locality/Tally", "subtract", "(J)V"⟩ : MethodName)) (z := (⟨"com/example/laden_graph/ladengraph/locality/Tally", "subtract", "(J)V"⟩ : MethodName)) hown (mvT hZ (hw _ (List.mem_of_getElem? (i := 33) rfl))) (mvT hZ (hw _ (List.mem_of_getElem? (i := 34) rfl))) (notFace_of_selects (args := #[]) (mvT hZ (hw _ (List.mem_of_getElem? (i := 36) rfl)))) (mvT hZ (hw _ (List.mem_of_getElem? (i := 36) rfl))) (mvT hZ (hw _ (List.mem_of_getElem? (i := 35) rfl))) (by decide) (backOf (W := 0) (rm8 l Z a0 hw [] b1 q3 (((0 : Int64) + q1) + q2) (((0 : Int64) + ((q1 >>> ((63 : Int32) &&& 0x3f).toInt64) + (r_5 (0 : Int64) ((0 : Int64) + q1)))) + ((q2 >>> ((63 : Int32) &&& 0x3f).toInt64) + (r_5 ((0 : Int64) + q1) (((0 : Int64) + q1) + q2)))) T8.heap n0 Z0 F_b1_low F_b1_high E_b1 g_b1) hZ (hw _ (List.mem_of_getElem? (i := 37) rfl)) (hw _ (List.mem_of_getElem? (i := 2) rfl)) (by decide) (by decide)) q9a q9c (g := (mkF m 46 #[.val (.long q1), .second, .val (.long q2), .second, .val (.long q3), .second, .val (.ref b1), .val (.ref b5), .unset, .unset, .unset] [(.long q3), (.ref b1)])) rfl (by rw [hml]; rfl) (Steps.refl _) (argsL := [(.long q3)]) (rest := []) (lenOf pd_1 rfl) rfl (by show 2 * 0 + _ ≤ _; exact Nat.le_of_eq rfl) (hb hby at_46) (fun _ _ => ⟨rfl, rfl, (by decide : 2 + 0 ≤ _), (by decide : 4 + 0 ≤ _)⟩)
  dsimp only [Pt.U, Pt.locs, Pt.cells, Pt.slots] at X9 l9 y9 z9 st9 hQ9
  subst l9 y9 z9
  obtain ⟨rfl, N9q, K9, Q9_0, Q9_1, Q9_2⟩ := hQ9
  have E_b5 := E_b5.keep K9
  have F_b5_low := F_b5_low.keep K9 (ninS (Ne.symm ne_b1_b5) nin0)
  have F_b5_high := F_b5_high.keep K9 (ninS (Ne.symm ne_b1_b5) nin0)
  have E_b1 := Q9_0
  have F_b1_low := Q9_1
  have F_b1_high := Q9_2
  have Z0 := Nat.le_trans Z0 K9.1
  have KK := KK.trans K9 (allS (Or.inr sz_b1) all0)
  have NN := Fr.app NN N9q
  refine own_go (fun t k => st9.trans k) ?_
  show own_Go p.tables e below _ T9 (mkF m 49 #[.val (.long q1), .second, .val (.long q2), .second, .val (.long q3), .second, .val (.ref b1), .val (.ref b5), .unset, .unset, .unset] [])
  refine own_go (T' := T9) (g' := (mkF m 53 #[.val (.long q1), .second, .val (.long q2), .second, .val (.long q3), .second, .val (.ref b1), .val (.ref b5), .unset, .unset, .unset] [(.ref b5), (.ref b1)])) (fun t k => ?_) ?_
  · show Steps p.tables e below (T9.setTop (mkF m 49 #[.val (.long q1), .second, .val (.long q2), .second, .val (.long q3), .second, .val (.ref b1), .val (.ref b5), .unset, .unset, .unset] [])) _
    refine XS.aload X9.here hx rfl (hb hby at_49) rfl rfl ?_
    show Steps p.tables e below (T9.setTop (mkF m 51 #[.val (.long q1), .second, .val (.long q2), .second, .val (.long q3), .second, .val (.ref b1), .val (.ref b5), .unset, .unset, .unset] [(.ref b1)])) _
    refine XS.aload X9.here hx rfl (hb hby at_51) rfl rfl ?_
    exact k
  obtain ⟨cq10, kq10, q10a, q10b, q10c⟩ := isOf hZ rfl E_b1
  obtain ⟨_, _, ⟨T10, L10, k10, n10⟩, -, X10, ⟨Lc10, hQ10, l10, y10, z10⟩, st10⟩ := X9.virtualBack hx (y := (⟨"com/example/laden_graph/ladengraph/locality/Tally", "compareTo", "(Lcom/example/laden_graph/ladengraph/locality/Tally;)I"⟩ : MethodName)) (z := (⟨"com/example/laden_graph/ladengraph/locality/Tally", "compareTo", "(Lcom/example/laden_graph/ladengraph/locality/Tally;)I"⟩ : MethodName)) hown (mvT hZ (hw _ (List.mem_of_getElem? (i := 43) rfl))) (mvT hZ (hw _ (List.mem_of_getElem? (i := 44) rfl))) (notFace_of_selects (args := #[]) (mvT hZ (hw _ (List.mem_of_getElem? (i := 46) rfl)))) (mvT hZ (hw _ (List.mem_of_getElem? (i := 46) rfl))) (mvT hZ (hw _ (List.mem_of_getElem? (i := 45) rfl))) (by decide) (backOf (W := 0) (rm10 l Z a0 hw [] b1 b5 (u_9_a1_high (q3 >>> ((63 : Int32) &&& 0x3f).toInt64) q3 (((0 : Int64) + q1) + q2) (((0 : Int64) + ((q1 >>> ((63 : Int32) &&& 0x3f).toInt64) + (r_5 (0 : Int64) ((0 : Int64) + q1)))) + ((q2 >>> ((63 : Int32) &&& 0x3f).toInt64) + (r_5 ((0 : Int64) + q1) (((0 : Int64) + q1) + q2))))) (((0 : Int64) + ((q1 >>> ((63 : Int32) &&& 0x3f).toInt64) + (r_5 (0 : Int64) ((0 : Int64) + q1)))) + ((q2 >>> ((63 : Int32) &&& 0x3f).toInt64) + (r_5 ((0 : Int64) + q1) (((0 : Int64) + q1) + q2)))) ((((0 : Int64) + q1) + q2) - q3) (((0 : Int64) + q1) + q2) T9.heap n0 Z0 F_b1_high F_b5_high F_b1_low F_b5_low) hZ (hw _ (List.mem_of_getElem? (i := 47) rfl)) (hw _ (List.mem_of_getElem? (i := 2) rfl)) (by decide) (by decide)) q10a q10c (g := (mkF m 53 #[.val (.long q1), .second, .val (.long q2), .second, .val (.long q3), .second, .val (.ref b1), .val (.ref b5), .unset, .unset, .unset] [(.ref b5), (.ref b1)])) rfl (by rw [hml]; rfl) (Steps.refl _) (argsL := [(.ref b5)]) (rest := []) (lenOf pd_5 rfl) rfl (by show 2 * 0 + _ ≤ _; exact Nat.le_of_eq rfl) (hb hby at_53) (fun _ _ => ⟨rfl, rfl, (by decide : 2 + 0 ≤ _), (by decide : 4 + 0 ≤ _)⟩)
  dsimp only [Pt.U, Pt.locs, Pt.cells, Pt.slots] at X10 l10 y10 z10 st10 hQ10
  subst l10 y10 z10
  obtain ⟨rfl, N10q, e10⟩ := hQ10
  have NN := Fr.app NN N10q
  refine own_go (fun t k => st10.trans k) ?_
  show own_Go p.tables e below _ T10 (mkF m 56 #[.val (.long q1), .second, .val (.long q2), .second, .val (.long q3), .second, .val (.ref b1), .val (.ref b5), .unset, .unset, .unset] [(.int (r_10 (u_9_a1_high (q3 >>> ((63 : Int32) &&& 0x3f).toInt64) q3 (((0 : Int64) + q1) + q2) (((0 : Int64) + ((q1 >>> ((63 : Int32) &&& 0x3f).toInt64) + (r_5 (0 : Int64) ((0 : Int64) + q1)))) + ((q2 >>> ((63 : Int32) &&& 0x3f).toInt64) + (r_5 ((0 : Int64) + q1) (((0 : Int64) + q1) + q2))))) (((0 : Int64) + ((q1 >>> ((63 : Int32) &&& 0x3f).toInt64) + (r_5 (0 : Int64) ((0 : Int64) + q1)))) + ((q2 >>> ((63 : Int32) &&& 0x3f).toInt64) + (r_5 ((0 : Int64) + q1) (((0 : Int64) + q1) + q2)))) ((((0 : Int64) + q1) + q2) - q3) (((0 : Int64) + q1) + q2)))])
  refine own_go (T' := T10) (g' := (mkF m 58 #[.val (.long q1), .second, .val (.long q2), .second, .val (.long q3), .second, .val (.ref b1), .val (.ref b5), .val (.int (r_10 (u_9_a1_high (q3 >>> ((63 : Int32) &&& 0x3f).toInt64) q3 (((0 : Int64) + q1) + q2) (((0 : Int64) + ((q1 >>> ((63 : Int32) &&& 0x3f).toInt64) + (r_5 (0 : Int64) ((0 : Int64) + q1)))) + ((q2 >>> ((63 : Int32) &&& 0x3f).toInt64) + (r_5 ((0 : Int64) + q1) (((0 : Int64) + q1) + q2))))) (((0 : Int64) + ((q1 >>> ((63 : Int32) &&& 0x3f).toInt64) + (r_5 (0 : Int64) ((0 : Int64) + q1)))) + ((q2 >>> ((63 : Int32) &&& 0x3f).toInt64) + (r_5 ((0 : Int64) + q1) (((0 : Int64) + q1) + q2)))) ((((0 : Int64) + q1) + q2) - q3) (((0 : Int64) + q1) + q2))), .unset, .unset] [])) (fun t k => ?_) ?_
  · show Steps p.tables e below (T10.setTop (mkF m 56 #[.val (.long q1), .second, .val (.long q2), .second, .val (.long q3), .second, .val (.ref b1), .val (.ref b5), .unset, .unset, .unset] [(.int (r_10 (u_9_a1_high (q3 >>> ((63 : Int32) &&& 0x3f).toInt64) q3 (((0 : Int64) + q1) + q2) (((0 : Int64) + ((q1 >>> ((63 : Int32) &&& 0x3f).toInt64) + (r_5 (0 : Int64) ((0 : Int64) + q1)))) + ((q2 >>> ((63 : Int32) &&& 0x3f).toInt64) + (r_5 ((0 : Int64) + q1) (((0 : Int64) + q1) + q2))))) (((0 : Int64) + ((q1 >>> ((63 : Int32) &&& 0x3f).toInt64) + (r_5 (0 : Int64) ((0 : Int64) + q1)))) + ((q2 >>> ((63 : Int32) &&& 0x3f).toInt64) + (r_5 ((0 : Int64) + q1) (((0 : Int64) + q1) + q2)))) ((((0 : Int64) + q1) + q2) - q3) (((0 : Int64) + q1) + q2)))])) _
    refine XS.istore X10.here hx rfl (hb hby at_56) rfl (l' := #[.val (.long q1), .second, .val (.long q2), .second, .val (.long q3), .second, .val (.ref b1), .val (.ref b5), .val (.int (r_10 (u_9_a1_high (q3 >>> ((63 : Int32) &&& 0x3f).toInt64) q3 (((0 : Int64) + q1) + q2) (((0 : Int64) + ((q1 >>> ((63 : Int32) &&& 0x3f).toInt64) + (r_5 (0 : Int64) ((0 : Int64) + q1)))) + ((q2 >>> ((63 : Int32) &&& 0x3f).toInt64) + (r_5 ((0 : Int64) + q1) (((0 : Int64) + q1) + q2))))) (((0 : Int64) + ((q1 >>> ((63 : Int32) &&& 0x3f).toInt64) + (r_5 (0 : Int64) ((0 : Int64) + q1)))) + ((q2 >>> ((63 : Int32) &&& 0x3f).toInt64) + (r_5 ((0 : Int64) + q1) (((0 : Int64) + q1) + q2)))) ((((0 : Int64) + q1) + q2) - q3) (((0 : Int64) + q1) + q2))), .unset, .unset]) rfl ?_
    exact k
  show own_Go p.tables e below _ T10 (mkF m 58 #[.val (.long q1), .second, .val (.long q2), .second, .val (.long q3), .second, .val (.ref b1), .val (.ref b5), .val (.int (r_10 (u_9_a1_high (q3 >>> ((63 : Int32) &&& 0x3f).toInt64) q3 (((0 : Int64) + q1) + q2) (((0 : Int64) + ((q1 >>> ((63 : Int32) &&& 0x3f).toInt64) + (r_5 (0 : Int64) ((0 : Int64) + q1)))) + ((q2 >>> ((63 : Int32) &&& 0x3f).toInt64) + (r_5 ((0 : Int64) + q1) (((0 : Int64) + q1) + q2))))) (((0 : Int64) + ((q1 >>> ((63 : Int32) &&& 0x3f).toInt64) + (r_5 (0 : Int64) ((0 : Int64) + q1)))) + ((q2 >>> ((63 : Int32) &&& 0x3f).toInt64) + (r_5 ((0 : Int64) + q1) (((0 : Int64) + q1) + q2)))) ((((0 : Int64) + q1) + q2) - q3) (((0 : Int64) + q1) + q2))), .unset, .unset] [])
  obtain ⟨j11, hj11⟩ : ∃ z : Int32, z = (r_10 (u_9_a1_high (q3 >>> ((63 : Int32) &&& 0x3f).toInt64) q3 (((0 : Int64) + q1) + q2) (((0 : Int64) + ((q1 >>> ((63 : Int32) &&& 0x3f).toInt64) + (r_5 (0 : Int64) ((0 : Int64) + q1)))) + ((q2 >>> ((63 : Int32) &&& 0x3f).toInt64) + (r_5 ((0 : Int64) + q1) (((0 : Int64) + q1) + q2))))) (((0 : Int64) + ((q1 >>> ((63 : Int32) &&& 0x3f).toInt64) + (r_5 (0 : Int64) ((0 : Int64) + q1)))) + ((q2 >>> ((63 : Int32) &&& 0x3f).toInt64) + (r_5 ((0 : Int64) + q1) (((0 : Int64) + q1) + q2)))) ((((0 : Int64) + q1) + q2) - q3) (((0 : Int64) + q1) + q2)) := ⟨_, rfl⟩
  rw [← hj11]
  show own_Go p.tables e below _ T10 (mkF m 58 #[.val (.long q1), .second, .val (.long q2), .second, .val (.long q3), .second, .val (.ref b1), .val (.ref b5), .val (.int j11), .unset, .unset] [])
  refine own_go (T' := T10) (g' := (mkF m 62 #[.val (.long q1), .second, .val (.long q2), .second, .val (.long q3), .second, .val (.ref b1), .val (.ref b5), .val (.int j11), .unset, .unset] [(.int (lcmpW q3 (0 : Int64)))])) (fun t k => ?_) ?_
  · show Steps p.tables e below (T10.setTop (mkF m 58 #[.val (.long q1), .second, .val (.long q2), .second, .val (.long q3), .second, .val (.ref b1), .val (.ref b5), .val (.int j11), .unset, .unset] [])) _
    refine XS.lload X10.here hx rfl (hb hby at_58) rfl ?_
    show Steps p.tables e below (T10.setTop (mkF m 60 #[.val (.long q1), .second, .val (.long q2), .second, .val (.long q3), .second, .val (.ref b1), .val (.ref b5), .val (.int j11), .unset, .unset] [(.long q3)])) _
    refine XS.lconst X10.here hx rfl (hb hby at_60) ?_
    show Steps p.tables e below (T10.setTop (mkF m 61 #[.val (.long q1), .second, .val (.long q2), .second, .val (.long q3), .second, .val (.ref b1), .val (.ref b5), .val (.int j11), .unset, .unset] [(.long (0 : Int64)), (.long q3)])) _
    refine XS.lcmp X10.here hx rfl (hb hby at_61) rfl ?_
    exact k
  obtain ⟨j12, hj12, st13⟩ : ∃ (j12 : Int32), j12 = (if (0 : Int64) < q3 then (if j11 < (0 : Int32) then (1 : Int32) else (0 : Int32)) else (if q3 < (0 : Int64) then (if (0 : Int32) < j11 then (1 : Int32) else (0 : Int32)) else (if j11 = (0 : Int32) then (1 : Int32) else (0 : Int32)))) ∧ ∀ t, Steps p.tables e below (T10.setTop (mkF m 114 #[.val (.long q1), .second, .val (.long q2), .second, .val (.long q3), .second, .val (.ref b1), .val (.ref b5), .val (.int j11), .val (.int j12), .unset] [])) t → Steps p.tables e below (T10.setTop (mkF m 62 #[.val (.long q1), .second, .val (.long q2), .second, .val (.long q3), .second, .val (.ref b1), .val (.ref b5), .val (.int j11), .unset, .unset] [(.int (lcmpW q3 (0 : Int64)))])) t := by
    by_cases hc62_1 : (0 : Int64) < q3
    · skip
      by_cases hc67_2 : j11 < (0 : Int32)
      · skip
        refine ⟨(1 : Int32), (by simp only [if_pos hc62_1, if_pos hc67_2]), fun t k => ?_⟩
        show Steps p.tables e below (T10.setTop (mkF m 62 #[.val (.long q1), .second, .val (.long q2), .second, .val (.long q3), .second, .val (.ref b1), .val (.ref b5), .val (.int j11), .unset, .unset] [(.int (lcmpW q3 (0 : Int64)))])) _
        refine XS.ifNo X10.here hx rfl (hb hby at_62) rfl ((if0 _ _).trans (tlt ((lw_gt q3 (0 : Int64)).mpr hc62_1)).2.2.2) ?_
        show Steps p.tables e below (T10.setTop (mkF m 65 #[.val (.long q1), .second, .val (.long q2), .second, .val (.long q3), .second, .val (.ref b1), .val (.ref b5), .val (.int j11), .unset, .unset] [])) _
        refine XS.iload X10.here hx rfl (hb hby at_65) rfl ?_
        show Steps p.tables e below (T10.setTop (mkF m 67 #[.val (.long q1), .second, .val (.long q2), .second, .val (.long q3), .second, .val (.ref b1), .val (.ref b5), .val (.int j11), .unset, .unset] [(.int j11)])) _
        refine XS.ifNo X10.here hx rfl (hb hby at_67) rfl ((if0 _ _).trans (tlt hc67_2).2.1) ?_
        show Steps p.tables e below (T10.setTop (mkF m 70 #[.val (.long q1), .second, .val (.long q2), .second, .val (.long q3), .second, .val (.ref b1), .val (.ref b5), .val (.int j11), .unset, .unset] [])) _
        refine XS.iconst X10.here hx rfl (hb hby at_70) ?_
        show Steps p.tables e below (T10.setTop (mkF m 71 #[.val (.long q1), .second, .val (.long q2), .second, .val (.long q3), .second, .val (.ref b1), .val (.ref b5), .val (.int j11), .unset, .unset] [(.int (1 : Int32))])) _
        refine XS.goto X10.here hx rfl (pc0 := 71) (pc' := 75) rfl (hb hby at_71) (by decide) (by decide) ?_
        show Steps p.tables e below (T10.setTop (mkF m 75 #[.val (.long q1), .second, .val (.long q2), .second, .val (.long q3), .second, .val (.ref b1), .val (.ref b5), .val (.int j11), .unset, .unset] [(.int (1 : Int32))])) _
        refine XS.istore X10.here hx rfl (hb hby at_75) rfl (l' := #[.val (.long q1), .second, .val (.long q2), .second, .val (.long q3), .second, .val (.ref b1), .val (.ref b5), .val (.int j11), .val (.int (1 : Int32)), .unset]) rfl ?_
        show Steps p.tables e below (T10.setTop (mkF m 77 #[.val (.long q1), .second, .val (.long q2), .second, .val (.long q3), .second, .val (.ref b1), .val (.ref b5), .val (.int j11), .val (.int (1 : Int32)), .unset] [])) _
        refine XS.goto X10.here hx rfl (pc0 := 77) (pc' := 114) rfl (hb hby at_77) (by decide) (by decide) ?_
        exact k
      · skip
        refine ⟨(0 : Int32), (by simp only [if_pos hc62_1, if_neg hc67_2]), fun t k => ?_⟩
        show Steps p.tables e below (T10.setTop (mkF m 62 #[.val (.long q1), .second, .val (.long q2), .second, .val (.long q3), .second, .val (.ref b1), .val (.ref b5), .val (.int j11), .unset, .unset] [(.int (lcmpW q3 (0 : Int64)))])) _
        refine XS.ifNo X10.here hx rfl (hb hby at_62) rfl ((if0 _ _).trans (tlt ((lw_gt q3 (0 : Int64)).mpr hc62_1)).2.2.2) ?_
        show Steps p.tables e below (T10.setTop (mkF m 65 #[.val (.long q1), .second, .val (.long q2), .second, .val (.long q3), .second, .val (.ref b1), .val (.ref b5), .val (.int j11), .unset, .unset] [])) _
        refine XS.iload X10.here hx rfl (hb hby at_65) rfl ?_
        show Steps p.tables e below (T10.setTop (mkF m 67 #[.val (.long q1), .second, .val (.long q2), .second, .val (.long q3), .second, .val (.ref b1), .val (.ref b5), .val (.int j11), .unset, .unset] [(.int j11)])) _
        refine XS.ifYes X10.here hx rfl (pc0 := 67) (pc' := 74) rfl (hb hby at_67) rfl ((if0 _ _).trans (flt hc67_2).2.1) (by decide) (by decide) ?_
        show Steps p.tables e below (T10.setTop (mkF m 74 #[.val (.long q1), .second, .val (.long q2), .second, .val (.long q3), .second, .val (.ref b1), .val (.ref b5), .val (.int j11), .unset, .unset] [])) _
        refine XS.iconst X10.here hx rfl (hb hby at_74) ?_
        show Steps p.tables e below (T10.setTop (mkF m 75 #[.val (.long q1), .second, .val (.long q2), .second, .val (.long q3), .second, .val (.ref b1), .val (.ref b5), .val (.int j11), .unset, .unset] [(.int (0 : Int32))])) _
        refine XS.istore X10.here hx rfl (hb hby at_75) rfl (l' := #[.val (.long q1), .second, .val (.long q2), .second, .val (.long q3), .second, .val (.ref b1), .val (.ref b5), .val (.int j11), .val (.int (0 : Int32)), .unset]) rfl ?_
        show Steps p.tables e below (T10.setTop (mkF m 77 #[.val (.long q1), .second, .val (.long q2), .second, .val (.long q3), .second, .val (.ref b1), .val (.ref b5), .val (.int j11), .val (.int (0 : Int32)), .unset] [])) _
        refine XS.goto X10.here hx rfl (pc0 := 77) (pc' := 114) rfl (hb hby at_77) (by decide) (by decide) ?_
        exact k
    · skip
      by_cases hc84_3 : q3 < (0 : Int64)
      · skip
        by_cases hc89_4 : (0 : Int32) < j11
        · skip
          refine ⟨(1 : Int32), (by simp only [if_neg hc62_1, if_pos hc84_3, if_pos hc89_4]), fun t k => ?_⟩
          show Steps p.tables e below (T10.setTop (mkF m 62 #[.val (.long q1), .second, .val (.long q2), .second, .val (.long q3), .second, .val (.ref b1), .val (.ref b5), .val (.int j11), .unset, .unset] [(.int (lcmpW q3 (0 : Int64)))])) _
          refine XS.ifYes X10.here hx rfl (pc0 := 62) (pc' := 80) rfl (hb hby at_62) rfl ((if0 _ _).trans (flt (fun q => hc62_1 ((lw_gt q3 (0 : Int64)).mp q))).2.2.2) (by decide) (by decide) ?_
          show Steps p.tables e below (T10.setTop (mkF m 80 #[.val (.long q1), .second, .val (.long q2), .second, .val (.long q3), .second, .val (.ref b1), .val (.ref b5), .val (.int j11), .unset, .unset] [])) _
          refine XS.lload X10.here hx rfl (hb hby at_80) rfl ?_
          show Steps p.tables e below (T10.setTop (mkF m 82 #[.val (.long q1), .second, .val (.long q2), .second, .val (.long q3), .second, .val (.ref b1), .val (.ref b5), .val (.int j11), .unset, .unset] [(.long q3)])) _
          refine XS.lconst X10.here hx rfl (hb hby at_82) ?_
          show Steps p.tables e below (T10.setTop (mkF m 83 #[.val (.long q1), .second, .val (.long q2), .second, .val (.long q3), .second, .val (.ref b1), .val (.ref b5), .val (.int j11), .unset, .unset] [(.long (0 : Int64)), (.long q3)])) _
          refine XS.lcmp X10.here hx rfl (hb hby at_83) rfl ?_
          show Steps p.tables e below (T10.setTop (mkF m 84 #[.val (.long q1), .second, .val (.long q2), .second, .val (.long q3), .second, .val (.ref b1), .val (.ref b5), .val (.int j11), .unset, .unset] [(.int (lcmpW q3 (0 : Int64)))])) _
          refine XS.ifNo X10.here hx rfl (hb hby at_84) rfl ((if0 _ _).trans (tlt ((lw_lt q3 (0 : Int64)).mpr hc84_3)).2.1) ?_
          show Steps p.tables e below (T10.setTop (mkF m 87 #[.val (.long q1), .second, .val (.long q2), .second, .val (.long q3), .second, .val (.ref b1), .val (.ref b5), .val (.int j11), .unset, .unset] [])) _
          refine XS.iload X10.here hx rfl (hb hby at_87) rfl ?_
          show Steps p.tables e below (T10.setTop (mkF m 89 #[.val (.long q1), .second, .val (.long q2), .second, .val (.long q3), .second, .val (.ref b1), .val (.ref b5), .val (.int j11), .unset, .unset] [(.int j11)])) _
          refine XS.ifNo X10.here hx rfl (hb hby at_89) rfl ((if0 _ _).trans (tlt hc89_4).2.2.2) ?_
          show Steps p.tables e below (T10.setTop (mkF m 92 #[.val (.long q1), .second, .val (.long q2), .second, .val (.long q3), .second, .val (.ref b1), .val (.ref b5), .val (.int j11), .unset, .unset] [])) _
          refine XS.iconst X10.here hx rfl (hb hby at_92) ?_
          show Steps p.tables e below (T10.setTop (mkF m 93 #[.val (.long q1), .second, .val (.long q2), .second, .val (.long q3), .second, .val (.ref b1), .val (.ref b5), .val (.int j11), .unset, .unset] [(.int (1 : Int32))])) _
          refine XS.goto X10.here hx rfl (pc0 := 93) (pc' := 97) rfl (hb hby at_93) (by decide) (by decide) ?_
          show Steps p.tables e below (T10.setTop (mkF m 97 #[.val (.long q1), .second, .val (.long q2), .second, .val (.long q3), .second, .val (.ref b1), .val (.ref b5), .val (.int j11), .unset, .unset] [(.int (1 : Int32))])) _
          refine XS.istore X10.here hx rfl (hb hby at_97) rfl (l' := #[.val (.long q1), .second, .val (.long q2), .second, .val (.long q3), .second, .val (.ref b1), .val (.ref b5), .val (.int j11), .val (.int (1 : Int32)), .unset]) rfl ?_
          show Steps p.tables e below (T10.setTop (mkF m 99 #[.val (.long q1), .second, .val (.long q2), .second, .val (.long q3), .second, .val (.ref b1), .val (.ref b5), .val (.int j11), .val (.int (1 : Int32)), .unset] [])) _
          refine XS.goto X10.here hx rfl (pc0 := 99) (pc' := 114) rfl (hb hby at_99) (by decide) (by decide) ?_
          exact k
        · skip
          refine ⟨(0 : Int32), (by simp only [if_neg hc62_1, if_pos hc84_3, if_neg hc89_4]), fun t k => ?_⟩
          show Steps p.tables e below (T10.setTop (mkF m 62 #[.val (.long q1), .second, .val (.long q2), .second, .val (.long q3), .second, .val (.ref b1), .val (.ref b5), .val (.int j11), .unset, .unset] [(.int (lcmpW q3 (0 : Int64)))])) _
          refine XS.ifYes X10.here hx rfl (pc0 := 62) (pc' := 80) rfl (hb hby at_62) rfl ((if0 _ _).trans (flt (fun q => hc62_1 ((lw_gt q3 (0 : Int64)).mp q))).2.2.2) (by decide) (by decide) ?_
          show Steps p.tables e below (T10.setTop (mkF m 80 #[.val (.long q1), .second, .val (.long q2), .second, .val (.long q3), .second, .val (.ref b1), .val (.ref b5), .val (.int j11), .unset, .unset] [])) _
          refine XS.lload X10.here hx rfl (hb hby at_80) rfl ?_
          show Steps p.tables e below (T10.setTop (mkF m 82 #[.val (.long q1), .second, .val (.long q2), .second, .val (.long q3), .second, .val (.ref b1), .val (.ref b5), .val (.int j11), .unset, .unset] [(.long q3)])) _
          refine XS.lconst X10.here hx rfl (hb hby at_82) ?_
          show Steps p.tables e below (T10.setTop (mkF m 83 #[.val (.long q1), .second, .val (.long q2), .second, .val (.long q3), .second, .val (.ref b1), .val (.ref b5), .val (.int j11), .unset, .unset] [(.long (0 : Int64)), (.long q3)])) _
          refine XS.lcmp X10.here hx rfl (hb hby at_83) rfl ?_
          show Steps p.tables e below (T10.setTop (mkF m 84 #[.val (.long q1), .second, .val (.long q2), .second, .val (.long q3), .second, .val (.ref b1), .val (.ref b5), .val (.int j11), .unset, .unset] [(.int (lcmpW q3 (0 : Int64)))])) _
          refine XS.ifNo X10.here hx rfl (hb hby at_84) rfl ((if0 _ _).trans (tlt ((lw_lt q3 (0 : Int64)).mpr hc84_3)).2.1) ?_
          show Steps p.tables e below (T10.setTop (mkF m 87 #[.val (.long q1), .second, .val (.long q2), .second, .val (.long q3), .second, .val (.ref b1), .val (.ref b5), .val (.int j11), .unset, .unset] [])) _
          refine XS.iload X10.here hx rfl (hb hby at_87) rfl ?_
          show Steps p.tables e below (T10.setTop (mkF m 89 #[.val (.long q1), .second, .val (.long q2), .second, .val (.long q3), .second, .val (.ref b1), .val (.ref b5), .val (.int j11), .unset, .unset] [(.int j11)])) _
          refine XS.ifYes X10.here hx rfl (pc0 := 89) (pc' := 96) rfl (hb hby at_89) rfl ((if0 _ _).trans (flt hc89_4).2.2.2) (by decide) (by decide) ?_
          show Steps p.tables e below (T10.setTop (mkF m 96 #[.val (.long q1), .second, .val (.long q2), .second, .val (.long q3), .second, .val (.ref b1), .val (.ref b5), .val (.int j11), .unset, .unset] [])) _
          refine XS.iconst X10.here hx rfl (hb hby at_96) ?_
          show Steps p.tables e below (T10.setTop (mkF m 97 #[.val (.long q1), .second, .val (.long q2), .second, .val (.long q3), .second, .val (.ref b1), .val (.ref b5), .val (.int j11), .unset, .unset] [(.int (0 : Int32))])) _
          refine XS.istore X10.here hx rfl (hb hby at_97) rfl (l' := #[.val (.long q1), .second, .val (.long q2), .second, .val (.long q3), .second, .val (.ref b1), .val (.ref b5), .val (.int j11), .val (.int (0 : Int32)), .unset]) rfl ?_
          show Steps p.tables e below (T10.setTop (mkF m 99 #[.val (.long q1), .second, .val (.long q2), .second, .val (.long q3), .second, .val (.ref b1), .val (.ref b5), .val (.int j11), .val (.int (0 : Int32)), .unset] [])) _
          refine XS.goto X10.here hx rfl (pc0 := 99) (pc' := 114) rfl (hb hby at_99) (by decide) (by decide) ?_
          exact k
      · skip
        by_cases hc104_5 : j11 = (0 : Int32)
        · skip
          refine ⟨(1 : Int32), (by simp only [if_neg hc62_1, if_neg hc84_3, if_pos hc104_5]), fun t k => ?_⟩
          show Steps p.tables e below (T10.setTop (mkF m 62 #[.val (.long q1), .second, .val (.long q2), .second, .val (.long q3), .second, .val (.ref b1), .val (.ref b5), .val (.int j11), .unset, .unset] [(.int (lcmpW q3 (0 : Int64)))])) _
          refine XS.ifYes X10.here hx rfl (pc0 := 62) (pc' := 80) rfl (hb hby at_62) rfl ((if0 _ _).trans (flt (fun q => hc62_1 ((lw_gt q3 (0 : Int64)).mp q))).2.2.2) (by decide) (by decide) ?_
          show Steps p.tables e below (T10.setTop (mkF m 80 #[.val (.long q1), .second, .val (.long q2), .second, .val (.long q3), .second, .val (.ref b1), .val (.ref b5), .val (.int j11), .unset, .unset] [])) _
          refine XS.lload X10.here hx rfl (hb hby at_80) rfl ?_
          show Steps p.tables e below (T10.setTop (mkF m 82 #[.val (.long q1), .second, .val (.long q2), .second, .val (.long q3), .second, .val (.ref b1), .val (.ref b5), .val (.int j11), .unset, .unset] [(.long q3)])) _
          refine XS.lconst X10.here hx rfl (hb hby at_82) ?_
          show Steps p.tables e below (T10.setTop (mkF m 83 #[.val (.long q1), .second, .val (.long q2), .second, .val (.long q3), .second, .val (.ref b1), .val (.ref b5), .val (.int j11), .unset, .unset] [(.long (0 : Int64)), (.long q3)])) _
          refine XS.lcmp X10.here hx rfl (hb hby at_83) rfl ?_
          show Steps p.tables e below (T10.setTop (mkF m 84 #[.val (.long q1), .second, .val (.long q2), .second, .val (.long q3), .second, .val (.ref b1), .val (.ref b5), .val (.int j11), .unset, .unset] [(.int (lcmpW q3 (0 : Int64)))])) _
          refine XS.ifYes X10.here hx rfl (pc0 := 84) (pc' := 102) rfl (hb hby at_84) rfl ((if0 _ _).trans (flt (fun q => hc84_3 ((lw_lt q3 (0 : Int64)).mp q))).2.1) (by decide) (by decide) ?_
          show Steps p.tables e below (T10.setTop (mkF m 102 #[.val (.long q1), .second, .val (.long q2), .second, .val (.long q3), .second, .val (.ref b1), .val (.ref b5), .val (.int j11), .unset, .unset] [])) _
          refine XS.iload X10.here hx rfl (hb hby at_102) rfl ?_
          show Steps p.tables e below (T10.setTop (mkF m 104 #[.val (.long q1), .second, .val (.long q2), .second, .val (.long q3), .second, .val (.ref b1), .val (.ref b5), .val (.int j11), .unset, .unset] [(.int j11)])) _
          refine XS.ifNo X10.here hx rfl (hb hby at_104) rfl ((if0 _ _).trans (teq hc104_5).2) ?_
          show Steps p.tables e below (T10.setTop (mkF m 107 #[.val (.long q1), .second, .val (.long q2), .second, .val (.long q3), .second, .val (.ref b1), .val (.ref b5), .val (.int j11), .unset, .unset] [])) _
          refine XS.iconst X10.here hx rfl (hb hby at_107) ?_
          show Steps p.tables e below (T10.setTop (mkF m 108 #[.val (.long q1), .second, .val (.long q2), .second, .val (.long q3), .second, .val (.ref b1), .val (.ref b5), .val (.int j11), .unset, .unset] [(.int (1 : Int32))])) _
          refine XS.goto X10.here hx rfl (pc0 := 108) (pc' := 112) rfl (hb hby at_108) (by decide) (by decide) ?_
          show Steps p.tables e below (T10.setTop (mkF m 112 #[.val (.long q1), .second, .val (.long q2), .second, .val (.long q3), .second, .val (.ref b1), .val (.ref b5), .val (.int j11), .unset, .unset] [(.int (1 : Int32))])) _
          refine XS.istore X10.here hx rfl (hb hby at_112) rfl (l' := #[.val (.long q1), .second, .val (.long q2), .second, .val (.long q3), .second, .val (.ref b1), .val (.ref b5), .val (.int j11), .val (.int (1 : Int32)), .unset]) rfl ?_
          exact k
        · skip
          refine ⟨(0 : Int32), (by simp only [if_neg hc62_1, if_neg hc84_3, if_neg hc104_5]), fun t k => ?_⟩
          show Steps p.tables e below (T10.setTop (mkF m 62 #[.val (.long q1), .second, .val (.long q2), .second, .val (.long q3), .second, .val (.ref b1), .val (.ref b5), .val (.int j11), .unset, .unset] [(.int (lcmpW q3 (0 : Int64)))])) _
          refine XS.ifYes X10.here hx rfl (pc0 := 62) (pc' := 80) rfl (hb hby at_62) rfl ((if0 _ _).trans (flt (fun q => hc62_1 ((lw_gt q3 (0 : Int64)).mp q))).2.2.2) (by decide) (by decide) ?_
          show Steps p.tables e below (T10.setTop (mkF m 80 #[.val (.long q1), .second, .val (.long q2), .second, .val (.long q3), .second, .val (.ref b1), .val (.ref b5), .val (.int j11), .unset, .unset] [])) _
          refine XS.lload X10.here hx rfl (hb hby at_80) rfl ?_
          show Steps p.tables e below (T10.setTop (mkF m 82 #[.val (.long q1), .second, .val (.long q2), .second, .val (.long q3), .second, .val (.ref b1), .val (.ref b5), .val (.int j11), .unset, .unset] [(.long q3)])) _
          refine XS.lconst X10.here hx rfl (hb hby at_82) ?_
          show Steps p.tables e below (T10.setTop (mkF m 83 #[.val (.long q1), .second, .val (.long q2), .second, .val (.long q3), .second, .val (.ref b1), .val (.ref b5), .val (.int j11), .unset, .unset] [(.long (0 : Int64)), (.long q3)])) _
          refine XS.lcmp X10.here hx rfl (hb hby at_83) rfl ?_
          show Steps p.tables e below (T10.setTop (mkF m 84 #[.val (.long q1), .second, .val (.long q2), .second, .val (.long q3), .second, .val (.ref b1), .val (.ref b5), .val (.int j11), .unset, .unset] [(.int (lcmpW q3 (0 : Int64)))])) _
          refine XS.ifYes X10.here hx rfl (pc0 := 84) (pc' := 102) rfl (hb hby at_84) rfl ((if0 _ _).trans (flt (fun q => hc84_3 ((lw_lt q3 (0 : Int64)).mp q))).2.1) (by decide) (by decide) ?_
          show Steps p.tables e below (T10.setTop (mkF m 102 #[.val (.long q1), .second, .val (.long q2), .second, .val (.long q3), .second, .val (.ref b1), .val (.ref b5), .val (.int j11), .unset, .unset] [])) _
          refine XS.iload X10.here hx rfl (hb hby at_102) rfl ?_
          show Steps p.tables e below (T10.setTop (mkF m 104 #[.val (.long q1), .second, .val (.long q2), .second, .val (.long q3), .second, .val (.ref b1), .val (.ref b5), .val (.int j11), .unset, .unset] [(.int j11)])) _
          refine XS.ifYes X10.here hx rfl (pc0 := 104) (pc' := 111) rfl (hb hby at_104) rfl ((if0 _ _).trans (feq hc104_5).2) (by decide) (by decide) ?_
          show Steps p.tables e below (T10.setTop (mkF m 111 #[.val (.long q1), .second, .val (.long q2), .second, .val (.long q3), .second, .val (.ref b1), .val (.ref b5), .val (.int j11), .unset, .unset] [])) _
          refine XS.iconst X10.here hx rfl (hb hby at_111) ?_
          show Steps p.tables e below (T10.setTop (mkF m 112 #[.val (.long q1), .second, .val (.long q2), .second, .val (.long q3), .second, .val (.ref b1), .val (.ref b5), .val (.int j11), .unset, .unset] [(.int (0 : Int32))])) _
          refine XS.istore X10.here hx rfl (hb hby at_112) rfl (l' := #[.val (.long q1), .second, .val (.long q2), .second, .val (.long q3), .second, .val (.ref b1), .val (.ref b5), .val (.int j11), .val (.int (0 : Int32)), .unset]) rfl ?_
          exact k
  refine own_go st13 ?_
  show own_Go p.tables e below _ T10 (mkF m 114 #[.val (.long q1), .second, .val (.long q2), .second, .val (.long q3), .second, .val (.ref b1), .val (.ref b5), .val (.int j11), .val (.int j12), .unset] [])
  refine own_go (T' := T10) (g' := (mkF m 122 #[.val (.long q1), .second, .val (.long q2), .second, .val (.long q3), .second, .val (.ref b1), .val (.ref b5), .val (.int j11), .val (.int j12), .unset] [(.long (q3 ^^^ (-1 : Int64))), (.ref b5)])) (fun t k => ?_) ?_
  · show Steps p.tables e below (T10.setTop (mkF m 114 #[.val (.long q1), .second, .val (.long q2), .second, .val (.long q3), .second, .val (.ref b1), .val (.ref b5), .val (.int j11), .val (.int j12), .unset] [])) _
    refine XS.aload X10.here hx rfl (hb hby at_114) rfl rfl ?_
    show Steps p.tables e below (T10.setTop (mkF m 116 #[.val (.long q1), .second, .val (.long q2), .second, .val (.long q3), .second, .val (.ref b1), .val (.ref b5), .val (.int j11), .val (.int j12), .unset] [(.ref b5)])) _
    refine XS.lload X10.here hx rfl (hb hby at_116) rfl ?_
    show Steps p.tables e below (T10.setTop (mkF m 118 #[.val (.long q1), .second, .val (.long q2), .second, .val (.long q3), .second, .val (.ref b1), .val (.ref b5), .val (.int j11), .val (.int j12), .unset] [(.long q3), (.ref b5)])) _
    refine X10.ldc2Long hx hown (mvT hZ (hw _ (List.mem_of_getElem? (i := 49) rfl))) (g := (mkF m 118 #[.val (.long q1), .second, .val (.long q2), .second, .val (.long q3), .second, .val (.ref b1), .val (.ref b5), .val (.int j11), .val (.int j12), .unset] [(.long q3), (.ref b5)])) rfl (hb hby at_118) _ ?_
    show Steps p.tables e below (T10.setTop (mkF m 121 #[.val (.long q1), .second, .val (.long q2), .second, .val (.long q3), .second, .val (.ref b1), .val (.ref b5), .val (.int j11), .val (.int j12), .unset] [(.long (-1 : Int64)), (.long q3), (.ref b5)])) _
    refine XS.lxor X10.here hx rfl (hb hby at_121) rfl ?_
    exact k
  obtain ⟨cq14, kq14, q14a, q14b, q14c⟩ := isOf hZ e10 E_b5
  obtain ⟨_, _, ⟨T14, L14, k14, n14⟩, -, X14, ⟨Lc14, hQ14, l14, y14, z14⟩, st14⟩ := X10.virtualBack hx (y := (⟨"com/example/laden_graph/ladengraph/locality/Tally", "add", "(J)V"⟩ : MethodName)) (z := (⟨"com/example/laden_graph/ladengraph/locality/Tally", "add", "(J)V"⟩ : MethodName)) hown (mvT hZ (hw _ (List.mem_of_getElem? (i := 9) rfl))) (mvT hZ (hw _ (List.mem_of_getElem? (i := 10) rfl))) (notFace_of_selects (args := #[]) (mvT hZ (hw _ (List.mem_of_getElem? (i := 12) rfl)))) (mvT hZ (hw _ (List.mem_of_getElem? (i := 12) rfl))) (mvT hZ (hw _ (List.mem_of_getElem? (i := 11) rfl))) (by decide) (backOf (W := 0) (rm3 l Z a0 hw [] b5 (q3 ^^^ (-1 : Int64)) (((0 : Int64) + q1) + q2) (((0 : Int64) + ((q1 >>> ((63 : Int32) &&& 0x3f).toInt64) + (r_5 (0 : Int64) ((0 : Int64) + q1)))) + ((q2 >>> ((63 : Int32) &&& 0x3f).toInt64) + (r_5 ((0 : Int64) + q1) (((0 : Int64) + q1) + q2)))) T9.heap n0 Z0 F_b5_low F_b5_high E_b5 g_b5) hZ (hw _ (List.mem_of_getElem? (i := 13) rfl)) (hw _ (List.mem_of_getElem? (i := 2) rfl)) (by decide) (by decide)) q14a q14c (g := (mkF m 122 #[.val (.long q1), .second, .val (.long q2), .second, .val (.long q3), .second, .val (.ref b1), .val (.ref b5), .val (.int j11), .val (.int j12), .unset] [(.long (q3 ^^^ (-1 : Int64))), (.ref b5)])) rfl (by rw [hml]; rfl) (Steps.refl _) (argsL := [(.long (q3 ^^^ (-1 : Int64)))]) (rest := []) (lenOf pd_1 rfl) rfl (by show 2 * 0 + _ ≤ _; exact Nat.le_of_eq rfl) (hb hby at_122) (fun _ _ => ⟨rfl, e10, (by decide : 2 + 0 ≤ _), (by decide : 4 + 0 ≤ _)⟩)
  dsimp only [Pt.U, Pt.locs, Pt.cells, Pt.slots] at X14 l14 y14 z14 st14 hQ14
  subst l14 y14 z14
  obtain ⟨rfl, N14q, K14, Q14_0, Q14_1, Q14_2⟩ := hQ14
  have E_b1 := E_b1.keep K14
  have F_b1_low := F_b1_low.keep K14 (ninS ne_b1_b5 nin0)
  have F_b1_high := F_b1_high.keep K14 (ninS ne_b1_b5 nin0)
  have E_b5 := Q14_0
  have F_b5_low := Q14_1
  have F_b5_high := Q14_2
  have Z0 := Nat.le_trans Z0 K14.1
  have KK := KK.trans K14 (allS (Or.inr sz_b5) all0)
  have NN := Fr.app NN N14q
  refine own_go (fun t k => st14.trans k) ?_
  show own_Go p.tables e below _ T14 (mkF m 125 #[.val (.long q1), .second, .val (.long q2), .second, .val (.long q3), .second, .val (.ref b1), .val (.ref b5), .val (.int j11), .val (.int j12), .unset] [])
  refine own_go (T' := T14) (g' := (mkF m 128 #[.val (.long q1), .second, .val (.long q2), .second, .val (.long q3), .second, .val (.ref b1), .val (.ref b5), .val (.int j11), .val (.int j12), .unset] [(.long (1 : Int64)), (.ref b5)])) (fun t k => ?_) ?_
  · show Steps p.tables e below (T14.setTop (mkF m 125 #[.val (.long q1), .second, .val (.long q2), .second, .val (.long q3), .second, .val (.ref b1), .val (.ref b5), .val (.int j11), .val (.int j12), .unset] [])) _
    refine XS.aload X14.here hx rfl (hb hby at_125) rfl rfl ?_
    show Steps p.tables e below (T14.setTop (mkF m 127 #[.val (.long q1), .second, .val (.long q2), .second, .val (.long q3), .second, .val (.ref b1), .val (.ref b5), .val (.int j11), .val (.int j12), .unset] [(.ref b5)])) _
    refine XS.lconst X14.here hx rfl (hb hby at_127) ?_
    exact k
  obtain ⟨cq15, kq15, q15a, q15b, q15c⟩ := isOf hZ rfl E_b5
  obtain ⟨_, _, ⟨T15, L15, k15, n15⟩, -, X15, ⟨Lc15, hQ15, l15, y15, z15⟩, st15⟩ := X14.virtualBack hx (y := (⟨"com/example/laden_graph/ladengraph/locality/Tally", "add", "(J)V"⟩ : MethodName)) (z := (⟨"com/example/laden_graph/ladengraph/locality/Tally", "add", "(J)V"⟩ : MethodName)) hown (mvT hZ (hw _ (List.mem_of_getElem? (i := 9) rfl))) (mvT hZ (hw _ (List.mem_of_getElem? (i := 10) rfl))) (notFace_of_selects (args := #[]) (mvT hZ (hw _ (List.mem_of_getElem? (i := 12) rfl)))) (mvT hZ (hw _ (List.mem_of_getElem? (i := 12) rfl))) (mvT hZ (hw _ (List.mem_of_getElem? (i := 11) rfl))) (by decide) (backOf (W := 0) (rm3 l Z a0 hw [] b5 (1 : Int64) ((((0 : Int64) + q1) + q2) + (q3 ^^^ (-1 : Int64))) ((((0 : Int64) + ((q1 >>> ((63 : Int32) &&& 0x3f).toInt64) + (r_5 (0 : Int64) ((0 : Int64) + q1)))) + ((q2 >>> ((63 : Int32) &&& 0x3f).toInt64) + (r_5 ((0 : Int64) + q1) (((0 : Int64) + q1) + q2)))) + (((q3 ^^^ (-1 : Int64)) >>> ((63 : Int32) &&& 0x3f).toInt64) + (r_5 (((0 : Int64) + q1) + q2) ((((0 : Int64) + q1) + q2) + (q3 ^^^ (-1 : Int64)))))) T14.heap n0 Z0 F_b5_low F_b5_high E_b5 g_b5) hZ (hw _ (List.mem_of_getElem? (i := 13) rfl)) (hw _ (List.mem_of_getElem? (i := 2) rfl)) (by decide) (by decide)) q15a q15c (g := (mkF m 128 #[.val (.long q1), .second, .val (.long q2), .second, .val (.long q3), .second, .val (.ref b1), .val (.ref b5), .val (.int j11), .val (.int j12), .unset] [(.long (1 : Int64)), (.ref b5)])) rfl (by rw [hml]; rfl) (Steps.refl _) (argsL := [(.long (1 : Int64))]) (rest := []) (lenOf pd_1 rfl) rfl (by show 2 * 0 + _ ≤ _; exact Nat.le_of_eq rfl) (hb hby at_128) (fun _ _ => ⟨rfl, rfl, (by decide : 2 + 0 ≤ _), (by decide : 4 + 0 ≤ _)⟩)
  dsimp only [Pt.U, Pt.locs, Pt.cells, Pt.slots] at X15 l15 y15 z15 st15 hQ15
  subst l15 y15 z15
  obtain ⟨rfl, N15q, K15, Q15_0, Q15_1, Q15_2⟩ := hQ15
  have E_b1 := E_b1.keep K15
  have F_b1_low := F_b1_low.keep K15 (ninS ne_b1_b5 nin0)
  have F_b1_high := F_b1_high.keep K15 (ninS ne_b1_b5 nin0)
  have E_b5 := Q15_0
  have F_b5_low := Q15_1
  have F_b5_high := Q15_2
  have Z0 := Nat.le_trans Z0 K15.1
  have KK := KK.trans K15 (allS (Or.inr sz_b5) all0)
  have NN := Fr.app NN N15q
  refine own_go (fun t k => st15.trans k) ?_
  show own_Go p.tables e below _ T15 (mkF m 131 #[.val (.long q1), .second, .val (.long q2), .second, .val (.long q3), .second, .val (.ref b1), .val (.ref b5), .val (.int j11), .val (.int j12), .unset] [])
  refine own_go (T' := T15) (g' := (mkF m 135 #[.val (.long q1), .second, .val (.long q2), .second, .val (.long q3), .second, .val (.ref b1), .val (.ref b5), .val (.int j11), .val (.int j12), .unset] [(.ref b5), (.ref b1)])) (fun t k => ?_) ?_
  · show Steps p.tables e below (T15.setTop (mkF m 131 #[.val (.long q1), .second, .val (.long q2), .second, .val (.long q3), .second, .val (.ref b1), .val (.ref b5), .val (.int j11), .val (.int j12), .unset] [])) _
    refine XS.aload X15.here hx rfl (hb hby at_131) rfl rfl ?_
    show Steps p.tables e below (T15.setTop (mkF m 133 #[.val (.long q1), .second, .val (.long q2), .second, .val (.long q3), .second, .val (.ref b1), .val (.ref b5), .val (.int j11), .val (.int j12), .unset] [(.ref b1)])) _
    refine XS.aload X15.here hx rfl (hb hby at_133) rfl rfl ?_
    exact k
  obtain ⟨cq16, kq16, q16a, q16b, q16c⟩ := isOf hZ rfl E_b1
  obtain ⟨_, _, ⟨T16, L16, k16, n16⟩, -, X16, ⟨Lc16, hQ16, l16, y16, z16⟩, st16⟩ := X15.virtualBack hx (y := (⟨"com/example/laden_graph/ladengraph/locality/Tally", "compareTo", "(Lcom/example/laden_graph/ladengraph/locality/Tally;)I"⟩ : MethodName)) (z := (⟨"com/example/laden_graph/ladengraph/locality/Tally", "compareTo", "(Lcom/example/laden_graph/ladengraph/locality/Tally;)I"⟩ : MethodName)) hown (mvT hZ (hw _ (List.mem_of_getElem? (i := 43) rfl))) (mvT hZ (hw _ (List.mem_of_getElem? (i := 44) rfl))) (notFace_of_selects (args := #[]) (mvT hZ (hw _ (List.mem_of_getElem? (i := 46) rfl)))) (mvT hZ (hw _ (List.mem_of_getElem? (i := 46) rfl))) (mvT hZ (hw _ (List.mem_of_getElem? (i := 45) rfl))) (by decide) (backOf (W := 0) (rm10 l Z a0 hw [] b1 b5 (u_9_a1_high (q3 >>> ((63 : Int32) &&& 0x3f).toInt64) q3 (((0 : Int64) + q1) + q2) (((0 : Int64) + ((q1 >>> ((63 : Int32) &&& 0x3f).toInt64) + (r_5 (0 : Int64) ((0 : Int64) + q1)))) + ((q2 >>> ((63 : Int32) &&& 0x3f).toInt64) + (r_5 ((0 : Int64) + q1) (((0 : Int64) + q1) + q2))))) (((((0 : Int64) + ((q1 >>> ((63 : Int32) &&& 0x3f).toInt64) + (r_5 (0 : Int64) ((0 : Int64) + q1)))) + ((q2 >>> ((63 : Int32) &&& 0x3f).toInt64) + (r_5 ((0 : Int64) + q1) (((0 : Int64) + q1) + q2)))) + (((q3 ^^^ (-1 : Int64)) >>> ((63 : Int32) &&& 0x3f).toInt64) + (r_5 (((0 : Int64) + q1) + q2) ((((0 : Int64) + q1) + q2) + (q3 ^^^ (-1 : Int64)))))) + (((1 : Int64) >>> ((63 : Int32) &&& 0x3f).toInt64) + (r_5 ((((0 : Int64) + q1) + q2) + (q3 ^^^ (-1 : Int64))) (((((0 : Int64) + q1) + q2) + (q3 ^^^ (-1 : Int64))) + (1 : Int64))))) ((((0 : Int64) + q1) + q2) - q3) (((((0 : Int64) + q1) + q2) + (q3 ^^^ (-1 : Int64))) + (1 : Int64)) T15.heap n0 Z0 F_b1_high F_b5_high F_b1_low F_b5_low) hZ (hw _ (List.mem_of_getElem? (i := 47) rfl)) (hw _ (List.mem_of_getElem? (i := 2) rfl)) (by decide) (by decide)) q16a q16c (g := (mkF m 135 #[.val (.long q1), .second, .val (.long q2), .second, .val (.long q3), .second, .val (.ref b1), .val (.ref b5), .val (.int j11), .val (.int j12), .unset] [(.ref b5), (.ref b1)])) rfl (by rw [hml]; rfl) (Steps.refl _) (argsL := [(.ref b5)]) (rest := []) (lenOf pd_5 rfl) rfl (by show 2 * 0 + _ ≤ _; exact Nat.le_of_eq rfl) (hb hby at_135) (fun _ _ => ⟨rfl, rfl, (by decide : 2 + 0 ≤ _), (by decide : 4 + 0 ≤ _)⟩)
  dsimp only [Pt.U, Pt.locs, Pt.cells, Pt.slots] at X16 l16 y16 z16 st16 hQ16
  subst l16 y16 z16
  obtain ⟨rfl, N16q, e16⟩ := hQ16
  have NN := Fr.app NN N16q
  refine own_go (fun t k => st16.trans k) ?_
  show own_Go p.tables e below _ T16 (mkF m 138 #[.val (.long q1), .second, .val (.long q2), .second, .val (.long q3), .second, .val (.ref b1), .val (.ref b5), .val (.int j11), .val (.int j12), .unset] [(.int (r_10 (u_9_a1_high (q3 >>> ((63 : Int32) &&& 0x3f).toInt64) q3 (((0 : Int64) + q1) + q2) (((0 : Int64) + ((q1 >>> ((63 : Int32) &&& 0x3f).toInt64) + (r_5 (0 : Int64) ((0 : Int64) + q1)))) + ((q2 >>> ((63 : Int32) &&& 0x3f).toInt64) + (r_5 ((0 : Int64) + q1) (((0 : Int64) + q1) + q2))))) (((((0 : Int64) + ((q1 >>> ((63 : Int32) &&& 0x3f).toInt64) + (r_5 (0 : Int64) ((0 : Int64) + q1)))) + ((q2 >>> ((63 : Int32) &&& 0x3f).toInt64) + (r_5 ((0 : Int64) + q1) (((0 : Int64) + q1) + q2)))) + (((q3 ^^^ (-1 : Int64)) >>> ((63 : Int32) &&& 0x3f).toInt64) + (r_5 (((0 : Int64) + q1) + q2) ((((0 : Int64) + q1) + q2) + (q3 ^^^ (-1 : Int64)))))) + (((1 : Int64) >>> ((63 : Int32) &&& 0x3f).toInt64) + (r_5 ((((0 : Int64) + q1) + q2) + (q3 ^^^ (-1 : Int64))) (((((0 : Int64) + q1) + q2) + (q3 ^^^ (-1 : Int64))) + (1 : Int64))))) ((((0 : Int64) + q1) + q2) - q3) (((((0 : Int64) + q1) + q2) + (q3 ^^^ (-1 : Int64))) + (1 : Int64))))])
  obtain ⟨j17, hj17, st18⟩ : ∃ (j17 : Int32), j17 = (if (r_10 (u_9_a1_high (q3 >>> ((63 : Int32) &&& 0x3f).toInt64) q3 (((0 : Int64) + q1) + q2) (((0 : Int64) + ((q1 >>> ((63 : Int32) &&& 0x3f).toInt64) + (r_5 (0 : Int64) ((0 : Int64) + q1)))) + ((q2 >>> ((63 : Int32) &&& 0x3f).toInt64) + (r_5 ((0 : Int64) + q1) (((0 : Int64) + q1) + q2))))) (((((0 : Int64) + ((q1 >>> ((63 : Int32) &&& 0x3f).toInt64) + (r_5 (0 : Int64) ((0 : Int64) + q1)))) + ((q2 >>> ((63 : Int32) &&& 0x3f).toInt64) + (r_5 ((0 : Int64) + q1) (((0 : Int64) + q1) + q2)))) + (((q3 ^^^ (-1 : Int64)) >>> ((63 : Int32) &&& 0x3f).toInt64) + (r_5 (((0 : Int64) + q1) + q2) ((((0 : Int64) + q1) + q2) + (q3 ^^^ (-1 : Int64)))))) + (((1 : Int64) >>> ((63 : Int32) &&& 0x3f).toInt64) + (r_5 ((((0 : Int64) + q1) + q2) + (q3 ^^^ (-1 : Int64))) (((((0 : Int64) + q1) + q2) + (q3 ^^^ (-1 : Int64))) + (1 : Int64))))) ((((0 : Int64) + q1) + q2) - q3) (((((0 : Int64) + q1) + q2) + (q3 ^^^ (-1 : Int64))) + (1 : Int64))) = (0 : Int32) then (1 : Int32) else (0 : Int32)) ∧ ∀ t, Steps p.tables e below (T16.setTop (mkF m 146 #[.val (.long q1), .second, .val (.long q2), .second, .val (.long q3), .second, .val (.ref b1), .val (.ref b5), .val (.int j11), .val (.int j12), .unset] [(.int j17)])) t → Steps p.tables e below (T16.setTop (mkF m 138 #[.val (.long q1), .second, .val (.long q2), .second, .val (.long q3), .second, .val (.ref b1), .val (.ref b5), .val (.int j11), .val (.int j12), .unset] [(.int (r_10 (u_9_a1_high (q3 >>> ((63 : Int32) &&& 0x3f).toInt64) q3 (((0 : Int64) + q1) + q2) (((0 : Int64) + ((q1 >>> ((63 : Int32) &&& 0x3f).toInt64) + (r_5 (0 : Int64) ((0 : Int64) + q1)))) + ((q2 >>> ((63 : Int32) &&& 0x3f).toInt64) + (r_5 ((0 : Int64) + q1) (((0 : Int64) + q1) + q2))))) (((((0 : Int64) + ((q1 >>> ((63 : Int32) &&& 0x3f).toInt64) + (r_5 (0 : Int64) ((0 : Int64) + q1)))) + ((q2 >>> ((63 : Int32) &&& 0x3f).toInt64) + (r_5 ((0 : Int64) + q1) (((0 : Int64) + q1) + q2)))) + (((q3 ^^^ (-1 : Int64)) >>> ((63 : Int32) &&& 0x3f).toInt64) + (r_5 (((0 : Int64) + q1) + q2) ((((0 : Int64) + q1) + q2) + (q3 ^^^ (-1 : Int64)))))) + (((1 : Int64) >>> ((63 : Int32) &&& 0x3f).toInt64) + (r_5 ((((0 : Int64) + q1) + q2) + (q3 ^^^ (-1 : Int64))) (((((0 : Int64) + q1) + q2) + (q3 ^^^ (-1 : Int64))) + (1 : Int64))))) ((((0 : Int64) + q1) + q2) - q3) (((((0 : Int64) + q1) + q2) + (q3 ^^^ (-1 : Int64))) + (1 : Int64))))])) t := by
    by_cases hc138_6 : (r_10 (u_9_a1_high (q3 >>> ((63 : Int32) &&& 0x3f).toInt64) q3 (((0 : Int64) + q1) + q2) (((0 : Int64) + ((q1 >>> ((63 : Int32) &&& 0x3f).toInt64) + (r_5 (0 : Int64) ((0 : Int64) + q1)))) + ((q2 >>> ((63 : Int32) &&& 0x3f).toInt64) + (r_5 ((0 : Int64) + q1) (((0 : Int64) + q1) + q2))))) (((((0 : Int64) + ((q1 >>> ((63 : Int32) &&& 0x3f).toInt64) + (r_5 (0 : Int64) ((0 : Int64) + q1)))) + ((q2 >>> ((63 : Int32) &&& 0x3f).toInt64) + (r_5 ((0 : Int64) + q1) (((0 : Int64) + q1) + q2)))) + (((q3 ^^^ (-1 : Int64)) >>> ((63 : Int32) &&& 0x3f).toInt64) + (r_5 (((0 : Int64) + q1) + q2) ((((0 : Int64) + q1) + q2) + (q3 ^^^ (-1 : Int64)))))) + (((1 : Int64) >>> ((63 : Int32) &&& 0x3f).toInt64) + (r_5 ((((0 : Int64) + q1) + q2) + (q3 ^^^ (-1 : Int64))) (((((0 : Int64) + q1) + q2) + (q3 ^^^ (-1 : Int64))) + (1 : Int64))))) ((((0 : Int64) + q1) + q2) - q3) (((((0 : Int64) + q1) + q2) + (q3 ^^^ (-1 : Int64))) + (1 : Int64))) = (0 : Int32)
    · skip
      refine ⟨(1 : Int32), (by simp only [if_pos hc138_6]), fun t k => ?_⟩
      show Steps p.tables e below (T16.setTop (mkF m 138 #[.val (.long q1), .second, .val (.long q2), .second, .val (.long q3), .second, .val (.ref b1), .val (.ref b5), .val (.int j11), .val (.int j12), .unset] [(.int (r_10 (u_9_a1_high (q3 >>> ((63 : Int32) &&& 0x3f).toInt64) q3 (((0 : Int64) + q1) + q2) (((0 : Int64) + ((q1 >>> ((63 : Int32) &&& 0x3f).toInt64) + (r_5 (0 : Int64) ((0 : Int64) + q1)))) + ((q2 >>> ((63 : Int32) &&& 0x3f).toInt64) + (r_5 ((0 : Int64) + q1) (((0 : Int64) + q1) + q2))))) (((((0 : Int64) + ((q1 >>> ((63 : Int32) &&& 0x3f).toInt64) + (r_5 (0 : Int64) ((0 : Int64) + q1)))) + ((q2 >>> ((63 : Int32) &&& 0x3f).toInt64) + (r_5 ((0 : Int64) + q1) (((0 : Int64) + q1) + q2)))) + (((q3 ^^^ (-1 : Int64)) >>> ((63 : Int32) &&& 0x3f).toInt64) + (r_5 (((0 : Int64) + q1) + q2) ((((0 : Int64) + q1) + q2) + (q3 ^^^ (-1 : Int64)))))) + (((1 : Int64) >>> ((63 : Int32) &&& 0x3f).toInt64) + (r_5 ((((0 : Int64) + q1) + q2) + (q3 ^^^ (-1 : Int64))) (((((0 : Int64) + q1) + q2) + (q3 ^^^ (-1 : Int64))) + (1 : Int64))))) ((((0 : Int64) + q1) + q2) - q3) (((((0 : Int64) + q1) + q2) + (q3 ^^^ (-1 : Int64))) + (1 : Int64))))])) _
      refine XS.ifNo X16.here hx rfl (hb hby at_138) rfl ((if0 _ _).trans (teq hc138_6).2) ?_
      show Steps p.tables e below (T16.setTop (mkF m 141 #[.val (.long q1), .second, .val (.long q2), .second, .val (.long q3), .second, .val (.ref b1), .val (.ref b5), .val (.int j11), .val (.int j12), .unset] [])) _
      refine XS.iconst X16.here hx rfl (hb hby at_141) ?_
      show Steps p.tables e below (T16.setTop (mkF m 142 #[.val (.long q1), .second, .val (.long q2), .second, .val (.long q3), .second, .val (.ref b1), .val (.ref b5), .val (.int j11), .val (.int j12), .unset] [(.int (1 : Int32))])) _
      refine XS.goto X16.here hx rfl (pc0 := 142) (pc' := 146) rfl (hb hby at_142) (by decide) (by decide) ?_
      exact k
    · skip
      refine ⟨(0 : Int32), (by simp only [if_neg hc138_6]), fun t k => ?_⟩
      show Steps p.tables e below (T16.setTop (mkF m 138 #[.val (.long q1), .second, .val (.long q2), .second, .val (.long q3), .second, .val (.ref b1), .val (.ref b5), .val (.int j11), .val (.int j12), .unset] [(.int (r_10 (u_9_a1_high (q3 >>> ((63 : Int32) &&& 0x3f).toInt64) q3 (((0 : Int64) + q1) + q2) (((0 : Int64) + ((q1 >>> ((63 : Int32) &&& 0x3f).toInt64) + (r_5 (0 : Int64) ((0 : Int64) + q1)))) + ((q2 >>> ((63 : Int32) &&& 0x3f).toInt64) + (r_5 ((0 : Int64) + q1) (((0 : Int64) + q1) + q2))))) (((((0 : Int64) + ((q1 >>> ((63 : Int32) &&& 0x3f).toInt64) + (r_5 (0 : Int64) ((0 : Int64) + q1)))) + ((q2 >>> ((63 : Int32) &&& 0x3f).toInt64) + (r_5 ((0 : Int64) + q1) (((0 : Int64) + q1) + q2)))) + (((q3 ^^^ (-1 : Int64)) >>> ((63 : Int32) &&& 0x3f).toInt64) + (r_5 (((0 : Int64) + q1) + q2) ((((0 : Int64) + q1) + q2) + (q3 ^^^ (-1 : Int64)))))) + (((1 : Int64) >>> ((63 : Int32) &&& 0x3f).toInt64) + (r_5 ((((0 : Int64) + q1) + q2) + (q3 ^^^ (-1 : Int64))) (((((0 : Int64) + q1) + q2) + (q3 ^^^ (-1 : Int64))) + (1 : Int64))))) ((((0 : Int64) + q1) + q2) - q3) (((((0 : Int64) + q1) + q2) + (q3 ^^^ (-1 : Int64))) + (1 : Int64))))])) _
      refine XS.ifYes X16.here hx rfl (pc0 := 138) (pc' := 145) rfl (hb hby at_138) rfl ((if0 _ _).trans (feq hc138_6).2) (by decide) (by decide) ?_
      show Steps p.tables e below (T16.setTop (mkF m 145 #[.val (.long q1), .second, .val (.long q2), .second, .val (.long q3), .second, .val (.ref b1), .val (.ref b5), .val (.int j11), .val (.int j12), .unset] [])) _
      refine XS.iconst X16.here hx rfl (hb hby at_145) ?_
      exact k
  refine own_go st18 ?_
  show own_Go p.tables e below _ T16 (mkF m 146 #[.val (.long q1), .second, .val (.long q2), .second, .val (.long q3), .second, .val (.ref b1), .val (.ref b5), .val (.int j11), .val (.int j12), .unset] [(.int j17)])
  refine own_go (T' := T16) (g' := (mkF m 150 #[.val (.long q1), .second, .val (.long q2), .second, .val (.long q3), .second, .val (.ref b1), .val (.ref b5), .val (.int j11), .val (.int j12), .val (.int j17)] [(.int j12)])) (fun t k => ?_) ?_
  · show Steps p.tables e below (T16.setTop (mkF m 146 #[.val (.long q1), .second, .val (.long q2), .second, .val (.long q3), .second, .val (.ref b1), .val (.ref b5), .val (.int j11), .val (.int j12), .unset] [(.int j17)])) _
    refine XS.istore X16.here hx rfl (hb hby at_146) rfl (l' := #[.val (.long q1), .second, .val (.long q2), .second, .val (.long q3), .second, .val (.ref b1), .val (.ref b5), .val (.int j11), .val (.int j12), .val (.int j17)]) rfl ?_
    show Steps p.tables e below (T16.setTop (mkF m 148 #[.val (.long q1), .second, .val (.long q2), .second, .val (.long q3), .second, .val (.ref b1), .val (.ref b5), .val (.int j11), .val (.int j12), .val (.int j17)] [])) _
    refine XS.iload X16.here hx rfl (hb hby at_148) rfl ?_
    exact k
  obtain ⟨j19, hj19, st20⟩ : ∃ (j19 : Int32), j19 = (if j12 = (0 : Int32) then (0 : Int32) else (if j17 = (0 : Int32) then (0 : Int32) else (1 : Int32))) ∧ ∀ t, Steps p.tables e below (T16.setTop (mkF m 163 #[.val (.long q1), .second, .val (.long q2), .second, .val (.long q3), .second, .val (.ref b1), .val (.ref b5), .val (.int j11), .val (.int j12), .val (.int j17)] [(.int j19)])) t → Steps p.tables e below (T16.setTop (mkF m 150 #[.val (.long q1), .second, .val (.long q2), .second, .val (.long q3), .second, .val (.ref b1), .val (.ref b5), .val (.int j11), .val (.int j12), .val (.int j17)] [(.int j12)])) t := by
    by_cases hc150_7 : j12 = (0 : Int32)
    · skip
      refine ⟨(0 : Int32), (by simp only [if_pos hc150_7]), fun t k => ?_⟩
      show Steps p.tables e below (T16.setTop (mkF m 150 #[.val (.long q1), .second, .val (.long q2), .second, .val (.long q3), .second, .val (.ref b1), .val (.ref b5), .val (.int j11), .val (.int j12), .val (.int j17)] [(.int j12)])) _
      refine XS.ifYes X16.here hx rfl (pc0 := 150) (pc' := 162) rfl (hb hby at_150) rfl ((if0 _ _).trans (teq hc150_7).1) (by decide) (by decide) ?_
      show Steps p.tables e below (T16.setTop (mkF m 162 #[.val (.long q1), .second, .val (.long q2), .second, .val (.long q3), .second, .val (.ref b1), .val (.ref b5), .val (.int j11), .val (.int j12), .val (.int j17)] [])) _
      refine XS.iconst X16.here hx rfl (hb hby at_162) ?_
      exact k
    · skip
      by_cases hc155_8 : j17 = (0 : Int32)
      · skip
        refine ⟨(0 : Int32), (by simp only [if_neg hc150_7, if_pos hc155_8]), fun t k => ?_⟩
        show Steps p.tables e below (T16.setTop (mkF m 150 #[.val (.long q1), .second, .val (.long q2), .second, .val (.long q3), .second, .val (.ref b1), .val (.ref b5), .val (.int j11), .val (.int j12), .val (.int j17)] [(.int j12)])) _
        refine XS.ifNo X16.here hx rfl (hb hby at_150) rfl ((if0 _ _).trans (feq hc150_7).1) ?_
        show Steps p.tables e below (T16.setTop (mkF m 153 #[.val (.long q1), .second, .val (.long q2), .second, .val (.long q3), .second, .val (.ref b1), .val (.ref b5), .val (.int j11), .val (.int j12), .val (.int j17)] [])) _
        refine XS.iload X16.here hx rfl (hb hby at_153) rfl ?_
        show Steps p.tables e below (T16.setTop (mkF m 155 #[.val (.long q1), .second, .val (.long q2), .second, .val (.long q3), .second, .val (.ref b1), .val (.ref b5), .val (.int j11), .val (.int j12), .val (.int j17)] [(.int j17)])) _
        refine XS.ifYes X16.here hx rfl (pc0 := 155) (pc' := 162) rfl (hb hby at_155) rfl ((if0 _ _).trans (teq hc155_8).1) (by decide) (by decide) ?_
        show Steps p.tables e below (T16.setTop (mkF m 162 #[.val (.long q1), .second, .val (.long q2), .second, .val (.long q3), .second, .val (.ref b1), .val (.ref b5), .val (.int j11), .val (.int j12), .val (.int j17)] [])) _
        refine XS.iconst X16.here hx rfl (hb hby at_162) ?_
        exact k
      · skip
        refine ⟨(1 : Int32), (by simp only [if_neg hc150_7, if_neg hc155_8]), fun t k => ?_⟩
        show Steps p.tables e below (T16.setTop (mkF m 150 #[.val (.long q1), .second, .val (.long q2), .second, .val (.long q3), .second, .val (.ref b1), .val (.ref b5), .val (.int j11), .val (.int j12), .val (.int j17)] [(.int j12)])) _
        refine XS.ifNo X16.here hx rfl (hb hby at_150) rfl ((if0 _ _).trans (feq hc150_7).1) ?_
        show Steps p.tables e below (T16.setTop (mkF m 153 #[.val (.long q1), .second, .val (.long q2), .second, .val (.long q3), .second, .val (.ref b1), .val (.ref b5), .val (.int j11), .val (.int j12), .val (.int j17)] [])) _
        refine XS.iload X16.here hx rfl (hb hby at_153) rfl ?_
        show Steps p.tables e below (T16.setTop (mkF m 155 #[.val (.long q1), .second, .val (.long q2), .second, .val (.long q3), .second, .val (.ref b1), .val (.ref b5), .val (.int j11), .val (.int j12), .val (.int j17)] [(.int j17)])) _
        refine XS.ifNo X16.here hx rfl (hb hby at_155) rfl ((if0 _ _).trans (feq hc155_8).1) ?_
        show Steps p.tables e below (T16.setTop (mkF m 158 #[.val (.long q1), .second, .val (.long q2), .second, .val (.long q3), .second, .val (.ref b1), .val (.ref b5), .val (.int j11), .val (.int j12), .val (.int j17)] [])) _
        refine XS.iconst X16.here hx rfl (hb hby at_158) ?_
        show Steps p.tables e below (T16.setTop (mkF m 159 #[.val (.long q1), .second, .val (.long q2), .second, .val (.long q3), .second, .val (.ref b1), .val (.ref b5), .val (.int j11), .val (.int j12), .val (.int j17)] [(.int (1 : Int32))])) _
        refine XS.goto X16.here hx rfl (pc0 := 159) (pc' := 163) rfl (hb hby at_159) (by decide) (by decide) ?_
        exact k
  refine own_go st20 ?_
  show own_Go p.tables e below _ T16 (mkF m 163 #[.val (.long q1), .second, .val (.long q2), .second, .val (.long q3), .second, .val (.ref b1), .val (.ref b5), .val (.int j11), .val (.int j12), .val (.int j17)] [(.int j19)])
  have hv1 : (nar .boolean j19) = 1 := own_yes_x q1 q2 q3 j11 j12 j17 j19 hj11 hj12 hj17 hj19
  obtain ⟨fs, hr, hrun, hended, hW, hsame⟩ := X16.leave (v := some (.int (nar .boolean j19))) (fun h => by rw [Bd.returns] at h; cases h)
  refine ⟨_, _, ?_, hrun, hended, _, _, rfl, ?_, ⟨_, rfl⟩, hW, hsame.mono (by decide) (by decide)⟩
  · exact retN X16 hx (t := .boolean) Bd.returns (by simp) (hb hby at_163) hr
  · show Q0 Z q1 q2 q3 h0 n0 _ _ _
    exact ⟨by rw [hv1], NN⟩
set_option maxRecDepth 65536 in
set_option maxHeartbeats 40000000 in
theorem comes_1 {Post : Tables → Env → Array Value → State → Outcome → State → Prop} (hpost : ∀ tb e args s v u, (limb_1_1.after args s (.returned v) u = true ∧ limb_1_2.after args s (.returned v) u = true ∧ True) → FrameEnd s (.returned v) u (Jvm.fieldLocs frame_1_writes args s ++ Jvm.arrayLocs frame_1_arrays args s ++ Jvm.staticLocs frame_1_statics s) 16 128 → Post tb e args s (.returned v) u) :
    ArmFor flags0 classFile x code maxLocals ret World_1 tables_1 room_1 Calls_1 rest_1 Pre_1 Post := by
  intro l hfl _ _ p e ha hc hk s m args below hf hA hF happ hP
  obtain ⟨hcalls, hrest, hpre⟩ := hP
  obtain ⟨-, -, -, hnamed, -, -, -, hat⟩ := (Spec.applies_iff hf).mp happ
  obtain ⟨hg, hn⟩ := and_e (Cond.before_iff.mp (show (Jvm.Cond.and given_1 narrow_1).before args s = true from hpre))
  obtain ⟨hcount, hg0⟩ := and_e hg
  obtain ⟨ha0, hg1⟩ := and_e hg0
  obtain ⟨ha1, hg2⟩ := and_e hg1
  have ha2 := hg2
  obtain ⟨w0, w1, w2, rfl⟩ : ∃ w0 w1 w2 : Value, args = #[w0, w1, w2] := by
    have hs : args.size = 3 := by simpa [Cond.value, given_1] using hcount
    obtain ⟨L⟩ := args
    match L, hs with
    | [w0, w1, w2], _ => exact ⟨w0, w1, w2, rfl⟩
  have hw := fun d (hd : d ∈ tables_1) => atoms_spec (ws := Jvm.Cond.code x code maxLocals ret :: tables_1) hat d (List.mem_cons_of_mem _ hd)
  obtain ⟨i0, ei0⟩ := isL_v ha0
  obtain rfl : w0 = (.long i0) := Option.some.inj ei0
  obtain ⟨i1, ei1⟩ := isL_v ha1
  obtain rfl : w1 = (.long i1) := Option.some.inj ei1
  obtain ⟨i2, ei2⟩ := isL_v ha2
  obtain rfl : w2 = (.long i2) := Option.some.inj ei2
  obtain ⟨n, o, h1, h2, h3, _, L, rfl, ⟨rfl, N⟩, hq⟩ := rm0 l s _ hw tables_1 i0 i1 i2 s.heap s.heap.size (Nat.le_refl _) p e ha hc hk s m _ below hf ((Spec.applies_iff_loose hf).mp happ).1 ⟨rfl, State.Warmed39.refl s, rfl⟩ trivial
  refine ⟨n, _, h1, h2, h3, hpost _ _ _ _ _ _ ⟨Cond.after_iff.mpr rfl, Cond.after_iff.mpr (eq_i res_at (Term.int_eval (1)) rfl), trivial⟩ ⟨hq.1, hq.2.1, (hq.2.2.sift fun y hy => Or.inr (N y hy)).mono (by decide) (by decide)⟩⟩
theorem main_1_1 : Claimed_1_1 := comes_1 fun _ _ _ _ _ _ h hF => ⟨h.1, hF⟩
theorem main_1_2 : Claimed_1_2 := comes_1 fun _ _ _ _ _ _ h hF => ⟨h.2.1, hF⟩
end Jvm.Pilot.@@N@@
namespace Jvm.Pilot.@@N@@
open Jvm Jvm.ClassFile Sem Op Lib Jvm.Free Jvm.Stand Jvm.Pilot.@@N@@.Jvm.D
/-! MADE BY PROGRAM (witnessworld.py) out of the Statement's table words and the real class files: 14 classes; the members and pool entries that the words name. The judged class is class 1, her method 1. -/
namespace start1
open Jvm.ClassFile
def u (s : String) : CpInfo := .utf8 (stringToUtf16 s)
/-- a pool by its gaps: so many unusable entries, then the entry; so many at the end -/
def gap : Nat → List CpInfo → List CpInfo
  | 0, r => r
  | n + 1, r => .unusable :: gap n r
def poolList (es : List (Nat × CpInfo)) (last : Nat) : List CpInfo := es.foldr (fun e r => gap e.1 (e.2 :: r)) (gap last [])
def pool (es : List (Nat × CpInfo)) (last : Nat) : Array CpInfo := ⟨poolList es last⟩
def fileOf (pool : Array CpInfo) (this : Nat) (attrs : Array Attribute := #[]) (ms : Array MethodInfo := #[]) (fl : Nat := 33) (sup : Nat := 0) (ifs : Array Nat := #[]) (fds : Array FieldInfo := #[]) : ClassFile where
  minorVersion := 0
  majorVersion := 65
  constantPool := pool
  accessFlags := fl
  thisClass := this
  superClass := sup
  interfaces := ifs
  fields := fds
  methods := ms
  attributes := attrs
def plain (name : String) (sup : Option ClassId) : Class where
  name := name
  kind := .ordinary
  loader := none
  accessFlags := 33
  super := sup
  interfaces := #[]
  cf := none
  fields := #[]
  methods := #[]
  instanceTypes := #[]
  staticTypes := #[]
  resolved := #[]
  callSites := []
  init := .initialized
  statics := none
  mirror := none

def pool0 : Array CpInfo := pool [(5, u "<init>"), (0, u "()V"), (1, .class_ 10), (1, u "java/lang/Object")] 113

def k0c0 : Code := { maxStack := 0, maxLocals := 1, code := object_method_1_code, exceptionTable := #[], attributes := #[] }
def k0m0 : Method := { name := "<init>", desc := "()V", sig := { parameters := [], returnType := none }, accessFlags := 1, code := some k0c0 }
/-- java/lang/Object -/
def k0 : Class := { plain "java/lang/Object" none with
  accessFlags := 33
  interfaces := #[]
  cf := some (fileOf pool0 8 #[] #[{ accessFlags := 1, nameIndex := 5, descriptorIndex := 6, attributes := #[] }] 33 0 #[] #[])
  fields := #[]
  methods := #[k0m0]
  instanceTypes := #[]
  staticTypes := #[]
  resolved := Array.replicate 124 none
  statics := none }

def pool1 : Array CpInfo := pool [(2, .class_ 4), (0, .nameAndType 5 6), (0, u "java/lang/Object"), (0, u "<init>"), (0, u "()V"), (0, .class_ 8), (0, u "com/example/laden_graph/ladengraph/locality/Tally"), (0, .methodref 7 3), (0, .methodref 7 11), (0, .nameAndType 12 13), (0, u "add"), (0, u "(J)V"), (0, .methodref 7 15), (0, .nameAndType 16 13), (0, u "subtract"), (0, .methodref 7 18), (0, .nameAndType 19 20), (0, u "compareTo"), (0, u "(Lcom/example/laden_graph/ladengraph/locality/Tally;)I"), (0, .long 18446744073709551615), (1, .class_ 24), (0, u "com/example/laden_graph/ladengraph/locality/TallySubtract264PinLaw"), (2, u "law"), (0, u "(JJJ)Z")] 3

def k1m0 : Method := { name := "<init>", desc := "()V", sig := { parameters := [], returnType := none }, accessFlags := 1, code := none }
def k1c1 : Code := { maxStack := 5, maxLocals := 11, code := code, exceptionTable := #[], attributes := #[] }
def k1m1 : Method := { name := "law", desc := "(JJJ)Z", sig := { parameters := [.long, .long, .long], returnType := some .boolean }, accessFlags := 9, code := some k1c1 }
/-- com/example/laden_graph/ladengraph/locality/TallySubtract264PinLaw -/
def k1 : Class := { plain "com/example/laden_graph/ladengraph/locality/TallySubtract264PinLaw" (some 0) with
  accessFlags := 49
  interfaces := #[]
  cf := some (fileOf pool1 23 #[] #[{ accessFlags := 1, nameIndex := 5, descriptorIndex := 6, attributes := #[] }, { accessFlags := 9, nameIndex := 27, descriptorIndex := 28, attributes := #[] }] 49 2 #[] #[])
  fields := #[]
  methods := #[k1m0, k1m1]
  instanceTypes := #[]
  staticTypes := #[]
  resolved := Array.replicate 32 none
  statics := none }

def pool2 : Array CpInfo := pool [(1, .methodref 2 3), (0, .class_ 4), (0, .nameAndType 5 6), (0, u "java/lang/Object"), (0, u "<init>"), (0, u "()V"), (0, .methodref 8 9), (0, .class_ 10), (0, .nameAndType 11 12), (0, u "java/lang/Long"), (0, u "compareUnsigned"), (0, u "(JJ)I"), (0, .fieldref 14 15), (0, .class_ 16), (0, .nameAndType 17 18), (0, u "com/example/laden_graph/ladengraph/locality/Tally"), (0, u "high"), (0, u "J"), (0, .fieldref 14 20), (0, .nameAndType 21 18), (0, u "low"), (0, .methodref 14 23), (0, .nameAndType 24 25), (0, u "add"), (0, u "(JJ)V"), (0, .methodref 14 27), (0, .nameAndType 28 29), (0, u "carry"), (0, u "(JJ)J"), (0, .methodref 14 31), (0, .nameAndType 32 25), (0, u "subtract"), (0, .methodref 8 34), (0, .nameAndType 35 12), (0, u "compare"), (24, u "(J)V"), (1, u "compareTo"), (0, u "(Lcom/example/laden_graph/ladengraph/locality/Tally;)I")] 4

def k2c0 : Code := { maxStack := 1, maxLocals := 1, code := prog_10_method_1_code, exceptionTable := #[], attributes := #[] }
def k2m0 : Method := { name := "<init>", desc := "()V", sig := { parameters := [], returnType := none }, accessFlags := 0, code := some k2c0 }
def k2c1 : Code := { maxStack := 4, maxLocals := 4, code := prog_10_method_2_code, exceptionTable := #[], attributes := #[] }
def k2m1 : Method := { name := "carry", desc := "(JJ)J", sig := { parameters := [.long, .long], returnType := some .long }, accessFlags := 8, code := some k2c1 }
def k2c2 : Code := { maxStack := 5, maxLocals := 3, code := prog_10_method_4_code, exceptionTable := #[], attributes := #[] }
def k2m2 : Method := { name := "add", desc := "(J)V", sig := { parameters := [.long], returnType := none }, accessFlags := 0, code := some k2c2 }
def k2c3 : Code := { maxStack := 9, maxLocals := 7, code := prog_10_method_6_code, exceptionTable := #[], attributes := #[] }
def k2m3 : Method := { name := "add", desc := "(JJ)V", sig := { parameters := [.long, .long], returnType := none }, accessFlags := 2, code := some k2c3 }
def k2c4 : Code := { maxStack := 5, maxLocals := 3, code := prog_10_method_7_code, exceptionTable := #[], attributes := #[] }
def k2m4 : Method := { name := "subtract", desc := "(J)V", sig := { parameters := [.long], returnType := none }, accessFlags := 0, code := some k2c4 }
def k2c5 : Code := { maxStack := 7, maxLocals := 7, code := prog_10_method_9_code, exceptionTable := #[], attributes := #[] }
def k2m5 : Method := { name := "subtract", desc := "(JJ)V", sig := { parameters := [.long, .long], returnType := none }, accessFlags := 0, code := some k2c5 }
def k2c6 : Code := { maxStack := 4, maxLocals := 3, code := prog_10_method_10_code, exceptionTable := #[], attributes := #[] }
def k2m6 : Method := { name := "compareTo", desc := "(Lcom/example/laden_graph/ladengraph/locality/Tally;)I", sig := { parameters := [(.object "com/example/laden_graph/ladengraph/locality/Tally")], returnType := some .int }, accessFlags := 0, code := some k2c6 }
/-- com/example/laden_graph/ladengraph/locality/Tally -/
def k2 : Class := { plain "com/example/laden_graph/ladengraph/locality/Tally" (some 0) with
  accessFlags := 32
  interfaces := #[]
  cf := some (fileOf pool2 14 #[] #[{ accessFlags := 0, nameIndex := 5, descriptorIndex := 6, attributes := #[] }, { accessFlags := 8, nameIndex := 28, descriptorIndex := 29, attributes := #[] }, { accessFlags := 0, nameIndex := 24, descriptorIndex := 60, attributes := #[] }, { accessFlags := 2, nameIndex := 24, descriptorIndex := 25, attributes := #[] }, { accessFlags := 0, nameIndex := 32, descriptorIndex := 60, attributes := #[] }, { accessFlags := 0, nameIndex := 32, descriptorIndex := 25, attributes := #[] }, { accessFlags := 0, nameIndex := 62, descriptorIndex := 63, attributes := #[] }] 32 2 #[] #[{ accessFlags := 2, nameIndex := 17, descriptorIndex := 18, attributes := #[] }, { accessFlags := 2, nameIndex := 21, descriptorIndex := 18, attributes := #[] }])
  fields := #[{ name := "high", type := .long, accessFlags := 2, slot := 0, constantValue := 0 }, { name := "low", type := .long, accessFlags := 2, slot := 1, constantValue := 0 }]
  methods := #[k2m0, k2m1, k2m2, k2m3, k2m4, k2m5, k2m6]
  instanceTypes := #[.long, .long]
  staticTypes := #[]
  resolved := Array.replicate 68 none
  statics := none }

def pool3 : Array CpInfo := pool [(1, .class_ 2), (0, u "java/io/Serializable"), (0, .class_ 4), (0, u "java/lang/Object")] 2

/-- java/io/Serializable -/
def k3 : Class := { plain "java/io/Serializable" (some 0) with
  accessFlags := 1537
  interfaces := #[]
  cf := some (fileOf pool3 1 #[] #[] 1537 3 #[] #[])
  fields := #[]
  methods := #[]
  instanceTypes := #[]
  staticTypes := #[]
  resolved := Array.replicate 7 none
  statics := none }

def pool4 : Array CpInfo := pool [(2, .class_ 4), (1, u "java/lang/Object"), (0, u "<init>"), (0, u "()V"), (1, .class_ 10), (1, u "java/lang/Number"), (2, .class_ 14), (0, u "java/io/Serializable"), (0, u "serialVersionUID"), (0, u "J")] 20

def k4m0 : Method := { name := "<init>", desc := "()V", sig := { parameters := [], returnType := none }, accessFlags := 1, code := none }
/-- java/lang/Number -/
def k4 : Class := { plain "java/lang/Number" (some 0) with
  accessFlags := 1057
  interfaces := #[3]
  cf := some (fileOf pool4 8 #[] #[{ accessFlags := 1, nameIndex := 5, descriptorIndex := 6, attributes := #[] }] 1057 2 #[13] #[{ accessFlags := 26, nameIndex := 15, descriptorIndex := 16, attributes := #[] }])
  fields := #[{ name := "serialVersionUID", type := .long, accessFlags := 26, slot := 0, constantValue := 0 }]
  methods := #[k4m0]
  instanceTypes := #[]
  staticTypes := #[.long]
  resolved := Array.replicate 37 none
  statics := none }

def pool5 : Array CpInfo := pool [(1, .class_ 2), (0, u "java/lang/Comparable"), (0, .class_ 4), (0, u "java/lang/Object")] 7

/-- java/lang/Comparable -/
def k5 : Class := { plain "java/lang/Comparable" (some 0) with
  accessFlags := 1537
  interfaces := #[]
  cf := some (fileOf pool5 1 #[] #[] 1537 3 #[] #[])
  fields := #[]
  methods := #[]
  instanceTypes := #[]
  staticTypes := #[]
  resolved := Array.replicate 12 none
  statics := none }

def pool6 : Array CpInfo := pool [(1, .class_ 2), (0, u "java/lang/constant/Constable"), (0, .class_ 4), (0, u "java/lang/Object")] 6

/-- java/lang/constant/Constable -/
def k6 : Class := { plain "java/lang/constant/Constable" (some 0) with
  accessFlags := 1537
  interfaces := #[]
  cf := some (fileOf pool6 1 #[] #[] 1537 3 #[] #[])
  fields := #[]
  methods := #[]
  instanceTypes := #[]
  staticTypes := #[]
  resolved := Array.replicate 11 none
  statics := none }

def pool7 : Array CpInfo := pool [(1, .class_ 2), (0, u "java/lang/constant/ConstantDesc"), (0, .class_ 4), (0, u "java/lang/Object")] 32

/-- java/lang/constant/ConstantDesc -/
def k7 : Class := { plain "java/lang/constant/ConstantDesc" (some 0) with
  accessFlags := 1537
  interfaces := #[]
  cf := some (fileOf pool7 1 #[] #[] 1537 3 #[] #[])
  fields := #[]
  methods := #[]
  instanceTypes := #[]
  staticTypes := #[]
  resolved := Array.replicate 37 none
  statics := none }

def pool8 : Array CpInfo := pool [(1, .class_ 2), (0, u "java/lang/Long"), (165, .long 9223372036854775808), (66, .class_ 237), (1, u "java/lang/Long$LongCache"), (33, .class_ 272), (0, u "java/lang/Number"), (2, u "value"), (0, u "J"), (25, .methodref 1 303), (0, .nameAndType 304 305), (0, u "compare"), (0, u "(JJ)I"), (55, u "TYPE"), (0, u "Ljava/lang/Class;"), (0, .class_ 364), (0, u "java/lang/Comparable"), (0, .class_ 366), (0, u "java/lang/constant/Constable"), (0, .class_ 368), (0, u "java/lang/constant/ConstantDesc"), (0, u "MIN_VALUE"), (1, u "MAX_VALUE"), (4, u "SIZE"), (0, u "I"), (1, u "BYTES"), (1, u "serialVersionUID"), (87, u "compareUnsigned")] 54

def k8c0 : Code := { maxStack := 4, maxLocals := 4, code := jdk_35_method_42_code, exceptionTable := #[], attributes := #[] }
def k8m0 : Method := { name := "compare", desc := "(JJ)I", sig := { parameters := [.long, .long], returnType := some .int }, accessFlags := 9, code := some k8c0 }
def k8c1 : Code := { maxStack := 6, maxLocals := 4, code := jdk_35_method_43_code, exceptionTable := #[], attributes := #[] }
def k8m1 : Method := { name := "compareUnsigned", desc := "(JJ)I", sig := { parameters := [.long, .long], returnType := some .int }, accessFlags := 9, code := some k8c1 }
/-- java/lang/Long -/
def k8 : Class := { plain "java/lang/Long" (some 4) with
  accessFlags := 49
  interfaces := #[5, 6, 7]
  cf := some (fileOf pool8 1 #[.nestMembers #[235]] #[{ accessFlags := 9, nameIndex := 304, descriptorIndex := 305, attributes := #[] }, { accessFlags := 9, nameIndex := 469, descriptorIndex := 305, attributes := #[] }] 49 271 #[363, 365, 367] #[{ accessFlags := 25, nameIndex := 369, descriptorIndex := 276, attributes := #[] }, { accessFlags := 25, nameIndex := 371, descriptorIndex := 276, attributes := #[] }, { accessFlags := 25, nameIndex := 361, descriptorIndex := 362, attributes := #[] }, { accessFlags := 18, nameIndex := 275, descriptorIndex := 276, attributes := #[] }, { accessFlags := 25, nameIndex := 376, descriptorIndex := 377, attributes := #[] }, { accessFlags := 25, nameIndex := 379, descriptorIndex := 377, attributes := #[] }, { accessFlags := 26, nameIndex := 381, descriptorIndex := 276, attributes := #[] }])
  fields := #[{ name := "MIN_VALUE", type := .long, accessFlags := 25, slot := 0, constantValue := 0 }, { name := "MAX_VALUE", type := .long, accessFlags := 25, slot := 1, constantValue := 0 }, { name := "TYPE", type := (.object "java/lang/Class"), accessFlags := 25, slot := 2, constantValue := 0 }, { name := "value", type := .long, accessFlags := 18, slot := 0, constantValue := 0 }, { name := "SIZE", type := .int, accessFlags := 25, slot := 3, constantValue := 0 }, { name := "BYTES", type := .int, accessFlags := 25, slot := 4, constantValue := 0 }, { name := "serialVersionUID", type := .long, accessFlags := 26, slot := 5, constantValue := 0 }]
  methods := #[k8m0, k8m1]
  instanceTypes := #[.long]
  staticTypes := #[.long, .long, (.object "java/lang/Class"), .int, .int, .long]
  resolved := Array.replicate 524 none
  statics := none }

def pool9 : Array CpInfo := pool [(1, u "java/lang/Cloneable"), (0, .class_ 1), (0, u "java/lang/Object"), (0, .class_ 3)] 3

/-- java/lang/Cloneable -/
def k9 : Class := { plain "java/lang/Cloneable" (some 0) with
  accessFlags := 1537
  interfaces := #[]
  cf := some (fileOf pool9 2 #[] #[] 1537 4 #[] #[])
  fields := #[]
  methods := #[]
  instanceTypes := #[]
  staticTypes := #[]
  resolved := Array.replicate 8 none
  statics := none }

/-- the primitive byte -/
def k10 : Class := { plain "byte" none with kind := .primitive 'B', accessFlags := 0x411 }
/-- [B -/
def k11 : Class := { plain "[B" (some 0) with kind := .array 10 .byte, interfaces := #[9, 3], accessFlags := 1041 }

/-- the primitive int -/
def k12 : Class := { plain "int" none with kind := .primitive 'I', accessFlags := 0x411 }
/-- [I -/
def k13 : Class := { plain "[I" (some 0) with kind := .array 12 .int, interfaces := #[9, 3], accessFlags := 1041 }

def heap : Heap := #[]
def classes : Array Class := #[k0, k1, k2, k3, k4, k5, k6, k7, k8, k9, k10, k11, k12, k13]
def interned : List (Array UInt16 × Addr) := []
def slotsUsed : Nat := 0
def theMethod : MethodId := ⟨1, 1⟩
def args0 : Array Value := #[.long 7, .long 8, .long 9]
def aboutOver (below : List Frame) : State where
  vm := { classes := classes, interned := interned.toArray }
  heap := heap
  slotsUsed := slotsUsed
  threads := #[{ frames := .invoking theMethod args0 :: below }]
def below0 : List Frame := [.native { method := ⟨0, 0⟩, args := #[] }]
def about1 : State := aboutOver below0
def p0 : Program := .bare "" "" ""
def e0 : Env := launch0.env 0 0 0
theorem w_frames : about1.frames = Frame.invoking theMethod args0 :: below0 := rfl
set_option maxRecDepth 65536 in
theorem w_args : argsFit about1.vm theMethod args0 = true := by decide +kernel
set_option maxRecDepth 65536 in
theorem w_heap : heapFits about1 = true := by decide +kernel
set_option maxRecDepth 65536 in
theorem w_runnable : about1.curStatus? = some .runnable := by decide +kernel
set_option maxRecDepth 65536 in
theorem w_alone : about1.alone = true := by decide +kernel
set_option maxRecDepth 65536 in
theorem w_named : about1.methodNamed? x = some theMethod := by decide +kernel
set_option maxRecDepth 65536 in
theorem w_hears : about1.hears theMethod below0 = true := by decide +kernel
set_option maxRecDepth 65536 in
theorem w_ripe : about1.ripe theMethod args0 below0 = true := by decide +kernel
theorem w_running : about1.status = .running := rfl
set_option maxRecDepth 65536 in
theorem w_room : about1.hasRoom e0.platform room_1 = true :=
  launch0.hasRoom_least _ room_1 (by decide +kernel) (by decide +kernel) (by decide +kernel) (by decide +kernel) (by decide +kernel) (by decide +kernel)
theorem allAtoms_all (ts : List Jvm.Cond) (a : Array Jvm.Value) (st : Jvm.State) : (allAtoms ts).before a st = ts.all (fun c => c.before a st) := by
  induction ts with
  | nil => rfl
  | cons c t ih =>
    show (Jvm.Cond.and c (allAtoms t)).before a st = _
    rw [Jvm.Cond.before_and, ih, List.all_cons]
def words1 : List Jvm.Cond := Jvm.Cond.code x code maxLocals ret :: tables_1
/-- a 'code' word, met by the world's own term for the bytes: nothing is compared byte by byte -/
theorem code_word {y : MethodName} {bytes : ByteArray} {mx : Nat} {rt : Option FieldType} {a : Array Value} {s : State} {m : MethodId} {meth : Method} {c : Code} (h1 : s.methodNamed? y = some m) (h2 : s.vm.method? m = some meth) (h3 : meth.code = some c) (h4 : c.code = bytes)
    (h5 : (c.maxLocals == mx && c.exceptionTable.isEmpty && decide (c.maxStack ≤ mostOperands) && decide (meth.sig.returnType = rt) && !meth.locks && decide (parseMethodDescriptor y.desc = some meth.sig)) = true) : (Jvm.Cond.code y bytes mx rt).before a s = true := by
  simp only [Bool.and_eq_true, beq_iff_eq, Bool.not_eq_true', decide_eq_true_eq] at h5
  obtain ⟨⟨⟨⟨⟨g1, g2⟩, g3⟩, g4⟩, g5⟩, g6⟩ := h5
  simp [Cond.before, Cond.holds, Cond.value, h1, h2, h3, h4, g1, g2, g3, g4, g5, g6]
def isCode : Jvm.Cond → Bool
  | .code _ _ _ _ => true
  | _ => false
theorem all_split {L : List Jvm.Cond} {P : Jvm.Cond → Bool} (h1 : L.all (fun c => isCode c || P c) = true) (h2 : ∀ c ∈ L.filter isCode, P c = true) : L.all P = true := by
  refine List.all_eq_true.mpr fun c hc => ?_
  have h := List.all_eq_true.mp h1 c hc
  rcases Bool.eq_false_or_eq_true (isCode c) with hi | hi
  · exact h2 c (List.mem_filter.mpr ⟨hc, hi⟩)
  · simpa [hi] using h
set_option maxRecDepth 65536 in
theorem w_c0 : (Jvm.Cond.code x code maxLocals ret).before args0 about1 = true := code_word (m := ⟨1, 1⟩) (meth := k1m1) (c := k1c1) (by decide +kernel) rfl rfl rfl (by decide +kernel)
set_option maxRecDepth 65536 in
theorem w_c1 : (Jvm.Cond.code ({ cls := "com/example/laden_graph/ladengraph/locality/Tally", name := "<init>", desc := "()V" } : Jvm.MethodName) prog_10_method_1_code (1 : Nat) (Option.none : Option Jvm.ClassFile.FieldType)).before args0 about1 = true := code_word (m := ⟨2, 0⟩) (meth := k2m0) (c := k2c0) (by decide +kernel) rfl rfl rfl (by decide +kernel)
set_option maxRecDepth 65536 in
theorem w_c2 : (Jvm.Cond.code ({ cls := "java/lang/Object", name := "<init>", desc := "()V" } : Jvm.MethodName) object_method_1_code (1 : Nat) (Option.none : Option Jvm.ClassFile.FieldType)).before args0 about1 = true := code_word (m := ⟨0, 0⟩) (meth := k0m0) (c := k0c0) (by decide +kernel) rfl rfl rfl (by decide +kernel)
set_option maxRecDepth 65536 in
theorem w_c3 : (Jvm.Cond.code ({ cls := "com/example/laden_graph/ladengraph/locality/Tally", name := "add", desc := "(J)V" } : Jvm.MethodName) prog_10_method_4_code (3 : Nat) (Option.none : Option Jvm.ClassFile.FieldType)).before args0 about1 = true := code_word (m := ⟨2, 2⟩) (meth := k2m2) (c := k2c2) (by decide +kernel) rfl rfl rfl (by decide +kernel)
set_option maxRecDepth 65536 in
theorem w_c4 : (Jvm.Cond.code ({ cls := "com/example/laden_graph/ladengraph/locality/Tally", name := "add", desc := "(JJ)V" } : Jvm.MethodName) prog_10_method_6_code (7 : Nat) (Option.none : Option Jvm.ClassFile.FieldType)).before args0 about1 = true := code_word (m := ⟨2, 3⟩) (meth := k2m3) (c := k2c3) (by decide +kernel) rfl rfl rfl (by decide +kernel)
set_option maxRecDepth 65536 in
theorem w_c5 : (Jvm.Cond.code ({ cls := "com/example/laden_graph/ladengraph/locality/Tally", name := "carry", desc := "(JJ)J" } : Jvm.MethodName) prog_10_method_2_code (4 : Nat) (Option.some Jvm.ClassFile.FieldType.long)).before args0 about1 = true := code_word (m := ⟨2, 1⟩) (meth := k2m1) (c := k2c1) (by decide +kernel) rfl rfl rfl (by decide +kernel)
set_option maxRecDepth 65536 in
theorem w_c6 : (Jvm.Cond.code ({ cls := "java/lang/Long", name := "compareUnsigned", desc := "(JJ)I" } : Jvm.MethodName) jdk_35_method_43_code (4 : Nat) (Option.some Jvm.ClassFile.FieldType.int)).before args0 about1 = true := code_word (m := ⟨8, 1⟩) (meth := k8m1) (c := k8c1) (by decide +kernel) rfl rfl rfl (by decide +kernel)
set_option maxRecDepth 65536 in
theorem w_c7 : (Jvm.Cond.code ({ cls := "java/lang/Long", name := "compare", desc := "(JJ)I" } : Jvm.MethodName) jdk_35_method_42_code (4 : Nat) (Option.some Jvm.ClassFile.FieldType.int)).before args0 about1 = true := code_word (m := ⟨8, 0⟩) (meth := k8m0) (c := k8c0) (by decide +kernel) rfl rfl rfl (by decide +kernel)
set_option maxRecDepth 65536 in
theorem w_c8 : (Jvm.Cond.code ({ cls := "com/example/laden_graph/ladengraph/locality/Tally", name := "subtract", desc := "(J)V" } : Jvm.MethodName) prog_10_method_7_code (3 : Nat) (Option.none : Option Jvm.ClassFile.FieldType)).before args0 about1 = true := code_word (m := ⟨2, 4⟩) (meth := k2m4) (c := k2c4) (by decide +kernel) rfl rfl rfl (by decide +kernel)
set_option maxRecDepth 65536 in
theorem w_c9 : (Jvm.Cond.code ({ cls := "com/example/laden_graph/ladengraph/locality/Tally", name := "subtract", desc := "(JJ)V" } : Jvm.MethodName) prog_10_method_9_code (7 : Nat) (Option.none : Option Jvm.ClassFile.FieldType)).before args0 about1 = true := code_word (m := ⟨2, 5⟩) (meth := k2m5) (c := k2c5) (by decide +kernel) rfl rfl rfl (by decide +kernel)
set_option maxRecDepth 65536 in
theorem w_c10 : (Jvm.Cond.code ({ cls := "com/example/laden_graph/ladengraph/locality/Tally", name := "compareTo", desc := "(Lcom/example/laden_graph/ladengraph/locality/Tally;)I" } : Jvm.MethodName) prog_10_method_10_code (3 : Nat) (Option.some Jvm.ClassFile.FieldType.int)).before args0 about1 = true := code_word (m := ⟨2, 6⟩) (meth := k2m6) (c := k2c6) (by decide +kernel) rfl rfl rfl (by decide +kernel)
def codes1 : List Jvm.Cond := [Jvm.Cond.code x code maxLocals ret, Jvm.Cond.code ({ cls := "com/example/laden_graph/ladengraph/locality/Tally", name := "<init>", desc := "()V" } : Jvm.MethodName) prog_10_method_1_code (1 : Nat) (Option.none : Option Jvm.ClassFile.FieldType), Jvm.Cond.code ({ cls := "java/lang/Object", name := "<init>", desc := "()V" } : Jvm.MethodName) object_method_1_code (1 : Nat) (Option.none : Option Jvm.ClassFile.FieldType), Jvm.Cond.code ({ cls := "com/example/laden_graph/ladengraph/locality/Tally", name := "add", desc := "(J)V" } : Jvm.MethodName) prog_10_method_4_code (3 : Nat) (Option.none : Option Jvm.ClassFile.FieldType), Jvm.Cond.code ({ cls := "com/example/laden_graph/ladengraph/locality/Tally", name := "add", desc := "(JJ)V" } : Jvm.MethodName) prog_10_method_6_code (7 : Nat) (Option.none : Option Jvm.ClassFile.FieldType), Jvm.Cond.code ({ cls := "com/example/laden_graph/ladengraph/locality/Tally", name := "carry", desc := "(JJ)J" } : Jvm.MethodName) prog_10_method_2_code (4 : Nat) (Option.some Jvm.ClassFile.FieldType.long), Jvm.Cond.code ({ cls := "java/lang/Long", name := "compareUnsigned", desc := "(JJ)I" } : Jvm.MethodName) jdk_35_method_43_code (4 : Nat) (Option.some Jvm.ClassFile.FieldType.int), Jvm.Cond.code ({ cls := "java/lang/Long", name := "compare", desc := "(JJ)I" } : Jvm.MethodName) jdk_35_method_42_code (4 : Nat) (Option.some Jvm.ClassFile.FieldType.int), Jvm.Cond.code ({ cls := "com/example/laden_graph/ladengraph/locality/Tally", name := "subtract", desc := "(J)V" } : Jvm.MethodName) prog_10_method_7_code (3 : Nat) (Option.none : Option Jvm.ClassFile.FieldType), Jvm.Cond.code ({ cls := "com/example/laden_graph/ladengraph/locality/Tally", name := "subtract", desc := "(JJ)V" } : Jvm.MethodName) prog_10_method_9_code (7 : Nat) (Option.none : Option Jvm.ClassFile.FieldType), Jvm.Cond.code ({ cls := "com/example/laden_graph/ladengraph/locality/Tally", name := "compareTo", desc := "(Lcom/example/laden_graph/ladengraph/locality/Tally;)I" } : Jvm.MethodName) prog_10_method_10_code (3 : Nat) (Option.some Jvm.ClassFile.FieldType.int)]
set_option maxRecDepth 65536 in
theorem codes_eq : words1.filter isCode = codes1 := rfl
theorem w_codes : ∀ c ∈ words1.filter isCode, c.before args0 about1 = true := by
  rw [codes_eq]
  intro c hc
  simp only [codes1, List.mem_cons, List.not_mem_nil, or_false] at hc
  rcases hc with rfl | rfl | rfl | rfl | rfl | rfl | rfl | rfl | rfl | rfl | rfl
  · exact w_c0
  · exact w_c1
  · exact w_c2
  · exact w_c3
  · exact w_c4
  · exact w_c5
  · exact w_c6
  · exact w_c7
  · exact w_c8
  · exact w_c9
  · exact w_c10
set_option maxRecDepth 65536 in
theorem w_t1 : (words1.take 24).all (fun c => isCode c || c.before args0 about1) = true := by decide +kernel
set_option maxRecDepth 65536 in
theorem w_t2 : ((words1.drop 24).take 24).all (fun c => isCode c || c.before args0 about1) = true := by decide +kernel
set_option maxRecDepth 65536 in
theorem w_t3 : ((words1.drop 24).drop 24).all (fun c => isCode c || c.before args0 about1) = true := by decide +kernel
theorem w_tables : (allAtoms (Jvm.Cond.code x code maxLocals ret :: tables_1)).before args0 about1 = true := by
  rw [allAtoms_all]
  show words1.all (fun c => c.before args0 about1) = true
  refine all_split ?_ w_codes
  rw [← List.take_append_drop 24 words1, List.all_append, w_t1, ← List.take_append_drop 24 (words1.drop 24), List.all_append, w_t2, w_t3]
  rfl
set_option maxRecDepth 65536 in
theorem w_case : (Jvm.Cond.and given_1 narrow_1).before args0 about1 = true := by decide +kernel
theorem w_applies : (headSpec (Jvm.Cond.code x code maxLocals ret :: tables_1) room_1).applies x e0.platform about1 = true :=
  (Spec.applies_iff w_frames).mpr ⟨w_running, w_runnable, w_alone, w_named, w_hears, w_ripe, w_room, w_tables⟩
theorem atStart : AtStart classFile x code maxLocals ret World_1 tables_1 room_1 Calls_1 rest_1 Pre_1 launch0 p0 e0 about1 theMethod args0 below0 :=
  ⟨lists_1, trivial, launch0.admits_env _ _ _, launch0.least_env, fairChoices_fair.cas, fairChoices_fair.clock, w_frames, w_args, w_heap, w_applies, trivial, trivial, w_case⟩
end start1
theorem witness_1 : WitnessClaimed_1 := ⟨start1.p0, start1.e0, start1.about1, start1.theMethod, start1.args0, start1.below0, start1.atStart⟩
end Jvm.Pilot.@@N@@

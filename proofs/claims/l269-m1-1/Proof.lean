import JvmDerived
import JvmDerived.Pilot.@@N@@Statement
import JvmDerived.Pilot.@@N@@Code
set_option linter.unusedVariables false
set_option linter.unusedSimpArgs false
namespace Jvm.RoadKit
open Sem ClassFile Op Lib Jvm.Stand Jvm.Free Jvm.LawKit
section New
variable {p : Program} {l : Launch} {e : Env} {R : Room} {s : State} {m : MethodId} {args : Array Value} {below : List Frame} {meth : Method} {c : Code} {T : State} {locs : List Loc} {cells slots : Nat}
theorem retI (X : Stand p l e R s m args below meth c T locs cells slots) (hx : p.tables.exec = Jvm.exec) {pc : Nat} {Ls : Array Slot} {z : Int32} {rest : List Value} (hret : meth.sig.returnType = some .int) (hd : decode c.code pc = .ok (.ireturn, 1)) {fs : List Frame}
    (hl : ∀ (f : JFrame) (acts : List Action), f.method = m → f.locked = none → f.entered = [] → (doReturn e (T.setTop f) acts (some (.int z))).1 = T.setFrames fs) : Steps p.tables e below (T.setTop (mkF m pc Ls (.int z :: rest))) (T.setFrames fs) := by
  have hm' : T.vm.method? m = some meth := X.method'
  have hn : narrow .int (.int z) = .int z := rfl
  show Steps p.tables e below (T.setTop { method := m, pc := pc, locals := Ls, stack := _ :: rest, locked := none }) _
  jvm_step X.here [X.here.top, hx, hd, hm', hret, hn]
  first | (intro acts; rw [hl _ acts rfl rfl rfl]) | rw [hl _ _ rfl rfl rfl]
  exact Steps.refl _
theorem own_retJ (X : Stand p l e R s m args below meth c T locs cells slots) (hx : p.tables.exec = Jvm.exec) {pc : Nat} {Ls : Array Slot} {z : Int64} {rest : List Value} (hret : meth.sig.returnType = some .long) (hd : decode c.code pc = .ok (.lreturn, 1)) {fs : List Frame}
    (hl : ∀ (f : JFrame) (acts : List Action), f.method = m → f.locked = none → f.entered = [] → (doReturn e (T.setTop f) acts (some (.long z))).1 = T.setFrames fs) : Steps p.tables e below (T.setTop (mkF m pc Ls (.long z :: rest))) (T.setFrames fs) :=
  retOut X hx (t := .long) (i := .lreturn) hret rfl (Or.inr (Or.inl ⟨rfl, rfl, z, rfl⟩)) hd hl
theorem own_retR (X : Stand p l e R s m args below meth c T locs cells slots) (hx : p.tables.exec = Jvm.exec) {pc : Nat} {Ls : Array Slot} {w : Value} {t : FieldType} {rest : List Value} (hret : meth.sig.returnType = some t) (ht : t.isReference = true) (hw : w.isRef = true) (hd : decode c.code pc = .ok (.areturn, 1)) {fs : List Frame}
    (hl : ∀ (f : JFrame) (acts : List Action), f.method = m → f.locked = none → f.entered = [] → (doReturn e (T.setTop f) acts (some w)).1 = T.setFrames fs) : Steps p.tables e below (T.setTop (mkF m pc Ls (w :: rest))) (T.setFrames fs) :=
  retOut X hx (i := .areturn) hret (by cases t <;> simp_all [FieldType.isReference, narrow]) (Or.inr (Or.inr (Or.inr (Or.inr ⟨rfl, ht, hw⟩)))) hd hl
theorem own_narZ (x : Int32) : nar .boolean x = x &&& 1 := rfl
theorem own_narC (x : Int32) : nar .char x = x.toUInt32.toUInt16.toUInt32.toInt32 := rfl
theorem own_narB (x : Int32) : nar .byte x = x.toInt8.toInt32 := rfl
/-- where the run stands, and how it ends -/
abbrev own_Go (tb : Tables) (e : Env) (below : List Frame) (P : State → Outcome → Prop) (T : State) (g : JFrame) : Prop := ∃ s₂ o, Steps tb e below (T.setTop g) s₂ ∧ s₂.status = .running ∧ Ended s₂ below o ∧ P s₂ o
theorem own_go {tb : Tables} {P : State → Outcome → Prop} {T' : State} {g g' : JFrame} (st : ∀ t, Steps tb e below (T'.setTop g') t → Steps tb e below (T.setTop g) t) (k : own_Go tb e below P T' g') : own_Go tb e below P T g := by
  obtain ⟨s₂, o, h1, h2⟩ := k
  exact ⟨s₂, o, st _ h1, h2⟩
theorem own_start {tb : Tables} {P : State → Outcome → Prop} {g g' : JFrame} (q : g = g') (k : own_Go tb e below P T g') : own_Go tb e below P T g := q ▸ k
theorem own_selPriv {z y : MethodName} (hz : z.cls = y.cls) (hs : (Cond.selects y.cls z z).before args s = true) (hp : s.PrivateAt y) (hi : (Cond.instanceMethod y).before args s = true) (hy : y.cls ≠ "java/lang/invoke/MethodHandle" ∧ y.cls ≠ "java/lang/invoke/VarHandle") : (Cond.selects y.cls y y).before args s = true := by
  obtain ⟨c, r, m, h1, -, h3, -, k, h5, h6⟩ := Cond.selects_spec hs
  exact selects_self_of_private (hz ▸ findClass_of_methodNamed h3) h5 h6 hp hi hy
end New
end Jvm.RoadKit
namespace Jvm.Pilot.@@N@@
open Jvm Jvm.ClassFile Sem Op Lib Jvm.Free Jvm.Stand Jvm.LawKit Jvm.RoadKit Bundle Jvm.Pilot.@@N@@.Jvm.D
theorem d5_0 : decode jdk_35_method_42_code 0 = .ok (.lload_n 0, 1) := by decide +kernel
theorem d5_1 : decode jdk_35_method_42_code 1 = .ok (.lload_n 2, 1) := by decide +kernel
theorem d5_2 : decode jdk_35_method_42_code 2 = .ok (.lcmp, 1) := by decide +kernel
theorem d5_3 : decode jdk_35_method_42_code 3 = .ok (.ifCond .ge 7, 3) := by decide +kernel
theorem d5_6 : decode jdk_35_method_42_code 6 = .ok (.iconst (-1), 1) := by decide +kernel
theorem d5_7 : decode jdk_35_method_42_code 7 = .ok (.goto 14, 3) := by decide +kernel
theorem d5_10 : decode jdk_35_method_42_code 10 = .ok (.lload_n 0, 1) := by decide +kernel
theorem d5_11 : decode jdk_35_method_42_code 11 = .ok (.lload_n 2, 1) := by decide +kernel
theorem d5_12 : decode jdk_35_method_42_code 12 = .ok (.lcmp, 1) := by decide +kernel
theorem d5_13 : decode jdk_35_method_42_code 13 = .ok (.ifCond .ne 7, 3) := by decide +kernel
theorem d5_16 : decode jdk_35_method_42_code 16 = .ok (.iconst 0, 1) := by decide +kernel
theorem d5_17 : decode jdk_35_method_42_code 17 = .ok (.goto 4, 3) := by decide +kernel
theorem d5_20 : decode jdk_35_method_42_code 20 = .ok (.iconst 1, 1) := by decide +kernel
theorem d5_21 : decode jdk_35_method_42_code 21 = .ok (.ireturn, 1) := by decide +kernel
theorem pn_0 : plainName "java/lang/Long" = true := by first | (simp [plainName, overriddenIn]; done) | decide +kernel
theorem ef_5 (m : MethodId) (q1 : Int64) (q2 : Int64) : entryFrame m #[(.long q1), (.long q2)] 4 = mkF m 0 #[.val (.long q1), .second, .val (.long q2), .second] [] := by first | (simp [entryFrame, mkF, argsToLocals, Value.category]; done) | rfl
def r_5 (q1 : Int64) (q2 : Int64) : Int32 := ((if q1 < q2 then (-1 : Int32) else (if q1 = q2 then (0 : Int32) else (1 : Int32))))
def Q5 (Z : State) (q1 : Int64) (q2 : Int64) (h0 : Heap) (n0 : Nat) (v : Option Value) (h : Heap) (L : List Loc) : Prop := v = some (.int (r_5 q1 q2)) ∧ Fr n0 L ∧ h = h0
set_option maxRecDepth 65536 in
set_option maxHeartbeats 40000000 in
theorem rm5 (l : Launch) (Z : State) (a0 : Array Value) (hw : ∀ d ∈ tables_1, d.before a0 Z = true) (ws : List Jvm.Cond) (q1 : Int64) (q2 : Int64) (h0 : Heap) (n0 : Nat) (Z0 : n0 ≤ h0.size) :
    MetFree l (⟨"java/lang/Long", "compare", "(JJ)I"⟩ : MethodName) (head1 (Jvm.Cond.code (⟨"java/lang/Long", "compare", "(JJ)I"⟩ : MethodName) jdk_35_method_42_code 4 (some .int) :: ws) ({ frames := 0, cells := 0, slots := 0, locals := 0 } : Room)) (fun a U => a = #[(.long q1), (.long q2)] ∧ Z.Warmed39 U.vm ∧ U.heap = h0) (fun _ _ _ _ _ => True) (fun _ U o U' => ∃ v L, o = .returned v ∧ Q5 Z q1 q2 h0 n0 v U'.heap L ∧ FrameEnd U o U' L ({ frames := 0, cells := 0, slots := 0, locals := 0 } : Room).cells ({ frames := 0, cells := 0, slots := 0, locals := 0 } : Room).slots) := by
  refine MetFree.of_bodySF (plainFor_of_name pn_0) hisR ?_
  intro p e s m args below meth c s₁ Bd hml0 hP hK
  obtain ⟨rfl, hZ, hh⟩ := hP
  have hx := Bd.exec
  have hby := Bd.bytes
  have hml : c.maxLocals = 4 := hml0
  have hown : s.vm.findClass "java/lang/Long" = some m.cls := findClass_of_methodNamed Bd.named
  have hnm := (name_of_methodNamed Bd.named Bd.method).1
  have X0 : Stand p l e ({ frames := 0, cells := 0, slots := 0, locals := 0 } : Room) s m #[(.long q1), (.long q2)] below meth c s₁ [] 0 0 := Stand.of_body Bd
  have e0 : s₁.heap = h0 := by rw [← hh, Bd.state]; rfl
  have NN := Fr.nil n0
  have KK : Keep h0 h0 [] := Keep.refl h0 []
  refine own_start (ef_5 m q1 q2) ?_
  refine own_go (T' := s₁) (g' := (mkF m 3 #[.val (.long q1), .second, .val (.long q2), .second] [(.int (lcmpW q1 q2))])) (fun t k => ?_) ?_
  · show Steps p.tables e below (s₁.setTop (mkF m 0 #[.val (.long q1), .second, .val (.long q2), .second] [])) _
    refine XS.lloadN X0.here hx rfl (hb hby d5_0) rfl ?_
    show Steps p.tables e below (s₁.setTop (mkF m 1 #[.val (.long q1), .second, .val (.long q2), .second] [(.long q1)])) _
    refine XS.lloadN X0.here hx rfl (hb hby d5_1) rfl ?_
    show Steps p.tables e below (s₁.setTop (mkF m 2 #[.val (.long q1), .second, .val (.long q2), .second] [(.long q2), (.long q1)])) _
    refine XS.lcmp X0.here hx rfl (hb hby d5_2) rfl ?_
    exact k
  obtain ⟨j1, hj1, st2⟩ : ∃ (j1 : Int32), j1 = (if q1 < q2 then (-1 : Int32) else (if q1 = q2 then (0 : Int32) else (1 : Int32))) ∧ ∀ t, Steps p.tables e below (s₁.setTop (mkF m 21 #[.val (.long q1), .second, .val (.long q2), .second] [(.int j1)])) t → Steps p.tables e below (s₁.setTop (mkF m 3 #[.val (.long q1), .second, .val (.long q2), .second] [(.int (lcmpW q1 q2))])) t := by
    by_cases hc3_1 : q1 < q2
    · skip
      refine ⟨(-1 : Int32), (by simp only [if_pos hc3_1]), fun t k => ?_⟩
      show Steps p.tables e below (s₁.setTop (mkF m 3 #[.val (.long q1), .second, .val (.long q2), .second] [(.int (lcmpW q1 q2))])) _
      refine XS.ifNo X0.here hx rfl (hb hby d5_3) rfl ((if0 _ _).trans (tlt ((lw_lt q1 q2).mpr hc3_1)).2.1) ?_
      show Steps p.tables e below (s₁.setTop (mkF m 6 #[.val (.long q1), .second, .val (.long q2), .second] [])) _
      refine XS.iconst X0.here hx rfl (hb hby d5_6) ?_
      show Steps p.tables e below (s₁.setTop (mkF m 7 #[.val (.long q1), .second, .val (.long q2), .second] [(.int (-1 : Int32))])) _
      refine XS.goto X0.here hx rfl (pc0 := 7) (pc' := 21) rfl (hb hby d5_7) (by decide) (by decide) ?_
      exact k
    · skip
      by_cases hc13_2 : q1 = q2
      · skip
        refine ⟨(0 : Int32), (by simp only [if_neg hc3_1, if_pos hc13_2]), fun t k => ?_⟩
        show Steps p.tables e below (s₁.setTop (mkF m 3 #[.val (.long q1), .second, .val (.long q2), .second] [(.int (lcmpW q1 q2))])) _
        refine XS.ifYes X0.here hx rfl (pc0 := 3) (pc' := 10) rfl (hb hby d5_3) rfl ((if0 _ _).trans (flt (fun q => hc3_1 ((lw_lt q1 q2).mp q))).2.1) (by decide) (by decide) ?_
        show Steps p.tables e below (s₁.setTop (mkF m 10 #[.val (.long q1), .second, .val (.long q2), .second] [])) _
        refine XS.lloadN X0.here hx rfl (hb hby d5_10) rfl ?_
        show Steps p.tables e below (s₁.setTop (mkF m 11 #[.val (.long q1), .second, .val (.long q2), .second] [(.long q1)])) _
        refine XS.lloadN X0.here hx rfl (hb hby d5_11) rfl ?_
        show Steps p.tables e below (s₁.setTop (mkF m 12 #[.val (.long q1), .second, .val (.long q2), .second] [(.long q2), (.long q1)])) _
        refine XS.lcmp X0.here hx rfl (hb hby d5_12) rfl ?_
        show Steps p.tables e below (s₁.setTop (mkF m 13 #[.val (.long q1), .second, .val (.long q2), .second] [(.int (lcmpW q1 q2))])) _
        refine XS.ifNo X0.here hx rfl (hb hby d5_13) rfl ((if0 _ _).trans (teq ((lw_eq q1 q2).mpr hc13_2)).2) ?_
        show Steps p.tables e below (s₁.setTop (mkF m 16 #[.val (.long q1), .second, .val (.long q2), .second] [])) _
        refine XS.iconst X0.here hx rfl (hb hby d5_16) ?_
        show Steps p.tables e below (s₁.setTop (mkF m 17 #[.val (.long q1), .second, .val (.long q2), .second] [(.int (0 : Int32))])) _
        refine XS.goto X0.here hx rfl (pc0 := 17) (pc' := 21) rfl (hb hby d5_17) (by decide) (by decide) ?_
        exact k
      · skip
        refine ⟨(1 : Int32), (by simp only [if_neg hc3_1, if_neg hc13_2]), fun t k => ?_⟩
        show Steps p.tables e below (s₁.setTop (mkF m 3 #[.val (.long q1), .second, .val (.long q2), .second] [(.int (lcmpW q1 q2))])) _
        refine XS.ifYes X0.here hx rfl (pc0 := 3) (pc' := 10) rfl (hb hby d5_3) rfl ((if0 _ _).trans (flt (fun q => hc3_1 ((lw_lt q1 q2).mp q))).2.1) (by decide) (by decide) ?_
        show Steps p.tables e below (s₁.setTop (mkF m 10 #[.val (.long q1), .second, .val (.long q2), .second] [])) _
        refine XS.lloadN X0.here hx rfl (hb hby d5_10) rfl ?_
        show Steps p.tables e below (s₁.setTop (mkF m 11 #[.val (.long q1), .second, .val (.long q2), .second] [(.long q1)])) _
        refine XS.lloadN X0.here hx rfl (hb hby d5_11) rfl ?_
        show Steps p.tables e below (s₁.setTop (mkF m 12 #[.val (.long q1), .second, .val (.long q2), .second] [(.long q2), (.long q1)])) _
        refine XS.lcmp X0.here hx rfl (hb hby d5_12) rfl ?_
        show Steps p.tables e below (s₁.setTop (mkF m 13 #[.val (.long q1), .second, .val (.long q2), .second] [(.int (lcmpW q1 q2))])) _
        refine XS.ifYes X0.here hx rfl (pc0 := 13) (pc' := 20) rfl (hb hby d5_13) rfl ((if0 _ _).trans (feq (fun q => hc13_2 ((lw_eq q1 q2).mp q))).2) (by decide) (by decide) ?_
        show Steps p.tables e below (s₁.setTop (mkF m 20 #[.val (.long q1), .second, .val (.long q2), .second] [])) _
        refine XS.iconst X0.here hx rfl (hb hby d5_20) ?_
        exact k
  refine own_go st2 ?_
  show own_Go p.tables e below _ s₁ (mkF m 21 #[.val (.long q1), .second, .val (.long q2), .second] [(.int j1)])
  obtain ⟨fs, hr, hrun, hended, hW, hsame⟩ := X0.leave (v := some (.int j1)) (fun h => by rw [Bd.returns] at h; cases h)
  refine ⟨_, _, ?_, hrun, hended, _, _, rfl, ?_, ⟨_, rfl⟩, hW, hsame.mono (by decide) (by decide)⟩
  · exact retI X0 hx Bd.returns (hb hby d5_21) hr
  · show Q5 Z q1 q2 h0 n0 _ s₁.heap _
    rw [e0]
    exact ⟨(by first | (simp only [hj1, r_5]; done) | (subst hj1; first | (simp only [r_5]; done) | rfl)), NN, rfl⟩
theorem d4_0 : decode jdk_35_method_43_code 0 = .ok (.lload_n 0, 1) := by decide +kernel
theorem d4_1 : decode jdk_35_method_43_code 1 = .ok (.ldc2_w 168, 3) := by decide +kernel
theorem d4_4 : decode jdk_35_method_43_code 4 = .ok (.ladd, 1) := by decide +kernel
theorem d4_5 : decode jdk_35_method_43_code 5 = .ok (.lload_n 2, 1) := by decide +kernel
theorem d4_6 : decode jdk_35_method_43_code 6 = .ok (.ldc2_w 168, 3) := by decide +kernel
theorem d4_9 : decode jdk_35_method_43_code 9 = .ok (.ladd, 1) := by decide +kernel
theorem d4_10 : decode jdk_35_method_43_code 10 = .ok (.invokestatic 302, 3) := by decide +kernel
theorem d4_13 : decode jdk_35_method_43_code 13 = .ok (.ireturn, 1) := by decide +kernel
theorem pd_2 : parseMethodDescriptor "(JJ)I" = some ⟨[.long, .long], some .int⟩ := by decide +kernel
theorem ef_4 (m : MethodId) (q1 : Int64) (q2 : Int64) : entryFrame m #[(.long q1), (.long q2)] 4 = mkF m 0 #[.val (.long q1), .second, .val (.long q2), .second] [] := by first | (simp [entryFrame, mkF, argsToLocals, Value.category]; done) | rfl
def r_4 (q1 : Int64) (q2 : Int64) : Int32 := (r_5 (q1 + (-9223372036854775808 : Int64)) (q2 + (-9223372036854775808 : Int64)))
def Q4 (Z : State) (q1 : Int64) (q2 : Int64) (h0 : Heap) (n0 : Nat) (v : Option Value) (h : Heap) (L : List Loc) : Prop := v = some (.int (r_4 q1 q2)) ∧ Fr n0 L ∧ h = h0
set_option maxRecDepth 65536 in
set_option maxHeartbeats 40000000 in
theorem rm4 (l : Launch) (Z : State) (a0 : Array Value) (hw : ∀ d ∈ tables_1, d.before a0 Z = true) (ws : List Jvm.Cond) (q1 : Int64) (q2 : Int64) (h0 : Heap) (n0 : Nat) (Z0 : n0 ≤ h0.size) :
    MetFree l (⟨"java/lang/Long", "compareUnsigned", "(JJ)I"⟩ : MethodName) (head1 (Jvm.Cond.code (⟨"java/lang/Long", "compareUnsigned", "(JJ)I"⟩ : MethodName) jdk_35_method_43_code 4 (some .int) :: ws) ({ frames := 1, cells := 0, slots := 0, locals := 15 } : Room)) (fun a U => a = #[(.long q1), (.long q2)] ∧ Z.Warmed39 U.vm ∧ U.heap = h0) (fun _ _ _ _ _ => True) (fun _ U o U' => ∃ v L, o = .returned v ∧ Q4 Z q1 q2 h0 n0 v U'.heap L ∧ FrameEnd U o U' L ({ frames := 1, cells := 0, slots := 0, locals := 15 } : Room).cells ({ frames := 1, cells := 0, slots := 0, locals := 15 } : Room).slots) := by
  refine MetFree.of_bodySF (plainFor_of_name pn_0) hisR ?_
  intro p e s m args below meth c s₁ Bd hml0 hP hK
  obtain ⟨rfl, hZ, hh⟩ := hP
  have hx := Bd.exec
  have hby := Bd.bytes
  have hml : c.maxLocals = 4 := hml0
  have hown : s.vm.findClass "java/lang/Long" = some m.cls := findClass_of_methodNamed Bd.named
  have hnm := (name_of_methodNamed Bd.named Bd.method).1
  have X0 : Stand p l e ({ frames := 1, cells := 0, slots := 0, locals := 15 } : Room) s m #[(.long q1), (.long q2)] below meth c s₁ [] 0 0 := Stand.of_body Bd
  have e0 : s₁.heap = h0 := by rw [← hh, Bd.state]; rfl
  have NN := Fr.nil n0
  have KK : Keep h0 h0 [] := Keep.refl h0 []
  refine own_start (ef_4 m q1 q2) ?_
  refine own_go (T' := s₁) (g' := (mkF m 10 #[.val (.long q1), .second, .val (.long q2), .second] [(.long (q2 + (-9223372036854775808 : Int64))), (.long (q1 + (-9223372036854775808 : Int64)))])) (fun t k => ?_) ?_
  · show Steps p.tables e below (s₁.setTop (mkF m 0 #[.val (.long q1), .second, .val (.long q2), .second] [])) _
    refine XS.lloadN X0.here hx rfl (hb hby d4_0) rfl ?_
    show Steps p.tables e below (s₁.setTop (mkF m 1 #[.val (.long q1), .second, .val (.long q2), .second] [(.long q1)])) _
    refine X0.ldc2Long hx hown (mvT hZ (hw _ (List.mem_of_getElem? (i := 20) rfl))) (g := (mkF m 1 #[.val (.long q1), .second, .val (.long q2), .second] [(.long q1)])) rfl (hb hby d4_1) _ ?_
    show Steps p.tables e below (s₁.setTop (mkF m 4 #[.val (.long q1), .second, .val (.long q2), .second] [(.long (-9223372036854775808 : Int64)), (.long q1)])) _
    refine XS.ladd X0.here hx rfl (hb hby d4_4) rfl ?_
    show Steps p.tables e below (s₁.setTop (mkF m 5 #[.val (.long q1), .second, .val (.long q2), .second] [(.long (q1 + (-9223372036854775808 : Int64)))])) _
    refine XS.lloadN X0.here hx rfl (hb hby d4_5) rfl ?_
    show Steps p.tables e below (s₁.setTop (mkF m 6 #[.val (.long q1), .second, .val (.long q2), .second] [(.long q2), (.long (q1 + (-9223372036854775808 : Int64)))])) _
    refine X0.ldc2Long hx hown (mvT hZ (hw _ (List.mem_of_getElem? (i := 20) rfl))) (g := (mkF m 6 #[.val (.long q1), .second, .val (.long q2), .second] [(.long q2), (.long (q1 + (-9223372036854775808 : Int64)))])) rfl (hb hby d4_6) _ ?_
    show Steps p.tables e below (s₁.setTop (mkF m 9 #[.val (.long q1), .second, .val (.long q2), .second] [(.long (-9223372036854775808 : Int64)), (.long q2), (.long (q1 + (-9223372036854775808 : Int64)))])) _
    refine XS.ladd X0.here hx rfl (hb hby d4_9) rfl ?_
    exact k
  obtain ⟨_, _, ⟨T1, L1, k1, n1⟩, -, X1, ⟨Lc1, hQ1, l1, y1, z1⟩, st1⟩ := Jvm.LawKit.callS X0 hx (y := (⟨"java/lang/Long", "compare", "(JJ)I"⟩ : MethodName)) hown (mvT hZ (hw _ (List.mem_of_getElem? (i := 21) rfl))) (mvT hZ (hw _ (List.mem_of_getElem? (i := 22) rfl))) (mvT hZ (hw _ (List.mem_of_getElem? (i := 18) rfl))) (mvT hZ (hw _ (List.mem_of_getElem? (i := 23) rfl))) (by decide) (backOf (W := 0) (rm5 l Z a0 hw [] (q1 + (-9223372036854775808 : Int64)) (q2 + (-9223372036854775808 : Int64)) h0 n0 Z0 ) hZ (hw _ (List.mem_of_getElem? (i := 23) rfl)) (hw _ (List.mem_of_getElem? (i := 18) rfl)) (by decide) (by decide)) (g := (mkF m 10 #[.val (.long q1), .second, .val (.long q2), .second] [(.long (q2 + (-9223372036854775808 : Int64))), (.long (q1 + (-9223372036854775808 : Int64)))])) rfl (by rw [hml]; rfl) (argsL := [(.long (q1 + (-9223372036854775808 : Int64))), (.long (q2 + (-9223372036854775808 : Int64)))]) (rest := []) (lenOf pd_2 rfl) rfl (by show 2 * 0 + _ ≤ _; exact Nat.le_of_eq rfl) (hb hby d4_10) (fun _ _ => ⟨rfl, e0, (by decide : 0 + 0 ≤ _), (by decide : 0 + 0 ≤ _)⟩)
  dsimp only [Pt.U, Pt.locs, Pt.cells, Pt.slots] at X1 l1 y1 z1 st1 hQ1
  subst l1 y1 z1
  obtain ⟨rfl, N1q, e1⟩ := hQ1
  have NN := Fr.app NN N1q
  refine own_go st1 ?_
  show own_Go p.tables e below _ T1 (mkF m 13 #[.val (.long q1), .second, .val (.long q2), .second] [(.int (r_5 (q1 + (-9223372036854775808 : Int64)) (q2 + (-9223372036854775808 : Int64))))])
  obtain ⟨fs, hr, hrun, hended, hW, hsame⟩ := X1.leave (v := some (.int (r_5 (q1 + (-9223372036854775808 : Int64)) (q2 + (-9223372036854775808 : Int64))))) (fun h => by rw [Bd.returns] at h; cases h)
  refine ⟨_, _, ?_, hrun, hended, _, _, rfl, ?_, ⟨_, rfl⟩, hW, hsame.mono (by decide) (by decide)⟩
  · exact retI X1 hx Bd.returns (hb hby d4_13) hr
  · show Q4 Z q1 q2 h0 n0 _ T1.heap _
    rw [e1]
    exact ⟨rfl, NN, rfl⟩
theorem d1_0 : decode prog_10_method_1_code 0 = .ok (.aload_n 0, 1) := by decide +kernel
theorem d1_1 : decode prog_10_method_1_code 1 = .ok (.invokespecial 1, 3) := by decide +kernel
theorem d1_4 : decode prog_10_method_1_code 4 = .ok (.return_, 1) := by decide +kernel
theorem pn_1 : plainName "com/example/laden_graph/ladengraph/locality/Tally" = true := by first | (simp [plainName, overriddenIn]; done) | decide +kernel
theorem ef_1 (m : MethodId) (a1 : Addr) : entryFrame m #[(.ref a1)] 1 = mkF m 0 #[.val (.ref a1)] [] := by first | (simp [entryFrame, mkF, argsToLocals, Value.category]; done) | rfl
def Q1 (Z : State) (a1 : Addr) (h0 : Heap) (n0 : Nat) (v : Option Value) (h : Heap) (L : List Loc) : Prop := v = none ∧ Fr n0 L ∧ h = h0
set_option maxRecDepth 65536 in
set_option maxHeartbeats 40000000 in
theorem rm1 (l : Launch) (Z : State) (a0 : Array Value) (hw : ∀ d ∈ tables_1, d.before a0 Z = true) (ws : List Jvm.Cond) (a1 : Addr) (h0 : Heap) (n0 : Nat) (Z0 : n0 ≤ h0.size) :
    MetFree l (⟨"com/example/laden_graph/ladengraph/locality/Tally", "<init>", "()V"⟩ : MethodName) (head1 (Jvm.Cond.code (⟨"com/example/laden_graph/ladengraph/locality/Tally", "<init>", "()V"⟩ : MethodName) prog_10_method_1_code 1 none :: ws) ({ frames := 1, cells := 0, slots := 0, locals := 12 } : Room)) (fun a U => a = #[(.ref a1)] ∧ Z.Warmed39 U.vm ∧ U.heap = h0) (fun _ _ _ _ _ => True) (fun _ U o U' => ∃ v L, o = .returned v ∧ Q1 Z a1 h0 n0 v U'.heap L ∧ FrameEnd U o U' L ({ frames := 1, cells := 0, slots := 0, locals := 12 } : Room).cells ({ frames := 1, cells := 0, slots := 0, locals := 12 } : Room).slots) := by
  refine MetFree.of_bodySF (plainFor_of_name pn_1) hisR ?_
  intro p e s m args below meth c s₁ Bd hml0 hP hK
  obtain ⟨rfl, hZ, hh⟩ := hP
  have hx := Bd.exec
  have hby := Bd.bytes
  have hml : c.maxLocals = 1 := hml0
  have hown : s.vm.findClass "com/example/laden_graph/ladengraph/locality/Tally" = some m.cls := findClass_of_methodNamed Bd.named
  have hnm := (name_of_methodNamed Bd.named Bd.method).1
  have X0 : Stand p l e ({ frames := 1, cells := 0, slots := 0, locals := 12 } : Room) s m #[(.ref a1)] below meth c s₁ [] 0 0 := Stand.of_body Bd
  have e0 : s₁.heap = h0 := by rw [← hh, Bd.state]; rfl
  have NN := Fr.nil n0
  have KK : Keep h0 h0 [] := Keep.refl h0 []
  refine own_start (ef_1 m a1) ?_
  refine own_go (T' := s₁) (g' := (mkF m 1 #[.val (.ref a1)] [(.ref a1)])) (fun t k => ?_) ?_
  · show Steps p.tables e below (s₁.setTop (mkF m 0 #[.val (.ref a1)] [])) _
    refine XS.aloadN X0.here hx rfl (hb hby d1_0) rfl rfl ?_
    exact k
  obtain ⟨T1, X1, e1, st1⟩ := initO X0 hx hZ hown (hw _ (List.mem_of_getElem? (i := 6) rfl)) (hw _ (List.mem_of_getElem? (i := 7) rfl)) (hw _ (List.mem_of_getElem? (i := 8) rfl)) e0 (g := (mkF m 1 #[.val (.ref a1)] [(.ref a1)])) rfl (by rw [hml]; rfl) rfl (hb hby d1_1) (by decide) (W := 0) (by show 2 * 0 + _ ≤ _; exact Nat.le_of_eq rfl) (by decide)
  refine own_go st1 ?_
  show own_Go p.tables e below _ T1 (mkF m 4 #[.val (.ref a1)] [])
  obtain ⟨fs, hr, hrun, hended, hW, hsame⟩ := X1.leave (v := none) (fun _ => rfl)
  refine ⟨_, _, ?_, hrun, hended, _, _, rfl, ?_, ⟨_, rfl⟩, hW, hsame.mono (by decide) (by decide)⟩
  · exact X1.returnOut hx Bd.returns (hb hby d1_4) hr
  · show Q1 Z a1 h0 n0 _ T1.heap _
    rw [e1]
    exact ⟨rfl, NN, rfl⟩
theorem d3_0 : decode prog_10_method_9_code 0 = .ok (.aload_n 0, 1) := by decide +kernel
theorem d3_1 : decode prog_10_method_9_code 1 = .ok (.getfield 19, 3) := by decide +kernel
theorem d3_4 : decode prog_10_method_9_code 4 = .ok (.lload_n 3, 1) := by decide +kernel
theorem d3_5 : decode prog_10_method_9_code 5 = .ok (.invokestatic 7, 3) := by decide +kernel
theorem d3_8 : decode prog_10_method_9_code 8 = .ok (.ifCond .ge 7, 3) := by decide +kernel
theorem d3_11 : decode prog_10_method_9_code 11 = .ok (.lconst 1, 1) := by decide +kernel
theorem d3_12 : decode prog_10_method_9_code 12 = .ok (.goto 4, 3) := by decide +kernel
theorem d3_15 : decode prog_10_method_9_code 15 = .ok (.lconst 0, 1) := by decide +kernel
theorem d3_16 : decode prog_10_method_9_code 16 = .ok (.lstore 5, 2) := by decide +kernel
theorem d3_18 : decode prog_10_method_9_code 18 = .ok (.aload_n 0, 1) := by decide +kernel
theorem d3_19 : decode prog_10_method_9_code 19 = .ok (.dup, 1) := by decide +kernel
theorem d3_20 : decode prog_10_method_9_code 20 = .ok (.getfield 13, 3) := by decide +kernel
theorem d3_23 : decode prog_10_method_9_code 23 = .ok (.lload_n 1, 1) := by decide +kernel
theorem d3_24 : decode prog_10_method_9_code 24 = .ok (.lload 5, 2) := by decide +kernel
theorem d3_26 : decode prog_10_method_9_code 26 = .ok (.ladd, 1) := by decide +kernel
theorem d3_27 : decode prog_10_method_9_code 27 = .ok (.lsub, 1) := by decide +kernel
theorem d3_28 : decode prog_10_method_9_code 28 = .ok (.putfield 13, 3) := by decide +kernel
theorem d3_31 : decode prog_10_method_9_code 31 = .ok (.aload_n 0, 1) := by decide +kernel
theorem d3_32 : decode prog_10_method_9_code 32 = .ok (.dup, 1) := by decide +kernel
theorem d3_33 : decode prog_10_method_9_code 33 = .ok (.getfield 19, 3) := by decide +kernel
theorem d3_36 : decode prog_10_method_9_code 36 = .ok (.lload_n 3, 1) := by decide +kernel
theorem d3_37 : decode prog_10_method_9_code 37 = .ok (.lsub, 1) := by decide +kernel
theorem d3_38 : decode prog_10_method_9_code 38 = .ok (.putfield 19, 3) := by decide +kernel
theorem d3_41 : decode prog_10_method_9_code 41 = .ok (.return_, 1) := by decide +kernel
theorem ef_3 (m : MethodId) (a1 : Addr) (q2 : Int64) (q3 : Int64) : entryFrame m #[(.ref a1), (.long q2), (.long q3)] 7 = mkF m 0 #[.val (.ref a1), .val (.long q2), .second, .val (.long q3), .second, .unset, .unset] [] := by first | (simp [entryFrame, mkF, argsToLocals, Value.category]; done) | rfl
def u_3_a1_high (q2 : Int64) (q3 : Int64) (w_low_a1 : Int64) (w_high_a1 : Int64) : Int64 := (w_high_a1 - (q2 + ((if (r_4 w_low_a1 q3) < (0 : Int32) then (1 : Int64) else (0 : Int64)))))
def Q3 (Z : State) (a1 : Addr) (q2 : Int64) (q3 : Int64) (w_low_a1 : Int64) (w_high_a1 : Int64) (h0 : Heap) (n0 : Nat) (v : Option Value) (h : Heap) (L : List Loc) : Prop := v = none ∧ Fr n0 L ∧ Keep h0 h [a1] ∧ Exa Z h a1 "com/example/laden_graph/ladengraph/locality/Tally" ∧ Fld Z h a1 "com/example/laden_graph/ladengraph/locality/Tally" "low" "J" (.long (w_low_a1 - q3)) ∧ Fld Z h a1 "com/example/laden_graph/ladengraph/locality/Tally" "high" "J" (.long (u_3_a1_high q2 q3 w_low_a1 w_high_a1))
set_option maxRecDepth 65536 in
set_option maxHeartbeats 40000000 in
theorem rm3 (l : Launch) (Z : State) (a0 : Array Value) (hw : ∀ d ∈ tables_1, d.before a0 Z = true) (ws : List Jvm.Cond) (a1 : Addr) (q2 : Int64) (q3 : Int64) (w_low_a1 : Int64) (w_high_a1 : Int64) (h0 : Heap) (n0 : Nat) (Z0 : n0 ≤ h0.size) (F_a1_low : Fld Z h0 a1 "com/example/laden_graph/ladengraph/locality/Tally" "low" "J" (.long w_low_a1)) (F_a1_high : Fld Z h0 a1 "com/example/laden_graph/ladengraph/locality/Tally" "high" "J" (.long w_high_a1)) (E_a1 : Exa Z h0 a1 "com/example/laden_graph/ladengraph/locality/Tally") (g_a1 : n0 ≤ a1) :
    MetFree l (⟨"com/example/laden_graph/ladengraph/locality/Tally", "subtract", "(JJ)V"⟩ : MethodName) (head1 (Jvm.Cond.code (⟨"com/example/laden_graph/ladengraph/locality/Tally", "subtract", "(JJ)V"⟩ : MethodName) prog_10_method_9_code 7 none :: ws) ({ frames := 2, cells := 0, slots := 0, locals := 30 } : Room)) (fun a U => a = #[(.ref a1), (.long q2), (.long q3)] ∧ Z.Warmed39 U.vm ∧ U.heap = h0) (fun _ _ _ _ _ => True) (fun _ U o U' => ∃ v L, o = .returned v ∧ Q3 Z a1 q2 q3 w_low_a1 w_high_a1 h0 n0 v U'.heap L ∧ FrameEnd U o U' L ({ frames := 2, cells := 0, slots := 0, locals := 30 } : Room).cells ({ frames := 2, cells := 0, slots := 0, locals := 30 } : Room).slots) := by
  refine MetFree.of_bodySF (plainFor_of_name pn_1) hisR ?_
  intro p e s m args below meth c s₁ Bd hml0 hP hK
  obtain ⟨rfl, hZ, hh⟩ := hP
  have hx := Bd.exec
  have hby := Bd.bytes
  have hml : c.maxLocals = 7 := hml0
  have hown : s.vm.findClass "com/example/laden_graph/ladengraph/locality/Tally" = some m.cls := findClass_of_methodNamed Bd.named
  have hnm := (name_of_methodNamed Bd.named Bd.method).1
  have X0 : Stand p l e ({ frames := 2, cells := 0, slots := 0, locals := 30 } : Room) s m #[(.ref a1), (.long q2), (.long q3)] below meth c s₁ [] 0 0 := Stand.of_body Bd
  have e0 : s₁.heap = h0 := by rw [← hh, Bd.state]; rfl
  have NN := Fr.nil n0
  have KK : Keep h0 h0 [a1] := Keep.refl h0 [a1]
  refine own_start (ef_3 m a1 q2 q3) ?_
  refine own_go (T' := s₁) (g' := (mkF m 1 #[.val (.ref a1), .val (.long q2), .second, .val (.long q3), .second, .unset, .unset] [(.ref a1)])) (fun t k => ?_) ?_
  · show Steps p.tables e below (s₁.setTop (mkF m 0 #[.val (.ref a1), .val (.long q2), .second, .val (.long q3), .second, .unset, .unset] [])) _
    refine XS.aloadN X0.here hx rfl (hb hby d3_0) rfl rfl ?_
    exact k
  obtain ⟨T1, X1, e1, st1⟩ := getF X0 hx hZ hown (host := "") (Or.inl (hw _ (List.mem_of_getElem? (i := 14) rfl))) Via.refl e0 F_a1_low (g := (mkF m 1 #[.val (.ref a1), .val (.long q2), .second, .val (.long q3), .second, .unset, .unset] [(.ref a1)])) rfl rfl (hb hby d3_1)
  refine own_go st1 ?_
  show own_Go p.tables e below _ T1 (mkF m 4 #[.val (.ref a1), .val (.long q2), .second, .val (.long q3), .second, .unset, .unset] [(.long w_low_a1)])
  refine own_go (T' := T1) (g' := (mkF m 5 #[.val (.ref a1), .val (.long q2), .second, .val (.long q3), .second, .unset, .unset] [(.long q3), (.long w_low_a1)])) (fun t k => ?_) ?_
  · show Steps p.tables e below (T1.setTop (mkF m 4 #[.val (.ref a1), .val (.long q2), .second, .val (.long q3), .second, .unset, .unset] [(.long w_low_a1)])) _
    refine XS.lloadN X1.here hx rfl (hb hby d3_4) rfl ?_
    exact k
  obtain ⟨_, _, ⟨T2, L2, k2, n2⟩, -, X2, ⟨Lc2, hQ2, l2, y2, z2⟩, st2⟩ := Jvm.LawKit.callS X1 hx (y := (⟨"java/lang/Long", "compareUnsigned", "(JJ)I"⟩ : MethodName)) hown (mvT hZ (hw _ (List.mem_of_getElem? (i := 16) rfl))) (mvT hZ (hw _ (List.mem_of_getElem? (i := 17) rfl))) (mvT hZ (hw _ (List.mem_of_getElem? (i := 18) rfl))) (mvT hZ (hw _ (List.mem_of_getElem? (i := 19) rfl))) (by decide) (backOf (W := 0) (rm4 l Z a0 hw [] w_low_a1 q3 h0 n0 Z0 ) hZ (hw _ (List.mem_of_getElem? (i := 19) rfl)) (hw _ (List.mem_of_getElem? (i := 18) rfl)) (by decide) (by decide)) (g := (mkF m 5 #[.val (.ref a1), .val (.long q2), .second, .val (.long q3), .second, .unset, .unset] [(.long q3), (.long w_low_a1)])) rfl (by rw [hml]; rfl) (argsL := [(.long w_low_a1), (.long q3)]) (rest := []) (lenOf pd_2 rfl) rfl (by show 2 * 0 + _ ≤ _; exact Nat.le_of_eq rfl) (hb hby d3_5) (fun _ _ => ⟨rfl, e1, (by decide : 0 + 0 ≤ _), (by decide : 0 + 0 ≤ _)⟩)
  dsimp only [Pt.U, Pt.locs, Pt.cells, Pt.slots] at X2 l2 y2 z2 st2 hQ2
  subst l2 y2 z2
  obtain ⟨rfl, N2q, e2⟩ := hQ2
  have NN := Fr.app NN N2q
  refine own_go st2 ?_
  show own_Go p.tables e below _ T2 (mkF m 8 #[.val (.ref a1), .val (.long q2), .second, .val (.long q3), .second, .unset, .unset] [(.int (r_4 w_low_a1 q3))])
  obtain ⟨j3, hj3, st4⟩ : ∃ (j3 : Int64), j3 = (if (r_4 w_low_a1 q3) < (0 : Int32) then (1 : Int64) else (0 : Int64)) ∧ ∀ t, Steps p.tables e below (T2.setTop (mkF m 16 #[.val (.ref a1), .val (.long q2), .second, .val (.long q3), .second, .unset, .unset] [(.long j3)])) t → Steps p.tables e below (T2.setTop (mkF m 8 #[.val (.ref a1), .val (.long q2), .second, .val (.long q3), .second, .unset, .unset] [(.int (r_4 w_low_a1 q3))])) t := by
    by_cases hc8_1 : (r_4 w_low_a1 q3) < (0 : Int32)
    · skip
      refine ⟨(1 : Int64), (by simp only [if_pos hc8_1]), fun t k => ?_⟩
      show Steps p.tables e below (T2.setTop (mkF m 8 #[.val (.ref a1), .val (.long q2), .second, .val (.long q3), .second, .unset, .unset] [(.int (r_4 w_low_a1 q3))])) _
      refine XS.ifNo X2.here hx rfl (hb hby d3_8) rfl ((if0 _ _).trans (tlt hc8_1).2.1) ?_
      show Steps p.tables e below (T2.setTop (mkF m 11 #[.val (.ref a1), .val (.long q2), .second, .val (.long q3), .second, .unset, .unset] [])) _
      refine XS.lconst X2.here hx rfl (hb hby d3_11) ?_
      show Steps p.tables e below (T2.setTop (mkF m 12 #[.val (.ref a1), .val (.long q2), .second, .val (.long q3), .second, .unset, .unset] [(.long (1 : Int64))])) _
      refine XS.goto X2.here hx rfl (pc0 := 12) (pc' := 16) rfl (hb hby d3_12) (by decide) (by decide) ?_
      exact k
    · skip
      refine ⟨(0 : Int64), (by simp only [if_neg hc8_1]), fun t k => ?_⟩
      show Steps p.tables e below (T2.setTop (mkF m 8 #[.val (.ref a1), .val (.long q2), .second, .val (.long q3), .second, .unset, .unset] [(.int (r_4 w_low_a1 q3))])) _
      refine XS.ifYes X2.here hx rfl (pc0 := 8) (pc' := 15) rfl (hb hby d3_8) rfl ((if0 _ _).trans (flt hc8_1).2.1) (by decide) (by decide) ?_
      show Steps p.tables e below (T2.setTop (mkF m 15 #[.val (.ref a1), .val (.long q2), .second, .val (.long q3), .second, .unset, .unset] [])) _
      refine XS.lconst X2.here hx rfl (hb hby d3_15) ?_
      exact k
  refine own_go st4 ?_
  show own_Go p.tables e below _ T2 (mkF m 16 #[.val (.ref a1), .val (.long q2), .second, .val (.long q3), .second, .unset, .unset] [(.long j3)])
  refine own_go (T' := T2) (g' := (mkF m 20 #[.val (.ref a1), .val (.long q2), .second, .val (.long q3), .second, .val (.long j3), .second] [(.ref a1), (.ref a1)])) (fun t k => ?_) ?_
  · show Steps p.tables e below (T2.setTop (mkF m 16 #[.val (.ref a1), .val (.long q2), .second, .val (.long q3), .second, .unset, .unset] [(.long j3)])) _
    refine XS.lstore X2.here hx rfl (hb hby d3_16) rfl (l' := #[.val (.ref a1), .val (.long q2), .second, .val (.long q3), .second, .val (.long j3), .second]) rfl ?_
    show Steps p.tables e below (T2.setTop (mkF m 18 #[.val (.ref a1), .val (.long q2), .second, .val (.long q3), .second, .val (.long j3), .second] [])) _
    refine XS.aloadN X2.here hx rfl (hb hby d3_18) rfl rfl ?_
    show Steps p.tables e below (T2.setTop (mkF m 19 #[.val (.ref a1), .val (.long q2), .second, .val (.long q3), .second, .val (.long j3), .second] [(.ref a1)])) _
    refine XS.dup X2.here hx rfl (hb hby d3_19) rfl rfl ?_
    exact k
  obtain ⟨T5, X5, e5, st5⟩ := getF X2 hx hZ hown (host := "") (Or.inl (hw _ (List.mem_of_getElem? (i := 24) rfl))) Via.refl e2 F_a1_high (g := (mkF m 20 #[.val (.ref a1), .val (.long q2), .second, .val (.long q3), .second, .val (.long j3), .second] [(.ref a1), (.ref a1)])) rfl rfl (hb hby d3_20)
  refine own_go st5 ?_
  show own_Go p.tables e below _ T5 (mkF m 23 #[.val (.ref a1), .val (.long q2), .second, .val (.long q3), .second, .val (.long j3), .second] [(.long w_high_a1), (.ref a1)])
  refine own_go (T' := T5) (g' := (mkF m 28 #[.val (.ref a1), .val (.long q2), .second, .val (.long q3), .second, .val (.long j3), .second] [(.long (w_high_a1 - (q2 + j3))), (.ref a1)])) (fun t k => ?_) ?_
  · show Steps p.tables e below (T5.setTop (mkF m 23 #[.val (.ref a1), .val (.long q2), .second, .val (.long q3), .second, .val (.long j3), .second] [(.long w_high_a1), (.ref a1)])) _
    refine XS.lloadN X5.here hx rfl (hb hby d3_23) rfl ?_
    show Steps p.tables e below (T5.setTop (mkF m 24 #[.val (.ref a1), .val (.long q2), .second, .val (.long q3), .second, .val (.long j3), .second] [(.long q2), (.long w_high_a1), (.ref a1)])) _
    refine XS.lload X5.here hx rfl (hb hby d3_24) rfl ?_
    show Steps p.tables e below (T5.setTop (mkF m 26 #[.val (.ref a1), .val (.long q2), .second, .val (.long q3), .second, .val (.long j3), .second] [(.long j3), (.long q2), (.long w_high_a1), (.ref a1)])) _
    refine XS.ladd X5.here hx rfl (hb hby d3_26) rfl ?_
    show Steps p.tables e below (T5.setTop (mkF m 27 #[.val (.ref a1), .val (.long q2), .second, .val (.long q3), .second, .val (.long j3), .second] [(.long (q2 + j3)), (.long w_high_a1), (.ref a1)])) _
    refine XS.lsub X5.here hx rfl (hb hby d3_27) rfl ?_
    exact k
  obtain ⟨T6, h6, X6, e6, W6, st6⟩ := putF X5 hx hZ hown (host := "") (Or.inl (hw _ (List.mem_of_getElem? (i := 24) rfl))) Via.refl e5 F_a1_high E_a1 (Or.inl (hw _ (List.mem_of_getElem? (i := 25) rfl))) (hw _ (List.mem_of_getElem? (i := 1) rfl)) (ty := .long) (by decide) rfl rfl (g := (mkF m 28 #[.val (.ref a1), .val (.long q2), .second, .val (.long q3), .second, .val (.long j3), .second] [(.long (w_high_a1 - (q2 + j3))), (.ref a1)])) rfl rfl (hb hby d3_28)
  refine own_go st6 ?_
  have F_a1_low := F_a1_low.other W6 (Or.inr (slot_ne (Or.inl (hw _ (List.mem_of_getElem? (i := 15) rfl))) (Or.inl (hw _ (List.mem_of_getElem? (i := 25) rfl))) (by decide) (t := .long) (t' := .long) (by decide) (by decide)))
  have F_a1_high := F_a1_high.same W6
  have E_a1 := E_a1.wr W6
  have Z0 := Nat.le_trans Z0 (Keep.of_wr W6).1
  have KK := KK.wr W6 (Or.inl (List.mem_of_getElem? (i := 0) rfl))
  have NN := Fr.snoc X6 NN g_a1
  show own_Go p.tables e below _ T6 (mkF m 31 #[.val (.ref a1), .val (.long q2), .second, .val (.long q3), .second, .val (.long j3), .second] [])
  refine own_go (T' := T6) (g' := (mkF m 33 #[.val (.ref a1), .val (.long q2), .second, .val (.long q3), .second, .val (.long j3), .second] [(.ref a1), (.ref a1)])) (fun t k => ?_) ?_
  · show Steps p.tables e below (T6.setTop (mkF m 31 #[.val (.ref a1), .val (.long q2), .second, .val (.long q3), .second, .val (.long j3), .second] [])) _
    refine XS.aloadN X6.here hx rfl (hb hby d3_31) rfl rfl ?_
    show Steps p.tables e below (T6.setTop (mkF m 32 #[.val (.ref a1), .val (.long q2), .second, .val (.long q3), .second, .val (.long j3), .second] [(.ref a1)])) _
    refine XS.dup X6.here hx rfl (hb hby d3_32) rfl rfl ?_
    exact k
  obtain ⟨T7, X7, e7, st7⟩ := getF X6 hx hZ hown (host := "") (Or.inl (hw _ (List.mem_of_getElem? (i := 14) rfl))) Via.refl e6 F_a1_low (g := (mkF m 33 #[.val (.ref a1), .val (.long q2), .second, .val (.long q3), .second, .val (.long j3), .second] [(.ref a1), (.ref a1)])) rfl rfl (hb hby d3_33)
  refine own_go st7 ?_
  show own_Go p.tables e below _ T7 (mkF m 36 #[.val (.ref a1), .val (.long q2), .second, .val (.long q3), .second, .val (.long j3), .second] [(.long w_low_a1), (.ref a1)])
  refine own_go (T' := T7) (g' := (mkF m 38 #[.val (.ref a1), .val (.long q2), .second, .val (.long q3), .second, .val (.long j3), .second] [(.long (w_low_a1 - q3)), (.ref a1)])) (fun t k => ?_) ?_
  · show Steps p.tables e below (T7.setTop (mkF m 36 #[.val (.ref a1), .val (.long q2), .second, .val (.long q3), .second, .val (.long j3), .second] [(.long w_low_a1), (.ref a1)])) _
    refine XS.lloadN X7.here hx rfl (hb hby d3_36) rfl ?_
    show Steps p.tables e below (T7.setTop (mkF m 37 #[.val (.ref a1), .val (.long q2), .second, .val (.long q3), .second, .val (.long j3), .second] [(.long q3), (.long w_low_a1), (.ref a1)])) _
    refine XS.lsub X7.here hx rfl (hb hby d3_37) rfl ?_
    exact k
  obtain ⟨T8, h8, X8, e8, W8, st8⟩ := putF X7 hx hZ hown (host := "") (Or.inl (hw _ (List.mem_of_getElem? (i := 14) rfl))) Via.refl e7 F_a1_low E_a1 (Or.inl (hw _ (List.mem_of_getElem? (i := 15) rfl))) (hw _ (List.mem_of_getElem? (i := 1) rfl)) (ty := .long) (by decide) rfl rfl (g := (mkF m 38 #[.val (.ref a1), .val (.long q2), .second, .val (.long q3), .second, .val (.long j3), .second] [(.long (w_low_a1 - q3)), (.ref a1)])) rfl rfl (hb hby d3_38)
  refine own_go st8 ?_
  have F_a1_low := F_a1_low.same W8
  have F_a1_high := F_a1_high.other W8 (Or.inr (slot_ne (Or.inl (hw _ (List.mem_of_getElem? (i := 25) rfl))) (Or.inl (hw _ (List.mem_of_getElem? (i := 15) rfl))) (by decide) (t := .long) (t' := .long) (by decide) (by decide)))
  have E_a1 := E_a1.wr W8
  have Z0 := Nat.le_trans Z0 (Keep.of_wr W8).1
  have KK := KK.wr W8 (Or.inl (List.mem_of_getElem? (i := 0) rfl))
  have NN := Fr.snoc X8 NN g_a1
  show own_Go p.tables e below _ T8 (mkF m 41 #[.val (.ref a1), .val (.long q2), .second, .val (.long q3), .second, .val (.long j3), .second] [])
  obtain ⟨fs, hr, hrun, hended, hW, hsame⟩ := X8.leave (v := none) (fun _ => rfl)
  refine ⟨_, _, ?_, hrun, hended, _, _, rfl, ?_, ⟨_, rfl⟩, hW, hsame.mono (by decide) (by decide)⟩
  · exact X8.returnOut hx Bd.returns (hb hby d3_41) hr
  · show Q3 Z a1 q2 q3 w_low_a1 w_high_a1 h0 n0 _ T8.heap _
    rw [e8]
    exact ⟨rfl, NN, KK, E_a1, F_a1_low, (by rw [← ((by first | (simp only [hj3, u_3_a1_high]; done) | (subst hj3; simp only [u_3_a1_high])) : (w_high_a1 - (q2 + j3)) = u_3_a1_high q2 q3 w_low_a1 w_high_a1)]; exact F_a1_high)⟩
theorem d8_0 : decode prog_10_method_2_code 0 = .ok (.lload_n 2, 1) := by decide +kernel
theorem d8_1 : decode prog_10_method_2_code 1 = .ok (.lload_n 0, 1) := by decide +kernel
theorem d8_2 : decode prog_10_method_2_code 2 = .ok (.invokestatic 7, 3) := by decide +kernel
theorem d8_5 : decode prog_10_method_2_code 5 = .ok (.ifCond .ge 7, 3) := by decide +kernel
theorem d8_8 : decode prog_10_method_2_code 8 = .ok (.lconst 1, 1) := by decide +kernel
theorem d8_9 : decode prog_10_method_2_code 9 = .ok (.goto 4, 3) := by decide +kernel
theorem d8_12 : decode prog_10_method_2_code 12 = .ok (.lconst 0, 1) := by decide +kernel
theorem d8_13 : decode prog_10_method_2_code 13 = .ok (.lreturn, 1) := by decide +kernel
theorem ef_8 (m : MethodId) (q1 : Int64) (q2 : Int64) : entryFrame m #[(.long q1), (.long q2)] 4 = mkF m 0 #[.val (.long q1), .second, .val (.long q2), .second] [] := by first | (simp [entryFrame, mkF, argsToLocals, Value.category]; done) | rfl
def r_8 (q1 : Int64) (q2 : Int64) : Int64 := ((if (r_4 q2 q1) < (0 : Int32) then (1 : Int64) else (0 : Int64)))
def Q8 (Z : State) (q1 : Int64) (q2 : Int64) (h0 : Heap) (n0 : Nat) (v : Option Value) (h : Heap) (L : List Loc) : Prop := v = some (.long (r_8 q1 q2)) ∧ Fr n0 L ∧ h = h0
set_option maxRecDepth 65536 in
set_option maxHeartbeats 40000000 in
theorem rm8 (l : Launch) (Z : State) (a0 : Array Value) (hw : ∀ d ∈ tables_1, d.before a0 Z = true) (ws : List Jvm.Cond) (q1 : Int64) (q2 : Int64) (h0 : Heap) (n0 : Nat) (Z0 : n0 ≤ h0.size) :
    MetFree l (⟨"com/example/laden_graph/ladengraph/locality/Tally", "carry", "(JJ)J"⟩ : MethodName) (head1 (Jvm.Cond.code (⟨"com/example/laden_graph/ladengraph/locality/Tally", "carry", "(JJ)J"⟩ : MethodName) prog_10_method_2_code 4 (some .long) :: ws) ({ frames := 2, cells := 0, slots := 0, locals := 30 } : Room)) (fun a U => a = #[(.long q1), (.long q2)] ∧ Z.Warmed39 U.vm ∧ U.heap = h0) (fun _ _ _ _ _ => True) (fun _ U o U' => ∃ v L, o = .returned v ∧ Q8 Z q1 q2 h0 n0 v U'.heap L ∧ FrameEnd U o U' L ({ frames := 2, cells := 0, slots := 0, locals := 30 } : Room).cells ({ frames := 2, cells := 0, slots := 0, locals := 30 } : Room).slots) := by
  refine MetFree.of_bodySF (plainFor_of_name pn_1) hisR ?_
  intro p e s m args below meth c s₁ Bd hml0 hP hK
  obtain ⟨rfl, hZ, hh⟩ := hP
  have hx := Bd.exec
  have hby := Bd.bytes
  have hml : c.maxLocals = 4 := hml0
  have hown : s.vm.findClass "com/example/laden_graph/ladengraph/locality/Tally" = some m.cls := findClass_of_methodNamed Bd.named
  have hnm := (name_of_methodNamed Bd.named Bd.method).1
  have X0 : Stand p l e ({ frames := 2, cells := 0, slots := 0, locals := 30 } : Room) s m #[(.long q1), (.long q2)] below meth c s₁ [] 0 0 := Stand.of_body Bd
  have e0 : s₁.heap = h0 := by rw [← hh, Bd.state]; rfl
  have NN := Fr.nil n0
  have KK : Keep h0 h0 [] := Keep.refl h0 []
  refine own_start (ef_8 m q1 q2) ?_
  refine own_go (T' := s₁) (g' := (mkF m 2 #[.val (.long q1), .second, .val (.long q2), .second] [(.long q1), (.long q2)])) (fun t k => ?_) ?_
  · show Steps p.tables e below (s₁.setTop (mkF m 0 #[.val (.long q1), .second, .val (.long q2), .second] [])) _
    refine XS.lloadN X0.here hx rfl (hb hby d8_0) rfl ?_
    show Steps p.tables e below (s₁.setTop (mkF m 1 #[.val (.long q1), .second, .val (.long q2), .second] [(.long q2)])) _
    refine XS.lloadN X0.here hx rfl (hb hby d8_1) rfl ?_
    exact k
  obtain ⟨_, _, ⟨T1, L1, k1, n1⟩, -, X1, ⟨Lc1, hQ1, l1, y1, z1⟩, st1⟩ := Jvm.LawKit.callS X0 hx (y := (⟨"java/lang/Long", "compareUnsigned", "(JJ)I"⟩ : MethodName)) hown (mvT hZ (hw _ (List.mem_of_getElem? (i := 16) rfl))) (mvT hZ (hw _ (List.mem_of_getElem? (i := 17) rfl))) (mvT hZ (hw _ (List.mem_of_getElem? (i := 18) rfl))) (mvT hZ (hw _ (List.mem_of_getElem? (i := 19) rfl))) (by decide) (backOf (W := 0) (rm4 l Z a0 hw [] q2 q1 h0 n0 Z0 ) hZ (hw _ (List.mem_of_getElem? (i := 19) rfl)) (hw _ (List.mem_of_getElem? (i := 18) rfl)) (by decide) (by decide)) (g := (mkF m 2 #[.val (.long q1), .second, .val (.long q2), .second] [(.long q1), (.long q2)])) rfl (by rw [hml]; rfl) (argsL := [(.long q2), (.long q1)]) (rest := []) (lenOf pd_2 rfl) rfl (by show 2 * 0 + _ ≤ _; exact Nat.le_of_eq rfl) (hb hby d8_2) (fun _ _ => ⟨rfl, e0, (by decide : 0 + 0 ≤ _), (by decide : 0 + 0 ≤ _)⟩)
  dsimp only [Pt.U, Pt.locs, Pt.cells, Pt.slots] at X1 l1 y1 z1 st1 hQ1
  subst l1 y1 z1
  obtain ⟨rfl, N1q, e1⟩ := hQ1
  have NN := Fr.app NN N1q
  refine own_go st1 ?_
  show own_Go p.tables e below _ T1 (mkF m 5 #[.val (.long q1), .second, .val (.long q2), .second] [(.int (r_4 q2 q1))])
  obtain ⟨j2, hj2, st3⟩ : ∃ (j2 : Int64), j2 = (if (r_4 q2 q1) < (0 : Int32) then (1 : Int64) else (0 : Int64)) ∧ ∀ t, Steps p.tables e below (T1.setTop (mkF m 13 #[.val (.long q1), .second, .val (.long q2), .second] [(.long j2)])) t → Steps p.tables e below (T1.setTop (mkF m 5 #[.val (.long q1), .second, .val (.long q2), .second] [(.int (r_4 q2 q1))])) t := by
    by_cases hc5_1 : (r_4 q2 q1) < (0 : Int32)
    · skip
      refine ⟨(1 : Int64), (by simp only [if_pos hc5_1]), fun t k => ?_⟩
      show Steps p.tables e below (T1.setTop (mkF m 5 #[.val (.long q1), .second, .val (.long q2), .second] [(.int (r_4 q2 q1))])) _
      refine XS.ifNo X1.here hx rfl (hb hby d8_5) rfl ((if0 _ _).trans (tlt hc5_1).2.1) ?_
      show Steps p.tables e below (T1.setTop (mkF m 8 #[.val (.long q1), .second, .val (.long q2), .second] [])) _
      refine XS.lconst X1.here hx rfl (hb hby d8_8) ?_
      show Steps p.tables e below (T1.setTop (mkF m 9 #[.val (.long q1), .second, .val (.long q2), .second] [(.long (1 : Int64))])) _
      refine XS.goto X1.here hx rfl (pc0 := 9) (pc' := 13) rfl (hb hby d8_9) (by decide) (by decide) ?_
      exact k
    · skip
      refine ⟨(0 : Int64), (by simp only [if_neg hc5_1]), fun t k => ?_⟩
      show Steps p.tables e below (T1.setTop (mkF m 5 #[.val (.long q1), .second, .val (.long q2), .second] [(.int (r_4 q2 q1))])) _
      refine XS.ifYes X1.here hx rfl (pc0 := 5) (pc' := 12) rfl (hb hby d8_5) rfl ((if0 _ _).trans (flt hc5_1).2.1) (by decide) (by decide) ?_
      show Steps p.tables e below (T1.setTop (mkF m 12 #[.val (.long q1), .second, .val (.long q2), .second] [])) _
      refine XS.lconst X1.here hx rfl (hb hby d8_12) ?_
      exact k
  refine own_go st3 ?_
  show own_Go p.tables e below _ T1 (mkF m 13 #[.val (.long q1), .second, .val (.long q2), .second] [(.long j2)])
  obtain ⟨fs, hr, hrun, hended, hW, hsame⟩ := X1.leave (v := some (.long j2)) (fun h => by rw [Bd.returns] at h; cases h)
  refine ⟨_, _, ?_, hrun, hended, _, _, rfl, ?_, ⟨_, rfl⟩, hW, hsame.mono (by decide) (by decide)⟩
  · exact own_retJ X1 hx Bd.returns (hb hby d8_13) hr
  · show Q8 Z q1 q2 h0 n0 _ T1.heap _
    rw [e1]
    exact ⟨(by first | (simp only [hj2, r_8]; done) | (subst hj2; first | (simp only [r_8]; done) | rfl)), NN, rfl⟩
theorem d7_0 : decode prog_10_method_6_code 0 = .ok (.aload_n 0, 1) := by decide +kernel
theorem d7_1 : decode prog_10_method_6_code 1 = .ok (.getfield 19, 3) := by decide +kernel
theorem d7_4 : decode prog_10_method_6_code 4 = .ok (.lload_n 3, 1) := by decide +kernel
theorem d7_5 : decode prog_10_method_6_code 5 = .ok (.ladd, 1) := by decide +kernel
theorem d7_6 : decode prog_10_method_6_code 6 = .ok (.lstore 5, 2) := by decide +kernel
theorem d7_8 : decode prog_10_method_6_code 8 = .ok (.aload_n 0, 1) := by decide +kernel
theorem d7_9 : decode prog_10_method_6_code 9 = .ok (.dup, 1) := by decide +kernel
theorem d7_10 : decode prog_10_method_6_code 10 = .ok (.getfield 13, 3) := by decide +kernel
theorem d7_13 : decode prog_10_method_6_code 13 = .ok (.lload_n 1, 1) := by decide +kernel
theorem d7_14 : decode prog_10_method_6_code 14 = .ok (.aload_n 0, 1) := by decide +kernel
theorem d7_15 : decode prog_10_method_6_code 15 = .ok (.getfield 19, 3) := by decide +kernel
theorem d7_18 : decode prog_10_method_6_code 18 = .ok (.lload 5, 2) := by decide +kernel
theorem d7_20 : decode prog_10_method_6_code 20 = .ok (.invokestatic 26, 3) := by decide +kernel
theorem d7_23 : decode prog_10_method_6_code 23 = .ok (.ladd, 1) := by decide +kernel
theorem d7_24 : decode prog_10_method_6_code 24 = .ok (.ladd, 1) := by decide +kernel
theorem d7_25 : decode prog_10_method_6_code 25 = .ok (.putfield 13, 3) := by decide +kernel
theorem d7_28 : decode prog_10_method_6_code 28 = .ok (.aload_n 0, 1) := by decide +kernel
theorem d7_29 : decode prog_10_method_6_code 29 = .ok (.lload 5, 2) := by decide +kernel
theorem d7_31 : decode prog_10_method_6_code 31 = .ok (.putfield 19, 3) := by decide +kernel
theorem d7_34 : decode prog_10_method_6_code 34 = .ok (.return_, 1) := by decide +kernel
theorem pd_4 : parseMethodDescriptor "(JJ)J" = some ⟨[.long, .long], some .long⟩ := by decide +kernel
theorem ef_7 (m : MethodId) (a1 : Addr) (q2 : Int64) (q3 : Int64) : entryFrame m #[(.ref a1), (.long q2), (.long q3)] 7 = mkF m 0 #[.val (.ref a1), .val (.long q2), .second, .val (.long q3), .second, .unset, .unset] [] := by first | (simp [entryFrame, mkF, argsToLocals, Value.category]; done) | rfl
def Q7 (Z : State) (a1 : Addr) (q2 : Int64) (q3 : Int64) (w_low_a1 : Int64) (w_high_a1 : Int64) (h0 : Heap) (n0 : Nat) (v : Option Value) (h : Heap) (L : List Loc) : Prop := v = none ∧ Fr n0 L ∧ Keep h0 h [a1] ∧ Exa Z h a1 "com/example/laden_graph/ladengraph/locality/Tally" ∧ Fld Z h a1 "com/example/laden_graph/ladengraph/locality/Tally" "low" "J" (.long (w_low_a1 + q3)) ∧ Fld Z h a1 "com/example/laden_graph/ladengraph/locality/Tally" "high" "J" (.long (w_high_a1 + (q2 + (r_8 w_low_a1 (w_low_a1 + q3)))))
set_option maxRecDepth 65536 in
set_option maxHeartbeats 40000000 in
theorem rm7 (l : Launch) (Z : State) (a0 : Array Value) (hw : ∀ d ∈ tables_1, d.before a0 Z = true) (ws : List Jvm.Cond) (a1 : Addr) (q2 : Int64) (q3 : Int64) (w_low_a1 : Int64) (w_high_a1 : Int64) (h0 : Heap) (n0 : Nat) (Z0 : n0 ≤ h0.size) (F_a1_low : Fld Z h0 a1 "com/example/laden_graph/ladengraph/locality/Tally" "low" "J" (.long w_low_a1)) (F_a1_high : Fld Z h0 a1 "com/example/laden_graph/ladengraph/locality/Tally" "high" "J" (.long w_high_a1)) (E_a1 : Exa Z h0 a1 "com/example/laden_graph/ladengraph/locality/Tally") (g_a1 : n0 ≤ a1) :
    MetFree l (⟨"com/example/laden_graph/ladengraph/locality/Tally", "add", "(JJ)V"⟩ : MethodName) (head1 (Jvm.Cond.code (⟨"com/example/laden_graph/ladengraph/locality/Tally", "add", "(JJ)V"⟩ : MethodName) prog_10_method_6_code 7 none :: ws) ({ frames := 3, cells := 0, slots := 0, locals := 50 } : Room)) (fun a U => a = #[(.ref a1), (.long q2), (.long q3)] ∧ Z.Warmed39 U.vm ∧ U.heap = h0) (fun _ _ _ _ _ => True) (fun _ U o U' => ∃ v L, o = .returned v ∧ Q7 Z a1 q2 q3 w_low_a1 w_high_a1 h0 n0 v U'.heap L ∧ FrameEnd U o U' L ({ frames := 3, cells := 0, slots := 0, locals := 50 } : Room).cells ({ frames := 3, cells := 0, slots := 0, locals := 50 } : Room).slots) := by
  refine MetFree.of_bodySF (plainFor_of_name pn_1) hisR ?_
  intro p e s m args below meth c s₁ Bd hml0 hP hK
  obtain ⟨rfl, hZ, hh⟩ := hP
  have hx := Bd.exec
  have hby := Bd.bytes
  have hml : c.maxLocals = 7 := hml0
  have hown : s.vm.findClass "com/example/laden_graph/ladengraph/locality/Tally" = some m.cls := findClass_of_methodNamed Bd.named
  have hnm := (name_of_methodNamed Bd.named Bd.method).1
  have X0 : Stand p l e ({ frames := 3, cells := 0, slots := 0, locals := 50 } : Room) s m #[(.ref a1), (.long q2), (.long q3)] below meth c s₁ [] 0 0 := Stand.of_body Bd
  have e0 : s₁.heap = h0 := by rw [← hh, Bd.state]; rfl
  have NN := Fr.nil n0
  have KK : Keep h0 h0 [a1] := Keep.refl h0 [a1]
  refine own_start (ef_7 m a1 q2 q3) ?_
  refine own_go (T' := s₁) (g' := (mkF m 1 #[.val (.ref a1), .val (.long q2), .second, .val (.long q3), .second, .unset, .unset] [(.ref a1)])) (fun t k => ?_) ?_
  · show Steps p.tables e below (s₁.setTop (mkF m 0 #[.val (.ref a1), .val (.long q2), .second, .val (.long q3), .second, .unset, .unset] [])) _
    refine XS.aloadN X0.here hx rfl (hb hby d7_0) rfl rfl ?_
    exact k
  obtain ⟨T1, X1, e1, st1⟩ := getF X0 hx hZ hown (host := "") (Or.inl (hw _ (List.mem_of_getElem? (i := 14) rfl))) Via.refl e0 F_a1_low (g := (mkF m 1 #[.val (.ref a1), .val (.long q2), .second, .val (.long q3), .second, .unset, .unset] [(.ref a1)])) rfl rfl (hb hby d7_1)
  refine own_go st1 ?_
  show own_Go p.tables e below _ T1 (mkF m 4 #[.val (.ref a1), .val (.long q2), .second, .val (.long q3), .second, .unset, .unset] [(.long w_low_a1)])
  refine own_go (T' := T1) (g' := (mkF m 10 #[.val (.ref a1), .val (.long q2), .second, .val (.long q3), .second, .val (.long (w_low_a1 + q3)), .second] [(.ref a1), (.ref a1)])) (fun t k => ?_) ?_
  · show Steps p.tables e below (T1.setTop (mkF m 4 #[.val (.ref a1), .val (.long q2), .second, .val (.long q3), .second, .unset, .unset] [(.long w_low_a1)])) _
    refine XS.lloadN X1.here hx rfl (hb hby d7_4) rfl ?_
    show Steps p.tables e below (T1.setTop (mkF m 5 #[.val (.ref a1), .val (.long q2), .second, .val (.long q3), .second, .unset, .unset] [(.long q3), (.long w_low_a1)])) _
    refine XS.ladd X1.here hx rfl (hb hby d7_5) rfl ?_
    show Steps p.tables e below (T1.setTop (mkF m 6 #[.val (.ref a1), .val (.long q2), .second, .val (.long q3), .second, .unset, .unset] [(.long (w_low_a1 + q3))])) _
    refine XS.lstore X1.here hx rfl (hb hby d7_6) rfl (l' := #[.val (.ref a1), .val (.long q2), .second, .val (.long q3), .second, .val (.long (w_low_a1 + q3)), .second]) rfl ?_
    show Steps p.tables e below (T1.setTop (mkF m 8 #[.val (.ref a1), .val (.long q2), .second, .val (.long q3), .second, .val (.long (w_low_a1 + q3)), .second] [])) _
    refine XS.aloadN X1.here hx rfl (hb hby d7_8) rfl rfl ?_
    show Steps p.tables e below (T1.setTop (mkF m 9 #[.val (.ref a1), .val (.long q2), .second, .val (.long q3), .second, .val (.long (w_low_a1 + q3)), .second] [(.ref a1)])) _
    refine XS.dup X1.here hx rfl (hb hby d7_9) rfl rfl ?_
    exact k
  obtain ⟨T2, X2, e2, st2⟩ := getF X1 hx hZ hown (host := "") (Or.inl (hw _ (List.mem_of_getElem? (i := 24) rfl))) Via.refl e1 F_a1_high (g := (mkF m 10 #[.val (.ref a1), .val (.long q2), .second, .val (.long q3), .second, .val (.long (w_low_a1 + q3)), .second] [(.ref a1), (.ref a1)])) rfl rfl (hb hby d7_10)
  refine own_go st2 ?_
  show own_Go p.tables e below _ T2 (mkF m 13 #[.val (.ref a1), .val (.long q2), .second, .val (.long q3), .second, .val (.long (w_low_a1 + q3)), .second] [(.long w_high_a1), (.ref a1)])
  refine own_go (T' := T2) (g' := (mkF m 15 #[.val (.ref a1), .val (.long q2), .second, .val (.long q3), .second, .val (.long (w_low_a1 + q3)), .second] [(.ref a1), (.long q2), (.long w_high_a1), (.ref a1)])) (fun t k => ?_) ?_
  · show Steps p.tables e below (T2.setTop (mkF m 13 #[.val (.ref a1), .val (.long q2), .second, .val (.long q3), .second, .val (.long (w_low_a1 + q3)), .second] [(.long w_high_a1), (.ref a1)])) _
    refine XS.lloadN X2.here hx rfl (hb hby d7_13) rfl ?_
    show Steps p.tables e below (T2.setTop (mkF m 14 #[.val (.ref a1), .val (.long q2), .second, .val (.long q3), .second, .val (.long (w_low_a1 + q3)), .second] [(.long q2), (.long w_high_a1), (.ref a1)])) _
    refine XS.aloadN X2.here hx rfl (hb hby d7_14) rfl rfl ?_
    exact k
  obtain ⟨T3, X3, e3, st3⟩ := getF X2 hx hZ hown (host := "") (Or.inl (hw _ (List.mem_of_getElem? (i := 14) rfl))) Via.refl e2 F_a1_low (g := (mkF m 15 #[.val (.ref a1), .val (.long q2), .second, .val (.long q3), .second, .val (.long (w_low_a1 + q3)), .second] [(.ref a1), (.long q2), (.long w_high_a1), (.ref a1)])) rfl rfl (hb hby d7_15)
  refine own_go st3 ?_
  show own_Go p.tables e below _ T3 (mkF m 18 #[.val (.ref a1), .val (.long q2), .second, .val (.long q3), .second, .val (.long (w_low_a1 + q3)), .second] [(.long w_low_a1), (.long q2), (.long w_high_a1), (.ref a1)])
  refine own_go (T' := T3) (g' := (mkF m 20 #[.val (.ref a1), .val (.long q2), .second, .val (.long q3), .second, .val (.long (w_low_a1 + q3)), .second] [(.long (w_low_a1 + q3)), (.long w_low_a1), (.long q2), (.long w_high_a1), (.ref a1)])) (fun t k => ?_) ?_
  · show Steps p.tables e below (T3.setTop (mkF m 18 #[.val (.ref a1), .val (.long q2), .second, .val (.long q3), .second, .val (.long (w_low_a1 + q3)), .second] [(.long w_low_a1), (.long q2), (.long w_high_a1), (.ref a1)])) _
    refine XS.lload X3.here hx rfl (hb hby d7_18) rfl ?_
    exact k
  obtain ⟨_, _, ⟨T4, L4, k4, n4⟩, -, X4, ⟨Lc4, hQ4, l4, y4, z4⟩, st4⟩ := Jvm.LawKit.callS X3 hx (y := (⟨"com/example/laden_graph/ladengraph/locality/Tally", "carry", "(JJ)J"⟩ : MethodName)) hown (mvT hZ (hw _ (List.mem_of_getElem? (i := 35) rfl))) (mvT hZ (hw _ (List.mem_of_getElem? (i := 36) rfl))) (mvT hZ (hw _ (List.mem_of_getElem? (i := 2) rfl))) (mvT hZ (hw _ (List.mem_of_getElem? (i := 37) rfl))) (by decide) (backOf (W := 5) (rm8 l Z a0 hw [] w_low_a1 (w_low_a1 + q3) h0 n0 Z0 ) hZ (hw _ (List.mem_of_getElem? (i := 37) rfl)) (hw _ (List.mem_of_getElem? (i := 2) rfl)) (by decide) (by decide)) (g := (mkF m 20 #[.val (.ref a1), .val (.long q2), .second, .val (.long q3), .second, .val (.long (w_low_a1 + q3)), .second] [(.long (w_low_a1 + q3)), (.long w_low_a1), (.long q2), (.long w_high_a1), (.ref a1)])) rfl (by rw [hml]; rfl) (argsL := [(.long w_low_a1), (.long (w_low_a1 + q3))]) (rest := [(.long q2), (.long w_high_a1), (.ref a1)]) (lenOf pd_4 rfl) rfl (by show 2 * 0 + _ ≤ _; exact Nat.le_of_eq rfl) (hb hby d7_20) (fun _ _ => ⟨rfl, e3, (by decide : 0 + 0 ≤ _), (by decide : 0 + 0 ≤ _)⟩)
  dsimp only [Pt.U, Pt.locs, Pt.cells, Pt.slots] at X4 l4 y4 z4 st4 hQ4
  subst l4 y4 z4
  obtain ⟨rfl, N4q, e4⟩ := hQ4
  have NN := Fr.app NN N4q
  refine own_go st4 ?_
  show own_Go p.tables e below _ T4 (mkF m 23 #[.val (.ref a1), .val (.long q2), .second, .val (.long q3), .second, .val (.long (w_low_a1 + q3)), .second] [(.long (r_8 w_low_a1 (w_low_a1 + q3))), (.long q2), (.long w_high_a1), (.ref a1)])
  refine own_go (T' := T4) (g' := (mkF m 25 #[.val (.ref a1), .val (.long q2), .second, .val (.long q3), .second, .val (.long (w_low_a1 + q3)), .second] [(.long (w_high_a1 + (q2 + (r_8 w_low_a1 (w_low_a1 + q3))))), (.ref a1)])) (fun t k => ?_) ?_
  · show Steps p.tables e below (T4.setTop (mkF m 23 #[.val (.ref a1), .val (.long q2), .second, .val (.long q3), .second, .val (.long (w_low_a1 + q3)), .second] [(.long (r_8 w_low_a1 (w_low_a1 + q3))), (.long q2), (.long w_high_a1), (.ref a1)])) _
    refine XS.ladd X4.here hx rfl (hb hby d7_23) rfl ?_
    show Steps p.tables e below (T4.setTop (mkF m 24 #[.val (.ref a1), .val (.long q2), .second, .val (.long q3), .second, .val (.long (w_low_a1 + q3)), .second] [(.long (q2 + (r_8 w_low_a1 (w_low_a1 + q3)))), (.long w_high_a1), (.ref a1)])) _
    refine XS.ladd X4.here hx rfl (hb hby d7_24) rfl ?_
    exact k
  obtain ⟨T5, h5, X5, e5, W5, st5⟩ := putF X4 hx hZ hown (host := "") (Or.inl (hw _ (List.mem_of_getElem? (i := 24) rfl))) Via.refl e4 F_a1_high E_a1 (Or.inl (hw _ (List.mem_of_getElem? (i := 25) rfl))) (hw _ (List.mem_of_getElem? (i := 1) rfl)) (ty := .long) (by decide) rfl rfl (g := (mkF m 25 #[.val (.ref a1), .val (.long q2), .second, .val (.long q3), .second, .val (.long (w_low_a1 + q3)), .second] [(.long (w_high_a1 + (q2 + (r_8 w_low_a1 (w_low_a1 + q3))))), (.ref a1)])) rfl rfl (hb hby d7_25)
  refine own_go st5 ?_
  have F_a1_low := F_a1_low.other W5 (Or.inr (slot_ne (Or.inl (hw _ (List.mem_of_getElem? (i := 15) rfl))) (Or.inl (hw _ (List.mem_of_getElem? (i := 25) rfl))) (by decide) (t := .long) (t' := .long) (by decide) (by decide)))
  have F_a1_high := F_a1_high.same W5
  have E_a1 := E_a1.wr W5
  have Z0 := Nat.le_trans Z0 (Keep.of_wr W5).1
  have KK := KK.wr W5 (Or.inl (List.mem_of_getElem? (i := 0) rfl))
  have NN := Fr.snoc X5 NN g_a1
  show own_Go p.tables e below _ T5 (mkF m 28 #[.val (.ref a1), .val (.long q2), .second, .val (.long q3), .second, .val (.long (w_low_a1 + q3)), .second] [])
  refine own_go (T' := T5) (g' := (mkF m 31 #[.val (.ref a1), .val (.long q2), .second, .val (.long q3), .second, .val (.long (w_low_a1 + q3)), .second] [(.long (w_low_a1 + q3)), (.ref a1)])) (fun t k => ?_) ?_
  · show Steps p.tables e below (T5.setTop (mkF m 28 #[.val (.ref a1), .val (.long q2), .second, .val (.long q3), .second, .val (.long (w_low_a1 + q3)), .second] [])) _
    refine XS.aloadN X5.here hx rfl (hb hby d7_28) rfl rfl ?_
    show Steps p.tables e below (T5.setTop (mkF m 29 #[.val (.ref a1), .val (.long q2), .second, .val (.long q3), .second, .val (.long (w_low_a1 + q3)), .second] [(.ref a1)])) _
    refine XS.lload X5.here hx rfl (hb hby d7_29) rfl ?_
    exact k
  obtain ⟨T6, h6, X6, e6, W6, st6⟩ := putF X5 hx hZ hown (host := "") (Or.inl (hw _ (List.mem_of_getElem? (i := 14) rfl))) Via.refl e5 F_a1_low E_a1 (Or.inl (hw _ (List.mem_of_getElem? (i := 15) rfl))) (hw _ (List.mem_of_getElem? (i := 1) rfl)) (ty := .long) (by decide) rfl rfl (g := (mkF m 31 #[.val (.ref a1), .val (.long q2), .second, .val (.long q3), .second, .val (.long (w_low_a1 + q3)), .second] [(.long (w_low_a1 + q3)), (.ref a1)])) rfl rfl (hb hby d7_31)
  refine own_go st6 ?_
  have F_a1_low := F_a1_low.same W6
  have F_a1_high := F_a1_high.other W6 (Or.inr (slot_ne (Or.inl (hw _ (List.mem_of_getElem? (i := 25) rfl))) (Or.inl (hw _ (List.mem_of_getElem? (i := 15) rfl))) (by decide) (t := .long) (t' := .long) (by decide) (by decide)))
  have E_a1 := E_a1.wr W6
  have Z0 := Nat.le_trans Z0 (Keep.of_wr W6).1
  have KK := KK.wr W6 (Or.inl (List.mem_of_getElem? (i := 0) rfl))
  have NN := Fr.snoc X6 NN g_a1
  show own_Go p.tables e below _ T6 (mkF m 34 #[.val (.ref a1), .val (.long q2), .second, .val (.long q3), .second, .val (.long (w_low_a1 + q3)), .second] [])
  obtain ⟨fs, hr, hrun, hended, hW, hsame⟩ := X6.leave (v := none) (fun _ => rfl)
  refine ⟨_, _, ?_, hrun, hended, _, _, rfl, ?_, ⟨_, rfl⟩, hW, hsame.mono (by decide) (by decide)⟩
  · exact X6.returnOut hx Bd.returns (hb hby d7_34) hr
  · show Q7 Z a1 q2 q3 w_low_a1 w_high_a1 h0 n0 _ T6.heap _
    rw [e6]
    exact ⟨rfl, NN, KK, E_a1, F_a1_low, F_a1_high⟩
theorem d6_0 : decode prog_10_method_5_code 0 = .ok (.aload_n 0, 1) := by decide +kernel
theorem d6_1 : decode prog_10_method_5_code 1 = .ok (.aload_n 1, 1) := by decide +kernel
theorem d6_2 : decode prog_10_method_5_code 2 = .ok (.getfield 13, 3) := by decide +kernel
theorem d6_5 : decode prog_10_method_5_code 5 = .ok (.aload_n 1, 1) := by decide +kernel
theorem d6_6 : decode prog_10_method_5_code 6 = .ok (.getfield 19, 3) := by decide +kernel
theorem d6_9 : decode prog_10_method_5_code 9 = .ok (.invokevirtual 22, 3) := by decide +kernel
theorem d6_12 : decode prog_10_method_5_code 12 = .ok (.return_, 1) := by decide +kernel
theorem pd_1 : parseMethodDescriptor "(JJ)V" = some ⟨[.long, .long], none⟩ := by decide +kernel
theorem ef_6 (m : MethodId) (a1 : Addr) (a2 : Addr) : entryFrame m #[(.ref a1), (.ref a2)] 2 = mkF m 0 #[.val (.ref a1), .val (.ref a2)] [] := by first | (simp [entryFrame, mkF, argsToLocals, Value.category]; done) | rfl
def Q6 (Z : State) (a1 : Addr) (a2 : Addr) (w_high_a2 : Int64) (w_low_a2 : Int64) (w_low_a1 : Int64) (w_high_a1 : Int64) (h0 : Heap) (n0 : Nat) (v : Option Value) (h : Heap) (L : List Loc) : Prop := v = none ∧ Fr n0 L ∧ Keep h0 h [a1] ∧ Exa Z h a1 "com/example/laden_graph/ladengraph/locality/Tally" ∧ Fld Z h a1 "com/example/laden_graph/ladengraph/locality/Tally" "low" "J" (.long (w_low_a1 + w_low_a2)) ∧ Fld Z h a1 "com/example/laden_graph/ladengraph/locality/Tally" "high" "J" (.long (w_high_a1 + (w_high_a2 + (r_8 w_low_a1 (w_low_a1 + w_low_a2)))))
set_option maxRecDepth 65536 in
set_option maxHeartbeats 40000000 in
theorem rm6 (l : Launch) (Z : State) (a0 : Array Value) (hw : ∀ d ∈ tables_1, d.before a0 Z = true) (ws : List Jvm.Cond) (a1 : Addr) (a2 : Addr) (w_high_a2 : Int64) (w_low_a2 : Int64) (w_low_a1 : Int64) (w_high_a1 : Int64) (h0 : Heap) (n0 : Nat) (Z0 : n0 ≤ h0.size) (F_a2_high : Fld Z h0 a2 "com/example/laden_graph/ladengraph/locality/Tally" "high" "J" (.long w_high_a2)) (F_a2_low : Fld Z h0 a2 "com/example/laden_graph/ladengraph/locality/Tally" "low" "J" (.long w_low_a2)) (F_a1_low : Fld Z h0 a1 "com/example/laden_graph/ladengraph/locality/Tally" "low" "J" (.long w_low_a1)) (F_a1_high : Fld Z h0 a1 "com/example/laden_graph/ladengraph/locality/Tally" "high" "J" (.long w_high_a1)) (E_a1 : Exa Z h0 a1 "com/example/laden_graph/ladengraph/locality/Tally") (g_a1 : n0 ≤ a1) (ne_a2_a1 : a2 ≠ a1) :
    MetFree l (⟨"com/example/laden_graph/ladengraph/locality/Tally", "add", "(Lcom/example/laden_graph/ladengraph/locality/Tally;)V"⟩ : MethodName) (head1 (Jvm.Cond.code (⟨"com/example/laden_graph/ladengraph/locality/Tally", "add", "(Lcom/example/laden_graph/ladengraph/locality/Tally;)V"⟩ : MethodName) prog_10_method_5_code 2 none :: ws) ({ frames := 4, cells := 0, slots := 0, locals := 68 } : Room)) (fun a U => a = #[(.ref a1), (.ref a2)] ∧ Z.Warmed39 U.vm ∧ U.heap = h0) (fun _ _ _ _ _ => True) (fun _ U o U' => ∃ v L, o = .returned v ∧ Q6 Z a1 a2 w_high_a2 w_low_a2 w_low_a1 w_high_a1 h0 n0 v U'.heap L ∧ FrameEnd U o U' L ({ frames := 4, cells := 0, slots := 0, locals := 68 } : Room).cells ({ frames := 4, cells := 0, slots := 0, locals := 68 } : Room).slots) := by
  refine MetFree.of_bodySF (plainFor_of_name pn_1) hisR ?_
  intro p e s m args below meth c s₁ Bd hml0 hP hK
  obtain ⟨rfl, hZ, hh⟩ := hP
  have hx := Bd.exec
  have hby := Bd.bytes
  have hml : c.maxLocals = 2 := hml0
  have hown : s.vm.findClass "com/example/laden_graph/ladengraph/locality/Tally" = some m.cls := findClass_of_methodNamed Bd.named
  have hnm := (name_of_methodNamed Bd.named Bd.method).1
  have X0 : Stand p l e ({ frames := 4, cells := 0, slots := 0, locals := 68 } : Room) s m #[(.ref a1), (.ref a2)] below meth c s₁ [] 0 0 := Stand.of_body Bd
  have e0 : s₁.heap = h0 := by rw [← hh, Bd.state]; rfl
  have NN := Fr.nil n0
  have KK : Keep h0 h0 [a1] := Keep.refl h0 [a1]
  refine own_start (ef_6 m a1 a2) ?_
  refine own_go (T' := s₁) (g' := (mkF m 2 #[.val (.ref a1), .val (.ref a2)] [(.ref a2), (.ref a1)])) (fun t k => ?_) ?_
  · show Steps p.tables e below (s₁.setTop (mkF m 0 #[.val (.ref a1), .val (.ref a2)] [])) _
    refine XS.aloadN X0.here hx rfl (hb hby d6_0) rfl rfl ?_
    show Steps p.tables e below (s₁.setTop (mkF m 1 #[.val (.ref a1), .val (.ref a2)] [(.ref a1)])) _
    refine XS.aloadN X0.here hx rfl (hb hby d6_1) rfl rfl ?_
    exact k
  obtain ⟨T1, X1, e1, st1⟩ := getF X0 hx hZ hown (host := "") (Or.inl (hw _ (List.mem_of_getElem? (i := 24) rfl))) Via.refl e0 F_a2_high (g := (mkF m 2 #[.val (.ref a1), .val (.ref a2)] [(.ref a2), (.ref a1)])) rfl rfl (hb hby d6_2)
  refine own_go st1 ?_
  show own_Go p.tables e below _ T1 (mkF m 5 #[.val (.ref a1), .val (.ref a2)] [(.long w_high_a2), (.ref a1)])
  refine own_go (T' := T1) (g' := (mkF m 6 #[.val (.ref a1), .val (.ref a2)] [(.ref a2), (.long w_high_a2), (.ref a1)])) (fun t k => ?_) ?_
  · show Steps p.tables e below (T1.setTop (mkF m 5 #[.val (.ref a1), .val (.ref a2)] [(.long w_high_a2), (.ref a1)])) _
    refine XS.aloadN X1.here hx rfl (hb hby d6_5) rfl rfl ?_
    exact k
  obtain ⟨T2, X2, e2, st2⟩ := getF X1 hx hZ hown (host := "") (Or.inl (hw _ (List.mem_of_getElem? (i := 14) rfl))) Via.refl e1 F_a2_low (g := (mkF m 6 #[.val (.ref a1), .val (.ref a2)] [(.ref a2), (.long w_high_a2), (.ref a1)])) rfl rfl (hb hby d6_6)
  refine own_go st2 ?_
  show own_Go p.tables e below _ T2 (mkF m 9 #[.val (.ref a1), .val (.ref a2)] [(.long w_low_a2), (.long w_high_a2), (.ref a1)])
  obtain ⟨cq3, q3, q3'⟩ := E_a1.cell
  obtain ⟨_, _, ⟨T3, L3, k3, n3⟩, -, X3, ⟨Lc3, hQ3, l3, y3, z3⟩, st3⟩ := X2.privateBack hx (y := (⟨"com/example/laden_graph/ladengraph/locality/Tally", "add", "(JJ)V"⟩ : MethodName)) hown (mvT hZ (hw _ (List.mem_of_getElem? (i := 31) rfl))) (mvT hZ (hw _ (List.mem_of_getElem? (i := 32) rfl))) (own_selPriv (z := (⟨"com/example/laden_graph/ladengraph/locality/Tally", "subtract", "(JJ)V"⟩ : MethodName)) rfl (mvT hZ (hw _ (List.mem_of_getElem? (i := 12) rfl))) (Cond.privateMethod_at (mvP hZ (hw _ (List.mem_of_getElem? (i := 33) rfl)) (args := #[]))) (mvT hZ (hw _ (List.mem_of_getElem? (i := 32) rfl))) (by decide)) (Cond.privateMethod_at (mvP hZ (hw _ (List.mem_of_getElem? (i := 33) rfl)) (args := #[]))) (mvT hZ (hw _ (List.mem_of_getElem? (i := 34) rfl))) (by decide) (backOf (W := 0) (rm7 l Z a0 hw [] a1 w_high_a2 w_low_a2 w_low_a1 w_high_a1 h0 n0 Z0 F_a1_low F_a1_high E_a1 g_a1) hZ (hw _ (List.mem_of_getElem? (i := 34) rfl)) (hw _ (List.mem_of_getElem? (i := 2) rfl)) (by decide) (by decide)) (g := (mkF m 9 #[.val (.ref a1), .val (.ref a2)] [(.long w_low_a2), (.long w_high_a2), (.ref a1)])) rfl (by rw [hml]; rfl) (Steps.refl _) (a := a1) (by rw [e2]; exact q3) q3' (argsL := [(.long w_high_a2), (.long w_low_a2)]) (rest := []) (lenOf pd_1 rfl) rfl (by show 2 * 0 + _ ≤ _; exact Nat.le_of_eq rfl) (hb hby d6_9) (fun _ _ => ⟨rfl, e2, (by decide : 0 + 0 ≤ _), (by decide : 0 + 0 ≤ _)⟩)
  dsimp only [Pt.U, Pt.locs, Pt.cells, Pt.slots] at X3 l3 y3 z3 st3 hQ3
  subst l3 y3 z3
  obtain ⟨rfl, N3q, K3, Q3_0, Q3_1, Q3_2⟩ := hQ3
  have F_a2_high := F_a2_high.keep K3 (ninS ne_a2_a1 nin0)
  have F_a2_low := F_a2_low.keep K3 (ninS ne_a2_a1 nin0)
  have E_a1 := Q3_0
  have F_a1_low := Q3_1
  have F_a1_high := Q3_2
  have Z0 := Nat.le_trans Z0 K3.1
  have KK := KK.trans K3 (allS (Or.inl (List.mem_of_getElem? (i := 0) rfl)) all0)
  have NN := Fr.app NN N3q
  refine own_go (fun t k => st3.trans k) ?_
  show own_Go p.tables e below _ T3 (mkF m 12 #[.val (.ref a1), .val (.ref a2)] [])
  obtain ⟨fs, hr, hrun, hended, hW, hsame⟩ := X3.leave (v := none) (fun _ => rfl)
  refine ⟨_, _, ?_, hrun, hended, _, _, rfl, ?_, ⟨_, rfl⟩, hW, hsame.mono (by decide) (by decide)⟩
  · exact X3.returnOut hx Bd.returns (hb hby d6_12) hr
  · show Q6 Z a1 a2 w_high_a2 w_low_a2 w_low_a1 w_high_a1 h0 n0 _ T3.heap _
    exact ⟨rfl, NN, KK, E_a1, F_a1_low, F_a1_high⟩
theorem d9_0 : decode prog_10_method_10_code 0 = .ok (.aload_n 0, 1) := by decide +kernel
theorem d9_1 : decode prog_10_method_10_code 1 = .ok (.getfield 13, 3) := by decide +kernel
theorem d9_4 : decode prog_10_method_10_code 4 = .ok (.aload_n 1, 1) := by decide +kernel
theorem d9_5 : decode prog_10_method_10_code 5 = .ok (.getfield 13, 3) := by decide +kernel
theorem d9_8 : decode prog_10_method_10_code 8 = .ok (.invokestatic 33, 3) := by decide +kernel
theorem d9_11 : decode prog_10_method_10_code 11 = .ok (.istore_n 2, 1) := by decide +kernel
theorem d9_12 : decode prog_10_method_10_code 12 = .ok (.iload_n 2, 1) := by decide +kernel
theorem d9_13 : decode prog_10_method_10_code 13 = .ok (.ifCond .eq 7, 3) := by decide +kernel
theorem d9_16 : decode prog_10_method_10_code 16 = .ok (.iload_n 2, 1) := by decide +kernel
theorem d9_17 : decode prog_10_method_10_code 17 = .ok (.goto 14, 3) := by decide +kernel
theorem d9_20 : decode prog_10_method_10_code 20 = .ok (.aload_n 0, 1) := by decide +kernel
theorem d9_21 : decode prog_10_method_10_code 21 = .ok (.getfield 19, 3) := by decide +kernel
theorem d9_24 : decode prog_10_method_10_code 24 = .ok (.aload_n 1, 1) := by decide +kernel
theorem d9_25 : decode prog_10_method_10_code 25 = .ok (.getfield 19, 3) := by decide +kernel
theorem d9_28 : decode prog_10_method_10_code 28 = .ok (.invokestatic 7, 3) := by decide +kernel
theorem d9_31 : decode prog_10_method_10_code 31 = .ok (.ireturn, 1) := by decide +kernel
theorem ef_9 (m : MethodId) (a1 : Addr) (a2 : Addr) : entryFrame m #[(.ref a1), (.ref a2)] 3 = mkF m 0 #[.val (.ref a1), .val (.ref a2), .unset] [] := by first | (simp [entryFrame, mkF, argsToLocals, Value.category]; done) | rfl
def r_9 (w_high_a1 : Int64) (w_high_a2 : Int64) (w_low_a1 : Int64) (w_low_a2 : Int64) : Int32 := (if (r_5 w_high_a1 w_high_a2) = (0 : Int32) then (r_4 w_low_a1 w_low_a2) else (r_5 w_high_a1 w_high_a2))
def Q9 (Z : State) (a1 : Addr) (a2 : Addr) (w_high_a1 : Int64) (w_high_a2 : Int64) (w_low_a1 : Int64) (w_low_a2 : Int64) (h0 : Heap) (n0 : Nat) (v : Option Value) (h : Heap) (L : List Loc) : Prop := v = some (.int (r_9 w_high_a1 w_high_a2 w_low_a1 w_low_a2)) ∧ Fr n0 L ∧ h = h0
set_option maxRecDepth 65536 in
set_option maxHeartbeats 40000000 in
theorem rm9 (l : Launch) (Z : State) (a0 : Array Value) (hw : ∀ d ∈ tables_1, d.before a0 Z = true) (ws : List Jvm.Cond) (a1 : Addr) (a2 : Addr) (w_high_a1 : Int64) (w_high_a2 : Int64) (w_low_a1 : Int64) (w_low_a2 : Int64) (h0 : Heap) (n0 : Nat) (Z0 : n0 ≤ h0.size) (F_a1_high : Fld Z h0 a1 "com/example/laden_graph/ladengraph/locality/Tally" "high" "J" (.long w_high_a1)) (F_a2_high : Fld Z h0 a2 "com/example/laden_graph/ladengraph/locality/Tally" "high" "J" (.long w_high_a2)) (F_a1_low : Fld Z h0 a1 "com/example/laden_graph/ladengraph/locality/Tally" "low" "J" (.long w_low_a1)) (F_a2_low : Fld Z h0 a2 "com/example/laden_graph/ladengraph/locality/Tally" "low" "J" (.long w_low_a2)) :
    MetFree l (⟨"com/example/laden_graph/ladengraph/locality/Tally", "compareTo", "(Lcom/example/laden_graph/ladengraph/locality/Tally;)I"⟩ : MethodName) (head1 (Jvm.Cond.code (⟨"com/example/laden_graph/ladengraph/locality/Tally", "compareTo", "(Lcom/example/laden_graph/ladengraph/locality/Tally;)I"⟩ : MethodName) prog_10_method_10_code 3 (some .int) :: ws) ({ frames := 2, cells := 0, slots := 0, locals := 30 } : Room)) (fun a U => a = #[(.ref a1), (.ref a2)] ∧ Z.Warmed39 U.vm ∧ U.heap = h0) (fun _ _ _ _ _ => True) (fun _ U o U' => ∃ v L, o = .returned v ∧ Q9 Z a1 a2 w_high_a1 w_high_a2 w_low_a1 w_low_a2 h0 n0 v U'.heap L ∧ FrameEnd U o U' L ({ frames := 2, cells := 0, slots := 0, locals := 30 } : Room).cells ({ frames := 2, cells := 0, slots := 0, locals := 30 } : Room).slots) := by
  refine MetFree.of_bodySF (plainFor_of_name pn_1) hisR ?_
  intro p e s m args below meth c s₁ Bd hml0 hP hK
  obtain ⟨rfl, hZ, hh⟩ := hP
  have hx := Bd.exec
  have hby := Bd.bytes
  have hml : c.maxLocals = 3 := hml0
  have hown : s.vm.findClass "com/example/laden_graph/ladengraph/locality/Tally" = some m.cls := findClass_of_methodNamed Bd.named
  have hnm := (name_of_methodNamed Bd.named Bd.method).1
  have X0 : Stand p l e ({ frames := 2, cells := 0, slots := 0, locals := 30 } : Room) s m #[(.ref a1), (.ref a2)] below meth c s₁ [] 0 0 := Stand.of_body Bd
  have e0 : s₁.heap = h0 := by rw [← hh, Bd.state]; rfl
  have NN := Fr.nil n0
  have KK : Keep h0 h0 [] := Keep.refl h0 []
  refine own_start (ef_9 m a1 a2) ?_
  refine own_go (T' := s₁) (g' := (mkF m 1 #[.val (.ref a1), .val (.ref a2), .unset] [(.ref a1)])) (fun t k => ?_) ?_
  · show Steps p.tables e below (s₁.setTop (mkF m 0 #[.val (.ref a1), .val (.ref a2), .unset] [])) _
    refine XS.aloadN X0.here hx rfl (hb hby d9_0) rfl rfl ?_
    exact k
  obtain ⟨T1, X1, e1, st1⟩ := getF X0 hx hZ hown (host := "") (Or.inl (hw _ (List.mem_of_getElem? (i := 24) rfl))) Via.refl e0 F_a1_high (g := (mkF m 1 #[.val (.ref a1), .val (.ref a2), .unset] [(.ref a1)])) rfl rfl (hb hby d9_1)
  refine own_go st1 ?_
  show own_Go p.tables e below _ T1 (mkF m 4 #[.val (.ref a1), .val (.ref a2), .unset] [(.long w_high_a1)])
  refine own_go (T' := T1) (g' := (mkF m 5 #[.val (.ref a1), .val (.ref a2), .unset] [(.ref a2), (.long w_high_a1)])) (fun t k => ?_) ?_
  · show Steps p.tables e below (T1.setTop (mkF m 4 #[.val (.ref a1), .val (.ref a2), .unset] [(.long w_high_a1)])) _
    refine XS.aloadN X1.here hx rfl (hb hby d9_4) rfl rfl ?_
    exact k
  obtain ⟨T2, X2, e2, st2⟩ := getF X1 hx hZ hown (host := "") (Or.inl (hw _ (List.mem_of_getElem? (i := 24) rfl))) Via.refl e1 F_a2_high (g := (mkF m 5 #[.val (.ref a1), .val (.ref a2), .unset] [(.ref a2), (.long w_high_a1)])) rfl rfl (hb hby d9_5)
  refine own_go st2 ?_
  show own_Go p.tables e below _ T2 (mkF m 8 #[.val (.ref a1), .val (.ref a2), .unset] [(.long w_high_a2), (.long w_high_a1)])
  obtain ⟨_, _, ⟨T3, L3, k3, n3⟩, -, X3, ⟨Lc3, hQ3, l3, y3, z3⟩, st3⟩ := Jvm.LawKit.callS X2 hx (y := (⟨"java/lang/Long", "compare", "(JJ)I"⟩ : MethodName)) hown (mvT hZ (hw _ (List.mem_of_getElem? (i := 43) rfl))) (mvT hZ (hw _ (List.mem_of_getElem? (i := 22) rfl))) (mvT hZ (hw _ (List.mem_of_getElem? (i := 18) rfl))) (mvT hZ (hw _ (List.mem_of_getElem? (i := 23) rfl))) (by decide) (backOf (W := 0) (rm5 l Z a0 hw [] w_high_a1 w_high_a2 h0 n0 Z0 ) hZ (hw _ (List.mem_of_getElem? (i := 23) rfl)) (hw _ (List.mem_of_getElem? (i := 18) rfl)) (by decide) (by decide)) (g := (mkF m 8 #[.val (.ref a1), .val (.ref a2), .unset] [(.long w_high_a2), (.long w_high_a1)])) rfl (by rw [hml]; rfl) (argsL := [(.long w_high_a1), (.long w_high_a2)]) (rest := []) (lenOf pd_2 rfl) rfl (by show 2 * 0 + _ ≤ _; exact Nat.le_of_eq rfl) (hb hby d9_8) (fun _ _ => ⟨rfl, e2, (by decide : 0 + 0 ≤ _), (by decide : 0 + 0 ≤ _)⟩)
  dsimp only [Pt.U, Pt.locs, Pt.cells, Pt.slots] at X3 l3 y3 z3 st3 hQ3
  subst l3 y3 z3
  obtain ⟨rfl, N3q, e3⟩ := hQ3
  have NN := Fr.app NN N3q
  refine own_go st3 ?_
  show own_Go p.tables e below _ T3 (mkF m 11 #[.val (.ref a1), .val (.ref a2), .unset] [(.int (r_5 w_high_a1 w_high_a2))])
  refine own_go (T' := T3) (g' := (mkF m 13 #[.val (.ref a1), .val (.ref a2), .val (.int (r_5 w_high_a1 w_high_a2))] [(.int (r_5 w_high_a1 w_high_a2))])) (fun t k => ?_) ?_
  · show Steps p.tables e below (T3.setTop (mkF m 11 #[.val (.ref a1), .val (.ref a2), .unset] [(.int (r_5 w_high_a1 w_high_a2))])) _
    refine XS.istoreN X3.here hx rfl (hb hby d9_11) rfl (l' := #[.val (.ref a1), .val (.ref a2), .val (.int (r_5 w_high_a1 w_high_a2))]) rfl ?_
    show Steps p.tables e below (T3.setTop (mkF m 12 #[.val (.ref a1), .val (.ref a2), .val (.int (r_5 w_high_a1 w_high_a2))] [])) _
    refine XS.iloadN X3.here hx rfl (hb hby d9_12) rfl ?_
    exact k
  by_cases hc13_1 : (r_5 w_high_a1 w_high_a2) = (0 : Int32)
  · skip
    refine own_go (T' := T3) (g' := (mkF m 21 #[.val (.ref a1), .val (.ref a2), .val (.int (r_5 w_high_a1 w_high_a2))] [(.ref a1)])) (fun t k => ?_) ?_
    · show Steps p.tables e below (T3.setTop (mkF m 13 #[.val (.ref a1), .val (.ref a2), .val (.int (r_5 w_high_a1 w_high_a2))] [(.int (r_5 w_high_a1 w_high_a2))])) _
      refine XS.ifYes X3.here hx rfl (pc0 := 13) (pc' := 20) rfl (hb hby d9_13) rfl ((if0 _ _).trans (teq hc13_1).1) (by decide) (by decide) ?_
      show Steps p.tables e below (T3.setTop (mkF m 20 #[.val (.ref a1), .val (.ref a2), .val (.int (r_5 w_high_a1 w_high_a2))] [])) _
      refine XS.aloadN X3.here hx rfl (hb hby d9_20) rfl rfl ?_
      exact k
    obtain ⟨T4, X4, e4, st4⟩ := getF X3 hx hZ hown (host := "") (Or.inl (hw _ (List.mem_of_getElem? (i := 14) rfl))) Via.refl e3 F_a1_low (g := (mkF m 21 #[.val (.ref a1), .val (.ref a2), .val (.int (r_5 w_high_a1 w_high_a2))] [(.ref a1)])) rfl rfl (hb hby d9_21)
    refine own_go st4 ?_
    show own_Go p.tables e below _ T4 (mkF m 24 #[.val (.ref a1), .val (.ref a2), .val (.int (r_5 w_high_a1 w_high_a2))] [(.long w_low_a1)])
    refine own_go (T' := T4) (g' := (mkF m 25 #[.val (.ref a1), .val (.ref a2), .val (.int (r_5 w_high_a1 w_high_a2))] [(.ref a2), (.long w_low_a1)])) (fun t k => ?_) ?_
    · show Steps p.tables e below (T4.setTop (mkF m 24 #[.val (.ref a1), .val (.ref a2), .val (.int (r_5 w_high_a1 w_high_a2))] [(.long w_low_a1)])) _
      refine XS.aloadN X4.here hx rfl (hb hby d9_24) rfl rfl ?_
      exact k
    obtain ⟨T5, X5, e5, st5⟩ := getF X4 hx hZ hown (host := "") (Or.inl (hw _ (List.mem_of_getElem? (i := 14) rfl))) Via.refl e4 F_a2_low (g := (mkF m 25 #[.val (.ref a1), .val (.ref a2), .val (.int (r_5 w_high_a1 w_high_a2))] [(.ref a2), (.long w_low_a1)])) rfl rfl (hb hby d9_25)
    refine own_go st5 ?_
    show own_Go p.tables e below _ T5 (mkF m 28 #[.val (.ref a1), .val (.ref a2), .val (.int (r_5 w_high_a1 w_high_a2))] [(.long w_low_a2), (.long w_low_a1)])
    obtain ⟨_, _, ⟨T6, L6, k6, n6⟩, -, X6, ⟨Lc6, hQ6, l6, y6, z6⟩, st6⟩ := Jvm.LawKit.callS X5 hx (y := (⟨"java/lang/Long", "compareUnsigned", "(JJ)I"⟩ : MethodName)) hown (mvT hZ (hw _ (List.mem_of_getElem? (i := 16) rfl))) (mvT hZ (hw _ (List.mem_of_getElem? (i := 17) rfl))) (mvT hZ (hw _ (List.mem_of_getElem? (i := 18) rfl))) (mvT hZ (hw _ (List.mem_of_getElem? (i := 19) rfl))) (by decide) (backOf (W := 0) (rm4 l Z a0 hw [] w_low_a1 w_low_a2 h0 n0 Z0 ) hZ (hw _ (List.mem_of_getElem? (i := 19) rfl)) (hw _ (List.mem_of_getElem? (i := 18) rfl)) (by decide) (by decide)) (g := (mkF m 28 #[.val (.ref a1), .val (.ref a2), .val (.int (r_5 w_high_a1 w_high_a2))] [(.long w_low_a2), (.long w_low_a1)])) rfl (by rw [hml]; rfl) (argsL := [(.long w_low_a1), (.long w_low_a2)]) (rest := []) (lenOf pd_2 rfl) rfl (by show 2 * 0 + _ ≤ _; exact Nat.le_of_eq rfl) (hb hby d9_28) (fun _ _ => ⟨rfl, e5, (by decide : 0 + 0 ≤ _), (by decide : 0 + 0 ≤ _)⟩)
    dsimp only [Pt.U, Pt.locs, Pt.cells, Pt.slots] at X6 l6 y6 z6 st6 hQ6
    subst l6 y6 z6
    obtain ⟨rfl, N6q, e6⟩ := hQ6
    have NN := Fr.app NN N6q
    refine own_go st6 ?_
    show own_Go p.tables e below _ T6 (mkF m 31 #[.val (.ref a1), .val (.ref a2), .val (.int (r_5 w_high_a1 w_high_a2))] [(.int (r_4 w_low_a1 w_low_a2))])
    obtain ⟨fs, hr, hrun, hended, hW, hsame⟩ := X6.leave (v := some (.int (r_4 w_low_a1 w_low_a2))) (fun h => by rw [Bd.returns] at h; cases h)
    refine ⟨_, _, ?_, hrun, hended, _, _, rfl, ?_, ⟨_, rfl⟩, hW, hsame.mono (by decide) (by decide)⟩
    · exact retI X6 hx Bd.returns (hb hby d9_31) hr
    · show Q9 Z a1 a2 w_high_a1 w_high_a2 w_low_a1 w_low_a2 h0 n0 _ T6.heap _
      rw [e6]
      exact ⟨(by simp only [r_9, if_pos hc13_1]), NN, rfl⟩
  · skip
    refine own_go (T' := T3) (g' := (mkF m 31 #[.val (.ref a1), .val (.ref a2), .val (.int (r_5 w_high_a1 w_high_a2))] [(.int (r_5 w_high_a1 w_high_a2))])) (fun t k => ?_) ?_
    · show Steps p.tables e below (T3.setTop (mkF m 13 #[.val (.ref a1), .val (.ref a2), .val (.int (r_5 w_high_a1 w_high_a2))] [(.int (r_5 w_high_a1 w_high_a2))])) _
      refine XS.ifNo X3.here hx rfl (hb hby d9_13) rfl ((if0 _ _).trans (feq hc13_1).1) ?_
      show Steps p.tables e below (T3.setTop (mkF m 16 #[.val (.ref a1), .val (.ref a2), .val (.int (r_5 w_high_a1 w_high_a2))] [])) _
      refine XS.iloadN X3.here hx rfl (hb hby d9_16) rfl ?_
      show Steps p.tables e below (T3.setTop (mkF m 17 #[.val (.ref a1), .val (.ref a2), .val (.int (r_5 w_high_a1 w_high_a2))] [(.int (r_5 w_high_a1 w_high_a2))])) _
      refine XS.goto X3.here hx rfl (pc0 := 17) (pc' := 31) rfl (hb hby d9_17) (by decide) (by decide) ?_
      exact k
    obtain ⟨fs, hr, hrun, hended, hW, hsame⟩ := X3.leave (v := some (.int (r_5 w_high_a1 w_high_a2))) (fun h => by rw [Bd.returns] at h; cases h)
    refine ⟨_, _, ?_, hrun, hended, _, _, rfl, ?_, ⟨_, rfl⟩, hW, hsame.mono (by decide) (by decide)⟩
    · exact retI X3 hx Bd.returns (hb hby d9_31) hr
    · show Q9 Z a1 a2 w_high_a1 w_high_a2 w_low_a1 w_low_a2 h0 n0 _ T3.heap _
      rw [e3]
      exact ⟨(by simp only [r_9, if_neg hc13_1]), NN, rfl⟩
theorem own_pl_ult (x y : Int64) : (x + (-9223372036854775808 : Int64)) < (y + (-9223372036854775808 : Int64)) ↔ x.toInt % 18446744073709551616 < y.toInt % 18446744073709551616 := by
  have e1 := c_ladd x (-9223372036854775808 : Int64)
  have e2 := c_ladd y (-9223372036854775808 : Int64)
  have r1 := rng64 (x + (-9223372036854775808 : Int64))
  have r2 := rng64 (y + (-9223372036854775808 : Int64))
  have r3 := rng64 x
  have r4 := rng64 y
  have k : (-9223372036854775808 : Int64).toInt = -9223372036854775808 := rfl
  rw [Int64.lt_iff_toInt_lt]
  rw [k] at e1 e2
  omega
theorem own_pl_neg (x y : Int64) : r_4 x y < (0 : Int32) ↔ x.toInt % 18446744073709551616 < y.toInt % 18446744073709551616 := by
  rw [← own_pl_ult]
  simp only [r_4, r_5]
  by_cases h : (x + (-9223372036854775808 : Int64)) < (y + (-9223372036854775808 : Int64))
  · simp only [if_pos h]; exact ⟨fun _ => h, fun _ => by decide⟩
  · by_cases h2 : (x + (-9223372036854775808 : Int64)) = (y + (-9223372036854775808 : Int64))
    · simp only [if_neg h, if_pos h2]; exact ⟨fun q => absurd q (by decide), fun q => absurd q h⟩
    · simp only [if_neg h, if_neg h2]; exact ⟨fun q => absurd q (by decide), fun q => absurd q h⟩
theorem own_pl_bit (x y : Int64) (b : Int64) (hb : b = if r_4 x y < (0 : Int32) then (1 : Int64) else (0 : Int64)) : (b.toInt = 1 ∧ x.toInt % 18446744073709551616 < y.toInt % 18446744073709551616) ∨ (b.toInt = 0 ∧ ¬ x.toInt % 18446744073709551616 < y.toInt % 18446744073709551616) := by
  by_cases h : r_4 x y < (0 : Int32)
  · rw [if_pos h] at hb; rw [hb]; exact Or.inl ⟨rfl, (own_pl_neg x y).mp h⟩
  · rw [if_neg h] at hb; rw [hb]; exact Or.inr ⟨rfl, fun q => h ((own_pl_neg x y).mpr q)⟩
theorem own_pl_self (h l : Int64) : r_9 h h l l = 0 := by
  have n (x : Int64) : ¬ x < x := Int64.lt_irrefl
  simp only [r_9, r_4, r_5, if_neg (n _), if_pos]
theorem pn_2 : plainName "com/example/laden_graph/ladengraph/locality/TallySubtractPinLaw" = true := by first | (simp [plainName, overriddenIn]; done) | decide +kernel
theorem pd_0 : parseMethodDescriptor "()V" = some ⟨[], none⟩ := by decide +kernel
theorem pd_3 : parseMethodDescriptor "(Lcom/example/laden_graph/ladengraph/locality/Tally;)V" = some ⟨[(.object "com/example/laden_graph/ladengraph/locality/Tally")], none⟩ := by decide +kernel
theorem pd_5 : parseMethodDescriptor "(Lcom/example/laden_graph/ladengraph/locality/Tally;)I" = some ⟨[(.object "com/example/laden_graph/ladengraph/locality/Tally")], some .int⟩ := by decide +kernel
theorem ef_0 (m : MethodId) (q1 : Int64) (q2 : Int64) (q3 : Int64) (q4 : Int64) : entryFrame m #[(.long q1), (.long q2), (.long q3), (.long q4)] maxLocals = mkF m 0 #[.val (.long q1), .second, .val (.long q2), .second, .val (.long q3), .second, .val (.long q4), .second, .unset, .unset, .unset, .unset, .unset, .unset, .unset] [] := by first | (simp [entryFrame, mkF, argsToLocals, Value.category, maxLocals]; done) | rfl
def Q0 (Z : State) (q1 : Int64) (q2 : Int64) (q3 : Int64) (q4 : Int64) (h0 : Heap) (n0 : Nat) (v : Option Value) (h : Heap) (L : List Loc) : Prop := v = some (.int 1) ∧ Fr n0 L
theorem own_yes_x (q1 : Int64) (q2 : Int64) (q3 : Int64) (q4 : Int64) (j1 : Int64) (j2 : Int64) (j4 : Int64) (j17 : Int32) (hj1 : j1 = (-q4)) (hj2 : j2 = (if q4 = (0 : Int64) then (0 : Int64) else (1 : Int64))) (hj4 : j4 = ((-q3) - j2)) (hj17 : j17 = (if (r_9 ((u_3_a1_high q3 q4 ((0 : Int64) - q2) (u_3_a1_high q1 q2 (0 : Int64) (0 : Int64))) + ((u_3_a1_high j4 j1 (0 : Int64) (0 : Int64)) + (r_8 (((0 : Int64) - q2) - q4) ((((0 : Int64) - q2) - q4) + ((0 : Int64) - j1))))) (u_3_a1_high q1 q2 (0 : Int64) (0 : Int64)) ((((0 : Int64) - q2) - q4) + ((0 : Int64) - j1)) ((0 : Int64) - q2)) = (0 : Int32) then (1 : Int32) else (0 : Int32))) : (nar .boolean j17) = 1 := by
  have k0 : (0 : Int64).toInt = 0 := rfl
  have L : ((((0 : Int64) - q2) - q4) + ((0 : Int64) - j1)) = ((0 : Int64) - q2) := by
    apply Int64.toInt_inj.mp
    have a1 := c_lsub 0 q2
    have a2 := c_lsub (0 - q2) q4
    have a3 := c_lneg q4
    have a4 := c_lsub 0 j1
    have a5 := c_ladd ((0 - q2) - q4) (0 - j1)
    have b1 := rng64 (0 - q2)
    have b5 := rng64 (((0 - q2) - q4) + (0 - j1))
    rw [← hj1] at a3
    omega
  rw [L] at hj17
  have H : ((u_3_a1_high q3 q4 ((0 : Int64) - q2) (u_3_a1_high q1 q2 (0 : Int64) (0 : Int64))) + ((u_3_a1_high j4 j1 (0 : Int64) (0 : Int64)) + (r_8 (((0 : Int64) - q2) - q4) ((0 : Int64) - q2)))) = (u_3_a1_high q1 q2 (0 : Int64) (0 : Int64)) := by
    generalize u_3_a1_high q1 q2 (0 : Int64) (0 : Int64) = W
    simp only [u_3_a1_high, r_8]
    generalize h1 : (if r_4 ((0 : Int64) - q2) q4 < (0 : Int32) then (1 : Int64) else (0 : Int64)) = c1
    generalize h2 : (if r_4 (0 : Int64) j1 < (0 : Int32) then (1 : Int64) else (0 : Int64)) = c2
    generalize h3 : (if r_4 ((0 : Int64) - q2) (((0 : Int64) - q2) - q4) < (0 : Int32) then (1 : Int64) else (0 : Int64)) = c3
    have d1 := own_pl_bit _ _ c1 h1.symm
    have d2 := own_pl_bit _ _ c2 h2.symm
    have d3 := own_pl_bit _ _ c3 h3.symm
    have d4 : (j2.toInt = 0 ∧ q4.toInt = 0) ∨ (j2.toInt = 1 ∧ q4.toInt ≠ 0) := by
      rw [hj2]
      by_cases z : q4 = (0 : Int64)
      · rw [if_pos z, z]; exact Or.inl ⟨rfl, rfl⟩
      · rw [if_neg z]; exact Or.inr ⟨rfl, fun q => z (Int64.toInt_inj.mp q)⟩
    have a2 := c_lsub (0 - q2) q4
    have a3 := c_lneg q4
    have e1 := c_lneg q3
    have e2 := c_lsub (-q3) j2
    rw [← hj1] at a3
    rw [← hj4] at e2
    have e3 := c_ladd q3 c1
    have e4 := c_lsub W (q3 + c1)
    have e5 := c_ladd j4 c2
    have e6 := c_lsub 0 (j4 + c2)
    have e7 := c_ladd (0 - (j4 + c2)) c3
    have e8 := c_ladd (W - (q3 + c1)) ((0 - (j4 + c2)) + c3)
    have r1 := rng64 W
    have r2 := rng64 ((W - (q3 + c1)) + ((0 - (j4 + c2)) + c3))
    have r3 := rng64 q4
    have r4 := rng64 (0 - q2)
    have r5 := rng64 j1
    have r6 := rng64 ((0 - q2) - q4)
    apply Int64.toInt_inj.mp
    generalize (0 - q2) = X at *
    generalize (X - q4) = Y at *
    omega
  rw [H, own_pl_self] at hj17
  rw [hj17, if_pos rfl]
  rfl
set_option maxRecDepth 65536 in
set_option maxHeartbeats 40000000 in
theorem rm0 (l : Launch) (Z : State) (a0 : Array Value) (hw : ∀ d ∈ tables_1, d.before a0 Z = true) (ws : List Jvm.Cond) (q1 : Int64) (q2 : Int64) (q3 : Int64) (q4 : Int64) (h0 : Heap) (n0 : Nat) (Z0 : n0 ≤ h0.size) :
    MetFree l x (head1 (Jvm.Cond.code x code maxLocals ret :: ws) room_1) (fun a U => a = #[(.long q1), (.long q2), (.long q3), (.long q4)] ∧ Z.Warmed39 U.vm ∧ U.heap = h0) (fun _ _ _ _ _ => True) (fun _ U o U' => ∃ v L, o = .returned v ∧ Q0 Z q1 q2 q3 q4 h0 n0 v U'.heap L ∧ FrameEnd U o U' L room_1.cells room_1.slots) := by
  refine MetFree.of_bodySF (plainFor_of_name pn_2) hisR ?_
  intro p e s m args below meth c s₁ Bd hml0 hP hK
  obtain ⟨rfl, hZ, hh⟩ := hP
  have hx := Bd.exec
  have hby := Bd.bytes
  have hml : c.maxLocals = 15 := hml0
  have hown : s.vm.findClass "com/example/laden_graph/ladengraph/locality/TallySubtractPinLaw" = some m.cls := findClass_of_methodNamed Bd.named
  have hnm := (name_of_methodNamed Bd.named Bd.method).1
  have X0 : Stand p l e room_1 s m #[(.long q1), (.long q2), (.long q3), (.long q4)] below meth c s₁ [] 0 0 := Stand.of_body Bd
  have e0 : s₁.heap = h0 := by rw [← hh, Bd.state]; rfl
  have NN := Fr.nil n0
  have KK : Keep h0 h0 [] := Keep.refl h0 []
  refine own_start (ef_0 m q1 q2 q3 q4) ?_
  refine own_go (T' := s₁) (g' := (mkF m 5 #[.val (.long q1), .second, .val (.long q2), .second, .val (.long q3), .second, .val (.long q4), .second, .val (.long (-q4)), .second, .unset, .unset, .unset, .unset, .unset] [])) (fun t k => ?_) ?_
  · show Steps p.tables e below (s₁.setTop (mkF m 0 #[.val (.long q1), .second, .val (.long q2), .second, .val (.long q3), .second, .val (.long q4), .second, .unset, .unset, .unset, .unset, .unset, .unset, .unset] [])) _
    refine XS.lload X0.here hx rfl (hb hby at_0) rfl ?_
    show Steps p.tables e below (s₁.setTop (mkF m 2 #[.val (.long q1), .second, .val (.long q2), .second, .val (.long q3), .second, .val (.long q4), .second, .unset, .unset, .unset, .unset, .unset, .unset, .unset] [(.long q4)])) _
    refine XS.lneg X0.here hx rfl (hb hby at_2) rfl ?_
    show Steps p.tables e below (s₁.setTop (mkF m 3 #[.val (.long q1), .second, .val (.long q2), .second, .val (.long q3), .second, .val (.long q4), .second, .unset, .unset, .unset, .unset, .unset, .unset, .unset] [(.long (-q4))])) _
    refine XS.lstore X0.here hx rfl (hb hby at_3) rfl (l' := #[.val (.long q1), .second, .val (.long q2), .second, .val (.long q3), .second, .val (.long q4), .second, .val (.long (-q4)), .second, .unset, .unset, .unset, .unset, .unset]) rfl ?_
    exact k
  show own_Go p.tables e below _ s₁ (mkF m 5 #[.val (.long q1), .second, .val (.long q2), .second, .val (.long q3), .second, .val (.long q4), .second, .val (.long (-q4)), .second, .unset, .unset, .unset, .unset, .unset] [])
  obtain ⟨j1, hj1⟩ : ∃ z : Int64, z = (-q4) := ⟨_, rfl⟩
  rw [← hj1]
  show own_Go p.tables e below _ s₁ (mkF m 5 #[.val (.long q1), .second, .val (.long q2), .second, .val (.long q3), .second, .val (.long q4), .second, .val (.long j1), .second, .unset, .unset, .unset, .unset, .unset] [])
  refine own_go (T' := s₁) (g' := (mkF m 12 #[.val (.long q1), .second, .val (.long q2), .second, .val (.long q3), .second, .val (.long q4), .second, .val (.long j1), .second, .unset, .unset, .unset, .unset, .unset] [(.int (lcmpW q4 (0 : Int64))), (.long (-q3))])) (fun t k => ?_) ?_
  · show Steps p.tables e below (s₁.setTop (mkF m 5 #[.val (.long q1), .second, .val (.long q2), .second, .val (.long q3), .second, .val (.long q4), .second, .val (.long j1), .second, .unset, .unset, .unset, .unset, .unset] [])) _
    refine XS.lload X0.here hx rfl (hb hby at_5) rfl ?_
    show Steps p.tables e below (s₁.setTop (mkF m 7 #[.val (.long q1), .second, .val (.long q2), .second, .val (.long q3), .second, .val (.long q4), .second, .val (.long j1), .second, .unset, .unset, .unset, .unset, .unset] [(.long q3)])) _
    refine XS.lneg X0.here hx rfl (hb hby at_7) rfl ?_
    show Steps p.tables e below (s₁.setTop (mkF m 8 #[.val (.long q1), .second, .val (.long q2), .second, .val (.long q3), .second, .val (.long q4), .second, .val (.long j1), .second, .unset, .unset, .unset, .unset, .unset] [(.long (-q3))])) _
    refine XS.lload X0.here hx rfl (hb hby at_8) rfl ?_
    show Steps p.tables e below (s₁.setTop (mkF m 10 #[.val (.long q1), .second, .val (.long q2), .second, .val (.long q3), .second, .val (.long q4), .second, .val (.long j1), .second, .unset, .unset, .unset, .unset, .unset] [(.long q4), (.long (-q3))])) _
    refine XS.lconst X0.here hx rfl (hb hby at_10) ?_
    show Steps p.tables e below (s₁.setTop (mkF m 11 #[.val (.long q1), .second, .val (.long q2), .second, .val (.long q3), .second, .val (.long q4), .second, .val (.long j1), .second, .unset, .unset, .unset, .unset, .unset] [(.long (0 : Int64)), (.long q4), (.long (-q3))])) _
    refine XS.lcmp X0.here hx rfl (hb hby at_11) rfl ?_
    exact k
  obtain ⟨j2, hj2, st3⟩ : ∃ (j2 : Int64), j2 = (if q4 = (0 : Int64) then (0 : Int64) else (1 : Int64)) ∧ ∀ t, Steps p.tables e below (s₁.setTop (mkF m 20 #[.val (.long q1), .second, .val (.long q2), .second, .val (.long q3), .second, .val (.long q4), .second, .val (.long j1), .second, .unset, .unset, .unset, .unset, .unset] [(.long j2), (.long (-q3))])) t → Steps p.tables e below (s₁.setTop (mkF m 12 #[.val (.long q1), .second, .val (.long q2), .second, .val (.long q3), .second, .val (.long q4), .second, .val (.long j1), .second, .unset, .unset, .unset, .unset, .unset] [(.int (lcmpW q4 (0 : Int64))), (.long (-q3))])) t := by
    by_cases hc12_1 : q4 = (0 : Int64)
    · skip
      refine ⟨(0 : Int64), (by simp only [if_pos hc12_1]), fun t k => ?_⟩
      show Steps p.tables e below (s₁.setTop (mkF m 12 #[.val (.long q1), .second, .val (.long q2), .second, .val (.long q3), .second, .val (.long q4), .second, .val (.long j1), .second, .unset, .unset, .unset, .unset, .unset] [(.int (lcmpW q4 (0 : Int64))), (.long (-q3))])) _
      refine XS.ifYes X0.here hx rfl (pc0 := 12) (pc' := 19) rfl (hb hby at_12) rfl ((if0 _ _).trans (teq ((lw_eq q4 (0 : Int64)).mpr hc12_1)).1) (by decide) (by decide) ?_
      show Steps p.tables e below (s₁.setTop (mkF m 19 #[.val (.long q1), .second, .val (.long q2), .second, .val (.long q3), .second, .val (.long q4), .second, .val (.long j1), .second, .unset, .unset, .unset, .unset, .unset] [(.long (-q3))])) _
      refine XS.lconst X0.here hx rfl (hb hby at_19) ?_
      exact k
    · skip
      refine ⟨(1 : Int64), (by simp only [if_neg hc12_1]), fun t k => ?_⟩
      show Steps p.tables e below (s₁.setTop (mkF m 12 #[.val (.long q1), .second, .val (.long q2), .second, .val (.long q3), .second, .val (.long q4), .second, .val (.long j1), .second, .unset, .unset, .unset, .unset, .unset] [(.int (lcmpW q4 (0 : Int64))), (.long (-q3))])) _
      refine XS.ifNo X0.here hx rfl (hb hby at_12) rfl ((if0 _ _).trans (feq (fun q => hc12_1 ((lw_eq q4 (0 : Int64)).mp q))).1) ?_
      show Steps p.tables e below (s₁.setTop (mkF m 15 #[.val (.long q1), .second, .val (.long q2), .second, .val (.long q3), .second, .val (.long q4), .second, .val (.long j1), .second, .unset, .unset, .unset, .unset, .unset] [(.long (-q3))])) _
      refine XS.lconst X0.here hx rfl (hb hby at_15) ?_
      show Steps p.tables e below (s₁.setTop (mkF m 16 #[.val (.long q1), .second, .val (.long q2), .second, .val (.long q3), .second, .val (.long q4), .second, .val (.long j1), .second, .unset, .unset, .unset, .unset, .unset] [(.long (1 : Int64)), (.long (-q3))])) _
      refine XS.goto X0.here hx rfl (pc0 := 16) (pc' := 20) rfl (hb hby at_16) (by decide) (by decide) ?_
      exact k
  refine own_go st3 ?_
  show own_Go p.tables e below _ s₁ (mkF m 20 #[.val (.long q1), .second, .val (.long q2), .second, .val (.long q3), .second, .val (.long q4), .second, .val (.long j1), .second, .unset, .unset, .unset, .unset, .unset] [(.long j2), (.long (-q3))])
  refine own_go (T' := s₁) (g' := (mkF m 23 #[.val (.long q1), .second, .val (.long q2), .second, .val (.long q3), .second, .val (.long q4), .second, .val (.long j1), .second, .val (.long ((-q3) - j2)), .second, .unset, .unset, .unset] [])) (fun t k => ?_) ?_
  · show Steps p.tables e below (s₁.setTop (mkF m 20 #[.val (.long q1), .second, .val (.long q2), .second, .val (.long q3), .second, .val (.long q4), .second, .val (.long j1), .second, .unset, .unset, .unset, .unset, .unset] [(.long j2), (.long (-q3))])) _
    refine XS.lsub X0.here hx rfl (hb hby at_20) rfl ?_
    show Steps p.tables e below (s₁.setTop (mkF m 21 #[.val (.long q1), .second, .val (.long q2), .second, .val (.long q3), .second, .val (.long q4), .second, .val (.long j1), .second, .unset, .unset, .unset, .unset, .unset] [(.long ((-q3) - j2))])) _
    refine XS.lstore X0.here hx rfl (hb hby at_21) rfl (l' := #[.val (.long q1), .second, .val (.long q2), .second, .val (.long q3), .second, .val (.long q4), .second, .val (.long j1), .second, .val (.long ((-q3) - j2)), .second, .unset, .unset, .unset]) rfl ?_
    exact k
  show own_Go p.tables e below _ s₁ (mkF m 23 #[.val (.long q1), .second, .val (.long q2), .second, .val (.long q3), .second, .val (.long q4), .second, .val (.long j1), .second, .val (.long ((-q3) - j2)), .second, .unset, .unset, .unset] [])
  obtain ⟨j4, hj4⟩ : ∃ z : Int64, z = ((-q3) - j2) := ⟨_, rfl⟩
  rw [← hj4]
  show own_Go p.tables e below _ s₁ (mkF m 23 #[.val (.long q1), .second, .val (.long q2), .second, .val (.long q3), .second, .val (.long q4), .second, .val (.long j1), .second, .val (.long j4), .second, .unset, .unset, .unset] [])
  obtain ⟨T5, h5, X5, e5, E5, A5, D5, -, st5⟩ := newO X0 hx hZ hown (hw _ (List.mem_of_getElem? (i := 0) rfl)) (hw _ (List.mem_of_getElem? (i := 1) rfl)) (hw _ (List.mem_of_getElem? (i := 2) rfl)) e0 (g := (mkF m 23 #[.val (.long q1), .second, .val (.long q2), .second, .val (.long q3), .second, .val (.long q4), .second, .val (.long j1), .second, .val (.long j4), .second, .unset, .unset, .unset] [])) rfl (hb hby at_23) (by decide) (by decide)
  obtain ⟨b5, g5⟩ : ∃ z, z = h0.size := ⟨_, rfl⟩
  rw [← g5] at A5 D5 st5
  have g_b5 : n0 ≤ b5 := Nat.le_trans Z0 (Nat.le_of_eq g5.symm)
  have sz_b5 : h0.size ≤ b5 := Nat.le_trans KK.1 (Nat.le_of_eq g5.symm)
  have Z0 := Nat.le_trans Z0 E5.1
  have KK := KK.ext E5
  have E_b5 := A5
  have F_b5_low : Fld Z h5 b5 "com/example/laden_graph/ladengraph/locality/Tally" "low" "J" (.long (0 : Int64)) := D5 (Or.inl (hw _ (List.mem_of_getElem? (i := 15) rfl))) (ty := .long) (by decide)
  have F_b5_high : Fld Z h5 b5 "com/example/laden_graph/ladengraph/locality/Tally" "high" "J" (.long (0 : Int64)) := D5 (Or.inl (hw _ (List.mem_of_getElem? (i := 25) rfl))) (ty := .long) (by decide)
  refine own_go st5 ?_
  show own_Go p.tables e below _ T5 (mkF m 26 #[.val (.long q1), .second, .val (.long q2), .second, .val (.long q3), .second, .val (.long q4), .second, .val (.long j1), .second, .val (.long j4), .second, .unset, .unset, .unset] [(.ref b5)])
  refine own_go (T' := T5) (g' := (mkF m 27 #[.val (.long q1), .second, .val (.long q2), .second, .val (.long q3), .second, .val (.long q4), .second, .val (.long j1), .second, .val (.long j4), .second, .unset, .unset, .unset] [(.ref b5), (.ref b5)])) (fun t k => ?_) ?_
  · show Steps p.tables e below (T5.setTop (mkF m 26 #[.val (.long q1), .second, .val (.long q2), .second, .val (.long q3), .second, .val (.long q4), .second, .val (.long j1), .second, .val (.long j4), .second, .unset, .unset, .unset] [(.ref b5)])) _
    refine XS.dup X5.here hx rfl (hb hby at_26) rfl rfl ?_
    exact k
  obtain ⟨_, _, ⟨T6, L6, k6, n6⟩, -, X6, ⟨Lc6, hQ6, l6, y6, z6⟩, st6⟩ := X5.specialBack hx (y := (⟨"com/example/laden_graph/ladengraph/locality/Tally", "<init>", "()V"⟩ : MethodName)) rfl hown (mvT hZ (hw _ (List.mem_of_getElem? (i := 3) rfl))) (mvT hZ (hw _ (List.mem_of_getElem? (i := 4) rfl))) (mvT hZ (hw _ (List.mem_of_getElem? (i := 5) rfl))) (by decide) (backOf (W := 1) (rm1 l Z a0 hw [] b5 h5 n0 Z0 ) hZ (hw _ (List.mem_of_getElem? (i := 5) rfl)) (hw _ (List.mem_of_getElem? (i := 2) rfl)) (by decide) (by decide)) (g := (mkF m 27 #[.val (.long q1), .second, .val (.long q2), .second, .val (.long q3), .second, .val (.long q4), .second, .val (.long j1), .second, .val (.long j4), .second, .unset, .unset, .unset] [(.ref b5), (.ref b5)])) rfl (by rw [hml]; rfl) (Steps.refl _) (a := b5) (argsL := []) (rest := [(.ref b5)]) (lenOf pd_0 rfl) rfl (by show 2 * 0 + _ ≤ _; exact Nat.le_of_eq rfl) (hb hby at_27) (fun _ _ => ⟨rfl, e5, (by decide : 1 + 0 ≤ _), (by decide : 2 + 0 ≤ _)⟩)
  dsimp only [Pt.U, Pt.locs, Pt.cells, Pt.slots] at X6 l6 y6 z6 st6 hQ6
  subst l6 y6 z6
  obtain ⟨rfl, N6q, e6⟩ := hQ6
  have NN := Fr.app NN N6q
  refine own_go (fun t k => st6.trans k) ?_
  show own_Go p.tables e below _ T6 (mkF m 30 #[.val (.long q1), .second, .val (.long q2), .second, .val (.long q3), .second, .val (.long q4), .second, .val (.long j1), .second, .val (.long j4), .second, .unset, .unset, .unset] [(.ref b5)])
  refine own_go (T' := T6) (g' := (mkF m 32 #[.val (.long q1), .second, .val (.long q2), .second, .val (.long q3), .second, .val (.long q4), .second, .val (.long j1), .second, .val (.long j4), .second, .val (.ref b5), .unset, .unset] [])) (fun t k => ?_) ?_
  · show Steps p.tables e below (T6.setTop (mkF m 30 #[.val (.long q1), .second, .val (.long q2), .second, .val (.long q3), .second, .val (.long q4), .second, .val (.long j1), .second, .val (.long j4), .second, .unset, .unset, .unset] [(.ref b5)])) _
    refine XS.astore X6.here hx rfl (hb hby at_30) rfl rfl (l' := #[.val (.long q1), .second, .val (.long q2), .second, .val (.long q3), .second, .val (.long q4), .second, .val (.long j1), .second, .val (.long j4), .second, .val (.ref b5), .unset, .unset]) rfl ?_
    exact k
  obtain ⟨T7, h7, X7, e7, E7, A7, D7, -, st7⟩ := newO X6 hx hZ hown (hw _ (List.mem_of_getElem? (i := 0) rfl)) (hw _ (List.mem_of_getElem? (i := 1) rfl)) (hw _ (List.mem_of_getElem? (i := 2) rfl)) e6 (g := (mkF m 32 #[.val (.long q1), .second, .val (.long q2), .second, .val (.long q3), .second, .val (.long q4), .second, .val (.long j1), .second, .val (.long j4), .second, .val (.ref b5), .unset, .unset] [])) rfl (hb hby at_32) (by decide) (by decide)
  obtain ⟨b7, g7⟩ : ∃ z, z = h5.size := ⟨_, rfl⟩
  rw [← g7] at A7 D7 st7
  have g_b7 : n0 ≤ b7 := Nat.le_trans Z0 (Nat.le_of_eq g7.symm)
  have sz_b7 : h0.size ≤ b7 := Nat.le_trans KK.1 (Nat.le_of_eq g7.symm)
  have ne_b5_b7 : b5 ≠ b7 := Nat.ne_of_lt (Nat.lt_of_lt_of_le E_b5.lt (Nat.le_of_eq g7.symm))
  have E_b5 := E_b5.ext E7
  have F_b5_low := F_b5_low.ext E7
  have F_b5_high := F_b5_high.ext E7
  have Z0 := Nat.le_trans Z0 E7.1
  have KK := KK.ext E7
  have E_b7 := A7
  have F_b7_low : Fld Z h7 b7 "com/example/laden_graph/ladengraph/locality/Tally" "low" "J" (.long (0 : Int64)) := D7 (Or.inl (hw _ (List.mem_of_getElem? (i := 15) rfl))) (ty := .long) (by decide)
  have F_b7_high : Fld Z h7 b7 "com/example/laden_graph/ladengraph/locality/Tally" "high" "J" (.long (0 : Int64)) := D7 (Or.inl (hw _ (List.mem_of_getElem? (i := 25) rfl))) (ty := .long) (by decide)
  refine own_go st7 ?_
  show own_Go p.tables e below _ T7 (mkF m 35 #[.val (.long q1), .second, .val (.long q2), .second, .val (.long q3), .second, .val (.long q4), .second, .val (.long j1), .second, .val (.long j4), .second, .val (.ref b5), .unset, .unset] [(.ref b7)])
  refine own_go (T' := T7) (g' := (mkF m 36 #[.val (.long q1), .second, .val (.long q2), .second, .val (.long q3), .second, .val (.long q4), .second, .val (.long j1), .second, .val (.long j4), .second, .val (.ref b5), .unset, .unset] [(.ref b7), (.ref b7)])) (fun t k => ?_) ?_
  · show Steps p.tables e below (T7.setTop (mkF m 35 #[.val (.long q1), .second, .val (.long q2), .second, .val (.long q3), .second, .val (.long q4), .second, .val (.long j1), .second, .val (.long j4), .second, .val (.ref b5), .unset, .unset] [(.ref b7)])) _
    refine XS.dup X7.here hx rfl (hb hby at_35) rfl rfl ?_
    exact k
  obtain ⟨_, _, ⟨T8, L8, k8, n8⟩, -, X8, ⟨Lc8, hQ8, l8, y8, z8⟩, st8⟩ := X7.specialBack hx (y := (⟨"com/example/laden_graph/ladengraph/locality/Tally", "<init>", "()V"⟩ : MethodName)) rfl hown (mvT hZ (hw _ (List.mem_of_getElem? (i := 3) rfl))) (mvT hZ (hw _ (List.mem_of_getElem? (i := 4) rfl))) (mvT hZ (hw _ (List.mem_of_getElem? (i := 5) rfl))) (by decide) (backOf (W := 1) (rm1 l Z a0 hw [] b7 h7 n0 Z0 ) hZ (hw _ (List.mem_of_getElem? (i := 5) rfl)) (hw _ (List.mem_of_getElem? (i := 2) rfl)) (by decide) (by decide)) (g := (mkF m 36 #[.val (.long q1), .second, .val (.long q2), .second, .val (.long q3), .second, .val (.long q4), .second, .val (.long j1), .second, .val (.long j4), .second, .val (.ref b5), .unset, .unset] [(.ref b7), (.ref b7)])) rfl (by rw [hml]; rfl) (Steps.refl _) (a := b7) (argsL := []) (rest := [(.ref b7)]) (lenOf pd_0 rfl) rfl (by show 2 * 0 + _ ≤ _; exact Nat.le_of_eq rfl) (hb hby at_36) (fun _ _ => ⟨rfl, e7, (by decide : 2 + 0 ≤ _), (by decide : 4 + 0 ≤ _)⟩)
  dsimp only [Pt.U, Pt.locs, Pt.cells, Pt.slots] at X8 l8 y8 z8 st8 hQ8
  subst l8 y8 z8
  obtain ⟨rfl, N8q, e8⟩ := hQ8
  have NN := Fr.app NN N8q
  refine own_go (fun t k => st8.trans k) ?_
  show own_Go p.tables e below _ T8 (mkF m 39 #[.val (.long q1), .second, .val (.long q2), .second, .val (.long q3), .second, .val (.long q4), .second, .val (.long j1), .second, .val (.long j4), .second, .val (.ref b5), .unset, .unset] [(.ref b7)])
  refine own_go (T' := T8) (g' := (mkF m 41 #[.val (.long q1), .second, .val (.long q2), .second, .val (.long q3), .second, .val (.long q4), .second, .val (.long j1), .second, .val (.long j4), .second, .val (.ref b5), .val (.ref b7), .unset] [])) (fun t k => ?_) ?_
  · show Steps p.tables e below (T8.setTop (mkF m 39 #[.val (.long q1), .second, .val (.long q2), .second, .val (.long q3), .second, .val (.long q4), .second, .val (.long j1), .second, .val (.long j4), .second, .val (.ref b5), .unset, .unset] [(.ref b7)])) _
    refine XS.astore X8.here hx rfl (hb hby at_39) rfl rfl (l' := #[.val (.long q1), .second, .val (.long q2), .second, .val (.long q3), .second, .val (.long q4), .second, .val (.long j1), .second, .val (.long j4), .second, .val (.ref b5), .val (.ref b7), .unset]) rfl ?_
    exact k
  obtain ⟨T9, h9, X9, e9, E9, A9, D9, -, st9⟩ := newO X8 hx hZ hown (hw _ (List.mem_of_getElem? (i := 0) rfl)) (hw _ (List.mem_of_getElem? (i := 1) rfl)) (hw _ (List.mem_of_getElem? (i := 2) rfl)) e8 (g := (mkF m 41 #[.val (.long q1), .second, .val (.long q2), .second, .val (.long q3), .second, .val (.long q4), .second, .val (.long j1), .second, .val (.long j4), .second, .val (.ref b5), .val (.ref b7), .unset] [])) rfl (hb hby at_41) (by decide) (by decide)
  obtain ⟨b9, g9⟩ : ∃ z, z = h7.size := ⟨_, rfl⟩
  rw [← g9] at A9 D9 st9
  have g_b9 : n0 ≤ b9 := Nat.le_trans Z0 (Nat.le_of_eq g9.symm)
  have sz_b9 : h0.size ≤ b9 := Nat.le_trans KK.1 (Nat.le_of_eq g9.symm)
  have ne_b5_b9 : b5 ≠ b9 := Nat.ne_of_lt (Nat.lt_of_lt_of_le E_b5.lt (Nat.le_of_eq g9.symm))
  have ne_b7_b9 : b7 ≠ b9 := Nat.ne_of_lt (Nat.lt_of_lt_of_le E_b7.lt (Nat.le_of_eq g9.symm))
  have E_b5 := E_b5.ext E9
  have F_b5_low := F_b5_low.ext E9
  have F_b5_high := F_b5_high.ext E9
  have E_b7 := E_b7.ext E9
  have F_b7_low := F_b7_low.ext E9
  have F_b7_high := F_b7_high.ext E9
  have Z0 := Nat.le_trans Z0 E9.1
  have KK := KK.ext E9
  have E_b9 := A9
  have F_b9_low : Fld Z h9 b9 "com/example/laden_graph/ladengraph/locality/Tally" "low" "J" (.long (0 : Int64)) := D9 (Or.inl (hw _ (List.mem_of_getElem? (i := 15) rfl))) (ty := .long) (by decide)
  have F_b9_high : Fld Z h9 b9 "com/example/laden_graph/ladengraph/locality/Tally" "high" "J" (.long (0 : Int64)) := D9 (Or.inl (hw _ (List.mem_of_getElem? (i := 25) rfl))) (ty := .long) (by decide)
  refine own_go st9 ?_
  show own_Go p.tables e below _ T9 (mkF m 44 #[.val (.long q1), .second, .val (.long q2), .second, .val (.long q3), .second, .val (.long q4), .second, .val (.long j1), .second, .val (.long j4), .second, .val (.ref b5), .val (.ref b7), .unset] [(.ref b9)])
  refine own_go (T' := T9) (g' := (mkF m 45 #[.val (.long q1), .second, .val (.long q2), .second, .val (.long q3), .second, .val (.long q4), .second, .val (.long j1), .second, .val (.long j4), .second, .val (.ref b5), .val (.ref b7), .unset] [(.ref b9), (.ref b9)])) (fun t k => ?_) ?_
  · show Steps p.tables e below (T9.setTop (mkF m 44 #[.val (.long q1), .second, .val (.long q2), .second, .val (.long q3), .second, .val (.long q4), .second, .val (.long j1), .second, .val (.long j4), .second, .val (.ref b5), .val (.ref b7), .unset] [(.ref b9)])) _
    refine XS.dup X9.here hx rfl (hb hby at_44) rfl rfl ?_
    exact k
  obtain ⟨_, _, ⟨T10, L10, k10, n10⟩, -, X10, ⟨Lc10, hQ10, l10, y10, z10⟩, st10⟩ := X9.specialBack hx (y := (⟨"com/example/laden_graph/ladengraph/locality/Tally", "<init>", "()V"⟩ : MethodName)) rfl hown (mvT hZ (hw _ (List.mem_of_getElem? (i := 3) rfl))) (mvT hZ (hw _ (List.mem_of_getElem? (i := 4) rfl))) (mvT hZ (hw _ (List.mem_of_getElem? (i := 5) rfl))) (by decide) (backOf (W := 1) (rm1 l Z a0 hw [] b9 h9 n0 Z0 ) hZ (hw _ (List.mem_of_getElem? (i := 5) rfl)) (hw _ (List.mem_of_getElem? (i := 2) rfl)) (by decide) (by decide)) (g := (mkF m 45 #[.val (.long q1), .second, .val (.long q2), .second, .val (.long q3), .second, .val (.long q4), .second, .val (.long j1), .second, .val (.long j4), .second, .val (.ref b5), .val (.ref b7), .unset] [(.ref b9), (.ref b9)])) rfl (by rw [hml]; rfl) (Steps.refl _) (a := b9) (argsL := []) (rest := [(.ref b9)]) (lenOf pd_0 rfl) rfl (by show 2 * 0 + _ ≤ _; exact Nat.le_of_eq rfl) (hb hby at_45) (fun _ _ => ⟨rfl, e9, (by decide : 3 + 0 ≤ _), (by decide : 6 + 0 ≤ _)⟩)
  dsimp only [Pt.U, Pt.locs, Pt.cells, Pt.slots] at X10 l10 y10 z10 st10 hQ10
  subst l10 y10 z10
  obtain ⟨rfl, N10q, e10⟩ := hQ10
  have NN := Fr.app NN N10q
  refine own_go (fun t k => st10.trans k) ?_
  show own_Go p.tables e below _ T10 (mkF m 48 #[.val (.long q1), .second, .val (.long q2), .second, .val (.long q3), .second, .val (.long q4), .second, .val (.long j1), .second, .val (.long j4), .second, .val (.ref b5), .val (.ref b7), .unset] [(.ref b9)])
  refine own_go (T' := T10) (g' := (mkF m 54 #[.val (.long q1), .second, .val (.long q2), .second, .val (.long q3), .second, .val (.long q4), .second, .val (.long j1), .second, .val (.long j4), .second, .val (.ref b5), .val (.ref b7), .val (.ref b9)] [(.long q2), (.long q1), (.ref b5)])) (fun t k => ?_) ?_
  · show Steps p.tables e below (T10.setTop (mkF m 48 #[.val (.long q1), .second, .val (.long q2), .second, .val (.long q3), .second, .val (.long q4), .second, .val (.long j1), .second, .val (.long j4), .second, .val (.ref b5), .val (.ref b7), .unset] [(.ref b9)])) _
    refine XS.astore X10.here hx rfl (hb hby at_48) rfl rfl (l' := #[.val (.long q1), .second, .val (.long q2), .second, .val (.long q3), .second, .val (.long q4), .second, .val (.long j1), .second, .val (.long j4), .second, .val (.ref b5), .val (.ref b7), .val (.ref b9)]) rfl ?_
    show Steps p.tables e below (T10.setTop (mkF m 50 #[.val (.long q1), .second, .val (.long q2), .second, .val (.long q3), .second, .val (.long q4), .second, .val (.long j1), .second, .val (.long j4), .second, .val (.ref b5), .val (.ref b7), .val (.ref b9)] [])) _
    refine XS.aload X10.here hx rfl (hb hby at_50) rfl rfl ?_
    show Steps p.tables e below (T10.setTop (mkF m 52 #[.val (.long q1), .second, .val (.long q2), .second, .val (.long q3), .second, .val (.long q4), .second, .val (.long j1), .second, .val (.long j4), .second, .val (.ref b5), .val (.ref b7), .val (.ref b9)] [(.ref b5)])) _
    refine XS.lloadN X10.here hx rfl (hb hby at_52) rfl ?_
    show Steps p.tables e below (T10.setTop (mkF m 53 #[.val (.long q1), .second, .val (.long q2), .second, .val (.long q3), .second, .val (.long q4), .second, .val (.long j1), .second, .val (.long j4), .second, .val (.ref b5), .val (.ref b7), .val (.ref b9)] [(.long q1), (.ref b5)])) _
    refine XS.lloadN X10.here hx rfl (hb hby at_53) rfl ?_
    exact k
  obtain ⟨cq11, kq11, q11a, q11b, q11c⟩ := isOf hZ e10 E_b5
  obtain ⟨_, _, ⟨T11, L11, k11, n11⟩, -, X11, ⟨Lc11, hQ11, l11, y11, z11⟩, st11⟩ := X10.virtualBack hx (y := (⟨"com/example/laden_graph/ladengraph/locality/Tally", "subtract", "(JJ)V"⟩ : MethodName)) (z := (⟨"com/example/laden_graph/ladengraph/locality/Tally", "subtract", "(JJ)V"⟩ : MethodName)) hown (mvT hZ (hw _ (List.mem_of_getElem? (i := 9) rfl))) (mvT hZ (hw _ (List.mem_of_getElem? (i := 10) rfl))) (notFace_of_selects (args := #[]) (mvT hZ (hw _ (List.mem_of_getElem? (i := 12) rfl)))) (mvT hZ (hw _ (List.mem_of_getElem? (i := 12) rfl))) (mvT hZ (hw _ (List.mem_of_getElem? (i := 11) rfl))) (by decide) (backOf (W := 0) (rm3 l Z a0 hw [] b5 q1 q2 (0 : Int64) (0 : Int64) h9 n0 Z0 F_b5_low F_b5_high E_b5 g_b5) hZ (hw _ (List.mem_of_getElem? (i := 13) rfl)) (hw _ (List.mem_of_getElem? (i := 2) rfl)) (by decide) (by decide)) q11a q11c (g := (mkF m 54 #[.val (.long q1), .second, .val (.long q2), .second, .val (.long q3), .second, .val (.long q4), .second, .val (.long j1), .second, .val (.long j4), .second, .val (.ref b5), .val (.ref b7), .val (.ref b9)] [(.long q2), (.long q1), (.ref b5)])) rfl (by rw [hml]; rfl) (Steps.refl _) (argsL := [(.long q1), (.long q2)]) (rest := []) (lenOf pd_1 rfl) rfl (by show 2 * 0 + _ ≤ _; exact Nat.le_of_eq rfl) (hb hby at_54) (fun _ _ => ⟨rfl, e10, (by decide : 3 + 0 ≤ _), (by decide : 6 + 0 ≤ _)⟩)
  dsimp only [Pt.U, Pt.locs, Pt.cells, Pt.slots] at X11 l11 y11 z11 st11 hQ11
  subst l11 y11 z11
  obtain ⟨rfl, N11q, K11, Q11_0, Q11_1, Q11_2⟩ := hQ11
  have E_b7 := E_b7.keep K11
  have F_b7_low := F_b7_low.keep K11 (ninS (Ne.symm ne_b5_b7) nin0)
  have F_b7_high := F_b7_high.keep K11 (ninS (Ne.symm ne_b5_b7) nin0)
  have E_b9 := E_b9.keep K11
  have F_b9_low := F_b9_low.keep K11 (ninS (Ne.symm ne_b5_b9) nin0)
  have F_b9_high := F_b9_high.keep K11 (ninS (Ne.symm ne_b5_b9) nin0)
  have E_b5 := Q11_0
  have F_b5_low := Q11_1
  have F_b5_high := Q11_2
  have Z0 := Nat.le_trans Z0 K11.1
  have KK := KK.trans K11 (allS (Or.inr sz_b5) all0)
  have NN := Fr.app NN N11q
  refine own_go (fun t k => st11.trans k) ?_
  show own_Go p.tables e below _ T11 (mkF m 57 #[.val (.long q1), .second, .val (.long q2), .second, .val (.long q3), .second, .val (.long q4), .second, .val (.long j1), .second, .val (.long j4), .second, .val (.ref b5), .val (.ref b7), .val (.ref b9)] [])
  refine own_go (T' := T11) (g' := (mkF m 61 #[.val (.long q1), .second, .val (.long q2), .second, .val (.long q3), .second, .val (.long q4), .second, .val (.long j1), .second, .val (.long j4), .second, .val (.ref b5), .val (.ref b7), .val (.ref b9)] [(.long q2), (.long q1), (.ref b7)])) (fun t k => ?_) ?_
  · show Steps p.tables e below (T11.setTop (mkF m 57 #[.val (.long q1), .second, .val (.long q2), .second, .val (.long q3), .second, .val (.long q4), .second, .val (.long j1), .second, .val (.long j4), .second, .val (.ref b5), .val (.ref b7), .val (.ref b9)] [])) _
    refine XS.aload X11.here hx rfl (hb hby at_57) rfl rfl ?_
    show Steps p.tables e below (T11.setTop (mkF m 59 #[.val (.long q1), .second, .val (.long q2), .second, .val (.long q3), .second, .val (.long q4), .second, .val (.long j1), .second, .val (.long j4), .second, .val (.ref b5), .val (.ref b7), .val (.ref b9)] [(.ref b7)])) _
    refine XS.lloadN X11.here hx rfl (hb hby at_59) rfl ?_
    show Steps p.tables e below (T11.setTop (mkF m 60 #[.val (.long q1), .second, .val (.long q2), .second, .val (.long q3), .second, .val (.long q4), .second, .val (.long j1), .second, .val (.long j4), .second, .val (.ref b5), .val (.ref b7), .val (.ref b9)] [(.long q1), (.ref b7)])) _
    refine XS.lloadN X11.here hx rfl (hb hby at_60) rfl ?_
    exact k
  obtain ⟨cq12, kq12, q12a, q12b, q12c⟩ := isOf hZ rfl E_b7
  obtain ⟨_, _, ⟨T12, L12, k12, n12⟩, -, X12, ⟨Lc12, hQ12, l12, y12, z12⟩, st12⟩ := X11.virtualBack hx (y := (⟨"com/example/laden_graph/ladengraph/locality/Tally", "subtract", "(JJ)V"⟩ : MethodName)) (z := (⟨"com/example/laden_graph/ladengraph/locality/Tally", "subtract", "(JJ)V"⟩ : MethodName)) hown (mvT hZ (hw _ (List.mem_of_getElem? (i := 9) rfl))) (mvT hZ (hw _ (List.mem_of_getElem? (i := 10) rfl))) (notFace_of_selects (args := #[]) (mvT hZ (hw _ (List.mem_of_getElem? (i := 12) rfl)))) (mvT hZ (hw _ (List.mem_of_getElem? (i := 12) rfl))) (mvT hZ (hw _ (List.mem_of_getElem? (i := 11) rfl))) (by decide) (backOf (W := 0) (rm3 l Z a0 hw [] b7 q1 q2 (0 : Int64) (0 : Int64) T11.heap n0 Z0 F_b7_low F_b7_high E_b7 g_b7) hZ (hw _ (List.mem_of_getElem? (i := 13) rfl)) (hw _ (List.mem_of_getElem? (i := 2) rfl)) (by decide) (by decide)) q12a q12c (g := (mkF m 61 #[.val (.long q1), .second, .val (.long q2), .second, .val (.long q3), .second, .val (.long q4), .second, .val (.long j1), .second, .val (.long j4), .second, .val (.ref b5), .val (.ref b7), .val (.ref b9)] [(.long q2), (.long q1), (.ref b7)])) rfl (by rw [hml]; rfl) (Steps.refl _) (argsL := [(.long q1), (.long q2)]) (rest := []) (lenOf pd_1 rfl) rfl (by show 2 * 0 + _ ≤ _; exact Nat.le_of_eq rfl) (hb hby at_61) (fun _ _ => ⟨rfl, rfl, (by decide : 3 + 0 ≤ _), (by decide : 6 + 0 ≤ _)⟩)
  dsimp only [Pt.U, Pt.locs, Pt.cells, Pt.slots] at X12 l12 y12 z12 st12 hQ12
  subst l12 y12 z12
  obtain ⟨rfl, N12q, K12, Q12_0, Q12_1, Q12_2⟩ := hQ12
  have E_b5 := E_b5.keep K12
  have F_b5_low := F_b5_low.keep K12 (ninS ne_b5_b7 nin0)
  have F_b5_high := F_b5_high.keep K12 (ninS ne_b5_b7 nin0)
  have E_b9 := E_b9.keep K12
  have F_b9_low := F_b9_low.keep K12 (ninS (Ne.symm ne_b7_b9) nin0)
  have F_b9_high := F_b9_high.keep K12 (ninS (Ne.symm ne_b7_b9) nin0)
  have E_b7 := Q12_0
  have F_b7_low := Q12_1
  have F_b7_high := Q12_2
  have Z0 := Nat.le_trans Z0 K12.1
  have KK := KK.trans K12 (allS (Or.inr sz_b7) all0)
  have NN := Fr.app NN N12q
  refine own_go (fun t k => st12.trans k) ?_
  show own_Go p.tables e below _ T12 (mkF m 64 #[.val (.long q1), .second, .val (.long q2), .second, .val (.long q3), .second, .val (.long q4), .second, .val (.long j1), .second, .val (.long j4), .second, .val (.ref b5), .val (.ref b7), .val (.ref b9)] [])
  refine own_go (T' := T12) (g' := (mkF m 70 #[.val (.long q1), .second, .val (.long q2), .second, .val (.long q3), .second, .val (.long q4), .second, .val (.long j1), .second, .val (.long j4), .second, .val (.ref b5), .val (.ref b7), .val (.ref b9)] [(.long j1), (.long j4), (.ref b9)])) (fun t k => ?_) ?_
  · show Steps p.tables e below (T12.setTop (mkF m 64 #[.val (.long q1), .second, .val (.long q2), .second, .val (.long q3), .second, .val (.long q4), .second, .val (.long j1), .second, .val (.long j4), .second, .val (.ref b5), .val (.ref b7), .val (.ref b9)] [])) _
    refine XS.aload X12.here hx rfl (hb hby at_64) rfl rfl ?_
    show Steps p.tables e below (T12.setTop (mkF m 66 #[.val (.long q1), .second, .val (.long q2), .second, .val (.long q3), .second, .val (.long q4), .second, .val (.long j1), .second, .val (.long j4), .second, .val (.ref b5), .val (.ref b7), .val (.ref b9)] [(.ref b9)])) _
    refine XS.lload X12.here hx rfl (hb hby at_66) rfl ?_
    show Steps p.tables e below (T12.setTop (mkF m 68 #[.val (.long q1), .second, .val (.long q2), .second, .val (.long q3), .second, .val (.long q4), .second, .val (.long j1), .second, .val (.long j4), .second, .val (.ref b5), .val (.ref b7), .val (.ref b9)] [(.long j4), (.ref b9)])) _
    refine XS.lload X12.here hx rfl (hb hby at_68) rfl ?_
    exact k
  obtain ⟨cq13, kq13, q13a, q13b, q13c⟩ := isOf hZ rfl E_b9
  obtain ⟨_, _, ⟨T13, L13, k13, n13⟩, -, X13, ⟨Lc13, hQ13, l13, y13, z13⟩, st13⟩ := X12.virtualBack hx (y := (⟨"com/example/laden_graph/ladengraph/locality/Tally", "subtract", "(JJ)V"⟩ : MethodName)) (z := (⟨"com/example/laden_graph/ladengraph/locality/Tally", "subtract", "(JJ)V"⟩ : MethodName)) hown (mvT hZ (hw _ (List.mem_of_getElem? (i := 9) rfl))) (mvT hZ (hw _ (List.mem_of_getElem? (i := 10) rfl))) (notFace_of_selects (args := #[]) (mvT hZ (hw _ (List.mem_of_getElem? (i := 12) rfl)))) (mvT hZ (hw _ (List.mem_of_getElem? (i := 12) rfl))) (mvT hZ (hw _ (List.mem_of_getElem? (i := 11) rfl))) (by decide) (backOf (W := 0) (rm3 l Z a0 hw [] b9 j4 j1 (0 : Int64) (0 : Int64) T12.heap n0 Z0 F_b9_low F_b9_high E_b9 g_b9) hZ (hw _ (List.mem_of_getElem? (i := 13) rfl)) (hw _ (List.mem_of_getElem? (i := 2) rfl)) (by decide) (by decide)) q13a q13c (g := (mkF m 70 #[.val (.long q1), .second, .val (.long q2), .second, .val (.long q3), .second, .val (.long q4), .second, .val (.long j1), .second, .val (.long j4), .second, .val (.ref b5), .val (.ref b7), .val (.ref b9)] [(.long j1), (.long j4), (.ref b9)])) rfl (by rw [hml]; rfl) (Steps.refl _) (argsL := [(.long j4), (.long j1)]) (rest := []) (lenOf pd_1 rfl) rfl (by show 2 * 0 + _ ≤ _; exact Nat.le_of_eq rfl) (hb hby at_70) (fun _ _ => ⟨rfl, rfl, (by decide : 3 + 0 ≤ _), (by decide : 6 + 0 ≤ _)⟩)
  dsimp only [Pt.U, Pt.locs, Pt.cells, Pt.slots] at X13 l13 y13 z13 st13 hQ13
  subst l13 y13 z13
  obtain ⟨rfl, N13q, K13, Q13_0, Q13_1, Q13_2⟩ := hQ13
  have E_b5 := E_b5.keep K13
  have F_b5_low := F_b5_low.keep K13 (ninS ne_b5_b9 nin0)
  have F_b5_high := F_b5_high.keep K13 (ninS ne_b5_b9 nin0)
  have E_b7 := E_b7.keep K13
  have F_b7_low := F_b7_low.keep K13 (ninS ne_b7_b9 nin0)
  have F_b7_high := F_b7_high.keep K13 (ninS ne_b7_b9 nin0)
  have E_b9 := Q13_0
  have F_b9_low := Q13_1
  have F_b9_high := Q13_2
  have Z0 := Nat.le_trans Z0 K13.1
  have KK := KK.trans K13 (allS (Or.inr sz_b9) all0)
  have NN := Fr.app NN N13q
  refine own_go (fun t k => st13.trans k) ?_
  show own_Go p.tables e below _ T13 (mkF m 73 #[.val (.long q1), .second, .val (.long q2), .second, .val (.long q3), .second, .val (.long q4), .second, .val (.long j1), .second, .val (.long j4), .second, .val (.ref b5), .val (.ref b7), .val (.ref b9)] [])
  refine own_go (T' := T13) (g' := (mkF m 79 #[.val (.long q1), .second, .val (.long q2), .second, .val (.long q3), .second, .val (.long q4), .second, .val (.long j1), .second, .val (.long j4), .second, .val (.ref b5), .val (.ref b7), .val (.ref b9)] [(.long q4), (.long q3), (.ref b5)])) (fun t k => ?_) ?_
  · show Steps p.tables e below (T13.setTop (mkF m 73 #[.val (.long q1), .second, .val (.long q2), .second, .val (.long q3), .second, .val (.long q4), .second, .val (.long j1), .second, .val (.long j4), .second, .val (.ref b5), .val (.ref b7), .val (.ref b9)] [])) _
    refine XS.aload X13.here hx rfl (hb hby at_73) rfl rfl ?_
    show Steps p.tables e below (T13.setTop (mkF m 75 #[.val (.long q1), .second, .val (.long q2), .second, .val (.long q3), .second, .val (.long q4), .second, .val (.long j1), .second, .val (.long j4), .second, .val (.ref b5), .val (.ref b7), .val (.ref b9)] [(.ref b5)])) _
    refine XS.lload X13.here hx rfl (hb hby at_75) rfl ?_
    show Steps p.tables e below (T13.setTop (mkF m 77 #[.val (.long q1), .second, .val (.long q2), .second, .val (.long q3), .second, .val (.long q4), .second, .val (.long j1), .second, .val (.long j4), .second, .val (.ref b5), .val (.ref b7), .val (.ref b9)] [(.long q3), (.ref b5)])) _
    refine XS.lload X13.here hx rfl (hb hby at_77) rfl ?_
    exact k
  obtain ⟨cq14, kq14, q14a, q14b, q14c⟩ := isOf hZ rfl E_b5
  obtain ⟨_, _, ⟨T14, L14, k14, n14⟩, -, X14, ⟨Lc14, hQ14, l14, y14, z14⟩, st14⟩ := X13.virtualBack hx (y := (⟨"com/example/laden_graph/ladengraph/locality/Tally", "subtract", "(JJ)V"⟩ : MethodName)) (z := (⟨"com/example/laden_graph/ladengraph/locality/Tally", "subtract", "(JJ)V"⟩ : MethodName)) hown (mvT hZ (hw _ (List.mem_of_getElem? (i := 9) rfl))) (mvT hZ (hw _ (List.mem_of_getElem? (i := 10) rfl))) (notFace_of_selects (args := #[]) (mvT hZ (hw _ (List.mem_of_getElem? (i := 12) rfl)))) (mvT hZ (hw _ (List.mem_of_getElem? (i := 12) rfl))) (mvT hZ (hw _ (List.mem_of_getElem? (i := 11) rfl))) (by decide) (backOf (W := 0) (rm3 l Z a0 hw [] b5 q3 q4 ((0 : Int64) - q2) (u_3_a1_high q1 q2 (0 : Int64) (0 : Int64)) T13.heap n0 Z0 F_b5_low F_b5_high E_b5 g_b5) hZ (hw _ (List.mem_of_getElem? (i := 13) rfl)) (hw _ (List.mem_of_getElem? (i := 2) rfl)) (by decide) (by decide)) q14a q14c (g := (mkF m 79 #[.val (.long q1), .second, .val (.long q2), .second, .val (.long q3), .second, .val (.long q4), .second, .val (.long j1), .second, .val (.long j4), .second, .val (.ref b5), .val (.ref b7), .val (.ref b9)] [(.long q4), (.long q3), (.ref b5)])) rfl (by rw [hml]; rfl) (Steps.refl _) (argsL := [(.long q3), (.long q4)]) (rest := []) (lenOf pd_1 rfl) rfl (by show 2 * 0 + _ ≤ _; exact Nat.le_of_eq rfl) (hb hby at_79) (fun _ _ => ⟨rfl, rfl, (by decide : 3 + 0 ≤ _), (by decide : 6 + 0 ≤ _)⟩)
  dsimp only [Pt.U, Pt.locs, Pt.cells, Pt.slots] at X14 l14 y14 z14 st14 hQ14
  subst l14 y14 z14
  obtain ⟨rfl, N14q, K14, Q14_0, Q14_1, Q14_2⟩ := hQ14
  have E_b7 := E_b7.keep K14
  have F_b7_low := F_b7_low.keep K14 (ninS (Ne.symm ne_b5_b7) nin0)
  have F_b7_high := F_b7_high.keep K14 (ninS (Ne.symm ne_b5_b7) nin0)
  have E_b9 := E_b9.keep K14
  have F_b9_low := F_b9_low.keep K14 (ninS (Ne.symm ne_b5_b9) nin0)
  have F_b9_high := F_b9_high.keep K14 (ninS (Ne.symm ne_b5_b9) nin0)
  have E_b5 := Q14_0
  have F_b5_low := Q14_1
  have F_b5_high := Q14_2
  have Z0 := Nat.le_trans Z0 K14.1
  have KK := KK.trans K14 (allS (Or.inr sz_b5) all0)
  have NN := Fr.app NN N14q
  refine own_go (fun t k => st14.trans k) ?_
  show own_Go p.tables e below _ T14 (mkF m 82 #[.val (.long q1), .second, .val (.long q2), .second, .val (.long q3), .second, .val (.long q4), .second, .val (.long j1), .second, .val (.long j4), .second, .val (.ref b5), .val (.ref b7), .val (.ref b9)] [])
  refine own_go (T' := T14) (g' := (mkF m 86 #[.val (.long q1), .second, .val (.long q2), .second, .val (.long q3), .second, .val (.long q4), .second, .val (.long j1), .second, .val (.long j4), .second, .val (.ref b5), .val (.ref b7), .val (.ref b9)] [(.ref b9), (.ref b5)])) (fun t k => ?_) ?_
  · show Steps p.tables e below (T14.setTop (mkF m 82 #[.val (.long q1), .second, .val (.long q2), .second, .val (.long q3), .second, .val (.long q4), .second, .val (.long j1), .second, .val (.long j4), .second, .val (.ref b5), .val (.ref b7), .val (.ref b9)] [])) _
    refine XS.aload X14.here hx rfl (hb hby at_82) rfl rfl ?_
    show Steps p.tables e below (T14.setTop (mkF m 84 #[.val (.long q1), .second, .val (.long q2), .second, .val (.long q3), .second, .val (.long q4), .second, .val (.long j1), .second, .val (.long j4), .second, .val (.ref b5), .val (.ref b7), .val (.ref b9)] [(.ref b5)])) _
    refine XS.aload X14.here hx rfl (hb hby at_84) rfl rfl ?_
    exact k
  obtain ⟨cq15, kq15, q15a, q15b, q15c⟩ := isOf hZ rfl E_b5
  obtain ⟨_, _, ⟨T15, L15, k15, n15⟩, -, X15, ⟨Lc15, hQ15, l15, y15, z15⟩, st15⟩ := X14.virtualBack hx (y := (⟨"com/example/laden_graph/ladengraph/locality/Tally", "add", "(Lcom/example/laden_graph/ladengraph/locality/Tally;)V"⟩ : MethodName)) (z := (⟨"com/example/laden_graph/ladengraph/locality/Tally", "add", "(Lcom/example/laden_graph/ladengraph/locality/Tally;)V"⟩ : MethodName)) hown (mvT hZ (hw _ (List.mem_of_getElem? (i := 26) rfl))) (mvT hZ (hw _ (List.mem_of_getElem? (i := 27) rfl))) (notFace_of_selects (args := #[]) (mvT hZ (hw _ (List.mem_of_getElem? (i := 29) rfl)))) (mvT hZ (hw _ (List.mem_of_getElem? (i := 29) rfl))) (mvT hZ (hw _ (List.mem_of_getElem? (i := 28) rfl))) (by decide) (backOf (W := 0) (rm6 l Z a0 hw [] b5 b9 (u_3_a1_high j4 j1 (0 : Int64) (0 : Int64)) ((0 : Int64) - j1) (((0 : Int64) - q2) - q4) (u_3_a1_high q3 q4 ((0 : Int64) - q2) (u_3_a1_high q1 q2 (0 : Int64) (0 : Int64))) T14.heap n0 Z0 F_b9_high F_b9_low F_b5_low F_b5_high E_b5 g_b5 (Ne.symm ne_b5_b9)) hZ (hw _ (List.mem_of_getElem? (i := 30) rfl)) (hw _ (List.mem_of_getElem? (i := 2) rfl)) (by decide) (by decide)) q15a q15c (g := (mkF m 86 #[.val (.long q1), .second, .val (.long q2), .second, .val (.long q3), .second, .val (.long q4), .second, .val (.long j1), .second, .val (.long j4), .second, .val (.ref b5), .val (.ref b7), .val (.ref b9)] [(.ref b9), (.ref b5)])) rfl (by rw [hml]; rfl) (Steps.refl _) (argsL := [(.ref b9)]) (rest := []) (lenOf pd_3 rfl) rfl (by show 2 * 0 + _ ≤ _; exact Nat.le_of_eq rfl) (hb hby at_86) (fun _ _ => ⟨rfl, rfl, (by decide : 3 + 0 ≤ _), (by decide : 6 + 0 ≤ _)⟩)
  dsimp only [Pt.U, Pt.locs, Pt.cells, Pt.slots] at X15 l15 y15 z15 st15 hQ15
  subst l15 y15 z15
  obtain ⟨rfl, N15q, K15, Q15_0, Q15_1, Q15_2⟩ := hQ15
  have E_b7 := E_b7.keep K15
  have F_b7_low := F_b7_low.keep K15 (ninS (Ne.symm ne_b5_b7) nin0)
  have F_b7_high := F_b7_high.keep K15 (ninS (Ne.symm ne_b5_b7) nin0)
  have E_b9 := E_b9.keep K15
  have F_b9_low := F_b9_low.keep K15 (ninS (Ne.symm ne_b5_b9) nin0)
  have F_b9_high := F_b9_high.keep K15 (ninS (Ne.symm ne_b5_b9) nin0)
  have E_b5 := Q15_0
  have F_b5_low := Q15_1
  have F_b5_high := Q15_2
  have Z0 := Nat.le_trans Z0 K15.1
  have KK := KK.trans K15 (allS (Or.inr sz_b5) all0)
  have NN := Fr.app NN N15q
  refine own_go (fun t k => st15.trans k) ?_
  show own_Go p.tables e below _ T15 (mkF m 89 #[.val (.long q1), .second, .val (.long q2), .second, .val (.long q3), .second, .val (.long q4), .second, .val (.long j1), .second, .val (.long j4), .second, .val (.ref b5), .val (.ref b7), .val (.ref b9)] [])
  refine own_go (T' := T15) (g' := (mkF m 93 #[.val (.long q1), .second, .val (.long q2), .second, .val (.long q3), .second, .val (.long q4), .second, .val (.long j1), .second, .val (.long j4), .second, .val (.ref b5), .val (.ref b7), .val (.ref b9)] [(.ref b7), (.ref b5)])) (fun t k => ?_) ?_
  · show Steps p.tables e below (T15.setTop (mkF m 89 #[.val (.long q1), .second, .val (.long q2), .second, .val (.long q3), .second, .val (.long q4), .second, .val (.long j1), .second, .val (.long j4), .second, .val (.ref b5), .val (.ref b7), .val (.ref b9)] [])) _
    refine XS.aload X15.here hx rfl (hb hby at_89) rfl rfl ?_
    show Steps p.tables e below (T15.setTop (mkF m 91 #[.val (.long q1), .second, .val (.long q2), .second, .val (.long q3), .second, .val (.long q4), .second, .val (.long j1), .second, .val (.long j4), .second, .val (.ref b5), .val (.ref b7), .val (.ref b9)] [(.ref b5)])) _
    refine XS.aload X15.here hx rfl (hb hby at_91) rfl rfl ?_
    exact k
  obtain ⟨cq16, kq16, q16a, q16b, q16c⟩ := isOf hZ rfl E_b5
  obtain ⟨_, _, ⟨T16, L16, k16, n16⟩, -, X16, ⟨Lc16, hQ16, l16, y16, z16⟩, st16⟩ := X15.virtualBack hx (y := (⟨"com/example/laden_graph/ladengraph/locality/Tally", "compareTo", "(Lcom/example/laden_graph/ladengraph/locality/Tally;)I"⟩ : MethodName)) (z := (⟨"com/example/laden_graph/ladengraph/locality/Tally", "compareTo", "(Lcom/example/laden_graph/ladengraph/locality/Tally;)I"⟩ : MethodName)) hown (mvT hZ (hw _ (List.mem_of_getElem? (i := 38) rfl))) (mvT hZ (hw _ (List.mem_of_getElem? (i := 39) rfl))) (notFace_of_selects (args := #[]) (mvT hZ (hw _ (List.mem_of_getElem? (i := 41) rfl)))) (mvT hZ (hw _ (List.mem_of_getElem? (i := 41) rfl))) (mvT hZ (hw _ (List.mem_of_getElem? (i := 40) rfl))) (by decide) (backOf (W := 0) (rm9 l Z a0 hw [] b5 b7 ((u_3_a1_high q3 q4 ((0 : Int64) - q2) (u_3_a1_high q1 q2 (0 : Int64) (0 : Int64))) + ((u_3_a1_high j4 j1 (0 : Int64) (0 : Int64)) + (r_8 (((0 : Int64) - q2) - q4) ((((0 : Int64) - q2) - q4) + ((0 : Int64) - j1))))) (u_3_a1_high q1 q2 (0 : Int64) (0 : Int64)) ((((0 : Int64) - q2) - q4) + ((0 : Int64) - j1)) ((0 : Int64) - q2) T15.heap n0 Z0 F_b5_high F_b7_high F_b5_low F_b7_low) hZ (hw _ (List.mem_of_getElem? (i := 42) rfl)) (hw _ (List.mem_of_getElem? (i := 2) rfl)) (by decide) (by decide)) q16a q16c (g := (mkF m 93 #[.val (.long q1), .second, .val (.long q2), .second, .val (.long q3), .second, .val (.long q4), .second, .val (.long j1), .second, .val (.long j4), .second, .val (.ref b5), .val (.ref b7), .val (.ref b9)] [(.ref b7), (.ref b5)])) rfl (by rw [hml]; rfl) (Steps.refl _) (argsL := [(.ref b7)]) (rest := []) (lenOf pd_5 rfl) rfl (by show 2 * 0 + _ ≤ _; exact Nat.le_of_eq rfl) (hb hby at_93) (fun _ _ => ⟨rfl, rfl, (by decide : 3 + 0 ≤ _), (by decide : 6 + 0 ≤ _)⟩)
  dsimp only [Pt.U, Pt.locs, Pt.cells, Pt.slots] at X16 l16 y16 z16 st16 hQ16
  subst l16 y16 z16
  obtain ⟨rfl, N16q, e16⟩ := hQ16
  have NN := Fr.app NN N16q
  refine own_go (fun t k => st16.trans k) ?_
  show own_Go p.tables e below _ T16 (mkF m 96 #[.val (.long q1), .second, .val (.long q2), .second, .val (.long q3), .second, .val (.long q4), .second, .val (.long j1), .second, .val (.long j4), .second, .val (.ref b5), .val (.ref b7), .val (.ref b9)] [(.int (r_9 ((u_3_a1_high q3 q4 ((0 : Int64) - q2) (u_3_a1_high q1 q2 (0 : Int64) (0 : Int64))) + ((u_3_a1_high j4 j1 (0 : Int64) (0 : Int64)) + (r_8 (((0 : Int64) - q2) - q4) ((((0 : Int64) - q2) - q4) + ((0 : Int64) - j1))))) (u_3_a1_high q1 q2 (0 : Int64) (0 : Int64)) ((((0 : Int64) - q2) - q4) + ((0 : Int64) - j1)) ((0 : Int64) - q2)))])
  obtain ⟨j17, hj17, st18⟩ : ∃ (j17 : Int32), j17 = (if (r_9 ((u_3_a1_high q3 q4 ((0 : Int64) - q2) (u_3_a1_high q1 q2 (0 : Int64) (0 : Int64))) + ((u_3_a1_high j4 j1 (0 : Int64) (0 : Int64)) + (r_8 (((0 : Int64) - q2) - q4) ((((0 : Int64) - q2) - q4) + ((0 : Int64) - j1))))) (u_3_a1_high q1 q2 (0 : Int64) (0 : Int64)) ((((0 : Int64) - q2) - q4) + ((0 : Int64) - j1)) ((0 : Int64) - q2)) = (0 : Int32) then (1 : Int32) else (0 : Int32)) ∧ ∀ t, Steps p.tables e below (T16.setTop (mkF m 104 #[.val (.long q1), .second, .val (.long q2), .second, .val (.long q3), .second, .val (.long q4), .second, .val (.long j1), .second, .val (.long j4), .second, .val (.ref b5), .val (.ref b7), .val (.ref b9)] [(.int j17)])) t → Steps p.tables e below (T16.setTop (mkF m 96 #[.val (.long q1), .second, .val (.long q2), .second, .val (.long q3), .second, .val (.long q4), .second, .val (.long j1), .second, .val (.long j4), .second, .val (.ref b5), .val (.ref b7), .val (.ref b9)] [(.int (r_9 ((u_3_a1_high q3 q4 ((0 : Int64) - q2) (u_3_a1_high q1 q2 (0 : Int64) (0 : Int64))) + ((u_3_a1_high j4 j1 (0 : Int64) (0 : Int64)) + (r_8 (((0 : Int64) - q2) - q4) ((((0 : Int64) - q2) - q4) + ((0 : Int64) - j1))))) (u_3_a1_high q1 q2 (0 : Int64) (0 : Int64)) ((((0 : Int64) - q2) - q4) + ((0 : Int64) - j1)) ((0 : Int64) - q2)))])) t := by
    by_cases hc96_2 : (r_9 ((u_3_a1_high q3 q4 ((0 : Int64) - q2) (u_3_a1_high q1 q2 (0 : Int64) (0 : Int64))) + ((u_3_a1_high j4 j1 (0 : Int64) (0 : Int64)) + (r_8 (((0 : Int64) - q2) - q4) ((((0 : Int64) - q2) - q4) + ((0 : Int64) - j1))))) (u_3_a1_high q1 q2 (0 : Int64) (0 : Int64)) ((((0 : Int64) - q2) - q4) + ((0 : Int64) - j1)) ((0 : Int64) - q2)) = (0 : Int32)
    · skip
      refine ⟨(1 : Int32), (by simp only [if_pos hc96_2]), fun t k => ?_⟩
      show Steps p.tables e below (T16.setTop (mkF m 96 #[.val (.long q1), .second, .val (.long q2), .second, .val (.long q3), .second, .val (.long q4), .second, .val (.long j1), .second, .val (.long j4), .second, .val (.ref b5), .val (.ref b7), .val (.ref b9)] [(.int (r_9 ((u_3_a1_high q3 q4 ((0 : Int64) - q2) (u_3_a1_high q1 q2 (0 : Int64) (0 : Int64))) + ((u_3_a1_high j4 j1 (0 : Int64) (0 : Int64)) + (r_8 (((0 : Int64) - q2) - q4) ((((0 : Int64) - q2) - q4) + ((0 : Int64) - j1))))) (u_3_a1_high q1 q2 (0 : Int64) (0 : Int64)) ((((0 : Int64) - q2) - q4) + ((0 : Int64) - j1)) ((0 : Int64) - q2)))])) _
      refine XS.ifNo X16.here hx rfl (hb hby at_96) rfl ((if0 _ _).trans (teq hc96_2).2) ?_
      show Steps p.tables e below (T16.setTop (mkF m 99 #[.val (.long q1), .second, .val (.long q2), .second, .val (.long q3), .second, .val (.long q4), .second, .val (.long j1), .second, .val (.long j4), .second, .val (.ref b5), .val (.ref b7), .val (.ref b9)] [])) _
      refine XS.iconst X16.here hx rfl (hb hby at_99) ?_
      show Steps p.tables e below (T16.setTop (mkF m 100 #[.val (.long q1), .second, .val (.long q2), .second, .val (.long q3), .second, .val (.long q4), .second, .val (.long j1), .second, .val (.long j4), .second, .val (.ref b5), .val (.ref b7), .val (.ref b9)] [(.int (1 : Int32))])) _
      refine XS.goto X16.here hx rfl (pc0 := 100) (pc' := 104) rfl (hb hby at_100) (by decide) (by decide) ?_
      exact k
    · skip
      refine ⟨(0 : Int32), (by simp only [if_neg hc96_2]), fun t k => ?_⟩
      show Steps p.tables e below (T16.setTop (mkF m 96 #[.val (.long q1), .second, .val (.long q2), .second, .val (.long q3), .second, .val (.long q4), .second, .val (.long j1), .second, .val (.long j4), .second, .val (.ref b5), .val (.ref b7), .val (.ref b9)] [(.int (r_9 ((u_3_a1_high q3 q4 ((0 : Int64) - q2) (u_3_a1_high q1 q2 (0 : Int64) (0 : Int64))) + ((u_3_a1_high j4 j1 (0 : Int64) (0 : Int64)) + (r_8 (((0 : Int64) - q2) - q4) ((((0 : Int64) - q2) - q4) + ((0 : Int64) - j1))))) (u_3_a1_high q1 q2 (0 : Int64) (0 : Int64)) ((((0 : Int64) - q2) - q4) + ((0 : Int64) - j1)) ((0 : Int64) - q2)))])) _
      refine XS.ifYes X16.here hx rfl (pc0 := 96) (pc' := 103) rfl (hb hby at_96) rfl ((if0 _ _).trans (feq hc96_2).2) (by decide) (by decide) ?_
      show Steps p.tables e below (T16.setTop (mkF m 103 #[.val (.long q1), .second, .val (.long q2), .second, .val (.long q3), .second, .val (.long q4), .second, .val (.long j1), .second, .val (.long j4), .second, .val (.ref b5), .val (.ref b7), .val (.ref b9)] [])) _
      refine XS.iconst X16.here hx rfl (hb hby at_103) ?_
      exact k
  refine own_go st18 ?_
  show own_Go p.tables e below _ T16 (mkF m 104 #[.val (.long q1), .second, .val (.long q2), .second, .val (.long q3), .second, .val (.long q4), .second, .val (.long j1), .second, .val (.long j4), .second, .val (.ref b5), .val (.ref b7), .val (.ref b9)] [(.int j17)])
  have hv1 : (nar .boolean j17) = 1 := own_yes_x q1 q2 q3 q4 j1 j2 j4 j17 hj1 hj2 hj4 hj17
  obtain ⟨fs, hr, hrun, hended, hW, hsame⟩ := X16.leave (v := some (.int (nar .boolean j17))) (fun h => by rw [Bd.returns] at h; cases h)
  refine ⟨_, _, ?_, hrun, hended, _, _, rfl, ?_, ⟨_, rfl⟩, hW, hsame.mono (by decide) (by decide)⟩
  · exact retN X16 hx (t := .boolean) Bd.returns (by simp) (hb hby at_104) hr
  · show Q0 Z q1 q2 q3 q4 h0 n0 _ _ _
    exact ⟨by rw [hv1], NN⟩
set_option maxRecDepth 65536 in
set_option maxHeartbeats 40000000 in
theorem comes_1 {Post : Tables → Env → Array Value → State → Outcome → State → Prop} (hpost : ∀ tb e args s v u, (limb_1_1.after args s (.returned v) u = true ∧ limb_1_2.after args s (.returned v) u = true ∧ True) → FrameEnd s (.returned v) u (Jvm.fieldLocs frame_1_writes args s ++ Jvm.arrayLocs frame_1_arrays args s ++ Jvm.staticLocs frame_1_statics s) 16 128 → Post tb e args s (.returned v) u) :
    ArmFor flags0 classFile x code maxLocals ret World_1 tables_1 room_1 Calls_1 rest_1 Pre_1 Post := by
  intro l hfl _ _ p e ha hc hk s m args below hf hA hF happ hP
  obtain ⟨hcalls, hrest, hpre⟩ := hP
  obtain ⟨-, -, -, hnamed, -, -, -, hat⟩ := (Spec.applies_iff hf).mp happ
  obtain ⟨hg, hn⟩ := and_e (Cond.before_iff.mp (show (Jvm.Cond.and given_1 narrow_1).before args s = true from hpre))
  obtain ⟨hcount, hg0⟩ := and_e hg
  obtain ⟨ha0, hg1⟩ := and_e hg0
  obtain ⟨ha1, hg2⟩ := and_e hg1
  obtain ⟨ha2, hg3⟩ := and_e hg2
  have ha3 := hg3
  obtain ⟨w0, w1, w2, w3, rfl⟩ : ∃ w0 w1 w2 w3 : Value, args = #[w0, w1, w2, w3] := by
    have hs : args.size = 4 := by simpa [Cond.value, given_1] using hcount
    obtain ⟨L⟩ := args
    match L, hs with
    | [w0, w1, w2, w3], _ => exact ⟨w0, w1, w2, w3, rfl⟩
  have hw := fun d (hd : d ∈ tables_1) => atoms_spec (ws := Jvm.Cond.code x code maxLocals ret :: tables_1) hat d (List.mem_cons_of_mem _ hd)
  obtain ⟨i0, ei0⟩ := isL_v ha0
  obtain rfl : w0 = (.long i0) := Option.some.inj ei0
  obtain ⟨i1, ei1⟩ := isL_v ha1
  obtain rfl : w1 = (.long i1) := Option.some.inj ei1
  obtain ⟨i2, ei2⟩ := isL_v ha2
  obtain rfl : w2 = (.long i2) := Option.some.inj ei2
  obtain ⟨i3, ei3⟩ := isL_v ha3
  obtain rfl : w3 = (.long i3) := Option.some.inj ei3
  obtain ⟨n, o, h1, h2, h3, _, L, rfl, ⟨rfl, N⟩, hq⟩ := rm0 l s _ hw tables_1 i0 i1 i2 i3 s.heap s.heap.size (Nat.le_refl _) p e ha hc hk s m _ below hf ((Spec.applies_iff_loose hf).mp happ).1 ⟨rfl, State.Warmed39.refl s, rfl⟩ trivial
  refine ⟨n, _, h1, h2, h3, hpost _ _ _ _ _ _ ⟨Cond.after_iff.mpr rfl, Cond.after_iff.mpr (eq_i res_at (Term.int_eval (1)) rfl), trivial⟩ ⟨hq.1, hq.2.1, (hq.2.2.sift fun y hy => Or.inr (N y hy)).mono (by decide) (by decide)⟩⟩
theorem main_1_1 : Claimed_1_1 := comes_1 fun _ _ _ _ _ _ h hF => ⟨h.1, hF⟩
theorem main_1_2 : Claimed_1_2 := comes_1 fun _ _ _ _ _ _ h hF => ⟨h.2.1, hF⟩
end Jvm.Pilot.@@N@@
namespace Jvm.Pilot.@@N@@
open Jvm Jvm.ClassFile Sem Op Lib Jvm.Free Jvm.Stand Jvm.Pilot.@@N@@.Jvm.D
/-! MADE BY PROGRAM (witnessworld.py) out of the Statement's table words and the real class files: 14 classes; the members and pool entries that the words name. The judged class is class 1, her method 1. -/
namespace start1
open Jvm.ClassFile
def u (s : String) : CpInfo := .utf8 (stringToUtf16 s)
/-- a pool by its gaps: so many unusable entries, then the entry; so many at the end -/
def gap : Nat → List CpInfo → List CpInfo
  | 0, r => r
  | n + 1, r => .unusable :: gap n r
def poolList (es : List (Nat × CpInfo)) (last : Nat) : List CpInfo := es.foldr (fun e r => gap e.1 (e.2 :: r)) (gap last [])
def pool (es : List (Nat × CpInfo)) (last : Nat) : Array CpInfo := ⟨poolList es last⟩
def fileOf (pool : Array CpInfo) (this : Nat) (attrs : Array Attribute := #[]) (ms : Array MethodInfo := #[]) (fl : Nat := 33) (sup : Nat := 0) (ifs : Array Nat := #[]) (fds : Array FieldInfo := #[]) : ClassFile where
  minorVersion := 0
  majorVersion := 65
  constantPool := pool
  accessFlags := fl
  thisClass := this
  superClass := sup
  interfaces := ifs
  fields := fds
  methods := ms
  attributes := attrs
def plain (name : String) (sup : Option ClassId) : Class where
  name := name
  kind := .ordinary
  loader := none
  accessFlags := 33
  super := sup
  interfaces := #[]
  cf := none
  fields := #[]
  methods := #[]
  instanceTypes := #[]
  staticTypes := #[]
  resolved := #[]
  callSites := []
  init := .initialized
  statics := none
  mirror := none

def pool0 : Array CpInfo := pool [(5, u "<init>"), (0, u "()V"), (1, .class_ 10), (1, u "java/lang/Object")] 113

def k0c0 : Code := { maxStack := 0, maxLocals := 1, code := object_method_1_code, exceptionTable := #[], attributes := #[] }
def k0m0 : Method := { name := "<init>", desc := "()V", sig := { parameters := [], returnType := none }, accessFlags := 1, code := some k0c0 }
/-- java/lang/Object -/
def k0 : Class := { plain "java/lang/Object" none with
  accessFlags := 33
  interfaces := #[]
  cf := some (fileOf pool0 8 #[] #[{ accessFlags := 1, nameIndex := 5, descriptorIndex := 6, attributes := #[] }] 33 0 #[] #[])
  fields := #[]
  methods := #[k0m0]
  instanceTypes := #[]
  staticTypes := #[]
  resolved := Array.replicate 124 none
  statics := none }

def pool1 : Array CpInfo := pool [(2, .class_ 4), (0, .nameAndType 5 6), (0, u "java/lang/Object"), (0, u "<init>"), (0, u "()V"), (0, .class_ 8), (0, u "com/example/laden_graph/ladengraph/locality/Tally"), (0, .methodref 7 3), (0, .methodref 7 11), (0, .nameAndType 12 13), (0, u "subtract"), (0, u "(JJ)V"), (0, .methodref 7 15), (0, .nameAndType 16 17), (0, u "add"), (0, u "(Lcom/example/laden_graph/ladengraph/locality/Tally;)V"), (0, .methodref 7 19), (0, .nameAndType 20 21), (0, u "compareTo"), (0, u "(Lcom/example/laden_graph/ladengraph/locality/Tally;)I"), (0, .class_ 23), (0, u "com/example/laden_graph/ladengraph/locality/TallySubtractPinLaw"), (2, u "law"), (0, u "(JJJJ)Z")] 3

def k1m0 : Method := { name := "<init>", desc := "()V", sig := { parameters := [], returnType := none }, accessFlags := 1, code := none }
def k1c1 : Code := { maxStack := 6, maxLocals := 15, code := code, exceptionTable := #[], attributes := #[] }
def k1m1 : Method := { name := "law", desc := "(JJJJ)Z", sig := { parameters := [.long, .long, .long, .long], returnType := some .boolean }, accessFlags := 9, code := some k1c1 }
/-- com/example/laden_graph/ladengraph/locality/TallySubtractPinLaw -/
def k1 : Class := { plain "com/example/laden_graph/ladengraph/locality/TallySubtractPinLaw" (some 0) with
  accessFlags := 49
  interfaces := #[]
  cf := some (fileOf pool1 22 #[] #[{ accessFlags := 1, nameIndex := 5, descriptorIndex := 6, attributes := #[] }, { accessFlags := 9, nameIndex := 26, descriptorIndex := 27, attributes := #[] }] 49 2 #[] #[])
  fields := #[]
  methods := #[k1m0, k1m1]
  instanceTypes := #[]
  staticTypes := #[]
  resolved := Array.replicate 31 none
  statics := none }

def pool2 : Array CpInfo := pool [(1, .methodref 2 3), (0, .class_ 4), (0, .nameAndType 5 6), (0, u "java/lang/Object"), (0, u "<init>"), (0, u "()V"), (0, .methodref 8 9), (0, .class_ 10), (0, .nameAndType 11 12), (0, u "java/lang/Long"), (0, u "compareUnsigned"), (0, u "(JJ)I"), (0, .fieldref 14 15), (0, .class_ 16), (0, .nameAndType 17 18), (0, u "com/example/laden_graph/ladengraph/locality/Tally"), (0, u "high"), (0, u "J"), (0, .fieldref 14 20), (0, .nameAndType 21 18), (0, u "low"), (0, .methodref 14 23), (0, .nameAndType 24 25), (0, u "add"), (0, u "(JJ)V"), (0, .methodref 14 27), (0, .nameAndType 28 29), (0, u "carry"), (0, u "(JJ)J"), (2, u "subtract"), (0, .methodref 8 34), (0, .nameAndType 35 12), (0, u "compare"), (25, u "(Lcom/example/laden_graph/ladengraph/locality/Tally;)V"), (0, u "compareTo"), (0, u "(Lcom/example/laden_graph/ladengraph/locality/Tally;)I")] 4

def k2c0 : Code := { maxStack := 1, maxLocals := 1, code := prog_10_method_1_code, exceptionTable := #[], attributes := #[] }
def k2m0 : Method := { name := "<init>", desc := "()V", sig := { parameters := [], returnType := none }, accessFlags := 0, code := some k2c0 }
def k2c1 : Code := { maxStack := 4, maxLocals := 4, code := prog_10_method_2_code, exceptionTable := #[], attributes := #[] }
def k2m1 : Method := { name := "carry", desc := "(JJ)J", sig := { parameters := [.long, .long], returnType := some .long }, accessFlags := 8, code := some k2c1 }
def k2c2 : Code := { maxStack := 5, maxLocals := 2, code := prog_10_method_5_code, exceptionTable := #[], attributes := #[] }
def k2m2 : Method := { name := "add", desc := "(Lcom/example/laden_graph/ladengraph/locality/Tally;)V", sig := { parameters := [(.object "com/example/laden_graph/ladengraph/locality/Tally")], returnType := none }, accessFlags := 0, code := some k2c2 }
def k2c3 : Code := { maxStack := 9, maxLocals := 7, code := prog_10_method_6_code, exceptionTable := #[], attributes := #[] }
def k2m3 : Method := { name := "add", desc := "(JJ)V", sig := { parameters := [.long, .long], returnType := none }, accessFlags := 2, code := some k2c3 }
def k2c4 : Code := { maxStack := 7, maxLocals := 7, code := prog_10_method_9_code, exceptionTable := #[], attributes := #[] }
def k2m4 : Method := { name := "subtract", desc := "(JJ)V", sig := { parameters := [.long, .long], returnType := none }, accessFlags := 0, code := some k2c4 }
def k2c5 : Code := { maxStack := 4, maxLocals := 3, code := prog_10_method_10_code, exceptionTable := #[], attributes := #[] }
def k2m5 : Method := { name := "compareTo", desc := "(Lcom/example/laden_graph/ladengraph/locality/Tally;)I", sig := { parameters := [(.object "com/example/laden_graph/ladengraph/locality/Tally")], returnType := some .int }, accessFlags := 0, code := some k2c5 }
/-- com/example/laden_graph/ladengraph/locality/Tally -/
def k2 : Class := { plain "com/example/laden_graph/ladengraph/locality/Tally" (some 0) with
  accessFlags := 32
  interfaces := #[]
  cf := some (fileOf pool2 14 #[] #[{ accessFlags := 0, nameIndex := 5, descriptorIndex := 6, attributes := #[] }, { accessFlags := 8, nameIndex := 28, descriptorIndex := 29, attributes := #[] }, { accessFlags := 0, nameIndex := 24, descriptorIndex := 61, attributes := #[] }, { accessFlags := 2, nameIndex := 24, descriptorIndex := 25, attributes := #[] }, { accessFlags := 0, nameIndex := 32, descriptorIndex := 25, attributes := #[] }, { accessFlags := 0, nameIndex := 62, descriptorIndex := 63, attributes := #[] }] 32 2 #[] #[{ accessFlags := 2, nameIndex := 17, descriptorIndex := 18, attributes := #[] }, { accessFlags := 2, nameIndex := 21, descriptorIndex := 18, attributes := #[] }])
  fields := #[{ name := "high", type := .long, accessFlags := 2, slot := 0, constantValue := 0 }, { name := "low", type := .long, accessFlags := 2, slot := 1, constantValue := 0 }]
  methods := #[k2m0, k2m1, k2m2, k2m3, k2m4, k2m5]
  instanceTypes := #[.long, .long]
  staticTypes := #[]
  resolved := Array.replicate 68 none
  statics := none }

def pool3 : Array CpInfo := pool [(1, .class_ 2), (0, u "java/io/Serializable"), (0, .class_ 4), (0, u "java/lang/Object")] 2

/-- java/io/Serializable -/
def k3 : Class := { plain "java/io/Serializable" (some 0) with
  accessFlags := 1537
  interfaces := #[]
  cf := some (fileOf pool3 1 #[] #[] 1537 3 #[] #[])
  fields := #[]
  methods := #[]
  instanceTypes := #[]
  staticTypes := #[]
  resolved := Array.replicate 7 none
  statics := none }

def pool4 : Array CpInfo := pool [(2, .class_ 4), (1, u "java/lang/Object"), (0, u "<init>"), (0, u "()V"), (1, .class_ 10), (1, u "java/lang/Number"), (2, .class_ 14), (0, u "java/io/Serializable"), (0, u "serialVersionUID"), (0, u "J")] 20

def k4m0 : Method := { name := "<init>", desc := "()V", sig := { parameters := [], returnType := none }, accessFlags := 1, code := none }
/-- java/lang/Number -/
def k4 : Class := { plain "java/lang/Number" (some 0) with
  accessFlags := 1057
  interfaces := #[3]
  cf := some (fileOf pool4 8 #[] #[{ accessFlags := 1, nameIndex := 5, descriptorIndex := 6, attributes := #[] }] 1057 2 #[13] #[{ accessFlags := 26, nameIndex := 15, descriptorIndex := 16, attributes := #[] }])
  fields := #[{ name := "serialVersionUID", type := .long, accessFlags := 26, slot := 0, constantValue := 0 }]
  methods := #[k4m0]
  instanceTypes := #[]
  staticTypes := #[.long]
  resolved := Array.replicate 37 none
  statics := none }

def pool5 : Array CpInfo := pool [(1, .class_ 2), (0, u "java/lang/Comparable"), (0, .class_ 4), (0, u "java/lang/Object")] 7

/-- java/lang/Comparable -/
def k5 : Class := { plain "java/lang/Comparable" (some 0) with
  accessFlags := 1537
  interfaces := #[]
  cf := some (fileOf pool5 1 #[] #[] 1537 3 #[] #[])
  fields := #[]
  methods := #[]
  instanceTypes := #[]
  staticTypes := #[]
  resolved := Array.replicate 12 none
  statics := none }

def pool6 : Array CpInfo := pool [(1, .class_ 2), (0, u "java/lang/constant/Constable"), (0, .class_ 4), (0, u "java/lang/Object")] 6

/-- java/lang/constant/Constable -/
def k6 : Class := { plain "java/lang/constant/Constable" (some 0) with
  accessFlags := 1537
  interfaces := #[]
  cf := some (fileOf pool6 1 #[] #[] 1537 3 #[] #[])
  fields := #[]
  methods := #[]
  instanceTypes := #[]
  staticTypes := #[]
  resolved := Array.replicate 11 none
  statics := none }

def pool7 : Array CpInfo := pool [(1, .class_ 2), (0, u "java/lang/constant/ConstantDesc"), (0, .class_ 4), (0, u "java/lang/Object")] 32

/-- java/lang/constant/ConstantDesc -/
def k7 : Class := { plain "java/lang/constant/ConstantDesc" (some 0) with
  accessFlags := 1537
  interfaces := #[]
  cf := some (fileOf pool7 1 #[] #[] 1537 3 #[] #[])
  fields := #[]
  methods := #[]
  instanceTypes := #[]
  staticTypes := #[]
  resolved := Array.replicate 37 none
  statics := none }

def pool8 : Array CpInfo := pool [(1, .class_ 2), (0, u "java/lang/Long"), (165, .long 9223372036854775808), (66, .class_ 237), (1, u "java/lang/Long$LongCache"), (33, .class_ 272), (0, u "java/lang/Number"), (2, u "value"), (0, u "J"), (25, .methodref 1 303), (0, .nameAndType 304 305), (0, u "compare"), (0, u "(JJ)I"), (55, u "TYPE"), (0, u "Ljava/lang/Class;"), (0, .class_ 364), (0, u "java/lang/Comparable"), (0, .class_ 366), (0, u "java/lang/constant/Constable"), (0, .class_ 368), (0, u "java/lang/constant/ConstantDesc"), (0, u "MIN_VALUE"), (1, u "MAX_VALUE"), (4, u "SIZE"), (0, u "I"), (1, u "BYTES"), (1, u "serialVersionUID"), (87, u "compareUnsigned")] 54

def k8c0 : Code := { maxStack := 4, maxLocals := 4, code := jdk_35_method_42_code, exceptionTable := #[], attributes := #[] }
def k8m0 : Method := { name := "compare", desc := "(JJ)I", sig := { parameters := [.long, .long], returnType := some .int }, accessFlags := 9, code := some k8c0 }
def k8c1 : Code := { maxStack := 6, maxLocals := 4, code := jdk_35_method_43_code, exceptionTable := #[], attributes := #[] }
def k8m1 : Method := { name := "compareUnsigned", desc := "(JJ)I", sig := { parameters := [.long, .long], returnType := some .int }, accessFlags := 9, code := some k8c1 }
/-- java/lang/Long -/
def k8 : Class := { plain "java/lang/Long" (some 4) with
  accessFlags := 49
  interfaces := #[5, 6, 7]
  cf := some (fileOf pool8 1 #[.nestMembers #[235]] #[{ accessFlags := 9, nameIndex := 304, descriptorIndex := 305, attributes := #[] }, { accessFlags := 9, nameIndex := 469, descriptorIndex := 305, attributes := #[] }] 49 271 #[363, 365, 367] #[{ accessFlags := 25, nameIndex := 369, descriptorIndex := 276, attributes := #[] }, { accessFlags := 25, nameIndex := 371, descriptorIndex := 276, attributes := #[] }, { accessFlags := 25, nameIndex := 361, descriptorIndex := 362, attributes := #[] }, { accessFlags := 18, nameIndex := 275, descriptorIndex := 276, attributes := #[] }, { accessFlags := 25, nameIndex := 376, descriptorIndex := 377, attributes := #[] }, { accessFlags := 25, nameIndex := 379, descriptorIndex := 377, attributes := #[] }, { accessFlags := 26, nameIndex := 381, descriptorIndex := 276, attributes := #[] }])
  fields := #[{ name := "MIN_VALUE", type := .long, accessFlags := 25, slot := 0, constantValue := 0 }, { name := "MAX_VALUE", type := .long, accessFlags := 25, slot := 1, constantValue := 0 }, { name := "TYPE", type := (.object "java/lang/Class"), accessFlags := 25, slot := 2, constantValue := 0 }, { name := "value", type := .long, accessFlags := 18, slot := 0, constantValue := 0 }, { name := "SIZE", type := .int, accessFlags := 25, slot := 3, constantValue := 0 }, { name := "BYTES", type := .int, accessFlags := 25, slot := 4, constantValue := 0 }, { name := "serialVersionUID", type := .long, accessFlags := 26, slot := 5, constantValue := 0 }]
  methods := #[k8m0, k8m1]
  instanceTypes := #[.long]
  staticTypes := #[.long, .long, (.object "java/lang/Class"), .int, .int, .long]
  resolved := Array.replicate 524 none
  statics := none }

def pool9 : Array CpInfo := pool [(1, u "java/lang/Cloneable"), (0, .class_ 1), (0, u "java/lang/Object"), (0, .class_ 3)] 3

/-- java/lang/Cloneable -/
def k9 : Class := { plain "java/lang/Cloneable" (some 0) with
  accessFlags := 1537
  interfaces := #[]
  cf := some (fileOf pool9 2 #[] #[] 1537 4 #[] #[])
  fields := #[]
  methods := #[]
  instanceTypes := #[]
  staticTypes := #[]
  resolved := Array.replicate 8 none
  statics := none }

/-- the primitive byte -/
def k10 : Class := { plain "byte" none with kind := .primitive 'B', accessFlags := 0x411 }
/-- [B -/
def k11 : Class := { plain "[B" (some 0) with kind := .array 10 .byte, interfaces := #[9, 3], accessFlags := 1041 }

/-- the primitive int -/
def k12 : Class := { plain "int" none with kind := .primitive 'I', accessFlags := 0x411 }
/-- [I -/
def k13 : Class := { plain "[I" (some 0) with kind := .array 12 .int, interfaces := #[9, 3], accessFlags := 1041 }

def heap : Heap := #[]
def classes : Array Class := #[k0, k1, k2, k3, k4, k5, k6, k7, k8, k9, k10, k11, k12, k13]
def interned : List (Array UInt16 × Addr) := []
def slotsUsed : Nat := 0
def theMethod : MethodId := ⟨1, 1⟩
def args0 : Array Value := #[.long 7, .long 8, .long 9, .long 10]
def aboutOver (below : List Frame) : State where
  vm := { classes := classes, interned := interned.toArray }
  heap := heap
  slotsUsed := slotsUsed
  threads := #[{ frames := .invoking theMethod args0 :: below }]
def below0 : List Frame := [.native { method := ⟨0, 0⟩, args := #[] }]
def about1 : State := aboutOver below0
def p0 : Program := .bare "" "" ""
def e0 : Env := launch0.env 0 0 0
theorem w_frames : about1.frames = Frame.invoking theMethod args0 :: below0 := rfl
set_option maxRecDepth 65536 in
theorem w_args : argsFit about1.vm theMethod args0 = true := by decide +kernel
set_option maxRecDepth 65536 in
theorem w_heap : heapFits about1 = true := by decide +kernel
set_option maxRecDepth 65536 in
theorem w_runnable : about1.curStatus? = some .runnable := by decide +kernel
set_option maxRecDepth 65536 in
theorem w_alone : about1.alone = true := by decide +kernel
set_option maxRecDepth 65536 in
theorem w_named : about1.methodNamed? x = some theMethod := by decide +kernel
set_option maxRecDepth 65536 in
theorem w_hears : about1.hears theMethod below0 = true := by decide +kernel
set_option maxRecDepth 65536 in
theorem w_ripe : about1.ripe theMethod args0 below0 = true := by decide +kernel
theorem w_running : about1.status = .running := rfl
set_option maxRecDepth 65536 in
theorem w_room : about1.hasRoom e0.platform room_1 = true :=
  launch0.hasRoom_least _ room_1 (by decide +kernel) (by decide +kernel) (by decide +kernel) (by decide +kernel) (by decide +kernel) (by decide +kernel)
theorem allAtoms_all (ts : List Jvm.Cond) (a : Array Jvm.Value) (st : Jvm.State) : (allAtoms ts).before a st = ts.all (fun c => c.before a st) := by
  induction ts with
  | nil => rfl
  | cons c t ih =>
    show (Jvm.Cond.and c (allAtoms t)).before a st = _
    rw [Jvm.Cond.before_and, ih, List.all_cons]
def words1 : List Jvm.Cond := Jvm.Cond.code x code maxLocals ret :: tables_1
/-- a 'code' word, met by the world's own term for the bytes: nothing is compared byte by byte -/
theorem code_word {y : MethodName} {bytes : ByteArray} {mx : Nat} {rt : Option FieldType} {a : Array Value} {s : State} {m : MethodId} {meth : Method} {c : Code} (h1 : s.methodNamed? y = some m) (h2 : s.vm.method? m = some meth) (h3 : meth.code = some c) (h4 : c.code = bytes)
    (h5 : (c.maxLocals == mx && c.exceptionTable.isEmpty && decide (c.maxStack ≤ mostOperands) && decide (meth.sig.returnType = rt) && !meth.locks && decide (parseMethodDescriptor y.desc = some meth.sig)) = true) : (Jvm.Cond.code y bytes mx rt).before a s = true := by
  simp only [Bool.and_eq_true, beq_iff_eq, Bool.not_eq_true', decide_eq_true_eq] at h5
  obtain ⟨⟨⟨⟨⟨g1, g2⟩, g3⟩, g4⟩, g5⟩, g6⟩ := h5
  simp [Cond.before, Cond.holds, Cond.value, h1, h2, h3, h4, g1, g2, g3, g4, g5, g6]
def isCode : Jvm.Cond → Bool
  | .code _ _ _ _ => true
  | _ => false
theorem all_split {L : List Jvm.Cond} {P : Jvm.Cond → Bool} (h1 : L.all (fun c => isCode c || P c) = true) (h2 : ∀ c ∈ L.filter isCode, P c = true) : L.all P = true := by
  refine List.all_eq_true.mpr fun c hc => ?_
  have h := List.all_eq_true.mp h1 c hc
  rcases Bool.eq_false_or_eq_true (isCode c) with hi | hi
  · exact h2 c (List.mem_filter.mpr ⟨hc, hi⟩)
  · simpa [hi] using h
set_option maxRecDepth 65536 in
theorem w_c0 : (Jvm.Cond.code x code maxLocals ret).before args0 about1 = true := code_word (m := ⟨1, 1⟩) (meth := k1m1) (c := k1c1) (by decide +kernel) rfl rfl rfl (by decide +kernel)
set_option maxRecDepth 65536 in
theorem w_c1 : (Jvm.Cond.code ({ cls := "com/example/laden_graph/ladengraph/locality/Tally", name := "<init>", desc := "()V" } : Jvm.MethodName) prog_10_method_1_code (1 : Nat) (Option.none : Option Jvm.ClassFile.FieldType)).before args0 about1 = true := code_word (m := ⟨2, 0⟩) (meth := k2m0) (c := k2c0) (by decide +kernel) rfl rfl rfl (by decide +kernel)
set_option maxRecDepth 65536 in
theorem w_c2 : (Jvm.Cond.code ({ cls := "java/lang/Object", name := "<init>", desc := "()V" } : Jvm.MethodName) object_method_1_code (1 : Nat) (Option.none : Option Jvm.ClassFile.FieldType)).before args0 about1 = true := code_word (m := ⟨0, 0⟩) (meth := k0m0) (c := k0c0) (by decide +kernel) rfl rfl rfl (by decide +kernel)
set_option maxRecDepth 65536 in
theorem w_c3 : (Jvm.Cond.code ({ cls := "com/example/laden_graph/ladengraph/locality/Tally", name := "subtract", desc := "(JJ)V" } : Jvm.MethodName) prog_10_method_9_code (7 : Nat) (Option.none : Option Jvm.ClassFile.FieldType)).before args0 about1 = true := code_word (m := ⟨2, 4⟩) (meth := k2m4) (c := k2c4) (by decide +kernel) rfl rfl rfl (by decide +kernel)
set_option maxRecDepth 65536 in
theorem w_c4 : (Jvm.Cond.code ({ cls := "java/lang/Long", name := "compareUnsigned", desc := "(JJ)I" } : Jvm.MethodName) jdk_35_method_43_code (4 : Nat) (Option.some Jvm.ClassFile.FieldType.int)).before args0 about1 = true := code_word (m := ⟨8, 1⟩) (meth := k8m1) (c := k8c1) (by decide +kernel) rfl rfl rfl (by decide +kernel)
set_option maxRecDepth 65536 in
theorem w_c5 : (Jvm.Cond.code ({ cls := "java/lang/Long", name := "compare", desc := "(JJ)I" } : Jvm.MethodName) jdk_35_method_42_code (4 : Nat) (Option.some Jvm.ClassFile.FieldType.int)).before args0 about1 = true := code_word (m := ⟨8, 0⟩) (meth := k8m0) (c := k8c0) (by decide +kernel) rfl rfl rfl (by decide +kernel)
set_option maxRecDepth 65536 in
theorem w_c6 : (Jvm.Cond.code ({ cls := "com/example/laden_graph/ladengraph/locality/Tally", name := "add", desc := "(Lcom/example/laden_graph/ladengraph/locality/Tally;)V" } : Jvm.MethodName) prog_10_method_5_code (2 : Nat) (Option.none : Option Jvm.ClassFile.FieldType)).before args0 about1 = true := code_word (m := ⟨2, 2⟩) (meth := k2m2) (c := k2c2) (by decide +kernel) rfl rfl rfl (by decide +kernel)
set_option maxRecDepth 65536 in
theorem w_c7 : (Jvm.Cond.code ({ cls := "com/example/laden_graph/ladengraph/locality/Tally", name := "add", desc := "(JJ)V" } : Jvm.MethodName) prog_10_method_6_code (7 : Nat) (Option.none : Option Jvm.ClassFile.FieldType)).before args0 about1 = true := code_word (m := ⟨2, 3⟩) (meth := k2m3) (c := k2c3) (by decide +kernel) rfl rfl rfl (by decide +kernel)
set_option maxRecDepth 65536 in
theorem w_c8 : (Jvm.Cond.code ({ cls := "com/example/laden_graph/ladengraph/locality/Tally", name := "carry", desc := "(JJ)J" } : Jvm.MethodName) prog_10_method_2_code (4 : Nat) (Option.some Jvm.ClassFile.FieldType.long)).before args0 about1 = true := code_word (m := ⟨2, 1⟩) (meth := k2m1) (c := k2c1) (by decide +kernel) rfl rfl rfl (by decide +kernel)
set_option maxRecDepth 65536 in
theorem w_c9 : (Jvm.Cond.code ({ cls := "com/example/laden_graph/ladengraph/locality/Tally", name := "compareTo", desc := "(Lcom/example/laden_graph/ladengraph/locality/Tally;)I" } : Jvm.MethodName) prog_10_method_10_code (3 : Nat) (Option.some Jvm.ClassFile.FieldType.int)).before args0 about1 = true := code_word (m := ⟨2, 5⟩) (meth := k2m5) (c := k2c5) (by decide +kernel) rfl rfl rfl (by decide +kernel)
def codes1 : List Jvm.Cond := [Jvm.Cond.code x code maxLocals ret, Jvm.Cond.code ({ cls := "com/example/laden_graph/ladengraph/locality/Tally", name := "<init>", desc := "()V" } : Jvm.MethodName) prog_10_method_1_code (1 : Nat) (Option.none : Option Jvm.ClassFile.FieldType), Jvm.Cond.code ({ cls := "java/lang/Object", name := "<init>", desc := "()V" } : Jvm.MethodName) object_method_1_code (1 : Nat) (Option.none : Option Jvm.ClassFile.FieldType), Jvm.Cond.code ({ cls := "com/example/laden_graph/ladengraph/locality/Tally", name := "subtract", desc := "(JJ)V" } : Jvm.MethodName) prog_10_method_9_code (7 : Nat) (Option.none : Option Jvm.ClassFile.FieldType), Jvm.Cond.code ({ cls := "java/lang/Long", name := "compareUnsigned", desc := "(JJ)I" } : Jvm.MethodName) jdk_35_method_43_code (4 : Nat) (Option.some Jvm.ClassFile.FieldType.int), Jvm.Cond.code ({ cls := "java/lang/Long", name := "compare", desc := "(JJ)I" } : Jvm.MethodName) jdk_35_method_42_code (4 : Nat) (Option.some Jvm.ClassFile.FieldType.int), Jvm.Cond.code ({ cls := "com/example/laden_graph/ladengraph/locality/Tally", name := "add", desc := "(Lcom/example/laden_graph/ladengraph/locality/Tally;)V" } : Jvm.MethodName) prog_10_method_5_code (2 : Nat) (Option.none : Option Jvm.ClassFile.FieldType), Jvm.Cond.code ({ cls := "com/example/laden_graph/ladengraph/locality/Tally", name := "add", desc := "(JJ)V" } : Jvm.MethodName) prog_10_method_6_code (7 : Nat) (Option.none : Option Jvm.ClassFile.FieldType), Jvm.Cond.code ({ cls := "com/example/laden_graph/ladengraph/locality/Tally", name := "carry", desc := "(JJ)J" } : Jvm.MethodName) prog_10_method_2_code (4 : Nat) (Option.some Jvm.ClassFile.FieldType.long), Jvm.Cond.code ({ cls := "com/example/laden_graph/ladengraph/locality/Tally", name := "compareTo", desc := "(Lcom/example/laden_graph/ladengraph/locality/Tally;)I" } : Jvm.MethodName) prog_10_method_10_code (3 : Nat) (Option.some Jvm.ClassFile.FieldType.int)]
set_option maxRecDepth 65536 in
theorem codes_eq : words1.filter isCode = codes1 := rfl
theorem w_codes : ∀ c ∈ words1.filter isCode, c.before args0 about1 = true := by
  rw [codes_eq]
  intro c hc
  simp only [codes1, List.mem_cons, List.not_mem_nil, or_false] at hc
  rcases hc with rfl | rfl | rfl | rfl | rfl | rfl | rfl | rfl | rfl | rfl
  · exact w_c0
  · exact w_c1
  · exact w_c2
  · exact w_c3
  · exact w_c4
  · exact w_c5
  · exact w_c6
  · exact w_c7
  · exact w_c8
  · exact w_c9
set_option maxRecDepth 65536 in
theorem w_t1 : (words1.take 24).all (fun c => isCode c || c.before args0 about1) = true := by decide +kernel
set_option maxRecDepth 65536 in
theorem w_t2 : (words1.drop 24).all (fun c => isCode c || c.before args0 about1) = true := by decide +kernel
theorem w_tables : (allAtoms (Jvm.Cond.code x code maxLocals ret :: tables_1)).before args0 about1 = true := by
  rw [allAtoms_all]
  show words1.all (fun c => c.before args0 about1) = true
  refine all_split ?_ w_codes
  rw [← List.take_append_drop 24 words1, List.all_append, w_t1, w_t2]
  rfl
set_option maxRecDepth 65536 in
theorem w_case : (Jvm.Cond.and given_1 narrow_1).before args0 about1 = true := by decide +kernel
theorem w_applies : (headSpec (Jvm.Cond.code x code maxLocals ret :: tables_1) room_1).applies x e0.platform about1 = true :=
  (Spec.applies_iff w_frames).mpr ⟨w_running, w_runnable, w_alone, w_named, w_hears, w_ripe, w_room, w_tables⟩
theorem atStart : AtStart classFile x code maxLocals ret World_1 tables_1 room_1 Calls_1 rest_1 Pre_1 launch0 p0 e0 about1 theMethod args0 below0 :=
  ⟨lists_1, trivial, launch0.admits_env _ _ _, launch0.least_env, fairChoices_fair.cas, fairChoices_fair.clock, w_frames, w_args, w_heap, w_applies, trivial, trivial, w_case⟩
end start1
theorem witness_1 : WitnessClaimed_1 := ⟨start1.p0, start1.e0, start1.about1, start1.theMethod, start1.args0, start1.below0, start1.atStart⟩
end Jvm.Pilot.@@N@@

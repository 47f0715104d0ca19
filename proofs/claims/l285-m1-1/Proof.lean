import JvmDerived
import JvmDerived.Pilot.@@N@@Statement
import JvmDerived.Pilot.@@N@@Code
set_option linter.unusedVariables false
set_option linter.unusedSimpArgs false
namespace Jvm.RoadKit
open Sem ClassFile Op Lib Jvm.Stand Jvm.Free Jvm.LawKit
section New
variable {p : Program} {l : Launch} {e : Env} {R : Room} {s : State} {m : MethodId} {args : Array Value} {below : List Frame} {meth : Method} {c : Code} {T : State} {locs : List Loc} {cells slots : Nat}
theorem retI (X : Stand p l e R s m args below meth c T locs cells slots) (hx : p.tables.exec = Jvm.exec) {pc : Nat} {Ls : Array Slot} {z : Int32} {rest : List Value} (hret : meth.sig.returnType = some .int) (hd : decode c.code pc = .ok (.ireturn, 1)) {fs : List Frame}
    (hl : ∀ (f : JFrame) (acts : List Action), f.method = m → f.locked = none → f.entered = [] → (doReturn e (T.setTop f) acts (some (.int z))).1 = T.setFrames fs) : Steps p.tables e below (T.setTop (mkF m pc Ls (.int z :: rest))) (T.setFrames fs) := by
  have hm' : T.vm.method? m = some meth := X.method'
  have hn : narrow .int (.int z) = .int z := rfl
  show Steps p.tables e below (T.setTop { method := m, pc := pc, locals := Ls, stack := _ :: rest, locked := none }) _
  jvm_step X.here [X.here.top, hx, hd, hm', hret, hn]
  first | (intro acts; rw [hl _ acts rfl rfl rfl]) | rw [hl _ _ rfl rfl rfl]
  exact Steps.refl _
theorem own_retJ (X : Stand p l e R s m args below meth c T locs cells slots) (hx : p.tables.exec = Jvm.exec) {pc : Nat} {Ls : Array Slot} {z : Int64} {rest : List Value} (hret : meth.sig.returnType = some .long) (hd : decode c.code pc = .ok (.lreturn, 1)) {fs : List Frame}
    (hl : ∀ (f : JFrame) (acts : List Action), f.method = m → f.locked = none → f.entered = [] → (doReturn e (T.setTop f) acts (some (.long z))).1 = T.setFrames fs) : Steps p.tables e below (T.setTop (mkF m pc Ls (.long z :: rest))) (T.setFrames fs) :=
  retOut X hx (t := .long) (i := .lreturn) hret rfl (Or.inr (Or.inl ⟨rfl, rfl, z, rfl⟩)) hd hl
theorem own_retR (X : Stand p l e R s m args below meth c T locs cells slots) (hx : p.tables.exec = Jvm.exec) {pc : Nat} {Ls : Array Slot} {w : Value} {t : FieldType} {rest : List Value} (hret : meth.sig.returnType = some t) (ht : t.isReference = true) (hw : w.isRef = true) (hd : decode c.code pc = .ok (.areturn, 1)) {fs : List Frame}
    (hl : ∀ (f : JFrame) (acts : List Action), f.method = m → f.locked = none → f.entered = [] → (doReturn e (T.setTop f) acts (some w)).1 = T.setFrames fs) : Steps p.tables e below (T.setTop (mkF m pc Ls (w :: rest))) (T.setFrames fs) :=
  retOut X hx (i := .areturn) hret (by cases t <;> simp_all [FieldType.isReference, narrow]) (Or.inr (Or.inr (Or.inr (Or.inr ⟨rfl, ht, hw⟩)))) hd hl
theorem own_narZ (x : Int32) : nar .boolean x = x &&& 1 := rfl
theorem own_narC (x : Int32) : nar .char x = x.toUInt32.toUInt16.toUInt32.toInt32 := rfl
theorem own_narB (x : Int32) : nar .byte x = x.toInt8.toInt32 := rfl
/-- where the run stands, and how it ends -/
abbrev own_Go (tb : Tables) (e : Env) (below : List Frame) (P : State → Outcome → Prop) (T : State) (g : JFrame) : Prop := ∃ s₂ o, Steps tb e below (T.setTop g) s₂ ∧ s₂.status = .running ∧ Ended s₂ below o ∧ P s₂ o
theorem own_go {tb : Tables} {P : State → Outcome → Prop} {T' : State} {g g' : JFrame} (st : ∀ t, Steps tb e below (T'.setTop g') t → Steps tb e below (T.setTop g) t) (k : own_Go tb e below P T' g') : own_Go tb e below P T g := by
  obtain ⟨s₂, o, h1, h2⟩ := k
  exact ⟨s₂, o, st _ h1, h2⟩
theorem own_start {tb : Tables} {P : State → Outcome → Prop} {g g' : JFrame} (q : g = g') (k : own_Go tb e below P T g') : own_Go tb e below P T g := q ▸ k
theorem own_selPriv {z y : MethodName} (hz : z.cls = y.cls) (hs : (Cond.selects y.cls z z).before args s = true) (hp : s.PrivateAt y) (hi : (Cond.instanceMethod y).before args s = true) (hy : y.cls ≠ "java/lang/invoke/MethodHandle" ∧ y.cls ≠ "java/lang/invoke/VarHandle") : (Cond.selects y.cls y y).before args s = true := by
  obtain ⟨c, r, m, h1, -, h3, -, k, h5, h6⟩ := Cond.selects_spec hs
  exact selects_self_of_private (hz ▸ findClass_of_methodNamed h3) h5 h6 hp hi hy
end New
end Jvm.RoadKit
namespace Jvm.Pilot.@@N@@
open Jvm Jvm.ClassFile Sem Op Lib Jvm.Free Jvm.Stand Jvm.LawKit Jvm.RoadKit Bundle Jvm.Pilot.@@N@@.Jvm.D
theorem d1_0 : decode prog_79_method_1_code 0 = .ok (.aload_n 0, 1) := by decide +kernel
theorem d1_1 : decode prog_79_method_1_code 1 = .ok (.invokespecial 1, 3) := by decide +kernel
theorem d1_4 : decode prog_79_method_1_code 4 = .ok (.aload_n 0, 1) := by decide +kernel
theorem d1_5 : decode prog_79_method_1_code 5 = .ok (.ldc2_w 9, 3) := by decide +kernel
theorem d1_8 : decode prog_79_method_1_code 8 = .ok (.putfield 11, 3) := by decide +kernel
theorem d1_11 : decode prog_79_method_1_code 11 = .ok (.return_, 1) := by decide +kernel
theorem pn_0 : plainName "com/example/kirchberg/kirchberg/model/pattern/PatternBudget" = true := by first | (simp [plainName, overriddenIn]; done) | decide +kernel
theorem ef_1 (m : MethodId) (a1 : Addr) : entryFrame m #[(.ref a1)] 1 = mkF m 0 #[.val (.ref a1)] [] := by first | (simp [entryFrame, mkF, argsToLocals, Value.category]; done) | rfl
def Q1 (Z : State) (a1 : Addr) (u_left_a1 : Value) (h0 : Heap) (n0 : Nat) (v : Option Value) (h : Heap) (L : List Loc) : Prop := v = none ∧ Fr n0 L ∧ Keep h0 h [a1] ∧ Exa Z h a1 "com/example/kirchberg/kirchberg/model/pattern/PatternBudget" ∧ Fld Z h a1 "com/example/kirchberg/kirchberg/model/pattern/PatternBudget" "left" "J" (.long (100000000 : Int64))
set_option maxRecDepth 65536 in
set_option maxHeartbeats 40000000 in
theorem rm1 (l : Launch) (Z : State) (a0 : Array Value) (hw : ∀ d ∈ tables_1, d.before a0 Z = true) (ws : List Jvm.Cond) (a1 : Addr) (u_left_a1 : Value) (h0 : Heap) (n0 : Nat) (Z0 : n0 ≤ h0.size) (E_a1 : Exa Z h0 a1 "com/example/kirchberg/kirchberg/model/pattern/PatternBudget") (F_a1_left : Fld Z h0 a1 "com/example/kirchberg/kirchberg/model/pattern/PatternBudget" "left" "J" u_left_a1) (g_a1 : n0 ≤ a1) :
    MetFree l (⟨"com/example/kirchberg/kirchberg/model/pattern/PatternBudget", "<init>", "()V"⟩ : MethodName) (head1 (Jvm.Cond.code (⟨"com/example/kirchberg/kirchberg/model/pattern/PatternBudget", "<init>", "()V"⟩ : MethodName) prog_79_method_1_code 1 none :: ws) ({ frames := 1, cells := 0, slots := 0, locals := 12 } : Room)) (fun a U => a = #[(.ref a1)] ∧ Z.Warmed39 U.vm ∧ U.heap = h0) (fun _ _ _ _ _ => True) (fun _ U o U' => ∃ v L, o = .returned v ∧ Q1 Z a1 u_left_a1 h0 n0 v U'.heap L ∧ FrameEnd U o U' L ({ frames := 1, cells := 0, slots := 0, locals := 12 } : Room).cells ({ frames := 1, cells := 0, slots := 0, locals := 12 } : Room).slots) := by
  refine MetFree.of_bodySF (plainFor_of_name pn_0) hisR ?_
  intro p e s m args below meth c s₁ Bd hml0 hP hK
  obtain ⟨rfl, hZ, hh⟩ := hP
  have hx := Bd.exec
  have hby := Bd.bytes
  have hml : c.maxLocals = 1 := hml0
  have hown : s.vm.findClass "com/example/kirchberg/kirchberg/model/pattern/PatternBudget" = some m.cls := findClass_of_methodNamed Bd.named
  have hnm := (name_of_methodNamed Bd.named Bd.method).1
  have X0 : Stand p l e ({ frames := 1, cells := 0, slots := 0, locals := 12 } : Room) s m #[(.ref a1)] below meth c s₁ [] 0 0 := Stand.of_body Bd
  have e0 : s₁.heap = h0 := by rw [← hh, Bd.state]; rfl
  have NN := Fr.nil n0
  have KK : Keep h0 h0 [a1] := Keep.refl h0 [a1]
  refine own_start (ef_1 m a1) ?_
  refine own_go (T' := s₁) (g' := (mkF m 1 #[.val (.ref a1)] [(.ref a1)])) (fun t k => ?_) ?_
  · show Steps p.tables e below (s₁.setTop (mkF m 0 #[.val (.ref a1)] [])) _
    refine XS.aloadN X0.here hx rfl (hb hby d1_0) rfl rfl ?_
    exact k
  obtain ⟨T1, X1, e1, st1⟩ := initO X0 hx hZ hown (hw _ (List.mem_of_getElem? (i := 7) rfl)) (hw _ (List.mem_of_getElem? (i := 8) rfl)) (hw _ (List.mem_of_getElem? (i := 9) rfl)) e0 (g := (mkF m 1 #[.val (.ref a1)] [(.ref a1)])) rfl (by rw [hml]; rfl) rfl (hb hby d1_1) (by decide) (W := 0) (by show 2 * 0 + _ ≤ _; exact Nat.le_of_eq rfl) (by decide)
  refine own_go st1 ?_
  show own_Go p.tables e below _ T1 (mkF m 4 #[.val (.ref a1)] [])
  refine own_go (T' := T1) (g' := (mkF m 8 #[.val (.ref a1)] [(.long (100000000 : Int64)), (.ref a1)])) (fun t k => ?_) ?_
  · show Steps p.tables e below (T1.setTop (mkF m 4 #[.val (.ref a1)] [])) _
    refine XS.aloadN X1.here hx rfl (hb hby d1_4) rfl rfl ?_
    show Steps p.tables e below (T1.setTop (mkF m 5 #[.val (.ref a1)] [(.ref a1)])) _
    refine X1.ldc2Long hx hown (mvT hZ (hw _ (List.mem_of_getElem? (i := 10) rfl))) (g := (mkF m 5 #[.val (.ref a1)] [(.ref a1)])) rfl (hb hby d1_5) _ ?_
    exact k
  obtain ⟨T2, h2, X2, e2, W2, st2⟩ := putF X1 hx hZ hown (host := "") (Or.inl (hw _ (List.mem_of_getElem? (i := 11) rfl))) Via.refl e1 F_a1_left E_a1 (Or.inl (hw _ (List.mem_of_getElem? (i := 12) rfl))) (hw _ (List.mem_of_getElem? (i := 2) rfl)) (ty := .long) (by decide) rfl rfl (g := (mkF m 8 #[.val (.ref a1)] [(.long (100000000 : Int64)), (.ref a1)])) rfl rfl (hb hby d1_8)
  refine own_go st2 ?_
  have E_a1 := E_a1.wr W2
  have F_a1_left := F_a1_left.same W2
  have Z0 := Nat.le_trans Z0 (Keep.of_wr W2).1
  have KK := KK.wr W2 (Or.inl (List.mem_of_getElem? (i := 0) rfl))
  have NN := Fr.snoc X2 NN g_a1
  show own_Go p.tables e below _ T2 (mkF m 11 #[.val (.ref a1)] [])
  obtain ⟨fs, hr, hrun, hended, hW, hsame⟩ := X2.leave (v := none) (fun _ => rfl)
  refine ⟨_, _, ?_, hrun, hended, _, _, rfl, ?_, ⟨_, rfl⟩, hW, hsame.mono (by decide) (by decide)⟩
  · exact X2.returnOut hx Bd.returns (hb hby d1_11) hr
  · show Q1 Z a1 u_left_a1 h0 n0 _ T2.heap _
    rw [e2]
    exact ⟨rfl, NN, KK, E_a1, F_a1_left⟩
theorem d3_0 : decode prog_79_method_3_code 0 = .ok (.aload_n 0, 1) := by decide +kernel
theorem d3_1 : decode prog_79_method_3_code 1 = .ok (.getfield 11, 3) := by decide +kernel
theorem d3_4 : decode prog_79_method_3_code 4 = .ok (.lconst 0, 1) := by decide +kernel
theorem d3_5 : decode prog_79_method_3_code 5 = .ok (.lcmp, 1) := by decide +kernel
theorem d3_6 : decode prog_79_method_3_code 6 = .ok (.ifCond .ne 7, 3) := by decide +kernel
theorem d3_9 : decode prog_79_method_3_code 9 = .ok (.iconst 1, 1) := by decide +kernel
theorem d3_10 : decode prog_79_method_3_code 10 = .ok (.goto 4, 3) := by decide +kernel
theorem d3_13 : decode prog_79_method_3_code 13 = .ok (.iconst 0, 1) := by decide +kernel
theorem d3_14 : decode prog_79_method_3_code 14 = .ok (.ireturn, 1) := by decide +kernel
theorem ef_3 (m : MethodId) (a1 : Addr) : entryFrame m #[(.ref a1)] 1 = mkF m 0 #[.val (.ref a1)] [] := by first | (simp [entryFrame, mkF, argsToLocals, Value.category]; done) | rfl
def r_3 (w_left_a1 : Int64) : Int32 := (((if w_left_a1 = (0 : Int64) then (1 : Int32) else (0 : Int32))) &&& 1)
def Q3 (Z : State) (a1 : Addr) (w_left_a1 : Int64) (h0 : Heap) (n0 : Nat) (v : Option Value) (h : Heap) (L : List Loc) : Prop := v = some (.int (r_3 w_left_a1)) ∧ Fr n0 L ∧ h = h0
set_option maxRecDepth 65536 in
set_option maxHeartbeats 40000000 in
theorem rm3 (l : Launch) (Z : State) (a0 : Array Value) (hw : ∀ d ∈ tables_1, d.before a0 Z = true) (ws : List Jvm.Cond) (a1 : Addr) (w_left_a1 : Int64) (h0 : Heap) (n0 : Nat) (Z0 : n0 ≤ h0.size) (F_a1_left : Fld Z h0 a1 "com/example/kirchberg/kirchberg/model/pattern/PatternBudget" "left" "J" (.long w_left_a1)) :
    MetFree l (⟨"com/example/kirchberg/kirchberg/model/pattern/PatternBudget", "isSpent", "()Z"⟩ : MethodName) (head1 (Jvm.Cond.code (⟨"com/example/kirchberg/kirchberg/model/pattern/PatternBudget", "isSpent", "()Z"⟩ : MethodName) prog_79_method_3_code 1 (some .boolean) :: ws) ({ frames := 0, cells := 0, slots := 0, locals := 0 } : Room)) (fun a U => a = #[(.ref a1)] ∧ Z.Warmed39 U.vm ∧ U.heap = h0) (fun _ _ _ _ _ => True) (fun _ U o U' => ∃ v L, o = .returned v ∧ Q3 Z a1 w_left_a1 h0 n0 v U'.heap L ∧ FrameEnd U o U' L ({ frames := 0, cells := 0, slots := 0, locals := 0 } : Room).cells ({ frames := 0, cells := 0, slots := 0, locals := 0 } : Room).slots) := by
  refine MetFree.of_bodySF (plainFor_of_name pn_0) hisR ?_
  intro p e s m args below meth c s₁ Bd hml0 hP hK
  obtain ⟨rfl, hZ, hh⟩ := hP
  have hx := Bd.exec
  have hby := Bd.bytes
  have hml : c.maxLocals = 1 := hml0
  have hown : s.vm.findClass "com/example/kirchberg/kirchberg/model/pattern/PatternBudget" = some m.cls := findClass_of_methodNamed Bd.named
  have hnm := (name_of_methodNamed Bd.named Bd.method).1
  have X0 : Stand p l e ({ frames := 0, cells := 0, slots := 0, locals := 0 } : Room) s m #[(.ref a1)] below meth c s₁ [] 0 0 := Stand.of_body Bd
  have e0 : s₁.heap = h0 := by rw [← hh, Bd.state]; rfl
  have NN := Fr.nil n0
  have KK : Keep h0 h0 [] := Keep.refl h0 []
  refine own_start (ef_3 m a1) ?_
  refine own_go (T' := s₁) (g' := (mkF m 1 #[.val (.ref a1)] [(.ref a1)])) (fun t k => ?_) ?_
  · show Steps p.tables e below (s₁.setTop (mkF m 0 #[.val (.ref a1)] [])) _
    refine XS.aloadN X0.here hx rfl (hb hby d3_0) rfl rfl ?_
    exact k
  obtain ⟨T1, X1, e1, st1⟩ := getF X0 hx hZ hown (host := "") (Or.inl (hw _ (List.mem_of_getElem? (i := 11) rfl))) Via.refl e0 F_a1_left (g := (mkF m 1 #[.val (.ref a1)] [(.ref a1)])) rfl rfl (hb hby d3_1)
  refine own_go st1 ?_
  show own_Go p.tables e below _ T1 (mkF m 4 #[.val (.ref a1)] [(.long w_left_a1)])
  refine own_go (T' := T1) (g' := (mkF m 6 #[.val (.ref a1)] [(.int (lcmpW w_left_a1 (0 : Int64)))])) (fun t k => ?_) ?_
  · show Steps p.tables e below (T1.setTop (mkF m 4 #[.val (.ref a1)] [(.long w_left_a1)])) _
    refine XS.lconst X1.here hx rfl (hb hby d3_4) ?_
    show Steps p.tables e below (T1.setTop (mkF m 5 #[.val (.ref a1)] [(.long (0 : Int64)), (.long w_left_a1)])) _
    refine XS.lcmp X1.here hx rfl (hb hby d3_5) rfl ?_
    exact k
  obtain ⟨j2, hj2, st3⟩ : ∃ (j2 : Int32), j2 = (if w_left_a1 = (0 : Int64) then (1 : Int32) else (0 : Int32)) ∧ ∀ t, Steps p.tables e below (T1.setTop (mkF m 14 #[.val (.ref a1)] [(.int j2)])) t → Steps p.tables e below (T1.setTop (mkF m 6 #[.val (.ref a1)] [(.int (lcmpW w_left_a1 (0 : Int64)))])) t := by
    by_cases hc6_1 : w_left_a1 = (0 : Int64)
    · skip
      refine ⟨(1 : Int32), (by simp only [if_pos hc6_1]), fun t k => ?_⟩
      show Steps p.tables e below (T1.setTop (mkF m 6 #[.val (.ref a1)] [(.int (lcmpW w_left_a1 (0 : Int64)))])) _
      refine XS.ifNo X1.here hx rfl (hb hby d3_6) rfl ((if0 _ _).trans (teq ((lw_eq w_left_a1 (0 : Int64)).mpr hc6_1)).2) ?_
      show Steps p.tables e below (T1.setTop (mkF m 9 #[.val (.ref a1)] [])) _
      refine XS.iconst X1.here hx rfl (hb hby d3_9) ?_
      show Steps p.tables e below (T1.setTop (mkF m 10 #[.val (.ref a1)] [(.int (1 : Int32))])) _
      refine XS.goto X1.here hx rfl (pc0 := 10) (pc' := 14) rfl (hb hby d3_10) (by decide) (by decide) ?_
      exact k
    · skip
      refine ⟨(0 : Int32), (by simp only [if_neg hc6_1]), fun t k => ?_⟩
      show Steps p.tables e below (T1.setTop (mkF m 6 #[.val (.ref a1)] [(.int (lcmpW w_left_a1 (0 : Int64)))])) _
      refine XS.ifYes X1.here hx rfl (pc0 := 6) (pc' := 13) rfl (hb hby d3_6) rfl ((if0 _ _).trans (feq (fun q => hc6_1 ((lw_eq w_left_a1 (0 : Int64)).mp q))).2) (by decide) (by decide) ?_
      show Steps p.tables e below (T1.setTop (mkF m 13 #[.val (.ref a1)] [])) _
      refine XS.iconst X1.here hx rfl (hb hby d3_13) ?_
      exact k
  refine own_go st3 ?_
  show own_Go p.tables e below _ T1 (mkF m 14 #[.val (.ref a1)] [(.int j2)])
  obtain ⟨fs, hr, hrun, hended, hW, hsame⟩ := X1.leave (v := some (.int (nar .boolean j2))) (fun h => by rw [Bd.returns] at h; cases h)
  refine ⟨_, _, ?_, hrun, hended, _, _, rfl, ?_, ⟨_, rfl⟩, hW, hsame.mono (by decide) (by decide)⟩
  · exact retN X1 hx (t := .boolean) Bd.returns (by simp) (hb hby d3_14) hr
  · show Q3 Z a1 w_left_a1 h0 n0 _ T1.heap _
    rw [e1]
    exact ⟨(by subst hj2; first | (simp only [r_3, own_narZ, own_narC, own_narB]; done) | rfl), NN, rfl⟩
theorem d4_0 : decode method_2_code 0 = .ok (.lload_n 0, 1) := by decide +kernel
theorem d4_1 : decode method_2_code 1 = .ok (.ldc2_w 9, 3) := by decide +kernel
theorem d4_4 : decode method_2_code 4 = .ok (.land, 1) := by decide +kernel
theorem d4_5 : decode method_2_code 5 = .ok (.lstore 5, 2) := by decide +kernel
theorem d4_7 : decode method_2_code 7 = .ok (.iload_n 2, 1) := by decide +kernel
theorem d4_8 : decode method_2_code 8 = .ok (.iconst 3, 1) := by decide +kernel
theorem d4_9 : decode method_2_code 9 = .ok (.iand, 1) := by decide +kernel
theorem d4_10 : decode method_2_code 10 = .ok (.istore 7, 2) := by decide +kernel
theorem d4_12 : decode method_2_code 12 = .ok (.iload 7, 2) := by decide +kernel
theorem d4_14 : decode method_2_code 14 = .ok (.ifCond .ne 6, 3) := by decide +kernel
theorem d4_17 : decode method_2_code 17 = .ok (.lload 5, 2) := by decide +kernel
theorem d4_19 : decode method_2_code 19 = .ok (.lreturn, 1) := by decide +kernel
theorem d4_20 : decode method_2_code 20 = .ok (.iload 7, 2) := by decide +kernel
theorem d4_22 : decode method_2_code 22 = .ok (.iconst 1, 1) := by decide +kernel
theorem d4_23 : decode method_2_code 23 = .ok (.if_icmp .ne 10, 3) := by decide +kernel
theorem d4_26 : decode method_2_code 26 = .ok (.lload 5, 2) := by decide +kernel
theorem d4_28 : decode method_2_code 28 = .ok (.ldc2_w 13, 3) := by decide +kernel
theorem d4_31 : decode method_2_code 31 = .ok (.lrem, 1) := by decide +kernel
theorem d4_32 : decode method_2_code 32 = .ok (.lreturn, 1) := by decide +kernel
theorem d4_33 : decode method_2_code 33 = .ok (.lload_n 3, 1) := by decide +kernel
theorem d4_34 : decode method_2_code 34 = .ok (.lload 5, 2) := by decide +kernel
theorem d4_36 : decode method_2_code 36 = .ok (.ldc2_w 15, 3) := by decide +kernel
theorem d4_39 : decode method_2_code 39 = .ok (.land, 1) := by decide +kernel
theorem d4_40 : decode method_2_code 40 = .ok (.ladd, 1) := by decide +kernel
theorem d4_41 : decode method_2_code 41 = .ok (.lconst 1, 1) := by decide +kernel
theorem d4_42 : decode method_2_code 42 = .ok (.lsub, 1) := by decide +kernel
theorem d4_43 : decode method_2_code 43 = .ok (.lstore 8, 2) := by decide +kernel
theorem d4_45 : decode method_2_code 45 = .ok (.lload 8, 2) := by decide +kernel
theorem d4_47 : decode method_2_code 47 = .ok (.lconst 0, 1) := by decide +kernel
theorem d4_48 : decode method_2_code 48 = .ok (.lcmp, 1) := by decide +kernel
theorem d4_49 : decode method_2_code 49 = .ok (.ifCond .ge 7, 3) := by decide +kernel
theorem d4_52 : decode method_2_code 52 = .ok (.lconst 0, 1) := by decide +kernel
theorem d4_53 : decode method_2_code 53 = .ok (.goto 5, 3) := by decide +kernel
theorem d4_56 : decode method_2_code 56 = .ok (.lload 8, 2) := by decide +kernel
theorem d4_58 : decode method_2_code 58 = .ok (.lreturn, 1) := by decide +kernel
theorem pn_1 : plainName "com/example/kirchberg/kirchberg/model/pattern/PatternBudgetTakePinLaw" = true := by first | (simp [plainName, overriddenIn]; done) | decide +kernel
theorem ef_4 (m : MethodId) (q1 : Int64) (p2 : Int32) (q3 : Int64) : entryFrame m #[(.long q1), (.int p2), (.long q3)] 10 = mkF m 0 #[.val (.long q1), .second, .val (.int p2), .val (.long q3), .second, .unset, .unset, .unset, .unset, .unset] [] := by first | (simp [entryFrame, mkF, argsToLocals, Value.category]; done) | rfl
def r_4 (q1 : Int64) (p2 : Int32) (q3 : Int64) : Int64 := (if (p2 &&& (3 : Int32)) = (0 : Int32) then (q1 &&& (9223372036854775807 : Int64)) else (if (p2 &&& (3 : Int32)) = (1 : Int32) then ((q1 &&& (9223372036854775807 : Int64)) - ((q1 &&& (9223372036854775807 : Int64)) / (100000002 : Int64)) * (100000002 : Int64)) else ((if ((q3 + ((q1 &&& (9223372036854775807 : Int64)) &&& (3 : Int64))) - (1 : Int64)) < (0 : Int64) then (0 : Int64) else ((q3 + ((q1 &&& (9223372036854775807 : Int64)) &&& (3 : Int64))) - (1 : Int64))))))
def Q4 (Z : State) (q1 : Int64) (p2 : Int32) (q3 : Int64) (h0 : Heap) (n0 : Nat) (v : Option Value) (h : Heap) (L : List Loc) : Prop := v = some (.long (r_4 q1 p2 q3)) ∧ Fr n0 L ∧ h = h0
set_option maxRecDepth 65536 in
set_option maxHeartbeats 40000000 in
theorem rm4 (l : Launch) (Z : State) (a0 : Array Value) (hw : ∀ d ∈ tables_1, d.before a0 Z = true) (ws : List Jvm.Cond) (q1 : Int64) (p2 : Int32) (q3 : Int64) (h0 : Heap) (n0 : Nat) (Z0 : n0 ≤ h0.size) :
    MetFree l (⟨"com/example/kirchberg/kirchberg/model/pattern/PatternBudgetTakePinLaw", "pick", "(JIJ)J"⟩ : MethodName) (head1 (Jvm.Cond.code (⟨"com/example/kirchberg/kirchberg/model/pattern/PatternBudgetTakePinLaw", "pick", "(JIJ)J"⟩ : MethodName) method_2_code 10 (some .long) :: ws) ({ frames := 0, cells := 0, slots := 0, locals := 0 } : Room)) (fun a U => a = #[(.long q1), (.int p2), (.long q3)] ∧ Z.Warmed39 U.vm ∧ U.heap = h0) (fun _ _ _ _ _ => True) (fun _ U o U' => ∃ v L, o = .returned v ∧ Q4 Z q1 p2 q3 h0 n0 v U'.heap L ∧ FrameEnd U o U' L ({ frames := 0, cells := 0, slots := 0, locals := 0 } : Room).cells ({ frames := 0, cells := 0, slots := 0, locals := 0 } : Room).slots) := by
  refine MetFree.of_bodySF (plainFor_of_name pn_1) hisR ?_
  intro p e s m args below meth c s₁ Bd hml0 hP hK
  obtain ⟨rfl, hZ, hh⟩ := hP
  have hx := Bd.exec
  have hby := Bd.bytes
  have hml : c.maxLocals = 10 := hml0
  have hown : s.vm.findClass "com/example/kirchberg/kirchberg/model/pattern/PatternBudgetTakePinLaw" = some m.cls := findClass_of_methodNamed Bd.named
  have hnm := (name_of_methodNamed Bd.named Bd.method).1
  have X0 : Stand p l e ({ frames := 0, cells := 0, slots := 0, locals := 0 } : Room) s m #[(.long q1), (.int p2), (.long q3)] below meth c s₁ [] 0 0 := Stand.of_body Bd
  have e0 : s₁.heap = h0 := by rw [← hh, Bd.state]; rfl
  have NN := Fr.nil n0
  have KK : Keep h0 h0 [] := Keep.refl h0 []
  refine own_start (ef_4 m q1 p2 q3) ?_
  refine own_go (T' := s₁) (g' := (mkF m 14 #[.val (.long q1), .second, .val (.int p2), .val (.long q3), .second, .val (.long (q1 &&& (9223372036854775807 : Int64))), .second, .val (.int (p2 &&& (3 : Int32))), .unset, .unset] [(.int (p2 &&& (3 : Int32)))])) (fun t k => ?_) ?_
  · show Steps p.tables e below (s₁.setTop (mkF m 0 #[.val (.long q1), .second, .val (.int p2), .val (.long q3), .second, .unset, .unset, .unset, .unset, .unset] [])) _
    refine XS.lloadN X0.here hx rfl (hb hby d4_0) rfl ?_
    show Steps p.tables e below (s₁.setTop (mkF m 1 #[.val (.long q1), .second, .val (.int p2), .val (.long q3), .second, .unset, .unset, .unset, .unset, .unset] [(.long q1)])) _
    refine X0.ldc2Long hx hown (mvT hZ (hw _ (List.mem_of_getElem? (i := 22) rfl))) (g := (mkF m 1 #[.val (.long q1), .second, .val (.int p2), .val (.long q3), .second, .unset, .unset, .unset, .unset, .unset] [(.long q1)])) rfl (hb hby d4_1) _ ?_
    show Steps p.tables e below (s₁.setTop (mkF m 4 #[.val (.long q1), .second, .val (.int p2), .val (.long q3), .second, .unset, .unset, .unset, .unset, .unset] [(.long (9223372036854775807 : Int64)), (.long q1)])) _
    refine XS.land X0.here hx rfl (hb hby d4_4) rfl ?_
    show Steps p.tables e below (s₁.setTop (mkF m 5 #[.val (.long q1), .second, .val (.int p2), .val (.long q3), .second, .unset, .unset, .unset, .unset, .unset] [(.long (q1 &&& (9223372036854775807 : Int64)))])) _
    refine XS.lstore X0.here hx rfl (hb hby d4_5) rfl (l' := #[.val (.long q1), .second, .val (.int p2), .val (.long q3), .second, .val (.long (q1 &&& (9223372036854775807 : Int64))), .second, .unset, .unset, .unset]) rfl ?_
    show Steps p.tables e below (s₁.setTop (mkF m 7 #[.val (.long q1), .second, .val (.int p2), .val (.long q3), .second, .val (.long (q1 &&& (9223372036854775807 : Int64))), .second, .unset, .unset, .unset] [])) _
    refine XS.iloadN X0.here hx rfl (hb hby d4_7) rfl ?_
    show Steps p.tables e below (s₁.setTop (mkF m 8 #[.val (.long q1), .second, .val (.int p2), .val (.long q3), .second, .val (.long (q1 &&& (9223372036854775807 : Int64))), .second, .unset, .unset, .unset] [(.int p2)])) _
    refine XS.iconst X0.here hx rfl (hb hby d4_8) ?_
    show Steps p.tables e below (s₁.setTop (mkF m 9 #[.val (.long q1), .second, .val (.int p2), .val (.long q3), .second, .val (.long (q1 &&& (9223372036854775807 : Int64))), .second, .unset, .unset, .unset] [(.int (3 : Int32)), (.int p2)])) _
    refine XS.iand X0.here hx rfl (hb hby d4_9) rfl ?_
    show Steps p.tables e below (s₁.setTop (mkF m 10 #[.val (.long q1), .second, .val (.int p2), .val (.long q3), .second, .val (.long (q1 &&& (9223372036854775807 : Int64))), .second, .unset, .unset, .unset] [(.int (p2 &&& (3 : Int32)))])) _
    refine XS.istore X0.here hx rfl (hb hby d4_10) rfl (l' := #[.val (.long q1), .second, .val (.int p2), .val (.long q3), .second, .val (.long (q1 &&& (9223372036854775807 : Int64))), .second, .val (.int (p2 &&& (3 : Int32))), .unset, .unset]) rfl ?_
    show Steps p.tables e below (s₁.setTop (mkF m 12 #[.val (.long q1), .second, .val (.int p2), .val (.long q3), .second, .val (.long (q1 &&& (9223372036854775807 : Int64))), .second, .val (.int (p2 &&& (3 : Int32))), .unset, .unset] [])) _
    refine XS.iload X0.here hx rfl (hb hby d4_12) rfl ?_
    exact k
  by_cases hc14_1 : (p2 &&& (3 : Int32)) = (0 : Int32)
  · skip
    refine own_go (T' := s₁) (g' := (mkF m 19 #[.val (.long q1), .second, .val (.int p2), .val (.long q3), .second, .val (.long (q1 &&& (9223372036854775807 : Int64))), .second, .val (.int (p2 &&& (3 : Int32))), .unset, .unset] [(.long (q1 &&& (9223372036854775807 : Int64)))])) (fun t k => ?_) ?_
    · show Steps p.tables e below (s₁.setTop (mkF m 14 #[.val (.long q1), .second, .val (.int p2), .val (.long q3), .second, .val (.long (q1 &&& (9223372036854775807 : Int64))), .second, .val (.int (p2 &&& (3 : Int32))), .unset, .unset] [(.int (p2 &&& (3 : Int32)))])) _
      refine XS.ifNo X0.here hx rfl (hb hby d4_14) rfl ((if0 _ _).trans (teq hc14_1).2) ?_
      show Steps p.tables e below (s₁.setTop (mkF m 17 #[.val (.long q1), .second, .val (.int p2), .val (.long q3), .second, .val (.long (q1 &&& (9223372036854775807 : Int64))), .second, .val (.int (p2 &&& (3 : Int32))), .unset, .unset] [])) _
      refine XS.lload X0.here hx rfl (hb hby d4_17) rfl ?_
      exact k
    obtain ⟨fs, hr, hrun, hended, hW, hsame⟩ := X0.leave (v := some (.long (q1 &&& (9223372036854775807 : Int64)))) (fun h => by rw [Bd.returns] at h; cases h)
    refine ⟨_, _, ?_, hrun, hended, _, _, rfl, ?_, ⟨_, rfl⟩, hW, hsame.mono (by decide) (by decide)⟩
    · exact own_retJ X0 hx Bd.returns (hb hby d4_19) hr
    · show Q4 Z q1 p2 q3 h0 n0 _ s₁.heap _
      rw [e0]
      exact ⟨(by simp only [r_4, if_pos hc14_1]), NN, rfl⟩
  · skip
    refine own_go (T' := s₁) (g' := (mkF m 23 #[.val (.long q1), .second, .val (.int p2), .val (.long q3), .second, .val (.long (q1 &&& (9223372036854775807 : Int64))), .second, .val (.int (p2 &&& (3 : Int32))), .unset, .unset] [(.int (1 : Int32)), (.int (p2 &&& (3 : Int32)))])) (fun t k => ?_) ?_
    · show Steps p.tables e below (s₁.setTop (mkF m 14 #[.val (.long q1), .second, .val (.int p2), .val (.long q3), .second, .val (.long (q1 &&& (9223372036854775807 : Int64))), .second, .val (.int (p2 &&& (3 : Int32))), .unset, .unset] [(.int (p2 &&& (3 : Int32)))])) _
      refine XS.ifYes X0.here hx rfl (pc0 := 14) (pc' := 20) rfl (hb hby d4_14) rfl ((if0 _ _).trans (feq hc14_1).2) (by decide) (by decide) ?_
      show Steps p.tables e below (s₁.setTop (mkF m 20 #[.val (.long q1), .second, .val (.int p2), .val (.long q3), .second, .val (.long (q1 &&& (9223372036854775807 : Int64))), .second, .val (.int (p2 &&& (3 : Int32))), .unset, .unset] [])) _
      refine XS.iload X0.here hx rfl (hb hby d4_20) rfl ?_
      show Steps p.tables e below (s₁.setTop (mkF m 22 #[.val (.long q1), .second, .val (.int p2), .val (.long q3), .second, .val (.long (q1 &&& (9223372036854775807 : Int64))), .second, .val (.int (p2 &&& (3 : Int32))), .unset, .unset] [(.int (p2 &&& (3 : Int32)))])) _
      refine XS.iconst X0.here hx rfl (hb hby d4_22) ?_
      exact k
    by_cases hc23_2 : (p2 &&& (3 : Int32)) = (1 : Int32)
    · skip
      refine own_go (T' := s₁) (g' := (mkF m 32 #[.val (.long q1), .second, .val (.int p2), .val (.long q3), .second, .val (.long (q1 &&& (9223372036854775807 : Int64))), .second, .val (.int (p2 &&& (3 : Int32))), .unset, .unset] [(.long ((q1 &&& (9223372036854775807 : Int64)) - ((q1 &&& (9223372036854775807 : Int64)) / (100000002 : Int64)) * (100000002 : Int64)))])) (fun t k => ?_) ?_
      · show Steps p.tables e below (s₁.setTop (mkF m 23 #[.val (.long q1), .second, .val (.int p2), .val (.long q3), .second, .val (.long (q1 &&& (9223372036854775807 : Int64))), .second, .val (.int (p2 &&& (3 : Int32))), .unset, .unset] [(.int (1 : Int32)), (.int (p2 &&& (3 : Int32)))])) _
        refine XS.icmpNo X0.here hx rfl (hb hby d4_23) rfl (teq hc23_2).2 ?_
        show Steps p.tables e below (s₁.setTop (mkF m 26 #[.val (.long q1), .second, .val (.int p2), .val (.long q3), .second, .val (.long (q1 &&& (9223372036854775807 : Int64))), .second, .val (.int (p2 &&& (3 : Int32))), .unset, .unset] [])) _
        refine XS.lload X0.here hx rfl (hb hby d4_26) rfl ?_
        show Steps p.tables e below (s₁.setTop (mkF m 28 #[.val (.long q1), .second, .val (.int p2), .val (.long q3), .second, .val (.long (q1 &&& (9223372036854775807 : Int64))), .second, .val (.int (p2 &&& (3 : Int32))), .unset, .unset] [(.long (q1 &&& (9223372036854775807 : Int64)))])) _
        refine X0.ldc2Long hx hown (mvT hZ (hw _ (List.mem_of_getElem? (i := 29) rfl))) (g := (mkF m 28 #[.val (.long q1), .second, .val (.int p2), .val (.long q3), .second, .val (.long (q1 &&& (9223372036854775807 : Int64))), .second, .val (.int (p2 &&& (3 : Int32))), .unset, .unset] [(.long (q1 &&& (9223372036854775807 : Int64)))])) rfl (hb hby d4_28) _ ?_
        show Steps p.tables e below (s₁.setTop (mkF m 31 #[.val (.long q1), .second, .val (.int p2), .val (.long q3), .second, .val (.long (q1 &&& (9223372036854775807 : Int64))), .second, .val (.int (p2 &&& (3 : Int32))), .unset, .unset] [(.long (100000002 : Int64)), (.long (q1 &&& (9223372036854775807 : Int64)))])) _
        refine XS.lrem X0.here hx rfl (hb hby d4_31) rfl (by decide) ?_
        exact k
      obtain ⟨fs, hr, hrun, hended, hW, hsame⟩ := X0.leave (v := some (.long ((q1 &&& (9223372036854775807 : Int64)) - ((q1 &&& (9223372036854775807 : Int64)) / (100000002 : Int64)) * (100000002 : Int64)))) (fun h => by rw [Bd.returns] at h; cases h)
      refine ⟨_, _, ?_, hrun, hended, _, _, rfl, ?_, ⟨_, rfl⟩, hW, hsame.mono (by decide) (by decide)⟩
      · exact own_retJ X0 hx Bd.returns (hb hby d4_32) hr
      · show Q4 Z q1 p2 q3 h0 n0 _ s₁.heap _
        rw [e0]
        exact ⟨(by simp only [r_4, if_neg hc14_1, if_pos hc23_2]), NN, rfl⟩
    · skip
      refine own_go (T' := s₁) (g' := (mkF m 49 #[.val (.long q1), .second, .val (.int p2), .val (.long q3), .second, .val (.long (q1 &&& (9223372036854775807 : Int64))), .second, .val (.int (p2 &&& (3 : Int32))), .val (.long ((q3 + ((q1 &&& (9223372036854775807 : Int64)) &&& (3 : Int64))) - (1 : Int64))), .second] [(.int (lcmpW ((q3 + ((q1 &&& (9223372036854775807 : Int64)) &&& (3 : Int64))) - (1 : Int64)) (0 : Int64)))])) (fun t k => ?_) ?_
      · show Steps p.tables e below (s₁.setTop (mkF m 23 #[.val (.long q1), .second, .val (.int p2), .val (.long q3), .second, .val (.long (q1 &&& (9223372036854775807 : Int64))), .second, .val (.int (p2 &&& (3 : Int32))), .unset, .unset] [(.int (1 : Int32)), (.int (p2 &&& (3 : Int32)))])) _
        refine XS.icmpYes X0.here hx rfl (pc0 := 23) (pc' := 33) rfl (hb hby d4_23) rfl (feq hc23_2).2 (by decide) (by decide) ?_
        show Steps p.tables e below (s₁.setTop (mkF m 33 #[.val (.long q1), .second, .val (.int p2), .val (.long q3), .second, .val (.long (q1 &&& (9223372036854775807 : Int64))), .second, .val (.int (p2 &&& (3 : Int32))), .unset, .unset] [])) _
        refine XS.lloadN X0.here hx rfl (hb hby d4_33) rfl ?_
        show Steps p.tables e below (s₁.setTop (mkF m 34 #[.val (.long q1), .second, .val (.int p2), .val (.long q3), .second, .val (.long (q1 &&& (9223372036854775807 : Int64))), .second, .val (.int (p2 &&& (3 : Int32))), .unset, .unset] [(.long q3)])) _
        refine XS.lload X0.here hx rfl (hb hby d4_34) rfl ?_
        show Steps p.tables e below (s₁.setTop (mkF m 36 #[.val (.long q1), .second, .val (.int p2), .val (.long q3), .second, .val (.long (q1 &&& (9223372036854775807 : Int64))), .second, .val (.int (p2 &&& (3 : Int32))), .unset, .unset] [(.long (q1 &&& (9223372036854775807 : Int64))), (.long q3)])) _
        refine X0.ldc2Long hx hown (mvT hZ (hw _ (List.mem_of_getElem? (i := 28) rfl))) (g := (mkF m 36 #[.val (.long q1), .second, .val (.int p2), .val (.long q3), .second, .val (.long (q1 &&& (9223372036854775807 : Int64))), .second, .val (.int (p2 &&& (3 : Int32))), .unset, .unset] [(.long (q1 &&& (9223372036854775807 : Int64))), (.long q3)])) rfl (hb hby d4_36) _ ?_
        show Steps p.tables e below (s₁.setTop (mkF m 39 #[.val (.long q1), .second, .val (.int p2), .val (.long q3), .second, .val (.long (q1 &&& (9223372036854775807 : Int64))), .second, .val (.int (p2 &&& (3 : Int32))), .unset, .unset] [(.long (3 : Int64)), (.long (q1 &&& (9223372036854775807 : Int64))), (.long q3)])) _
        refine XS.land X0.here hx rfl (hb hby d4_39) rfl ?_
        show Steps p.tables e below (s₁.setTop (mkF m 40 #[.val (.long q1), .second, .val (.int p2), .val (.long q3), .second, .val (.long (q1 &&& (9223372036854775807 : Int64))), .second, .val (.int (p2 &&& (3 : Int32))), .unset, .unset] [(.long ((q1 &&& (9223372036854775807 : Int64)) &&& (3 : Int64))), (.long q3)])) _
        refine XS.ladd X0.here hx rfl (hb hby d4_40) rfl ?_
        show Steps p.tables e below (s₁.setTop (mkF m 41 #[.val (.long q1), .second, .val (.int p2), .val (.long q3), .second, .val (.long (q1 &&& (9223372036854775807 : Int64))), .second, .val (.int (p2 &&& (3 : Int32))), .unset, .unset] [(.long (q3 + ((q1 &&& (9223372036854775807 : Int64)) &&& (3 : Int64))))])) _
        refine XS.lconst X0.here hx rfl (hb hby d4_41) ?_
        show Steps p.tables e below (s₁.setTop (mkF m 42 #[.val (.long q1), .second, .val (.int p2), .val (.long q3), .second, .val (.long (q1 &&& (9223372036854775807 : Int64))), .second, .val (.int (p2 &&& (3 : Int32))), .unset, .unset] [(.long (1 : Int64)), (.long (q3 + ((q1 &&& (9223372036854775807 : Int64)) &&& (3 : Int64))))])) _
        refine XS.lsub X0.here hx rfl (hb hby d4_42) rfl ?_
        show Steps p.tables e below (s₁.setTop (mkF m 43 #[.val (.long q1), .second, .val (.int p2), .val (.long q3), .second, .val (.long (q1 &&& (9223372036854775807 : Int64))), .second, .val (.int (p2 &&& (3 : Int32))), .unset, .unset] [(.long ((q3 + ((q1 &&& (9223372036854775807 : Int64)) &&& (3 : Int64))) - (1 : Int64)))])) _
        refine XS.lstore X0.here hx rfl (hb hby d4_43) rfl (l' := #[.val (.long q1), .second, .val (.int p2), .val (.long q3), .second, .val (.long (q1 &&& (9223372036854775807 : Int64))), .second, .val (.int (p2 &&& (3 : Int32))), .val (.long ((q3 + ((q1 &&& (9223372036854775807 : Int64)) &&& (3 : Int64))) - (1 : Int64))), .second]) rfl ?_
        show Steps p.tables e below (s₁.setTop (mkF m 45 #[.val (.long q1), .second, .val (.int p2), .val (.long q3), .second, .val (.long (q1 &&& (9223372036854775807 : Int64))), .second, .val (.int (p2 &&& (3 : Int32))), .val (.long ((q3 + ((q1 &&& (9223372036854775807 : Int64)) &&& (3 : Int64))) - (1 : Int64))), .second] [])) _
        refine XS.lload X0.here hx rfl (hb hby d4_45) rfl ?_
        show Steps p.tables e below (s₁.setTop (mkF m 47 #[.val (.long q1), .second, .val (.int p2), .val (.long q3), .second, .val (.long (q1 &&& (9223372036854775807 : Int64))), .second, .val (.int (p2 &&& (3 : Int32))), .val (.long ((q3 + ((q1 &&& (9223372036854775807 : Int64)) &&& (3 : Int64))) - (1 : Int64))), .second] [(.long ((q3 + ((q1 &&& (9223372036854775807 : Int64)) &&& (3 : Int64))) - (1 : Int64)))])) _
        refine XS.lconst X0.here hx rfl (hb hby d4_47) ?_
        show Steps p.tables e below (s₁.setTop (mkF m 48 #[.val (.long q1), .second, .val (.int p2), .val (.long q3), .second, .val (.long (q1 &&& (9223372036854775807 : Int64))), .second, .val (.int (p2 &&& (3 : Int32))), .val (.long ((q3 + ((q1 &&& (9223372036854775807 : Int64)) &&& (3 : Int64))) - (1 : Int64))), .second] [(.long (0 : Int64)), (.long ((q3 + ((q1 &&& (9223372036854775807 : Int64)) &&& (3 : Int64))) - (1 : Int64)))])) _
        refine XS.lcmp X0.here hx rfl (hb hby d4_48) rfl ?_
        exact k
      obtain ⟨j1, hj1, st2⟩ : ∃ (j1 : Int64), j1 = (if ((q3 + ((q1 &&& (9223372036854775807 : Int64)) &&& (3 : Int64))) - (1 : Int64)) < (0 : Int64) then (0 : Int64) else ((q3 + ((q1 &&& (9223372036854775807 : Int64)) &&& (3 : Int64))) - (1 : Int64))) ∧ ∀ t, Steps p.tables e below (s₁.setTop (mkF m 58 #[.val (.long q1), .second, .val (.int p2), .val (.long q3), .second, .val (.long (q1 &&& (9223372036854775807 : Int64))), .second, .val (.int (p2 &&& (3 : Int32))), .val (.long ((q3 + ((q1 &&& (9223372036854775807 : Int64)) &&& (3 : Int64))) - (1 : Int64))), .second] [(.long j1)])) t → Steps p.tables e below (s₁.setTop (mkF m 49 #[.val (.long q1), .second, .val (.int p2), .val (.long q3), .second, .val (.long (q1 &&& (9223372036854775807 : Int64))), .second, .val (.int (p2 &&& (3 : Int32))), .val (.long ((q3 + ((q1 &&& (9223372036854775807 : Int64)) &&& (3 : Int64))) - (1 : Int64))), .second] [(.int (lcmpW ((q3 + ((q1 &&& (9223372036854775807 : Int64)) &&& (3 : Int64))) - (1 : Int64)) (0 : Int64)))])) t := by
        by_cases hc49_3 : ((q3 + ((q1 &&& (9223372036854775807 : Int64)) &&& (3 : Int64))) - (1 : Int64)) < (0 : Int64)
        · skip
          refine ⟨(0 : Int64), (by simp only [if_pos hc49_3]), fun t k => ?_⟩
          show Steps p.tables e below (s₁.setTop (mkF m 49 #[.val (.long q1), .second, .val (.int p2), .val (.long q3), .second, .val (.long (q1 &&& (9223372036854775807 : Int64))), .second, .val (.int (p2 &&& (3 : Int32))), .val (.long ((q3 + ((q1 &&& (9223372036854775807 : Int64)) &&& (3 : Int64))) - (1 : Int64))), .second] [(.int (lcmpW ((q3 + ((q1 &&& (9223372036854775807 : Int64)) &&& (3 : Int64))) - (1 : Int64)) (0 : Int64)))])) _
          refine XS.ifNo X0.here hx rfl (hb hby d4_49) rfl ((if0 _ _).trans (tlt ((lw_lt ((q3 + ((q1 &&& (9223372036854775807 : Int64)) &&& (3 : Int64))) - (1 : Int64)) (0 : Int64)).mpr hc49_3)).2.1) ?_
          show Steps p.tables e below (s₁.setTop (mkF m 52 #[.val (.long q1), .second, .val (.int p2), .val (.long q3), .second, .val (.long (q1 &&& (9223372036854775807 : Int64))), .second, .val (.int (p2 &&& (3 : Int32))), .val (.long ((q3 + ((q1 &&& (9223372036854775807 : Int64)) &&& (3 : Int64))) - (1 : Int64))), .second] [])) _
          refine XS.lconst X0.here hx rfl (hb hby d4_52) ?_
          show Steps p.tables e below (s₁.setTop (mkF m 53 #[.val (.long q1), .second, .val (.int p2), .val (.long q3), .second, .val (.long (q1 &&& (9223372036854775807 : Int64))), .second, .val (.int (p2 &&& (3 : Int32))), .val (.long ((q3 + ((q1 &&& (9223372036854775807 : Int64)) &&& (3 : Int64))) - (1 : Int64))), .second] [(.long (0 : Int64))])) _
          refine XS.goto X0.here hx rfl (pc0 := 53) (pc' := 58) rfl (hb hby d4_53) (by decide) (by decide) ?_
          exact k
        · skip
          refine ⟨((q3 + ((q1 &&& (9223372036854775807 : Int64)) &&& (3 : Int64))) - (1 : Int64)), (by simp only [if_neg hc49_3]), fun t k => ?_⟩
          show Steps p.tables e below (s₁.setTop (mkF m 49 #[.val (.long q1), .second, .val (.int p2), .val (.long q3), .second, .val (.long (q1 &&& (9223372036854775807 : Int64))), .second, .val (.int (p2 &&& (3 : Int32))), .val (.long ((q3 + ((q1 &&& (9223372036854775807 : Int64)) &&& (3 : Int64))) - (1 : Int64))), .second] [(.int (lcmpW ((q3 + ((q1 &&& (9223372036854775807 : Int64)) &&& (3 : Int64))) - (1 : Int64)) (0 : Int64)))])) _
          refine XS.ifYes X0.here hx rfl (pc0 := 49) (pc' := 56) rfl (hb hby d4_49) rfl ((if0 _ _).trans (flt (fun q => hc49_3 ((lw_lt ((q3 + ((q1 &&& (9223372036854775807 : Int64)) &&& (3 : Int64))) - (1 : Int64)) (0 : Int64)).mp q))).2.1) (by decide) (by decide) ?_
          show Steps p.tables e below (s₁.setTop (mkF m 56 #[.val (.long q1), .second, .val (.int p2), .val (.long q3), .second, .val (.long (q1 &&& (9223372036854775807 : Int64))), .second, .val (.int (p2 &&& (3 : Int32))), .val (.long ((q3 + ((q1 &&& (9223372036854775807 : Int64)) &&& (3 : Int64))) - (1 : Int64))), .second] [])) _
          refine XS.lload X0.here hx rfl (hb hby d4_56) rfl ?_
          exact k
      refine own_go st2 ?_
      show own_Go p.tables e below _ s₁ (mkF m 58 #[.val (.long q1), .second, .val (.int p2), .val (.long q3), .second, .val (.long (q1 &&& (9223372036854775807 : Int64))), .second, .val (.int (p2 &&& (3 : Int32))), .val (.long ((q3 + ((q1 &&& (9223372036854775807 : Int64)) &&& (3 : Int64))) - (1 : Int64))), .second] [(.long j1)])
      obtain ⟨fs, hr, hrun, hended, hW, hsame⟩ := X0.leave (v := some (.long j1)) (fun h => by rw [Bd.returns] at h; cases h)
      refine ⟨_, _, ?_, hrun, hended, _, _, rfl, ?_, ⟨_, rfl⟩, hW, hsame.mono (by decide) (by decide)⟩
      · exact own_retJ X0 hx Bd.returns (hb hby d4_58) hr
      · show Q4 Z q1 p2 q3 h0 n0 _ s₁.heap _
        rw [e0]
        exact ⟨(by subst hj1; simp only [r_4, if_neg hc14_1, if_neg hc23_2]), NN, rfl⟩
theorem d5_0 : decode prog_79_method_2_code 0 = .ok (.lload_n 1, 1) := by decide +kernel
theorem d5_1 : decode prog_79_method_2_code 1 = .ok (.aload_n 0, 1) := by decide +kernel
theorem d5_2 : decode prog_79_method_2_code 2 = .ok (.getfield 11, 3) := by decide +kernel
theorem d5_5 : decode prog_79_method_2_code 5 = .ok (.lcmp, 1) := by decide +kernel
theorem d5_6 : decode prog_79_method_2_code 6 = .ok (.ifCond .gt 7, 3) := by decide +kernel
theorem d5_9 : decode prog_79_method_2_code 9 = .ok (.iconst 1, 1) := by decide +kernel
theorem d5_10 : decode prog_79_method_2_code 10 = .ok (.goto 4, 3) := by decide +kernel
theorem d5_13 : decode prog_79_method_2_code 13 = .ok (.iconst 0, 1) := by decide +kernel
theorem d5_14 : decode prog_79_method_2_code 14 = .ok (.istore_n 3, 1) := by decide +kernel
theorem d5_15 : decode prog_79_method_2_code 15 = .ok (.aload_n 0, 1) := by decide +kernel
theorem d5_16 : decode prog_79_method_2_code 16 = .ok (.iload_n 3, 1) := by decide +kernel
theorem d5_17 : decode prog_79_method_2_code 17 = .ok (.ifCond .eq 12, 3) := by decide +kernel
theorem d5_20 : decode prog_79_method_2_code 20 = .ok (.aload_n 0, 1) := by decide +kernel
theorem d5_21 : decode prog_79_method_2_code 21 = .ok (.getfield 11, 3) := by decide +kernel
theorem d5_24 : decode prog_79_method_2_code 24 = .ok (.lload_n 1, 1) := by decide +kernel
theorem d5_25 : decode prog_79_method_2_code 25 = .ok (.lsub, 1) := by decide +kernel
theorem d5_26 : decode prog_79_method_2_code 26 = .ok (.goto 4, 3) := by decide +kernel
theorem d5_29 : decode prog_79_method_2_code 29 = .ok (.lconst 0, 1) := by decide +kernel
theorem d5_30 : decode prog_79_method_2_code 30 = .ok (.putfield 11, 3) := by decide +kernel
theorem d5_33 : decode prog_79_method_2_code 33 = .ok (.iload_n 3, 1) := by decide +kernel
theorem d5_34 : decode prog_79_method_2_code 34 = .ok (.ireturn, 1) := by decide +kernel
theorem ef_5 (m : MethodId) (a1 : Addr) (q2 : Int64) : entryFrame m #[(.ref a1), (.long q2)] 4 = mkF m 0 #[.val (.ref a1), .val (.long q2), .second, .unset] [] := by first | (simp [entryFrame, mkF, argsToLocals, Value.category]; done) | rfl
def r_5 (q2 : Int64) (w_left_a1 : Int64) : Int32 := (if ((if w_left_a1 < q2 then (0 : Int32) else (1 : Int32))) = (0 : Int32) then (((if w_left_a1 < q2 then (0 : Int32) else (1 : Int32))) &&& 1) else (((if w_left_a1 < q2 then (0 : Int32) else (1 : Int32))) &&& 1))
def u_5_a1_left (q2 : Int64) (w_left_a1 : Int64) : Int64 := (if ((if w_left_a1 < q2 then (0 : Int32) else (1 : Int32))) = (0 : Int32) then (0 : Int64) else (w_left_a1 - q2))
def Q5 (Z : State) (a1 : Addr) (q2 : Int64) (w_left_a1 : Int64) (h0 : Heap) (n0 : Nat) (v : Option Value) (h : Heap) (L : List Loc) : Prop := v = some (.int (r_5 q2 w_left_a1)) ∧ Fr n0 L ∧ Keep h0 h [a1] ∧ Exa Z h a1 "com/example/kirchberg/kirchberg/model/pattern/PatternBudget" ∧ Fld Z h a1 "com/example/kirchberg/kirchberg/model/pattern/PatternBudget" "left" "J" (.long (u_5_a1_left q2 w_left_a1))
set_option maxRecDepth 65536 in
set_option maxHeartbeats 40000000 in
theorem rm5 (l : Launch) (Z : State) (a0 : Array Value) (hw : ∀ d ∈ tables_1, d.before a0 Z = true) (ws : List Jvm.Cond) (a1 : Addr) (q2 : Int64) (w_left_a1 : Int64) (h0 : Heap) (n0 : Nat) (Z0 : n0 ≤ h0.size) (F_a1_left : Fld Z h0 a1 "com/example/kirchberg/kirchberg/model/pattern/PatternBudget" "left" "J" (.long w_left_a1)) (E_a1 : Exa Z h0 a1 "com/example/kirchberg/kirchberg/model/pattern/PatternBudget") (g_a1 : n0 ≤ a1) :
    MetFree l (⟨"com/example/kirchberg/kirchberg/model/pattern/PatternBudget", "take", "(J)Z"⟩ : MethodName) (head1 (Jvm.Cond.code (⟨"com/example/kirchberg/kirchberg/model/pattern/PatternBudget", "take", "(J)Z"⟩ : MethodName) prog_79_method_2_code 4 (some .boolean) :: ws) ({ frames := 0, cells := 0, slots := 0, locals := 0 } : Room)) (fun a U => a = #[(.ref a1), (.long q2)] ∧ Z.Warmed39 U.vm ∧ U.heap = h0) (fun _ _ _ _ _ => True) (fun _ U o U' => ∃ v L, o = .returned v ∧ Q5 Z a1 q2 w_left_a1 h0 n0 v U'.heap L ∧ FrameEnd U o U' L ({ frames := 0, cells := 0, slots := 0, locals := 0 } : Room).cells ({ frames := 0, cells := 0, slots := 0, locals := 0 } : Room).slots) := by
  refine MetFree.of_bodySF (plainFor_of_name pn_0) hisR ?_
  intro p e s m args below meth c s₁ Bd hml0 hP hK
  obtain ⟨rfl, hZ, hh⟩ := hP
  have hx := Bd.exec
  have hby := Bd.bytes
  have hml : c.maxLocals = 4 := hml0
  have hown : s.vm.findClass "com/example/kirchberg/kirchberg/model/pattern/PatternBudget" = some m.cls := findClass_of_methodNamed Bd.named
  have hnm := (name_of_methodNamed Bd.named Bd.method).1
  have X0 : Stand p l e ({ frames := 0, cells := 0, slots := 0, locals := 0 } : Room) s m #[(.ref a1), (.long q2)] below meth c s₁ [] 0 0 := Stand.of_body Bd
  have e0 : s₁.heap = h0 := by rw [← hh, Bd.state]; rfl
  have NN := Fr.nil n0
  have KK : Keep h0 h0 [a1] := Keep.refl h0 [a1]
  refine own_start (ef_5 m a1 q2) ?_
  refine own_go (T' := s₁) (g' := (mkF m 2 #[.val (.ref a1), .val (.long q2), .second, .unset] [(.ref a1), (.long q2)])) (fun t k => ?_) ?_
  · show Steps p.tables e below (s₁.setTop (mkF m 0 #[.val (.ref a1), .val (.long q2), .second, .unset] [])) _
    refine XS.lloadN X0.here hx rfl (hb hby d5_0) rfl ?_
    show Steps p.tables e below (s₁.setTop (mkF m 1 #[.val (.ref a1), .val (.long q2), .second, .unset] [(.long q2)])) _
    refine XS.aloadN X0.here hx rfl (hb hby d5_1) rfl rfl ?_
    exact k
  obtain ⟨T1, X1, e1, st1⟩ := getF X0 hx hZ hown (host := "") (Or.inl (hw _ (List.mem_of_getElem? (i := 11) rfl))) Via.refl e0 F_a1_left (g := (mkF m 2 #[.val (.ref a1), .val (.long q2), .second, .unset] [(.ref a1), (.long q2)])) rfl rfl (hb hby d5_2)
  refine own_go st1 ?_
  show own_Go p.tables e below _ T1 (mkF m 5 #[.val (.ref a1), .val (.long q2), .second, .unset] [(.long w_left_a1), (.long q2)])
  refine own_go (T' := T1) (g' := (mkF m 6 #[.val (.ref a1), .val (.long q2), .second, .unset] [(.int (lcmpW q2 w_left_a1))])) (fun t k => ?_) ?_
  · show Steps p.tables e below (T1.setTop (mkF m 5 #[.val (.ref a1), .val (.long q2), .second, .unset] [(.long w_left_a1), (.long q2)])) _
    refine XS.lcmp X1.here hx rfl (hb hby d5_5) rfl ?_
    exact k
  obtain ⟨j2, hj2, st3⟩ : ∃ (j2 : Int32), j2 = (if w_left_a1 < q2 then (0 : Int32) else (1 : Int32)) ∧ ∀ t, Steps p.tables e below (T1.setTop (mkF m 14 #[.val (.ref a1), .val (.long q2), .second, .unset] [(.int j2)])) t → Steps p.tables e below (T1.setTop (mkF m 6 #[.val (.ref a1), .val (.long q2), .second, .unset] [(.int (lcmpW q2 w_left_a1))])) t := by
    by_cases hc6_1 : w_left_a1 < q2
    · skip
      refine ⟨(0 : Int32), (by simp only [if_pos hc6_1]), fun t k => ?_⟩
      show Steps p.tables e below (T1.setTop (mkF m 6 #[.val (.ref a1), .val (.long q2), .second, .unset] [(.int (lcmpW q2 w_left_a1))])) _
      refine XS.ifYes X1.here hx rfl (pc0 := 6) (pc' := 13) rfl (hb hby d5_6) rfl ((if0 _ _).trans (tlt ((lw_gt q2 w_left_a1).mpr hc6_1)).2.2.1) (by decide) (by decide) ?_
      show Steps p.tables e below (T1.setTop (mkF m 13 #[.val (.ref a1), .val (.long q2), .second, .unset] [])) _
      refine XS.iconst X1.here hx rfl (hb hby d5_13) ?_
      exact k
    · skip
      refine ⟨(1 : Int32), (by simp only [if_neg hc6_1]), fun t k => ?_⟩
      show Steps p.tables e below (T1.setTop (mkF m 6 #[.val (.ref a1), .val (.long q2), .second, .unset] [(.int (lcmpW q2 w_left_a1))])) _
      refine XS.ifNo X1.here hx rfl (hb hby d5_6) rfl ((if0 _ _).trans (flt (fun q => hc6_1 ((lw_gt q2 w_left_a1).mp q))).2.2.1) ?_
      show Steps p.tables e below (T1.setTop (mkF m 9 #[.val (.ref a1), .val (.long q2), .second, .unset] [])) _
      refine XS.iconst X1.here hx rfl (hb hby d5_9) ?_
      show Steps p.tables e below (T1.setTop (mkF m 10 #[.val (.ref a1), .val (.long q2), .second, .unset] [(.int (1 : Int32))])) _
      refine XS.goto X1.here hx rfl (pc0 := 10) (pc' := 14) rfl (hb hby d5_10) (by decide) (by decide) ?_
      exact k
  refine own_go st3 ?_
  show own_Go p.tables e below _ T1 (mkF m 14 #[.val (.ref a1), .val (.long q2), .second, .unset] [(.int j2)])
  refine own_go (T' := T1) (g' := (mkF m 17 #[.val (.ref a1), .val (.long q2), .second, .val (.int j2)] [(.int j2), (.ref a1)])) (fun t k => ?_) ?_
  · show Steps p.tables e below (T1.setTop (mkF m 14 #[.val (.ref a1), .val (.long q2), .second, .unset] [(.int j2)])) _
    refine XS.istoreN X1.here hx rfl (hb hby d5_14) rfl (l' := #[.val (.ref a1), .val (.long q2), .second, .val (.int j2)]) rfl ?_
    show Steps p.tables e below (T1.setTop (mkF m 15 #[.val (.ref a1), .val (.long q2), .second, .val (.int j2)] [])) _
    refine XS.aloadN X1.here hx rfl (hb hby d5_15) rfl rfl ?_
    show Steps p.tables e below (T1.setTop (mkF m 16 #[.val (.ref a1), .val (.long q2), .second, .val (.int j2)] [(.ref a1)])) _
    refine XS.iloadN X1.here hx rfl (hb hby d5_16) rfl ?_
    exact k
  by_cases hc17_2 : j2 = (0 : Int32)
  · skip
    refine own_go (T' := T1) (g' := (mkF m 30 #[.val (.ref a1), .val (.long q2), .second, .val (.int j2)] [(.long (0 : Int64)), (.ref a1)])) (fun t k => ?_) ?_
    · show Steps p.tables e below (T1.setTop (mkF m 17 #[.val (.ref a1), .val (.long q2), .second, .val (.int j2)] [(.int j2), (.ref a1)])) _
      refine XS.ifYes X1.here hx rfl (pc0 := 17) (pc' := 29) rfl (hb hby d5_17) rfl ((if0 _ _).trans (teq hc17_2).1) (by decide) (by decide) ?_
      show Steps p.tables e below (T1.setTop (mkF m 29 #[.val (.ref a1), .val (.long q2), .second, .val (.int j2)] [(.ref a1)])) _
      refine XS.lconst X1.here hx rfl (hb hby d5_29) ?_
      exact k
    obtain ⟨T4, h4, X4, e4, W4, st4⟩ := putF X1 hx hZ hown (host := "") (Or.inl (hw _ (List.mem_of_getElem? (i := 11) rfl))) Via.refl e1 F_a1_left E_a1 (Or.inl (hw _ (List.mem_of_getElem? (i := 12) rfl))) (hw _ (List.mem_of_getElem? (i := 2) rfl)) (ty := .long) (by decide) rfl rfl (g := (mkF m 30 #[.val (.ref a1), .val (.long q2), .second, .val (.int j2)] [(.long (0 : Int64)), (.ref a1)])) rfl rfl (hb hby d5_30)
    refine own_go st4 ?_
    have F_a1_left := F_a1_left.same W4
    have E_a1 := E_a1.wr W4
    have Z0 := Nat.le_trans Z0 (Keep.of_wr W4).1
    have KK := KK.wr W4 (Or.inl (List.mem_of_getElem? (i := 0) rfl))
    have NN := Fr.snoc X4 NN g_a1
    show own_Go p.tables e below _ T4 (mkF m 33 #[.val (.ref a1), .val (.long q2), .second, .val (.int j2)] [])
    refine own_go (T' := T4) (g' := (mkF m 34 #[.val (.ref a1), .val (.long q2), .second, .val (.int j2)] [(.int j2)])) (fun t k => ?_) ?_
    · show Steps p.tables e below (T4.setTop (mkF m 33 #[.val (.ref a1), .val (.long q2), .second, .val (.int j2)] [])) _
      refine XS.iloadN X4.here hx rfl (hb hby d5_33) rfl ?_
      exact k
    obtain ⟨fs, hr, hrun, hended, hW, hsame⟩ := X4.leave (v := some (.int (nar .boolean j2))) (fun h => by rw [Bd.returns] at h; cases h)
    refine ⟨_, _, ?_, hrun, hended, _, _, rfl, ?_, ⟨_, rfl⟩, hW, hsame.mono (by decide) (by decide)⟩
    · exact retN X4 hx (t := .boolean) Bd.returns (by simp) (hb hby d5_34) hr
    · show Q5 Z a1 q2 w_left_a1 h0 n0 _ T4.heap _
      rw [e4]
      exact ⟨(by subst hj2; simp only [r_5, if_pos hc17_2, own_narZ, own_narC, own_narB]), NN, KK, E_a1, (by rw [← ((by subst hj2; simp only [u_5_a1_left, if_pos hc17_2]) : (0 : Int64) = u_5_a1_left q2 w_left_a1)]; exact F_a1_left)⟩
  · skip
    refine own_go (T' := T1) (g' := (mkF m 21 #[.val (.ref a1), .val (.long q2), .second, .val (.int j2)] [(.ref a1), (.ref a1)])) (fun t k => ?_) ?_
    · show Steps p.tables e below (T1.setTop (mkF m 17 #[.val (.ref a1), .val (.long q2), .second, .val (.int j2)] [(.int j2), (.ref a1)])) _
      refine XS.ifNo X1.here hx rfl (hb hby d5_17) rfl ((if0 _ _).trans (feq hc17_2).1) ?_
      show Steps p.tables e below (T1.setTop (mkF m 20 #[.val (.ref a1), .val (.long q2), .second, .val (.int j2)] [(.ref a1)])) _
      refine XS.aloadN X1.here hx rfl (hb hby d5_20) rfl rfl ?_
      exact k
    obtain ⟨T5, X5, e5, st5⟩ := getF X1 hx hZ hown (host := "") (Or.inl (hw _ (List.mem_of_getElem? (i := 11) rfl))) Via.refl e1 F_a1_left (g := (mkF m 21 #[.val (.ref a1), .val (.long q2), .second, .val (.int j2)] [(.ref a1), (.ref a1)])) rfl rfl (hb hby d5_21)
    refine own_go st5 ?_
    show own_Go p.tables e below _ T5 (mkF m 24 #[.val (.ref a1), .val (.long q2), .second, .val (.int j2)] [(.long w_left_a1), (.ref a1)])
    refine own_go (T' := T5) (g' := (mkF m 30 #[.val (.ref a1), .val (.long q2), .second, .val (.int j2)] [(.long (w_left_a1 - q2)), (.ref a1)])) (fun t k => ?_) ?_
    · show Steps p.tables e below (T5.setTop (mkF m 24 #[.val (.ref a1), .val (.long q2), .second, .val (.int j2)] [(.long w_left_a1), (.ref a1)])) _
      refine XS.lloadN X5.here hx rfl (hb hby d5_24) rfl ?_
      show Steps p.tables e below (T5.setTop (mkF m 25 #[.val (.ref a1), .val (.long q2), .second, .val (.int j2)] [(.long q2), (.long w_left_a1), (.ref a1)])) _
      refine XS.lsub X5.here hx rfl (hb hby d5_25) rfl ?_
      show Steps p.tables e below (T5.setTop (mkF m 26 #[.val (.ref a1), .val (.long q2), .second, .val (.int j2)] [(.long (w_left_a1 - q2)), (.ref a1)])) _
      refine XS.goto X5.here hx rfl (pc0 := 26) (pc' := 30) rfl (hb hby d5_26) (by decide) (by decide) ?_
      exact k
    obtain ⟨T6, h6, X6, e6, W6, st6⟩ := putF X5 hx hZ hown (host := "") (Or.inl (hw _ (List.mem_of_getElem? (i := 11) rfl))) Via.refl e5 F_a1_left E_a1 (Or.inl (hw _ (List.mem_of_getElem? (i := 12) rfl))) (hw _ (List.mem_of_getElem? (i := 2) rfl)) (ty := .long) (by decide) rfl rfl (g := (mkF m 30 #[.val (.ref a1), .val (.long q2), .second, .val (.int j2)] [(.long (w_left_a1 - q2)), (.ref a1)])) rfl rfl (hb hby d5_30)
    refine own_go st6 ?_
    have F_a1_left := F_a1_left.same W6
    have E_a1 := E_a1.wr W6
    have Z0 := Nat.le_trans Z0 (Keep.of_wr W6).1
    have KK := KK.wr W6 (Or.inl (List.mem_of_getElem? (i := 0) rfl))
    have NN := Fr.snoc X6 NN g_a1
    show own_Go p.tables e below _ T6 (mkF m 33 #[.val (.ref a1), .val (.long q2), .second, .val (.int j2)] [])
    refine own_go (T' := T6) (g' := (mkF m 34 #[.val (.ref a1), .val (.long q2), .second, .val (.int j2)] [(.int j2)])) (fun t k => ?_) ?_
    · show Steps p.tables e below (T6.setTop (mkF m 33 #[.val (.ref a1), .val (.long q2), .second, .val (.int j2)] [])) _
      refine XS.iloadN X6.here hx rfl (hb hby d5_33) rfl ?_
      exact k
    obtain ⟨fs, hr, hrun, hended, hW, hsame⟩ := X6.leave (v := some (.int (nar .boolean j2))) (fun h => by rw [Bd.returns] at h; cases h)
    refine ⟨_, _, ?_, hrun, hended, _, _, rfl, ?_, ⟨_, rfl⟩, hW, hsame.mono (by decide) (by decide)⟩
    · exact retN X6 hx (t := .boolean) Bd.returns (by simp) (hb hby d5_34) hr
    · show Q5 Z a1 q2 w_left_a1 h0 n0 _ T6.heap _
      rw [e6]
      exact ⟨(by subst hj2; simp only [r_5, if_neg hc17_2, own_narZ, own_narC, own_narB]), NN, KK, E_a1, (by rw [← ((by subst hj2; simp only [u_5_a1_left, if_neg hc17_2]) : (w_left_a1 - q2) = u_5_a1_left q2 w_left_a1)]; exact F_a1_left)⟩
theorem own_pl_sp (x : Int64) : r_3 x = if x = 0 then 1 else 0 := by
  simp only [r_3]
  by_cases h : x = 0
  · simp only [if_pos h]; rfl
  · simp only [if_neg h]; rfl
theorem own_pl_tk (s l : Int64) : r_5 s l = if l < s then 0 else 1 := by
  simp only [r_5]
  by_cases h : l < s
  · simp only [if_pos h]; rfl
  · simp only [if_neg h]; rfl
theorem own_pl_lf (s l : Int64) : u_5_a1_left s l = if (if l < s then (0 : Int32) else (1 : Int32)) = (0 : Int32) then (0 : Int64) else (l - s) := rfl
theorem pd_0 : parseMethodDescriptor "()V" = some ⟨[], none⟩ := by decide +kernel
theorem pd_1 : parseMethodDescriptor "()Z" = some ⟨[], some .boolean⟩ := by decide +kernel
theorem pd_2 : parseMethodDescriptor "(JIJ)J" = some ⟨[.long, .int, .long], some .long⟩ := by decide +kernel
theorem pd_3 : parseMethodDescriptor "(J)Z" = some ⟨[.long], some .boolean⟩ := by decide +kernel
theorem ef_0 (m : MethodId) (q1 : Int64) (q2 : Int64) (p3 : Int32) : entryFrame m #[(.long q1), (.long q2), (.int p3)] maxLocals = mkF m 0 #[.val (.long q1), .second, .val (.long q2), .second, .val (.int p3), .unset, .unset, .unset, .unset, .unset, .unset, .unset, .unset, .unset, .unset, .unset, .unset, .unset, .unset, .unset, .unset, .unset, .unset, .unset] [] := by first | (simp [entryFrame, mkF, argsToLocals, Value.category, maxLocals]; done) | rfl
def Q0 (Z : State) (q1 : Int64) (q2 : Int64) (p3 : Int32) (h0 : Heap) (n0 : Nat) (v : Option Value) (h : Heap) (L : List Loc) : Prop := v = some (.int 1) ∧ Fr n0 L
theorem own_yes_x (q1 : Int64) (q2 : Int64) (p3 : Int32) (j4 : Int32) (j7 : Int64) (j9 : Int32) (j10 : Int32) (j12 : Int64) (j15 : Int64) (j17 : Int32) (j18 : Int32) (j20 : Int64) (j23 : Int32) (j25 : Int32) (j27 : Int32) (j28 : Int32) (hj4 : j4 = (if (r_3 (100000000 : Int64)) = (0 : Int32) then (1 : Int32) else (0 : Int32))) (hj7 : j7 = (r_4 q1 p3 (100000000 : Int64))) (hj9 : j9 = (r_5 j7 (100000000 : Int64))) (hj10 : j10 = (if (100000000 : Int64) < j7 then (0 : Int32) else (1 : Int32))) (hj12 : j12 = (if j10 = (0 : Int32) then (0 : Int64) else ((100000000 : Int64) - j7))) (hj15 : j15 = (r_4 q2 ((p3.toUInt32 >>> ((2 : Int32) &&& 31).toUInt32).toInt32) j12)) (hj17 : j17 = (r_5 j15 (u_5_a1_left j7 (100000000 : Int64)))) (hj18 : j18 = (if j12 < j15 then (0 : Int32) else (1 : Int32))) (hj20 : j20 = (if j18 = (0 : Int32) then (0 : Int64) else (j12 - j15))) (hj23 : j23 = (r_3 (u_5_a1_left j15 (u_5_a1_left j7 (100000000 : Int64))))) (hj25 : j25 = (r_5 j20 (u_5_a1_left j15 (u_5_a1_left j7 (100000000 : Int64))))) (hj27 : j27 = (r_3 (u_5_a1_left j20 (u_5_a1_left j15 (u_5_a1_left j7 (100000000 : Int64)))))) (hj28 : j28 = (if j4 = (0 : Int32) then (0 : Int32) else (if j9 = j10 then (if j17 = j18 then (if j20 = (0 : Int64) then (if j23 = (1 : Int32) then (if j25 = (0 : Int32) then (0 : Int32) else (if j27 = (0 : Int32) then (0 : Int32) else (1 : Int32))) else (0 : Int32)) else (if j23 = (0 : Int32) then (if j25 = (0 : Int32) then (0 : Int32) else (if j27 = (0 : Int32) then (0 : Int32) else (1 : Int32))) else (0 : Int32))) else (0 : Int32)) else (0 : Int32)))) : (nar .boolean j28) = 1 := by
  have e12 : u_5_a1_left j7 (100000000 : Int64) = j12 := by rw [hj12, hj10]; rfl
  have e20 : u_5_a1_left j15 j12 = j20 := by rw [hj20, hj18]; rfl
  rw [e12] at hj17 hj23 hj25 hj27
  rw [e20] at hj23 hj25 hj27
  have f4 : ¬ j4 = (0 : Int32) := by rw [hj4]; decide
  have f9 : j9 = j10 := by rw [hj9, hj10, own_pl_tk]
  have f17 : j17 = j18 := by rw [hj17, hj18, own_pl_tk]
  have n : ¬ j20 < j20 := Int64.lt_irrefl
  have f25 : ¬ j25 = (0 : Int32) := by rw [hj25, own_pl_tk, if_neg n]; decide
  have z : u_5_a1_left j20 j20 = 0 := by
    rw [own_pl_lf, if_neg n, if_neg (by decide)]
    exact Int64.sub_self _
  have f27 : ¬ j27 = (0 : Int32) := by rw [hj27, own_pl_sp, z]; decide
  rw [hj28, if_neg f4, if_pos f9, if_pos f17, if_neg f25, if_neg f27]
  rw [own_pl_sp] at hj23
  by_cases q : j20 = (0 : Int64)
  · rw [if_pos q] at hj23
    rw [if_pos q, if_pos hj23]; rfl
  · rw [if_neg q] at hj23
    rw [if_neg q, if_pos hj23]; rfl
set_option maxRecDepth 65536 in
set_option maxHeartbeats 40000000 in
theorem rm0 (l : Launch) (Z : State) (a0 : Array Value) (hw : ∀ d ∈ tables_1, d.before a0 Z = true) (ws : List Jvm.Cond) (q1 : Int64) (q2 : Int64) (p3 : Int32) (h0 : Heap) (n0 : Nat) (Z0 : n0 ≤ h0.size) :
    MetFree l x (head1 (Jvm.Cond.code x code maxLocals ret :: ws) room_1) (fun a U => a = #[(.long q1), (.long q2), (.int p3)] ∧ Z.Warmed39 U.vm ∧ U.heap = h0) (fun _ _ _ _ _ => True) (fun _ U o U' => ∃ v L, o = .returned v ∧ Q0 Z q1 q2 p3 h0 n0 v U'.heap L ∧ FrameEnd U o U' L room_1.cells room_1.slots) := by
  refine MetFree.of_bodySF (plainFor_of_name pn_1) hisR ?_
  intro p e s m args below meth c s₁ Bd hml0 hP hK
  obtain ⟨rfl, hZ, hh⟩ := hP
  have hx := Bd.exec
  have hby := Bd.bytes
  have hml : c.maxLocals = 24 := hml0
  have hown : s.vm.findClass "com/example/kirchberg/kirchberg/model/pattern/PatternBudgetTakePinLaw" = some m.cls := findClass_of_methodNamed Bd.named
  have hnm := (name_of_methodNamed Bd.named Bd.method).1
  have X0 : Stand p l e room_1 s m #[(.long q1), (.long q2), (.int p3)] below meth c s₁ [] 0 0 := Stand.of_body Bd
  have e0 : s₁.heap = h0 := by rw [← hh, Bd.state]; rfl
  have NN := Fr.nil n0
  have KK : Keep h0 h0 [] := Keep.refl h0 []
  refine own_start (ef_0 m q1 q2 p3) ?_
  refine own_go (T' := s₁) (g' := (mkF m 5 #[.val (.long q1), .second, .val (.long q2), .second, .val (.int p3), .val (.long (100000000 : Int64)), .second, .unset, .unset, .unset, .unset, .unset, .unset, .unset, .unset, .unset, .unset, .unset, .unset, .unset, .unset, .unset, .unset, .unset] [])) (fun t k => ?_) ?_
  · show Steps p.tables e below (s₁.setTop (mkF m 0 #[.val (.long q1), .second, .val (.long q2), .second, .val (.int p3), .unset, .unset, .unset, .unset, .unset, .unset, .unset, .unset, .unset, .unset, .unset, .unset, .unset, .unset, .unset, .unset, .unset, .unset, .unset] [])) _
    refine X0.ldc2Long hx hown (mvT hZ (hw _ (List.mem_of_getElem? (i := 0) rfl))) (g := (mkF m 0 #[.val (.long q1), .second, .val (.long q2), .second, .val (.int p3), .unset, .unset, .unset, .unset, .unset, .unset, .unset, .unset, .unset, .unset, .unset, .unset, .unset, .unset, .unset, .unset, .unset, .unset, .unset] [])) rfl (hb hby at_0) _ ?_
    show Steps p.tables e below (s₁.setTop (mkF m 3 #[.val (.long q1), .second, .val (.long q2), .second, .val (.int p3), .unset, .unset, .unset, .unset, .unset, .unset, .unset, .unset, .unset, .unset, .unset, .unset, .unset, .unset, .unset, .unset, .unset, .unset, .unset] [(.long (100000000 : Int64))])) _
    refine XS.lstore X0.here hx rfl (hb hby at_3) rfl (l' := #[.val (.long q1), .second, .val (.long q2), .second, .val (.int p3), .val (.long (100000000 : Int64)), .second, .unset, .unset, .unset, .unset, .unset, .unset, .unset, .unset, .unset, .unset, .unset, .unset, .unset, .unset, .unset, .unset, .unset]) rfl ?_
    exact k
  obtain ⟨T1, h1, X1, e1, E1, A1, D1, -, st1⟩ := newO X0 hx hZ hown (hw _ (List.mem_of_getElem? (i := 1) rfl)) (hw _ (List.mem_of_getElem? (i := 2) rfl)) (hw _ (List.mem_of_getElem? (i := 3) rfl)) e0 (g := (mkF m 5 #[.val (.long q1), .second, .val (.long q2), .second, .val (.int p3), .val (.long (100000000 : Int64)), .second, .unset, .unset, .unset, .unset, .unset, .unset, .unset, .unset, .unset, .unset, .unset, .unset, .unset, .unset, .unset, .unset, .unset] [])) rfl (hb hby at_5) (by decide) (by decide)
  obtain ⟨b1, g1⟩ : ∃ z, z = h0.size := ⟨_, rfl⟩
  rw [← g1] at A1 D1 st1
  have g_b1 : n0 ≤ b1 := Nat.le_trans Z0 (Nat.le_of_eq g1.symm)
  have sz_b1 : h0.size ≤ b1 := Nat.le_trans KK.1 (Nat.le_of_eq g1.symm)
  have Z0 := Nat.le_trans Z0 E1.1
  have KK := KK.ext E1
  have E_b1 := A1
  have F_b1_left : Fld Z h1 b1 "com/example/kirchberg/kirchberg/model/pattern/PatternBudget" "left" "J" (.long (0 : Int64)) := D1 (Or.inl (hw _ (List.mem_of_getElem? (i := 12) rfl))) (ty := .long) (by decide)
  refine own_go st1 ?_
  show own_Go p.tables e below _ T1 (mkF m 8 #[.val (.long q1), .second, .val (.long q2), .second, .val (.int p3), .val (.long (100000000 : Int64)), .second, .unset, .unset, .unset, .unset, .unset, .unset, .unset, .unset, .unset, .unset, .unset, .unset, .unset, .unset, .unset, .unset, .unset] [(.ref b1)])
  refine own_go (T' := T1) (g' := (mkF m 9 #[.val (.long q1), .second, .val (.long q2), .second, .val (.int p3), .val (.long (100000000 : Int64)), .second, .unset, .unset, .unset, .unset, .unset, .unset, .unset, .unset, .unset, .unset, .unset, .unset, .unset, .unset, .unset, .unset, .unset] [(.ref b1), (.ref b1)])) (fun t k => ?_) ?_
  · show Steps p.tables e below (T1.setTop (mkF m 8 #[.val (.long q1), .second, .val (.long q2), .second, .val (.int p3), .val (.long (100000000 : Int64)), .second, .unset, .unset, .unset, .unset, .unset, .unset, .unset, .unset, .unset, .unset, .unset, .unset, .unset, .unset, .unset, .unset, .unset] [(.ref b1)])) _
    refine XS.dup X1.here hx rfl (hb hby at_8) rfl rfl ?_
    exact k
  obtain ⟨_, _, ⟨T2, L2, k2, n2⟩, -, X2, ⟨Lc2, hQ2, l2, y2, z2⟩, st2⟩ := X1.specialBack hx (y := (⟨"com/example/kirchberg/kirchberg/model/pattern/PatternBudget", "<init>", "()V"⟩ : MethodName)) rfl hown (mvT hZ (hw _ (List.mem_of_getElem? (i := 4) rfl))) (mvT hZ (hw _ (List.mem_of_getElem? (i := 5) rfl))) (mvT hZ (hw _ (List.mem_of_getElem? (i := 6) rfl))) (by decide) (backOf (W := 1) (rm1 l Z a0 hw [] b1 (.long (0 : Int64)) h1 n0 Z0 E_b1 F_b1_left g_b1) hZ (hw _ (List.mem_of_getElem? (i := 6) rfl)) (hw _ (List.mem_of_getElem? (i := 3) rfl)) (by decide) (by decide)) (g := (mkF m 9 #[.val (.long q1), .second, .val (.long q2), .second, .val (.int p3), .val (.long (100000000 : Int64)), .second, .unset, .unset, .unset, .unset, .unset, .unset, .unset, .unset, .unset, .unset, .unset, .unset, .unset, .unset, .unset, .unset, .unset] [(.ref b1), (.ref b1)])) rfl (by rw [hml]; rfl) (Steps.refl _) (a := b1) (argsL := []) (rest := [(.ref b1)]) (lenOf pd_0 rfl) rfl (by show 2 * 0 + _ ≤ _; exact Nat.le_of_eq rfl) (hb hby at_9) (fun _ _ => ⟨rfl, e1, (by decide : 1 + 0 ≤ _), (by decide : 1 + 0 ≤ _)⟩)
  dsimp only [Pt.U, Pt.locs, Pt.cells, Pt.slots] at X2 l2 y2 z2 st2 hQ2
  subst l2 y2 z2
  obtain ⟨rfl, N2q, K2, Q2_0, Q2_1⟩ := hQ2
  have E_b1 := Q2_0
  have F_b1_left := Q2_1
  have Z0 := Nat.le_trans Z0 K2.1
  have KK := KK.trans K2 (allS (Or.inr sz_b1) all0)
  have NN := Fr.app NN N2q
  refine own_go (fun t k => st2.trans k) ?_
  show own_Go p.tables e below _ T2 (mkF m 12 #[.val (.long q1), .second, .val (.long q2), .second, .val (.int p3), .val (.long (100000000 : Int64)), .second, .unset, .unset, .unset, .unset, .unset, .unset, .unset, .unset, .unset, .unset, .unset, .unset, .unset, .unset, .unset, .unset, .unset] [(.ref b1)])
  refine own_go (T' := T2) (g' := (mkF m 16 #[.val (.long q1), .second, .val (.long q2), .second, .val (.int p3), .val (.long (100000000 : Int64)), .second, .val (.ref b1), .unset, .unset, .unset, .unset, .unset, .unset, .unset, .unset, .unset, .unset, .unset, .unset, .unset, .unset, .unset, .unset] [(.ref b1)])) (fun t k => ?_) ?_
  · show Steps p.tables e below (T2.setTop (mkF m 12 #[.val (.long q1), .second, .val (.long q2), .second, .val (.int p3), .val (.long (100000000 : Int64)), .second, .unset, .unset, .unset, .unset, .unset, .unset, .unset, .unset, .unset, .unset, .unset, .unset, .unset, .unset, .unset, .unset, .unset] [(.ref b1)])) _
    refine XS.astore X2.here hx rfl (hb hby at_12) rfl rfl (l' := #[.val (.long q1), .second, .val (.long q2), .second, .val (.int p3), .val (.long (100000000 : Int64)), .second, .val (.ref b1), .unset, .unset, .unset, .unset, .unset, .unset, .unset, .unset, .unset, .unset, .unset, .unset, .unset, .unset, .unset, .unset]) rfl ?_
    show Steps p.tables e below (T2.setTop (mkF m 14 #[.val (.long q1), .second, .val (.long q2), .second, .val (.int p3), .val (.long (100000000 : Int64)), .second, .val (.ref b1), .unset, .unset, .unset, .unset, .unset, .unset, .unset, .unset, .unset, .unset, .unset, .unset, .unset, .unset, .unset, .unset] [])) _
    refine XS.aload X2.here hx rfl (hb hby at_14) rfl rfl ?_
    exact k
  obtain ⟨cq3, kq3, q3a, q3b, q3c⟩ := isOf hZ rfl E_b1
  obtain ⟨_, _, ⟨T3, L3, k3, n3⟩, -, X3, ⟨Lc3, hQ3, l3, y3, z3⟩, st3⟩ := X2.virtualBack hx (y := (⟨"com/example/kirchberg/kirchberg/model/pattern/PatternBudget", "isSpent", "()Z"⟩ : MethodName)) (z := (⟨"com/example/kirchberg/kirchberg/model/pattern/PatternBudget", "isSpent", "()Z"⟩ : MethodName)) hown (mvT hZ (hw _ (List.mem_of_getElem? (i := 13) rfl))) (mvT hZ (hw _ (List.mem_of_getElem? (i := 14) rfl))) (notFace_of_selects (args := #[]) (mvT hZ (hw _ (List.mem_of_getElem? (i := 16) rfl)))) (mvT hZ (hw _ (List.mem_of_getElem? (i := 16) rfl))) (mvT hZ (hw _ (List.mem_of_getElem? (i := 15) rfl))) (by decide) (backOf (W := 0) (rm3 l Z a0 hw [] b1 (100000000 : Int64) T2.heap n0 Z0 F_b1_left) hZ (hw _ (List.mem_of_getElem? (i := 17) rfl)) (hw _ (List.mem_of_getElem? (i := 3) rfl)) (by decide) (by decide)) q3a q3c (g := (mkF m 16 #[.val (.long q1), .second, .val (.long q2), .second, .val (.int p3), .val (.long (100000000 : Int64)), .second, .val (.ref b1), .unset, .unset, .unset, .unset, .unset, .unset, .unset, .unset, .unset, .unset, .unset, .unset, .unset, .unset, .unset, .unset] [(.ref b1)])) rfl (by rw [hml]; rfl) (Steps.refl _) (argsL := []) (rest := []) (lenOf pd_1 rfl) rfl (by show 2 * 0 + _ ≤ _; exact Nat.le_of_eq rfl) (hb hby at_16) (fun _ _ => ⟨rfl, rfl, (by decide : 1 + 0 ≤ _), (by decide : 1 + 0 ≤ _)⟩)
  dsimp only [Pt.U, Pt.locs, Pt.cells, Pt.slots] at X3 l3 y3 z3 st3 hQ3
  subst l3 y3 z3
  obtain ⟨rfl, N3q, e3⟩ := hQ3
  have NN := Fr.app NN N3q
  refine own_go (fun t k => st3.trans k) ?_
  show own_Go p.tables e below _ T3 (mkF m 19 #[.val (.long q1), .second, .val (.long q2), .second, .val (.int p3), .val (.long (100000000 : Int64)), .second, .val (.ref b1), .unset, .unset, .unset, .unset, .unset, .unset, .unset, .unset, .unset, .unset, .unset, .unset, .unset, .unset, .unset, .unset] [(.int (r_3 (100000000 : Int64)))])
  obtain ⟨j4, hj4, st5⟩ : ∃ (j4 : Int32), j4 = (if (r_3 (100000000 : Int64)) = (0 : Int32) then (1 : Int32) else (0 : Int32)) ∧ ∀ t, Steps p.tables e below (T3.setTop (mkF m 27 #[.val (.long q1), .second, .val (.long q2), .second, .val (.int p3), .val (.long (100000000 : Int64)), .second, .val (.ref b1), .unset, .unset, .unset, .unset, .unset, .unset, .unset, .unset, .unset, .unset, .unset, .unset, .unset, .unset, .unset, .unset] [(.int j4)])) t → Steps p.tables e below (T3.setTop (mkF m 19 #[.val (.long q1), .second, .val (.long q2), .second, .val (.int p3), .val (.long (100000000 : Int64)), .second, .val (.ref b1), .unset, .unset, .unset, .unset, .unset, .unset, .unset, .unset, .unset, .unset, .unset, .unset, .unset, .unset, .unset, .unset] [(.int (r_3 (100000000 : Int64)))])) t := by
    by_cases hc19_1 : (r_3 (100000000 : Int64)) = (0 : Int32)
    · skip
      refine ⟨(1 : Int32), (by simp only [if_pos hc19_1]), fun t k => ?_⟩
      show Steps p.tables e below (T3.setTop (mkF m 19 #[.val (.long q1), .second, .val (.long q2), .second, .val (.int p3), .val (.long (100000000 : Int64)), .second, .val (.ref b1), .unset, .unset, .unset, .unset, .unset, .unset, .unset, .unset, .unset, .unset, .unset, .unset, .unset, .unset, .unset, .unset] [(.int (r_3 (100000000 : Int64)))])) _
      refine XS.ifNo X3.here hx rfl (hb hby at_19) rfl ((if0 _ _).trans (teq hc19_1).2) ?_
      show Steps p.tables e below (T3.setTop (mkF m 22 #[.val (.long q1), .second, .val (.long q2), .second, .val (.int p3), .val (.long (100000000 : Int64)), .second, .val (.ref b1), .unset, .unset, .unset, .unset, .unset, .unset, .unset, .unset, .unset, .unset, .unset, .unset, .unset, .unset, .unset, .unset] [])) _
      refine XS.iconst X3.here hx rfl (hb hby at_22) ?_
      show Steps p.tables e below (T3.setTop (mkF m 23 #[.val (.long q1), .second, .val (.long q2), .second, .val (.int p3), .val (.long (100000000 : Int64)), .second, .val (.ref b1), .unset, .unset, .unset, .unset, .unset, .unset, .unset, .unset, .unset, .unset, .unset, .unset, .unset, .unset, .unset, .unset] [(.int (1 : Int32))])) _
      refine XS.goto X3.here hx rfl (pc0 := 23) (pc' := 27) rfl (hb hby at_23) (by decide) (by decide) ?_
      exact k
    · skip
      refine ⟨(0 : Int32), (by simp only [if_neg hc19_1]), fun t k => ?_⟩
      show Steps p.tables e below (T3.setTop (mkF m 19 #[.val (.long q1), .second, .val (.long q2), .second, .val (.int p3), .val (.long (100000000 : Int64)), .second, .val (.ref b1), .unset, .unset, .unset, .unset, .unset, .unset, .unset, .unset, .unset, .unset, .unset, .unset, .unset, .unset, .unset, .unset] [(.int (r_3 (100000000 : Int64)))])) _
      refine XS.ifYes X3.here hx rfl (pc0 := 19) (pc' := 26) rfl (hb hby at_19) rfl ((if0 _ _).trans (feq hc19_1).2) (by decide) (by decide) ?_
      show Steps p.tables e below (T3.setTop (mkF m 26 #[.val (.long q1), .second, .val (.long q2), .second, .val (.int p3), .val (.long (100000000 : Int64)), .second, .val (.ref b1), .unset, .unset, .unset, .unset, .unset, .unset, .unset, .unset, .unset, .unset, .unset, .unset, .unset, .unset, .unset, .unset] [])) _
      refine XS.iconst X3.here hx rfl (hb hby at_26) ?_
      exact k
  refine own_go st5 ?_
  show own_Go p.tables e below _ T3 (mkF m 27 #[.val (.long q1), .second, .val (.long q2), .second, .val (.int p3), .val (.long (100000000 : Int64)), .second, .val (.ref b1), .unset, .unset, .unset, .unset, .unset, .unset, .unset, .unset, .unset, .unset, .unset, .unset, .unset, .unset, .unset, .unset] [(.int j4)])
  refine own_go (T' := T3) (g' := (mkF m 34 #[.val (.long q1), .second, .val (.long q2), .second, .val (.int p3), .val (.long (100000000 : Int64)), .second, .val (.ref b1), .val (.int j4), .unset, .unset, .unset, .unset, .unset, .unset, .unset, .unset, .unset, .unset, .unset, .unset, .unset, .unset, .unset] [(.long (100000000 : Int64)), (.int p3), (.long q1)])) (fun t k => ?_) ?_
  · show Steps p.tables e below (T3.setTop (mkF m 27 #[.val (.long q1), .second, .val (.long q2), .second, .val (.int p3), .val (.long (100000000 : Int64)), .second, .val (.ref b1), .unset, .unset, .unset, .unset, .unset, .unset, .unset, .unset, .unset, .unset, .unset, .unset, .unset, .unset, .unset, .unset] [(.int j4)])) _
    refine XS.istore X3.here hx rfl (hb hby at_27) rfl (l' := #[.val (.long q1), .second, .val (.long q2), .second, .val (.int p3), .val (.long (100000000 : Int64)), .second, .val (.ref b1), .val (.int j4), .unset, .unset, .unset, .unset, .unset, .unset, .unset, .unset, .unset, .unset, .unset, .unset, .unset, .unset, .unset]) rfl ?_
    show Steps p.tables e below (T3.setTop (mkF m 29 #[.val (.long q1), .second, .val (.long q2), .second, .val (.int p3), .val (.long (100000000 : Int64)), .second, .val (.ref b1), .val (.int j4), .unset, .unset, .unset, .unset, .unset, .unset, .unset, .unset, .unset, .unset, .unset, .unset, .unset, .unset, .unset] [])) _
    refine XS.lloadN X3.here hx rfl (hb hby at_29) rfl ?_
    show Steps p.tables e below (T3.setTop (mkF m 30 #[.val (.long q1), .second, .val (.long q2), .second, .val (.int p3), .val (.long (100000000 : Int64)), .second, .val (.ref b1), .val (.int j4), .unset, .unset, .unset, .unset, .unset, .unset, .unset, .unset, .unset, .unset, .unset, .unset, .unset, .unset, .unset] [(.long q1)])) _
    refine XS.iload X3.here hx rfl (hb hby at_30) rfl ?_
    show Steps p.tables e below (T3.setTop (mkF m 32 #[.val (.long q1), .second, .val (.long q2), .second, .val (.int p3), .val (.long (100000000 : Int64)), .second, .val (.ref b1), .val (.int j4), .unset, .unset, .unset, .unset, .unset, .unset, .unset, .unset, .unset, .unset, .unset, .unset, .unset, .unset, .unset] [(.int p3), (.long q1)])) _
    refine XS.lload X3.here hx rfl (hb hby at_32) rfl ?_
    exact k
  obtain ⟨_, _, ⟨T6, L6, k6, n6⟩, -, X6, ⟨Lc6, hQ6, l6, y6, z6⟩, st6⟩ := Jvm.LawKit.callS X3 hx (y := (⟨"com/example/kirchberg/kirchberg/model/pattern/PatternBudgetTakePinLaw", "pick", "(JIJ)J"⟩ : MethodName)) hown (mvT hZ (hw _ (List.mem_of_getElem? (i := 18) rfl))) (mvT hZ (hw _ (List.mem_of_getElem? (i := 19) rfl))) (mvT hZ (hw _ (List.mem_of_getElem? (i := 20) rfl))) (mvT hZ (hw _ (List.mem_of_getElem? (i := 21) rfl))) (by decide) (backOf (W := 0) (rm4 l Z a0 hw [] q1 p3 (100000000 : Int64) T2.heap n0 Z0 ) hZ (hw _ (List.mem_of_getElem? (i := 21) rfl)) (hw _ (List.mem_of_getElem? (i := 20) rfl)) (by decide) (by decide)) (g := (mkF m 34 #[.val (.long q1), .second, .val (.long q2), .second, .val (.int p3), .val (.long (100000000 : Int64)), .second, .val (.ref b1), .val (.int j4), .unset, .unset, .unset, .unset, .unset, .unset, .unset, .unset, .unset, .unset, .unset, .unset, .unset, .unset, .unset] [(.long (100000000 : Int64)), (.int p3), (.long q1)])) rfl (by rw [hml]; rfl) (argsL := [(.long q1), (.int p3), (.long (100000000 : Int64))]) (rest := []) (lenOf pd_2 rfl) rfl (by show 2 * 0 + _ ≤ _; exact Nat.le_of_eq rfl) (hb hby at_34) (fun _ _ => ⟨rfl, e3, (by decide : 1 + 0 ≤ _), (by decide : 1 + 0 ≤ _)⟩)
  dsimp only [Pt.U, Pt.locs, Pt.cells, Pt.slots] at X6 l6 y6 z6 st6 hQ6
  subst l6 y6 z6
  obtain ⟨rfl, N6q, e6⟩ := hQ6
  have NN := Fr.app NN N6q
  refine own_go st6 ?_
  show own_Go p.tables e below _ T6 (mkF m 37 #[.val (.long q1), .second, .val (.long q2), .second, .val (.int p3), .val (.long (100000000 : Int64)), .second, .val (.ref b1), .val (.int j4), .unset, .unset, .unset, .unset, .unset, .unset, .unset, .unset, .unset, .unset, .unset, .unset, .unset, .unset, .unset] [(.long (r_4 q1 p3 (100000000 : Int64)))])
  refine own_go (T' := T6) (g' := (mkF m 39 #[.val (.long q1), .second, .val (.long q2), .second, .val (.int p3), .val (.long (100000000 : Int64)), .second, .val (.ref b1), .val (.int j4), .val (.long (r_4 q1 p3 (100000000 : Int64))), .second, .unset, .unset, .unset, .unset, .unset, .unset, .unset, .unset, .unset, .unset, .unset, .unset, .unset] [])) (fun t k => ?_) ?_
  · show Steps p.tables e below (T6.setTop (mkF m 37 #[.val (.long q1), .second, .val (.long q2), .second, .val (.int p3), .val (.long (100000000 : Int64)), .second, .val (.ref b1), .val (.int j4), .unset, .unset, .unset, .unset, .unset, .unset, .unset, .unset, .unset, .unset, .unset, .unset, .unset, .unset, .unset] [(.long (r_4 q1 p3 (100000000 : Int64)))])) _
    refine XS.lstore X6.here hx rfl (hb hby at_37) rfl (l' := #[.val (.long q1), .second, .val (.long q2), .second, .val (.int p3), .val (.long (100000000 : Int64)), .second, .val (.ref b1), .val (.int j4), .val (.long (r_4 q1 p3 (100000000 : Int64))), .second, .unset, .unset, .unset, .unset, .unset, .unset, .unset, .unset, .unset, .unset, .unset, .unset, .unset]) rfl ?_
    exact k
  show own_Go p.tables e below _ T6 (mkF m 39 #[.val (.long q1), .second, .val (.long q2), .second, .val (.int p3), .val (.long (100000000 : Int64)), .second, .val (.ref b1), .val (.int j4), .val (.long (r_4 q1 p3 (100000000 : Int64))), .second, .unset, .unset, .unset, .unset, .unset, .unset, .unset, .unset, .unset, .unset, .unset, .unset, .unset] [])
  obtain ⟨j7, hj7⟩ : ∃ z : Int64, z = (r_4 q1 p3 (100000000 : Int64)) := ⟨_, rfl⟩
  rw [← hj7]
  show own_Go p.tables e below _ T6 (mkF m 39 #[.val (.long q1), .second, .val (.long q2), .second, .val (.int p3), .val (.long (100000000 : Int64)), .second, .val (.ref b1), .val (.int j4), .val (.long j7), .second, .unset, .unset, .unset, .unset, .unset, .unset, .unset, .unset, .unset, .unset, .unset, .unset, .unset] [])
  refine own_go (T' := T6) (g' := (mkF m 43 #[.val (.long q1), .second, .val (.long q2), .second, .val (.int p3), .val (.long (100000000 : Int64)), .second, .val (.ref b1), .val (.int j4), .val (.long j7), .second, .unset, .unset, .unset, .unset, .unset, .unset, .unset, .unset, .unset, .unset, .unset, .unset, .unset] [(.long j7), (.ref b1)])) (fun t k => ?_) ?_
  · show Steps p.tables e below (T6.setTop (mkF m 39 #[.val (.long q1), .second, .val (.long q2), .second, .val (.int p3), .val (.long (100000000 : Int64)), .second, .val (.ref b1), .val (.int j4), .val (.long j7), .second, .unset, .unset, .unset, .unset, .unset, .unset, .unset, .unset, .unset, .unset, .unset, .unset, .unset] [])) _
    refine XS.aload X6.here hx rfl (hb hby at_39) rfl rfl ?_
    show Steps p.tables e below (T6.setTop (mkF m 41 #[.val (.long q1), .second, .val (.long q2), .second, .val (.int p3), .val (.long (100000000 : Int64)), .second, .val (.ref b1), .val (.int j4), .val (.long j7), .second, .unset, .unset, .unset, .unset, .unset, .unset, .unset, .unset, .unset, .unset, .unset, .unset, .unset] [(.ref b1)])) _
    refine XS.lload X6.here hx rfl (hb hby at_41) rfl ?_
    exact k
  obtain ⟨cq8, kq8, q8a, q8b, q8c⟩ := isOf hZ e6 E_b1
  obtain ⟨_, _, ⟨T8, L8, k8, n8⟩, -, X8, ⟨Lc8, hQ8, l8, y8, z8⟩, st8⟩ := X6.virtualBack hx (y := (⟨"com/example/kirchberg/kirchberg/model/pattern/PatternBudget", "take", "(J)Z"⟩ : MethodName)) (z := (⟨"com/example/kirchberg/kirchberg/model/pattern/PatternBudget", "take", "(J)Z"⟩ : MethodName)) hown (mvT hZ (hw _ (List.mem_of_getElem? (i := 23) rfl))) (mvT hZ (hw _ (List.mem_of_getElem? (i := 24) rfl))) (notFace_of_selects (args := #[]) (mvT hZ (hw _ (List.mem_of_getElem? (i := 26) rfl)))) (mvT hZ (hw _ (List.mem_of_getElem? (i := 26) rfl))) (mvT hZ (hw _ (List.mem_of_getElem? (i := 25) rfl))) (by decide) (backOf (W := 0) (rm5 l Z a0 hw [] b1 j7 (100000000 : Int64) T2.heap n0 Z0 F_b1_left E_b1 g_b1) hZ (hw _ (List.mem_of_getElem? (i := 27) rfl)) (hw _ (List.mem_of_getElem? (i := 3) rfl)) (by decide) (by decide)) q8a q8c (g := (mkF m 43 #[.val (.long q1), .second, .val (.long q2), .second, .val (.int p3), .val (.long (100000000 : Int64)), .second, .val (.ref b1), .val (.int j4), .val (.long j7), .second, .unset, .unset, .unset, .unset, .unset, .unset, .unset, .unset, .unset, .unset, .unset, .unset, .unset] [(.long j7), (.ref b1)])) rfl (by rw [hml]; rfl) (Steps.refl _) (argsL := [(.long j7)]) (rest := []) (lenOf pd_3 rfl) rfl (by show 2 * 0 + _ ≤ _; exact Nat.le_of_eq rfl) (hb hby at_43) (fun _ _ => ⟨rfl, e6, (by decide : 1 + 0 ≤ _), (by decide : 1 + 0 ≤ _)⟩)
  dsimp only [Pt.U, Pt.locs, Pt.cells, Pt.slots] at X8 l8 y8 z8 st8 hQ8
  subst l8 y8 z8
  obtain ⟨rfl, N8q, K8, Q8_0, Q8_1⟩ := hQ8
  have E_b1 := Q8_0
  have F_b1_left := Q8_1
  have Z0 := Nat.le_trans Z0 K8.1
  have KK := KK.trans K8 (allS (Or.inr sz_b1) all0)
  have NN := Fr.app NN N8q
  refine own_go (fun t k => st8.trans k) ?_
  show own_Go p.tables e below _ T8 (mkF m 46 #[.val (.long q1), .second, .val (.long q2), .second, .val (.int p3), .val (.long (100000000 : Int64)), .second, .val (.ref b1), .val (.int j4), .val (.long j7), .second, .unset, .unset, .unset, .unset, .unset, .unset, .unset, .unset, .unset, .unset, .unset, .unset, .unset] [(.int (r_5 j7 (100000000 : Int64)))])
  refine own_go (T' := T8) (g' := (mkF m 48 #[.val (.long q1), .second, .val (.long q2), .second, .val (.int p3), .val (.long (100000000 : Int64)), .second, .val (.ref b1), .val (.int j4), .val (.long j7), .second, .val (.int (r_5 j7 (100000000 : Int64))), .unset, .unset, .unset, .unset, .unset, .unset, .unset, .unset, .unset, .unset, .unset, .unset] [])) (fun t k => ?_) ?_
  · show Steps p.tables e below (T8.setTop (mkF m 46 #[.val (.long q1), .second, .val (.long q2), .second, .val (.int p3), .val (.long (100000000 : Int64)), .second, .val (.ref b1), .val (.int j4), .val (.long j7), .second, .unset, .unset, .unset, .unset, .unset, .unset, .unset, .unset, .unset, .unset, .unset, .unset, .unset] [(.int (r_5 j7 (100000000 : Int64)))])) _
    refine XS.istore X8.here hx rfl (hb hby at_46) rfl (l' := #[.val (.long q1), .second, .val (.long q2), .second, .val (.int p3), .val (.long (100000000 : Int64)), .second, .val (.ref b1), .val (.int j4), .val (.long j7), .second, .val (.int (r_5 j7 (100000000 : Int64))), .unset, .unset, .unset, .unset, .unset, .unset, .unset, .unset, .unset, .unset, .unset, .unset]) rfl ?_
    exact k
  show own_Go p.tables e below _ T8 (mkF m 48 #[.val (.long q1), .second, .val (.long q2), .second, .val (.int p3), .val (.long (100000000 : Int64)), .second, .val (.ref b1), .val (.int j4), .val (.long j7), .second, .val (.int (r_5 j7 (100000000 : Int64))), .unset, .unset, .unset, .unset, .unset, .unset, .unset, .unset, .unset, .unset, .unset, .unset] [])
  obtain ⟨j9, hj9⟩ : ∃ z : Int32, z = (r_5 j7 (100000000 : Int64)) := ⟨_, rfl⟩
  rw [← hj9]
  show own_Go p.tables e below _ T8 (mkF m 48 #[.val (.long q1), .second, .val (.long q2), .second, .val (.int p3), .val (.long (100000000 : Int64)), .second, .val (.ref b1), .val (.int j4), .val (.long j7), .second, .val (.int j9), .unset, .unset, .unset, .unset, .unset, .unset, .unset, .unset, .unset, .unset, .unset, .unset] [])
  refine own_go (T' := T8) (g' := (mkF m 53 #[.val (.long q1), .second, .val (.long q2), .second, .val (.int p3), .val (.long (100000000 : Int64)), .second, .val (.ref b1), .val (.int j4), .val (.long j7), .second, .val (.int j9), .unset, .unset, .unset, .unset, .unset, .unset, .unset, .unset, .unset, .unset, .unset, .unset] [(.int (lcmpW j7 (100000000 : Int64)))])) (fun t k => ?_) ?_
  · show Steps p.tables e below (T8.setTop (mkF m 48 #[.val (.long q1), .second, .val (.long q2), .second, .val (.int p3), .val (.long (100000000 : Int64)), .second, .val (.ref b1), .val (.int j4), .val (.long j7), .second, .val (.int j9), .unset, .unset, .unset, .unset, .unset, .unset, .unset, .unset, .unset, .unset, .unset, .unset] [])) _
    refine XS.lload X8.here hx rfl (hb hby at_48) rfl ?_
    show Steps p.tables e below (T8.setTop (mkF m 50 #[.val (.long q1), .second, .val (.long q2), .second, .val (.int p3), .val (.long (100000000 : Int64)), .second, .val (.ref b1), .val (.int j4), .val (.long j7), .second, .val (.int j9), .unset, .unset, .unset, .unset, .unset, .unset, .unset, .unset, .unset, .unset, .unset, .unset] [(.long j7)])) _
    refine XS.lload X8.here hx rfl (hb hby at_50) rfl ?_
    show Steps p.tables e below (T8.setTop (mkF m 52 #[.val (.long q1), .second, .val (.long q2), .second, .val (.int p3), .val (.long (100000000 : Int64)), .second, .val (.ref b1), .val (.int j4), .val (.long j7), .second, .val (.int j9), .unset, .unset, .unset, .unset, .unset, .unset, .unset, .unset, .unset, .unset, .unset, .unset] [(.long (100000000 : Int64)), (.long j7)])) _
    refine XS.lcmp X8.here hx rfl (hb hby at_52) rfl ?_
    exact k
  obtain ⟨j10, hj10, st11⟩ : ∃ (j10 : Int32), j10 = (if (100000000 : Int64) < j7 then (0 : Int32) else (1 : Int32)) ∧ ∀ t, Steps p.tables e below (T8.setTop (mkF m 61 #[.val (.long q1), .second, .val (.long q2), .second, .val (.int p3), .val (.long (100000000 : Int64)), .second, .val (.ref b1), .val (.int j4), .val (.long j7), .second, .val (.int j9), .unset, .unset, .unset, .unset, .unset, .unset, .unset, .unset, .unset, .unset, .unset, .unset] [(.int j10)])) t → Steps p.tables e below (T8.setTop (mkF m 53 #[.val (.long q1), .second, .val (.long q2), .second, .val (.int p3), .val (.long (100000000 : Int64)), .second, .val (.ref b1), .val (.int j4), .val (.long j7), .second, .val (.int j9), .unset, .unset, .unset, .unset, .unset, .unset, .unset, .unset, .unset, .unset, .unset, .unset] [(.int (lcmpW j7 (100000000 : Int64)))])) t := by
    by_cases hc53_2 : (100000000 : Int64) < j7
    · skip
      refine ⟨(0 : Int32), (by simp only [if_pos hc53_2]), fun t k => ?_⟩
      show Steps p.tables e below (T8.setTop (mkF m 53 #[.val (.long q1), .second, .val (.long q2), .second, .val (.int p3), .val (.long (100000000 : Int64)), .second, .val (.ref b1), .val (.int j4), .val (.long j7), .second, .val (.int j9), .unset, .unset, .unset, .unset, .unset, .unset, .unset, .unset, .unset, .unset, .unset, .unset] [(.int (lcmpW j7 (100000000 : Int64)))])) _
      refine XS.ifYes X8.here hx rfl (pc0 := 53) (pc' := 60) rfl (hb hby at_53) rfl ((if0 _ _).trans (tlt ((lw_gt j7 (100000000 : Int64)).mpr hc53_2)).2.2.1) (by decide) (by decide) ?_
      show Steps p.tables e below (T8.setTop (mkF m 60 #[.val (.long q1), .second, .val (.long q2), .second, .val (.int p3), .val (.long (100000000 : Int64)), .second, .val (.ref b1), .val (.int j4), .val (.long j7), .second, .val (.int j9), .unset, .unset, .unset, .unset, .unset, .unset, .unset, .unset, .unset, .unset, .unset, .unset] [])) _
      refine XS.iconst X8.here hx rfl (hb hby at_60) ?_
      exact k
    · skip
      refine ⟨(1 : Int32), (by simp only [if_neg hc53_2]), fun t k => ?_⟩
      show Steps p.tables e below (T8.setTop (mkF m 53 #[.val (.long q1), .second, .val (.long q2), .second, .val (.int p3), .val (.long (100000000 : Int64)), .second, .val (.ref b1), .val (.int j4), .val (.long j7), .second, .val (.int j9), .unset, .unset, .unset, .unset, .unset, .unset, .unset, .unset, .unset, .unset, .unset, .unset] [(.int (lcmpW j7 (100000000 : Int64)))])) _
      refine XS.ifNo X8.here hx rfl (hb hby at_53) rfl ((if0 _ _).trans (flt (fun q => hc53_2 ((lw_gt j7 (100000000 : Int64)).mp q))).2.2.1) ?_
      show Steps p.tables e below (T8.setTop (mkF m 56 #[.val (.long q1), .second, .val (.long q2), .second, .val (.int p3), .val (.long (100000000 : Int64)), .second, .val (.ref b1), .val (.int j4), .val (.long j7), .second, .val (.int j9), .unset, .unset, .unset, .unset, .unset, .unset, .unset, .unset, .unset, .unset, .unset, .unset] [])) _
      refine XS.iconst X8.here hx rfl (hb hby at_56) ?_
      show Steps p.tables e below (T8.setTop (mkF m 57 #[.val (.long q1), .second, .val (.long q2), .second, .val (.int p3), .val (.long (100000000 : Int64)), .second, .val (.ref b1), .val (.int j4), .val (.long j7), .second, .val (.int j9), .unset, .unset, .unset, .unset, .unset, .unset, .unset, .unset, .unset, .unset, .unset, .unset] [(.int (1 : Int32))])) _
      refine XS.goto X8.here hx rfl (pc0 := 57) (pc' := 61) rfl (hb hby at_57) (by decide) (by decide) ?_
      exact k
  refine own_go st11 ?_
  show own_Go p.tables e below _ T8 (mkF m 61 #[.val (.long q1), .second, .val (.long q2), .second, .val (.int p3), .val (.long (100000000 : Int64)), .second, .val (.ref b1), .val (.int j4), .val (.long j7), .second, .val (.int j9), .unset, .unset, .unset, .unset, .unset, .unset, .unset, .unset, .unset, .unset, .unset, .unset] [(.int j10)])
  refine own_go (T' := T8) (g' := (mkF m 65 #[.val (.long q1), .second, .val (.long q2), .second, .val (.int p3), .val (.long (100000000 : Int64)), .second, .val (.ref b1), .val (.int j4), .val (.long j7), .second, .val (.int j9), .val (.int j10), .unset, .unset, .unset, .unset, .unset, .unset, .unset, .unset, .unset, .unset, .unset] [(.int j10)])) (fun t k => ?_) ?_
  · show Steps p.tables e below (T8.setTop (mkF m 61 #[.val (.long q1), .second, .val (.long q2), .second, .val (.int p3), .val (.long (100000000 : Int64)), .second, .val (.ref b1), .val (.int j4), .val (.long j7), .second, .val (.int j9), .unset, .unset, .unset, .unset, .unset, .unset, .unset, .unset, .unset, .unset, .unset, .unset] [(.int j10)])) _
    refine XS.istore X8.here hx rfl (hb hby at_61) rfl (l' := #[.val (.long q1), .second, .val (.long q2), .second, .val (.int p3), .val (.long (100000000 : Int64)), .second, .val (.ref b1), .val (.int j4), .val (.long j7), .second, .val (.int j9), .val (.int j10), .unset, .unset, .unset, .unset, .unset, .unset, .unset, .unset, .unset, .unset, .unset]) rfl ?_
    show Steps p.tables e below (T8.setTop (mkF m 63 #[.val (.long q1), .second, .val (.long q2), .second, .val (.int p3), .val (.long (100000000 : Int64)), .second, .val (.ref b1), .val (.int j4), .val (.long j7), .second, .val (.int j9), .val (.int j10), .unset, .unset, .unset, .unset, .unset, .unset, .unset, .unset, .unset, .unset, .unset] [])) _
    refine XS.iload X8.here hx rfl (hb hby at_63) rfl ?_
    exact k
  obtain ⟨j12, hj12, st13⟩ : ∃ (j12 : Int64), j12 = (if j10 = (0 : Int32) then (0 : Int64) else ((100000000 : Int64) - j7)) ∧ ∀ t, Steps p.tables e below (T8.setTop (mkF m 77 #[.val (.long q1), .second, .val (.long q2), .second, .val (.int p3), .val (.long (100000000 : Int64)), .second, .val (.ref b1), .val (.int j4), .val (.long j7), .second, .val (.int j9), .val (.int j10), .unset, .unset, .unset, .unset, .unset, .unset, .unset, .unset, .unset, .unset, .unset] [(.long j12)])) t → Steps p.tables e below (T8.setTop (mkF m 65 #[.val (.long q1), .second, .val (.long q2), .second, .val (.int p3), .val (.long (100000000 : Int64)), .second, .val (.ref b1), .val (.int j4), .val (.long j7), .second, .val (.int j9), .val (.int j10), .unset, .unset, .unset, .unset, .unset, .unset, .unset, .unset, .unset, .unset, .unset] [(.int j10)])) t := by
    by_cases hc65_3 : j10 = (0 : Int32)
    · skip
      refine ⟨(0 : Int64), (by simp only [if_pos hc65_3]), fun t k => ?_⟩
      show Steps p.tables e below (T8.setTop (mkF m 65 #[.val (.long q1), .second, .val (.long q2), .second, .val (.int p3), .val (.long (100000000 : Int64)), .second, .val (.ref b1), .val (.int j4), .val (.long j7), .second, .val (.int j9), .val (.int j10), .unset, .unset, .unset, .unset, .unset, .unset, .unset, .unset, .unset, .unset, .unset] [(.int j10)])) _
      refine XS.ifYes X8.here hx rfl (pc0 := 65) (pc' := 76) rfl (hb hby at_65) rfl ((if0 _ _).trans (teq hc65_3).1) (by decide) (by decide) ?_
      show Steps p.tables e below (T8.setTop (mkF m 76 #[.val (.long q1), .second, .val (.long q2), .second, .val (.int p3), .val (.long (100000000 : Int64)), .second, .val (.ref b1), .val (.int j4), .val (.long j7), .second, .val (.int j9), .val (.int j10), .unset, .unset, .unset, .unset, .unset, .unset, .unset, .unset, .unset, .unset, .unset] [])) _
      refine XS.lconst X8.here hx rfl (hb hby at_76) ?_
      exact k
    · skip
      refine ⟨((100000000 : Int64) - j7), (by simp only [if_neg hc65_3]), fun t k => ?_⟩
      show Steps p.tables e below (T8.setTop (mkF m 65 #[.val (.long q1), .second, .val (.long q2), .second, .val (.int p3), .val (.long (100000000 : Int64)), .second, .val (.ref b1), .val (.int j4), .val (.long j7), .second, .val (.int j9), .val (.int j10), .unset, .unset, .unset, .unset, .unset, .unset, .unset, .unset, .unset, .unset, .unset] [(.int j10)])) _
      refine XS.ifNo X8.here hx rfl (hb hby at_65) rfl ((if0 _ _).trans (feq hc65_3).1) ?_
      show Steps p.tables e below (T8.setTop (mkF m 68 #[.val (.long q1), .second, .val (.long q2), .second, .val (.int p3), .val (.long (100000000 : Int64)), .second, .val (.ref b1), .val (.int j4), .val (.long j7), .second, .val (.int j9), .val (.int j10), .unset, .unset, .unset, .unset, .unset, .unset, .unset, .unset, .unset, .unset, .unset] [])) _
      refine XS.lload X8.here hx rfl (hb hby at_68) rfl ?_
      show Steps p.tables e below (T8.setTop (mkF m 70 #[.val (.long q1), .second, .val (.long q2), .second, .val (.int p3), .val (.long (100000000 : Int64)), .second, .val (.ref b1), .val (.int j4), .val (.long j7), .second, .val (.int j9), .val (.int j10), .unset, .unset, .unset, .unset, .unset, .unset, .unset, .unset, .unset, .unset, .unset] [(.long (100000000 : Int64))])) _
      refine XS.lload X8.here hx rfl (hb hby at_70) rfl ?_
      show Steps p.tables e below (T8.setTop (mkF m 72 #[.val (.long q1), .second, .val (.long q2), .second, .val (.int p3), .val (.long (100000000 : Int64)), .second, .val (.ref b1), .val (.int j4), .val (.long j7), .second, .val (.int j9), .val (.int j10), .unset, .unset, .unset, .unset, .unset, .unset, .unset, .unset, .unset, .unset, .unset] [(.long j7), (.long (100000000 : Int64))])) _
      refine XS.lsub X8.here hx rfl (hb hby at_72) rfl ?_
      show Steps p.tables e below (T8.setTop (mkF m 73 #[.val (.long q1), .second, .val (.long q2), .second, .val (.int p3), .val (.long (100000000 : Int64)), .second, .val (.ref b1), .val (.int j4), .val (.long j7), .second, .val (.int j9), .val (.int j10), .unset, .unset, .unset, .unset, .unset, .unset, .unset, .unset, .unset, .unset, .unset] [(.long ((100000000 : Int64) - j7))])) _
      refine XS.goto X8.here hx rfl (pc0 := 73) (pc' := 77) rfl (hb hby at_73) (by decide) (by decide) ?_
      exact k
  refine own_go st13 ?_
  show own_Go p.tables e below _ T8 (mkF m 77 #[.val (.long q1), .second, .val (.long q2), .second, .val (.int p3), .val (.long (100000000 : Int64)), .second, .val (.ref b1), .val (.int j4), .val (.long j7), .second, .val (.int j9), .val (.int j10), .unset, .unset, .unset, .unset, .unset, .unset, .unset, .unset, .unset, .unset, .unset] [(.long j12)])
  refine own_go (T' := T8) (g' := (mkF m 86 #[.val (.long q1), .second, .val (.long q2), .second, .val (.int p3), .val (.long (100000000 : Int64)), .second, .val (.ref b1), .val (.int j4), .val (.long j7), .second, .val (.int j9), .val (.int j10), .val (.long j12), .second, .unset, .unset, .unset, .unset, .unset, .unset, .unset, .unset, .unset] [(.long j12), (.int ((p3.toUInt32 >>> ((2 : Int32) &&& 31).toUInt32).toInt32)), (.long q2)])) (fun t k => ?_) ?_
  · show Steps p.tables e below (T8.setTop (mkF m 77 #[.val (.long q1), .second, .val (.long q2), .second, .val (.int p3), .val (.long (100000000 : Int64)), .second, .val (.ref b1), .val (.int j4), .val (.long j7), .second, .val (.int j9), .val (.int j10), .unset, .unset, .unset, .unset, .unset, .unset, .unset, .unset, .unset, .unset, .unset] [(.long j12)])) _
    refine XS.lstore X8.here hx rfl (hb hby at_77) rfl (l' := #[.val (.long q1), .second, .val (.long q2), .second, .val (.int p3), .val (.long (100000000 : Int64)), .second, .val (.ref b1), .val (.int j4), .val (.long j7), .second, .val (.int j9), .val (.int j10), .val (.long j12), .second, .unset, .unset, .unset, .unset, .unset, .unset, .unset, .unset, .unset]) rfl ?_
    show Steps p.tables e below (T8.setTop (mkF m 79 #[.val (.long q1), .second, .val (.long q2), .second, .val (.int p3), .val (.long (100000000 : Int64)), .second, .val (.ref b1), .val (.int j4), .val (.long j7), .second, .val (.int j9), .val (.int j10), .val (.long j12), .second, .unset, .unset, .unset, .unset, .unset, .unset, .unset, .unset, .unset] [])) _
    refine XS.lloadN X8.here hx rfl (hb hby at_79) rfl ?_
    show Steps p.tables e below (T8.setTop (mkF m 80 #[.val (.long q1), .second, .val (.long q2), .second, .val (.int p3), .val (.long (100000000 : Int64)), .second, .val (.ref b1), .val (.int j4), .val (.long j7), .second, .val (.int j9), .val (.int j10), .val (.long j12), .second, .unset, .unset, .unset, .unset, .unset, .unset, .unset, .unset, .unset] [(.long q2)])) _
    refine XS.iload X8.here hx rfl (hb hby at_80) rfl ?_
    show Steps p.tables e below (T8.setTop (mkF m 82 #[.val (.long q1), .second, .val (.long q2), .second, .val (.int p3), .val (.long (100000000 : Int64)), .second, .val (.ref b1), .val (.int j4), .val (.long j7), .second, .val (.int j9), .val (.int j10), .val (.long j12), .second, .unset, .unset, .unset, .unset, .unset, .unset, .unset, .unset, .unset] [(.int p3), (.long q2)])) _
    refine XS.iconst X8.here hx rfl (hb hby at_82) ?_
    show Steps p.tables e below (T8.setTop (mkF m 83 #[.val (.long q1), .second, .val (.long q2), .second, .val (.int p3), .val (.long (100000000 : Int64)), .second, .val (.ref b1), .val (.int j4), .val (.long j7), .second, .val (.int j9), .val (.int j10), .val (.long j12), .second, .unset, .unset, .unset, .unset, .unset, .unset, .unset, .unset, .unset] [(.int (2 : Int32)), (.int p3), (.long q2)])) _
    refine XS.iushr X8.here hx rfl (hb hby at_83) rfl ?_
    show Steps p.tables e below (T8.setTop (mkF m 84 #[.val (.long q1), .second, .val (.long q2), .second, .val (.int p3), .val (.long (100000000 : Int64)), .second, .val (.ref b1), .val (.int j4), .val (.long j7), .second, .val (.int j9), .val (.int j10), .val (.long j12), .second, .unset, .unset, .unset, .unset, .unset, .unset, .unset, .unset, .unset] [(.int ((p3.toUInt32 >>> ((2 : Int32) &&& 31).toUInt32).toInt32)), (.long q2)])) _
    refine XS.lload X8.here hx rfl (hb hby at_84) rfl ?_
    exact k
  obtain ⟨_, _, ⟨T14, L14, k14, n14⟩, -, X14, ⟨Lc14, hQ14, l14, y14, z14⟩, st14⟩ := Jvm.LawKit.callS X8 hx (y := (⟨"com/example/kirchberg/kirchberg/model/pattern/PatternBudgetTakePinLaw", "pick", "(JIJ)J"⟩ : MethodName)) hown (mvT hZ (hw _ (List.mem_of_getElem? (i := 18) rfl))) (mvT hZ (hw _ (List.mem_of_getElem? (i := 19) rfl))) (mvT hZ (hw _ (List.mem_of_getElem? (i := 20) rfl))) (mvT hZ (hw _ (List.mem_of_getElem? (i := 21) rfl))) (by decide) (backOf (W := 0) (rm4 l Z a0 hw [] q2 ((p3.toUInt32 >>> ((2 : Int32) &&& 31).toUInt32).toInt32) j12 T8.heap n0 Z0 ) hZ (hw _ (List.mem_of_getElem? (i := 21) rfl)) (hw _ (List.mem_of_getElem? (i := 20) rfl)) (by decide) (by decide)) (g := (mkF m 86 #[.val (.long q1), .second, .val (.long q2), .second, .val (.int p3), .val (.long (100000000 : Int64)), .second, .val (.ref b1), .val (.int j4), .val (.long j7), .second, .val (.int j9), .val (.int j10), .val (.long j12), .second, .unset, .unset, .unset, .unset, .unset, .unset, .unset, .unset, .unset] [(.long j12), (.int ((p3.toUInt32 >>> ((2 : Int32) &&& 31).toUInt32).toInt32)), (.long q2)])) rfl (by rw [hml]; rfl) (argsL := [(.long q2), (.int ((p3.toUInt32 >>> ((2 : Int32) &&& 31).toUInt32).toInt32)), (.long j12)]) (rest := []) (lenOf pd_2 rfl) rfl (by show 2 * 0 + _ ≤ _; exact Nat.le_of_eq rfl) (hb hby at_86) (fun _ _ => ⟨rfl, rfl, (by decide : 1 + 0 ≤ _), (by decide : 1 + 0 ≤ _)⟩)
  dsimp only [Pt.U, Pt.locs, Pt.cells, Pt.slots] at X14 l14 y14 z14 st14 hQ14
  subst l14 y14 z14
  obtain ⟨rfl, N14q, e14⟩ := hQ14
  have NN := Fr.app NN N14q
  refine own_go st14 ?_
  show own_Go p.tables e below _ T14 (mkF m 89 #[.val (.long q1), .second, .val (.long q2), .second, .val (.int p3), .val (.long (100000000 : Int64)), .second, .val (.ref b1), .val (.int j4), .val (.long j7), .second, .val (.int j9), .val (.int j10), .val (.long j12), .second, .unset, .unset, .unset, .unset, .unset, .unset, .unset, .unset, .unset] [(.long (r_4 q2 ((p3.toUInt32 >>> ((2 : Int32) &&& 31).toUInt32).toInt32) j12))])
  refine own_go (T' := T14) (g' := (mkF m 91 #[.val (.long q1), .second, .val (.long q2), .second, .val (.int p3), .val (.long (100000000 : Int64)), .second, .val (.ref b1), .val (.int j4), .val (.long j7), .second, .val (.int j9), .val (.int j10), .val (.long j12), .second, .val (.long (r_4 q2 ((p3.toUInt32 >>> ((2 : Int32) &&& 31).toUInt32).toInt32) j12)), .second, .unset, .unset, .unset, .unset, .unset, .unset, .unset] [])) (fun t k => ?_) ?_
  · show Steps p.tables e below (T14.setTop (mkF m 89 #[.val (.long q1), .second, .val (.long q2), .second, .val (.int p3), .val (.long (100000000 : Int64)), .second, .val (.ref b1), .val (.int j4), .val (.long j7), .second, .val (.int j9), .val (.int j10), .val (.long j12), .second, .unset, .unset, .unset, .unset, .unset, .unset, .unset, .unset, .unset] [(.long (r_4 q2 ((p3.toUInt32 >>> ((2 : Int32) &&& 31).toUInt32).toInt32) j12))])) _
    refine XS.lstore X14.here hx rfl (hb hby at_89) rfl (l' := #[.val (.long q1), .second, .val (.long q2), .second, .val (.int p3), .val (.long (100000000 : Int64)), .second, .val (.ref b1), .val (.int j4), .val (.long j7), .second, .val (.int j9), .val (.int j10), .val (.long j12), .second, .val (.long (r_4 q2 ((p3.toUInt32 >>> ((2 : Int32) &&& 31).toUInt32).toInt32) j12)), .second, .unset, .unset, .unset, .unset, .unset, .unset, .unset]) rfl ?_
    exact k
  show own_Go p.tables e below _ T14 (mkF m 91 #[.val (.long q1), .second, .val (.long q2), .second, .val (.int p3), .val (.long (100000000 : Int64)), .second, .val (.ref b1), .val (.int j4), .val (.long j7), .second, .val (.int j9), .val (.int j10), .val (.long j12), .second, .val (.long (r_4 q2 ((p3.toUInt32 >>> ((2 : Int32) &&& 31).toUInt32).toInt32) j12)), .second, .unset, .unset, .unset, .unset, .unset, .unset, .unset] [])
  obtain ⟨j15, hj15⟩ : ∃ z : Int64, z = (r_4 q2 ((p3.toUInt32 >>> ((2 : Int32) &&& 31).toUInt32).toInt32) j12) := ⟨_, rfl⟩
  rw [← hj15]
  show own_Go p.tables e below _ T14 (mkF m 91 #[.val (.long q1), .second, .val (.long q2), .second, .val (.int p3), .val (.long (100000000 : Int64)), .second, .val (.ref b1), .val (.int j4), .val (.long j7), .second, .val (.int j9), .val (.int j10), .val (.long j12), .second, .val (.long j15), .second, .unset, .unset, .unset, .unset, .unset, .unset, .unset] [])
  refine own_go (T' := T14) (g' := (mkF m 95 #[.val (.long q1), .second, .val (.long q2), .second, .val (.int p3), .val (.long (100000000 : Int64)), .second, .val (.ref b1), .val (.int j4), .val (.long j7), .second, .val (.int j9), .val (.int j10), .val (.long j12), .second, .val (.long j15), .second, .unset, .unset, .unset, .unset, .unset, .unset, .unset] [(.long j15), (.ref b1)])) (fun t k => ?_) ?_
  · show Steps p.tables e below (T14.setTop (mkF m 91 #[.val (.long q1), .second, .val (.long q2), .second, .val (.int p3), .val (.long (100000000 : Int64)), .second, .val (.ref b1), .val (.int j4), .val (.long j7), .second, .val (.int j9), .val (.int j10), .val (.long j12), .second, .val (.long j15), .second, .unset, .unset, .unset, .unset, .unset, .unset, .unset] [])) _
    refine XS.aload X14.here hx rfl (hb hby at_91) rfl rfl ?_
    show Steps p.tables e below (T14.setTop (mkF m 93 #[.val (.long q1), .second, .val (.long q2), .second, .val (.int p3), .val (.long (100000000 : Int64)), .second, .val (.ref b1), .val (.int j4), .val (.long j7), .second, .val (.int j9), .val (.int j10), .val (.long j12), .second, .val (.long j15), .second, .unset, .unset, .unset, .unset, .unset, .unset, .unset] [(.ref b1)])) _
    refine XS.lload X14.here hx rfl (hb hby at_93) rfl ?_
    exact k
  obtain ⟨cq16, kq16, q16a, q16b, q16c⟩ := isOf hZ e14 E_b1
  obtain ⟨_, _, ⟨T16, L16, k16, n16⟩, -, X16, ⟨Lc16, hQ16, l16, y16, z16⟩, st16⟩ := X14.virtualBack hx (y := (⟨"com/example/kirchberg/kirchberg/model/pattern/PatternBudget", "take", "(J)Z"⟩ : MethodName)) (z := (⟨"com/example/kirchberg/kirchberg/model/pattern/PatternBudget", "take", "(J)Z"⟩ : MethodName)) hown (mvT hZ (hw _ (List.mem_of_getElem? (i := 23) rfl))) (mvT hZ (hw _ (List.mem_of_getElem? (i := 24) rfl))) (notFace_of_selects (args := #[]) (mvT hZ (hw _ (List.mem_of_getElem? (i := 26) rfl)))) (mvT hZ (hw _ (List.mem_of_getElem? (i := 26) rfl))) (mvT hZ (hw _ (List.mem_of_getElem? (i := 25) rfl))) (by decide) (backOf (W := 0) (rm5 l Z a0 hw [] b1 j15 (u_5_a1_left j7 (100000000 : Int64)) T8.heap n0 Z0 F_b1_left E_b1 g_b1) hZ (hw _ (List.mem_of_getElem? (i := 27) rfl)) (hw _ (List.mem_of_getElem? (i := 3) rfl)) (by decide) (by decide)) q16a q16c (g := (mkF m 95 #[.val (.long q1), .second, .val (.long q2), .second, .val (.int p3), .val (.long (100000000 : Int64)), .second, .val (.ref b1), .val (.int j4), .val (.long j7), .second, .val (.int j9), .val (.int j10), .val (.long j12), .second, .val (.long j15), .second, .unset, .unset, .unset, .unset, .unset, .unset, .unset] [(.long j15), (.ref b1)])) rfl (by rw [hml]; rfl) (Steps.refl _) (argsL := [(.long j15)]) (rest := []) (lenOf pd_3 rfl) rfl (by show 2 * 0 + _ ≤ _; exact Nat.le_of_eq rfl) (hb hby at_95) (fun _ _ => ⟨rfl, e14, (by decide : 1 + 0 ≤ _), (by decide : 1 + 0 ≤ _)⟩)
  dsimp only [Pt.U, Pt.locs, Pt.cells, Pt.slots] at X16 l16 y16 z16 st16 hQ16
  subst l16 y16 z16
  obtain ⟨rfl, N16q, K16, Q16_0, Q16_1⟩ := hQ16
  have E_b1 := Q16_0
  have F_b1_left := Q16_1
  have Z0 := Nat.le_trans Z0 K16.1
  have KK := KK.trans K16 (allS (Or.inr sz_b1) all0)
  have NN := Fr.app NN N16q
  refine own_go (fun t k => st16.trans k) ?_
  show own_Go p.tables e below _ T16 (mkF m 98 #[.val (.long q1), .second, .val (.long q2), .second, .val (.int p3), .val (.long (100000000 : Int64)), .second, .val (.ref b1), .val (.int j4), .val (.long j7), .second, .val (.int j9), .val (.int j10), .val (.long j12), .second, .val (.long j15), .second, .unset, .unset, .unset, .unset, .unset, .unset, .unset] [(.int (r_5 j15 (u_5_a1_left j7 (100000000 : Int64))))])
  refine own_go (T' := T16) (g' := (mkF m 100 #[.val (.long q1), .second, .val (.long q2), .second, .val (.int p3), .val (.long (100000000 : Int64)), .second, .val (.ref b1), .val (.int j4), .val (.long j7), .second, .val (.int j9), .val (.int j10), .val (.long j12), .second, .val (.long j15), .second, .val (.int (r_5 j15 (u_5_a1_left j7 (100000000 : Int64)))), .unset, .unset, .unset, .unset, .unset, .unset] [])) (fun t k => ?_) ?_
  · show Steps p.tables e below (T16.setTop (mkF m 98 #[.val (.long q1), .second, .val (.long q2), .second, .val (.int p3), .val (.long (100000000 : Int64)), .second, .val (.ref b1), .val (.int j4), .val (.long j7), .second, .val (.int j9), .val (.int j10), .val (.long j12), .second, .val (.long j15), .second, .unset, .unset, .unset, .unset, .unset, .unset, .unset] [(.int (r_5 j15 (u_5_a1_left j7 (100000000 : Int64))))])) _
    refine XS.istore X16.here hx rfl (hb hby at_98) rfl (l' := #[.val (.long q1), .second, .val (.long q2), .second, .val (.int p3), .val (.long (100000000 : Int64)), .second, .val (.ref b1), .val (.int j4), .val (.long j7), .second, .val (.int j9), .val (.int j10), .val (.long j12), .second, .val (.long j15), .second, .val (.int (r_5 j15 (u_5_a1_left j7 (100000000 : Int64)))), .unset, .unset, .unset, .unset, .unset, .unset]) rfl ?_
    exact k
  show own_Go p.tables e below _ T16 (mkF m 100 #[.val (.long q1), .second, .val (.long q2), .second, .val (.int p3), .val (.long (100000000 : Int64)), .second, .val (.ref b1), .val (.int j4), .val (.long j7), .second, .val (.int j9), .val (.int j10), .val (.long j12), .second, .val (.long j15), .second, .val (.int (r_5 j15 (u_5_a1_left j7 (100000000 : Int64)))), .unset, .unset, .unset, .unset, .unset, .unset] [])
  obtain ⟨j17, hj17⟩ : ∃ z : Int32, z = (r_5 j15 (u_5_a1_left j7 (100000000 : Int64))) := ⟨_, rfl⟩
  rw [← hj17]
  show own_Go p.tables e below _ T16 (mkF m 100 #[.val (.long q1), .second, .val (.long q2), .second, .val (.int p3), .val (.long (100000000 : Int64)), .second, .val (.ref b1), .val (.int j4), .val (.long j7), .second, .val (.int j9), .val (.int j10), .val (.long j12), .second, .val (.long j15), .second, .val (.int j17), .unset, .unset, .unset, .unset, .unset, .unset] [])
  refine own_go (T' := T16) (g' := (mkF m 105 #[.val (.long q1), .second, .val (.long q2), .second, .val (.int p3), .val (.long (100000000 : Int64)), .second, .val (.ref b1), .val (.int j4), .val (.long j7), .second, .val (.int j9), .val (.int j10), .val (.long j12), .second, .val (.long j15), .second, .val (.int j17), .unset, .unset, .unset, .unset, .unset, .unset] [(.int (lcmpW j15 j12))])) (fun t k => ?_) ?_
  · show Steps p.tables e below (T16.setTop (mkF m 100 #[.val (.long q1), .second, .val (.long q2), .second, .val (.int p3), .val (.long (100000000 : Int64)), .second, .val (.ref b1), .val (.int j4), .val (.long j7), .second, .val (.int j9), .val (.int j10), .val (.long j12), .second, .val (.long j15), .second, .val (.int j17), .unset, .unset, .unset, .unset, .unset, .unset] [])) _
    refine XS.lload X16.here hx rfl (hb hby at_100) rfl ?_
    show Steps p.tables e below (T16.setTop (mkF m 102 #[.val (.long q1), .second, .val (.long q2), .second, .val (.int p3), .val (.long (100000000 : Int64)), .second, .val (.ref b1), .val (.int j4), .val (.long j7), .second, .val (.int j9), .val (.int j10), .val (.long j12), .second, .val (.long j15), .second, .val (.int j17), .unset, .unset, .unset, .unset, .unset, .unset] [(.long j15)])) _
    refine XS.lload X16.here hx rfl (hb hby at_102) rfl ?_
    show Steps p.tables e below (T16.setTop (mkF m 104 #[.val (.long q1), .second, .val (.long q2), .second, .val (.int p3), .val (.long (100000000 : Int64)), .second, .val (.ref b1), .val (.int j4), .val (.long j7), .second, .val (.int j9), .val (.int j10), .val (.long j12), .second, .val (.long j15), .second, .val (.int j17), .unset, .unset, .unset, .unset, .unset, .unset] [(.long j12), (.long j15)])) _
    refine XS.lcmp X16.here hx rfl (hb hby at_104) rfl ?_
    exact k
  obtain ⟨j18, hj18, st19⟩ : ∃ (j18 : Int32), j18 = (if j12 < j15 then (0 : Int32) else (1 : Int32)) ∧ ∀ t, Steps p.tables e below (T16.setTop (mkF m 113 #[.val (.long q1), .second, .val (.long q2), .second, .val (.int p3), .val (.long (100000000 : Int64)), .second, .val (.ref b1), .val (.int j4), .val (.long j7), .second, .val (.int j9), .val (.int j10), .val (.long j12), .second, .val (.long j15), .second, .val (.int j17), .unset, .unset, .unset, .unset, .unset, .unset] [(.int j18)])) t → Steps p.tables e below (T16.setTop (mkF m 105 #[.val (.long q1), .second, .val (.long q2), .second, .val (.int p3), .val (.long (100000000 : Int64)), .second, .val (.ref b1), .val (.int j4), .val (.long j7), .second, .val (.int j9), .val (.int j10), .val (.long j12), .second, .val (.long j15), .second, .val (.int j17), .unset, .unset, .unset, .unset, .unset, .unset] [(.int (lcmpW j15 j12))])) t := by
    by_cases hc105_4 : j12 < j15
    · skip
      refine ⟨(0 : Int32), (by simp only [if_pos hc105_4]), fun t k => ?_⟩
      show Steps p.tables e below (T16.setTop (mkF m 105 #[.val (.long q1), .second, .val (.long q2), .second, .val (.int p3), .val (.long (100000000 : Int64)), .second, .val (.ref b1), .val (.int j4), .val (.long j7), .second, .val (.int j9), .val (.int j10), .val (.long j12), .second, .val (.long j15), .second, .val (.int j17), .unset, .unset, .unset, .unset, .unset, .unset] [(.int (lcmpW j15 j12))])) _
      refine XS.ifYes X16.here hx rfl (pc0 := 105) (pc' := 112) rfl (hb hby at_105) rfl ((if0 _ _).trans (tlt ((lw_gt j15 j12).mpr hc105_4)).2.2.1) (by decide) (by decide) ?_
      show Steps p.tables e below (T16.setTop (mkF m 112 #[.val (.long q1), .second, .val (.long q2), .second, .val (.int p3), .val (.long (100000000 : Int64)), .second, .val (.ref b1), .val (.int j4), .val (.long j7), .second, .val (.int j9), .val (.int j10), .val (.long j12), .second, .val (.long j15), .second, .val (.int j17), .unset, .unset, .unset, .unset, .unset, .unset] [])) _
      refine XS.iconst X16.here hx rfl (hb hby at_112) ?_
      exact k
    · skip
      refine ⟨(1 : Int32), (by simp only [if_neg hc105_4]), fun t k => ?_⟩
      show Steps p.tables e below (T16.setTop (mkF m 105 #[.val (.long q1), .second, .val (.long q2), .second, .val (.int p3), .val (.long (100000000 : Int64)), .second, .val (.ref b1), .val (.int j4), .val (.long j7), .second, .val (.int j9), .val (.int j10), .val (.long j12), .second, .val (.long j15), .second, .val (.int j17), .unset, .unset, .unset, .unset, .unset, .unset] [(.int (lcmpW j15 j12))])) _
      refine XS.ifNo X16.here hx rfl (hb hby at_105) rfl ((if0 _ _).trans (flt (fun q => hc105_4 ((lw_gt j15 j12).mp q))).2.2.1) ?_
      show Steps p.tables e below (T16.setTop (mkF m 108 #[.val (.long q1), .second, .val (.long q2), .second, .val (.int p3), .val (.long (100000000 : Int64)), .second, .val (.ref b1), .val (.int j4), .val (.long j7), .second, .val (.int j9), .val (.int j10), .val (.long j12), .second, .val (.long j15), .second, .val (.int j17), .unset, .unset, .unset, .unset, .unset, .unset] [])) _
      refine XS.iconst X16.here hx rfl (hb hby at_108) ?_
      show Steps p.tables e below (T16.setTop (mkF m 109 #[.val (.long q1), .second, .val (.long q2), .second, .val (.int p3), .val (.long (100000000 : Int64)), .second, .val (.ref b1), .val (.int j4), .val (.long j7), .second, .val (.int j9), .val (.int j10), .val (.long j12), .second, .val (.long j15), .second, .val (.int j17), .unset, .unset, .unset, .unset, .unset, .unset] [(.int (1 : Int32))])) _
      refine XS.goto X16.here hx rfl (pc0 := 109) (pc' := 113) rfl (hb hby at_109) (by decide) (by decide) ?_
      exact k
  refine own_go st19 ?_
  show own_Go p.tables e below _ T16 (mkF m 113 #[.val (.long q1), .second, .val (.long q2), .second, .val (.int p3), .val (.long (100000000 : Int64)), .second, .val (.ref b1), .val (.int j4), .val (.long j7), .second, .val (.int j9), .val (.int j10), .val (.long j12), .second, .val (.long j15), .second, .val (.int j17), .unset, .unset, .unset, .unset, .unset, .unset] [(.int j18)])
  refine own_go (T' := T16) (g' := (mkF m 117 #[.val (.long q1), .second, .val (.long q2), .second, .val (.int p3), .val (.long (100000000 : Int64)), .second, .val (.ref b1), .val (.int j4), .val (.long j7), .second, .val (.int j9), .val (.int j10), .val (.long j12), .second, .val (.long j15), .second, .val (.int j17), .val (.int j18), .unset, .unset, .unset, .unset, .unset] [(.int j18)])) (fun t k => ?_) ?_
  · show Steps p.tables e below (T16.setTop (mkF m 113 #[.val (.long q1), .second, .val (.long q2), .second, .val (.int p3), .val (.long (100000000 : Int64)), .second, .val (.ref b1), .val (.int j4), .val (.long j7), .second, .val (.int j9), .val (.int j10), .val (.long j12), .second, .val (.long j15), .second, .val (.int j17), .unset, .unset, .unset, .unset, .unset, .unset] [(.int j18)])) _
    refine XS.istore X16.here hx rfl (hb hby at_113) rfl (l' := #[.val (.long q1), .second, .val (.long q2), .second, .val (.int p3), .val (.long (100000000 : Int64)), .second, .val (.ref b1), .val (.int j4), .val (.long j7), .second, .val (.int j9), .val (.int j10), .val (.long j12), .second, .val (.long j15), .second, .val (.int j17), .val (.int j18), .unset, .unset, .unset, .unset, .unset]) rfl ?_
    show Steps p.tables e below (T16.setTop (mkF m 115 #[.val (.long q1), .second, .val (.long q2), .second, .val (.int p3), .val (.long (100000000 : Int64)), .second, .val (.ref b1), .val (.int j4), .val (.long j7), .second, .val (.int j9), .val (.int j10), .val (.long j12), .second, .val (.long j15), .second, .val (.int j17), .val (.int j18), .unset, .unset, .unset, .unset, .unset] [])) _
    refine XS.iload X16.here hx rfl (hb hby at_115) rfl ?_
    exact k
  obtain ⟨j20, hj20, st21⟩ : ∃ (j20 : Int64), j20 = (if j18 = (0 : Int32) then (0 : Int64) else (j12 - j15)) ∧ ∀ t, Steps p.tables e below (T16.setTop (mkF m 129 #[.val (.long q1), .second, .val (.long q2), .second, .val (.int p3), .val (.long (100000000 : Int64)), .second, .val (.ref b1), .val (.int j4), .val (.long j7), .second, .val (.int j9), .val (.int j10), .val (.long j12), .second, .val (.long j15), .second, .val (.int j17), .val (.int j18), .unset, .unset, .unset, .unset, .unset] [(.long j20)])) t → Steps p.tables e below (T16.setTop (mkF m 117 #[.val (.long q1), .second, .val (.long q2), .second, .val (.int p3), .val (.long (100000000 : Int64)), .second, .val (.ref b1), .val (.int j4), .val (.long j7), .second, .val (.int j9), .val (.int j10), .val (.long j12), .second, .val (.long j15), .second, .val (.int j17), .val (.int j18), .unset, .unset, .unset, .unset, .unset] [(.int j18)])) t := by
    by_cases hc117_5 : j18 = (0 : Int32)
    · skip
      refine ⟨(0 : Int64), (by simp only [if_pos hc117_5]), fun t k => ?_⟩
      show Steps p.tables e below (T16.setTop (mkF m 117 #[.val (.long q1), .second, .val (.long q2), .second, .val (.int p3), .val (.long (100000000 : Int64)), .second, .val (.ref b1), .val (.int j4), .val (.long j7), .second, .val (.int j9), .val (.int j10), .val (.long j12), .second, .val (.long j15), .second, .val (.int j17), .val (.int j18), .unset, .unset, .unset, .unset, .unset] [(.int j18)])) _
      refine XS.ifYes X16.here hx rfl (pc0 := 117) (pc' := 128) rfl (hb hby at_117) rfl ((if0 _ _).trans (teq hc117_5).1) (by decide) (by decide) ?_
      show Steps p.tables e below (T16.setTop (mkF m 128 #[.val (.long q1), .second, .val (.long q2), .second, .val (.int p3), .val (.long (100000000 : Int64)), .second, .val (.ref b1), .val (.int j4), .val (.long j7), .second, .val (.int j9), .val (.int j10), .val (.long j12), .second, .val (.long j15), .second, .val (.int j17), .val (.int j18), .unset, .unset, .unset, .unset, .unset] [])) _
      refine XS.lconst X16.here hx rfl (hb hby at_128) ?_
      exact k
    · skip
      refine ⟨(j12 - j15), (by simp only [if_neg hc117_5]), fun t k => ?_⟩
      show Steps p.tables e below (T16.setTop (mkF m 117 #[.val (.long q1), .second, .val (.long q2), .second, .val (.int p3), .val (.long (100000000 : Int64)), .second, .val (.ref b1), .val (.int j4), .val (.long j7), .second, .val (.int j9), .val (.int j10), .val (.long j12), .second, .val (.long j15), .second, .val (.int j17), .val (.int j18), .unset, .unset, .unset, .unset, .unset] [(.int j18)])) _
      refine XS.ifNo X16.here hx rfl (hb hby at_117) rfl ((if0 _ _).trans (feq hc117_5).1) ?_
      show Steps p.tables e below (T16.setTop (mkF m 120 #[.val (.long q1), .second, .val (.long q2), .second, .val (.int p3), .val (.long (100000000 : Int64)), .second, .val (.ref b1), .val (.int j4), .val (.long j7), .second, .val (.int j9), .val (.int j10), .val (.long j12), .second, .val (.long j15), .second, .val (.int j17), .val (.int j18), .unset, .unset, .unset, .unset, .unset] [])) _
      refine XS.lload X16.here hx rfl (hb hby at_120) rfl ?_
      show Steps p.tables e below (T16.setTop (mkF m 122 #[.val (.long q1), .second, .val (.long q2), .second, .val (.int p3), .val (.long (100000000 : Int64)), .second, .val (.ref b1), .val (.int j4), .val (.long j7), .second, .val (.int j9), .val (.int j10), .val (.long j12), .second, .val (.long j15), .second, .val (.int j17), .val (.int j18), .unset, .unset, .unset, .unset, .unset] [(.long j12)])) _
      refine XS.lload X16.here hx rfl (hb hby at_122) rfl ?_
      show Steps p.tables e below (T16.setTop (mkF m 124 #[.val (.long q1), .second, .val (.long q2), .second, .val (.int p3), .val (.long (100000000 : Int64)), .second, .val (.ref b1), .val (.int j4), .val (.long j7), .second, .val (.int j9), .val (.int j10), .val (.long j12), .second, .val (.long j15), .second, .val (.int j17), .val (.int j18), .unset, .unset, .unset, .unset, .unset] [(.long j15), (.long j12)])) _
      refine XS.lsub X16.here hx rfl (hb hby at_124) rfl ?_
      show Steps p.tables e below (T16.setTop (mkF m 125 #[.val (.long q1), .second, .val (.long q2), .second, .val (.int p3), .val (.long (100000000 : Int64)), .second, .val (.ref b1), .val (.int j4), .val (.long j7), .second, .val (.int j9), .val (.int j10), .val (.long j12), .second, .val (.long j15), .second, .val (.int j17), .val (.int j18), .unset, .unset, .unset, .unset, .unset] [(.long (j12 - j15))])) _
      refine XS.goto X16.here hx rfl (pc0 := 125) (pc' := 129) rfl (hb hby at_125) (by decide) (by decide) ?_
      exact k
  refine own_go st21 ?_
  show own_Go p.tables e below _ T16 (mkF m 129 #[.val (.long q1), .second, .val (.long q2), .second, .val (.int p3), .val (.long (100000000 : Int64)), .second, .val (.ref b1), .val (.int j4), .val (.long j7), .second, .val (.int j9), .val (.int j10), .val (.long j12), .second, .val (.long j15), .second, .val (.int j17), .val (.int j18), .unset, .unset, .unset, .unset, .unset] [(.long j20)])
  refine own_go (T' := T16) (g' := (mkF m 133 #[.val (.long q1), .second, .val (.long q2), .second, .val (.int p3), .val (.long (100000000 : Int64)), .second, .val (.ref b1), .val (.int j4), .val (.long j7), .second, .val (.int j9), .val (.int j10), .val (.long j12), .second, .val (.long j15), .second, .val (.int j17), .val (.int j18), .val (.long j20), .second, .unset, .unset, .unset] [(.ref b1)])) (fun t k => ?_) ?_
  · show Steps p.tables e below (T16.setTop (mkF m 129 #[.val (.long q1), .second, .val (.long q2), .second, .val (.int p3), .val (.long (100000000 : Int64)), .second, .val (.ref b1), .val (.int j4), .val (.long j7), .second, .val (.int j9), .val (.int j10), .val (.long j12), .second, .val (.long j15), .second, .val (.int j17), .val (.int j18), .unset, .unset, .unset, .unset, .unset] [(.long j20)])) _
    refine XS.lstore X16.here hx rfl (hb hby at_129) rfl (l' := #[.val (.long q1), .second, .val (.long q2), .second, .val (.int p3), .val (.long (100000000 : Int64)), .second, .val (.ref b1), .val (.int j4), .val (.long j7), .second, .val (.int j9), .val (.int j10), .val (.long j12), .second, .val (.long j15), .second, .val (.int j17), .val (.int j18), .val (.long j20), .second, .unset, .unset, .unset]) rfl ?_
    show Steps p.tables e below (T16.setTop (mkF m 131 #[.val (.long q1), .second, .val (.long q2), .second, .val (.int p3), .val (.long (100000000 : Int64)), .second, .val (.ref b1), .val (.int j4), .val (.long j7), .second, .val (.int j9), .val (.int j10), .val (.long j12), .second, .val (.long j15), .second, .val (.int j17), .val (.int j18), .val (.long j20), .second, .unset, .unset, .unset] [])) _
    refine XS.aload X16.here hx rfl (hb hby at_131) rfl rfl ?_
    exact k
  obtain ⟨cq22, kq22, q22a, q22b, q22c⟩ := isOf hZ rfl E_b1
  obtain ⟨_, _, ⟨T22, L22, k22, n22⟩, -, X22, ⟨Lc22, hQ22, l22, y22, z22⟩, st22⟩ := X16.virtualBack hx (y := (⟨"com/example/kirchberg/kirchberg/model/pattern/PatternBudget", "isSpent", "()Z"⟩ : MethodName)) (z := (⟨"com/example/kirchberg/kirchberg/model/pattern/PatternBudget", "isSpent", "()Z"⟩ : MethodName)) hown (mvT hZ (hw _ (List.mem_of_getElem? (i := 13) rfl))) (mvT hZ (hw _ (List.mem_of_getElem? (i := 14) rfl))) (notFace_of_selects (args := #[]) (mvT hZ (hw _ (List.mem_of_getElem? (i := 16) rfl)))) (mvT hZ (hw _ (List.mem_of_getElem? (i := 16) rfl))) (mvT hZ (hw _ (List.mem_of_getElem? (i := 15) rfl))) (by decide) (backOf (W := 0) (rm3 l Z a0 hw [] b1 (u_5_a1_left j15 (u_5_a1_left j7 (100000000 : Int64))) T16.heap n0 Z0 F_b1_left) hZ (hw _ (List.mem_of_getElem? (i := 17) rfl)) (hw _ (List.mem_of_getElem? (i := 3) rfl)) (by decide) (by decide)) q22a q22c (g := (mkF m 133 #[.val (.long q1), .second, .val (.long q2), .second, .val (.int p3), .val (.long (100000000 : Int64)), .second, .val (.ref b1), .val (.int j4), .val (.long j7), .second, .val (.int j9), .val (.int j10), .val (.long j12), .second, .val (.long j15), .second, .val (.int j17), .val (.int j18), .val (.long j20), .second, .unset, .unset, .unset] [(.ref b1)])) rfl (by rw [hml]; rfl) (Steps.refl _) (argsL := []) (rest := []) (lenOf pd_1 rfl) rfl (by show 2 * 0 + _ ≤ _; exact Nat.le_of_eq rfl) (hb hby at_133) (fun _ _ => ⟨rfl, rfl, (by decide : 1 + 0 ≤ _), (by decide : 1 + 0 ≤ _)⟩)
  dsimp only [Pt.U, Pt.locs, Pt.cells, Pt.slots] at X22 l22 y22 z22 st22 hQ22
  subst l22 y22 z22
  obtain ⟨rfl, N22q, e22⟩ := hQ22
  have NN := Fr.app NN N22q
  refine own_go (fun t k => st22.trans k) ?_
  show own_Go p.tables e below _ T22 (mkF m 136 #[.val (.long q1), .second, .val (.long q2), .second, .val (.int p3), .val (.long (100000000 : Int64)), .second, .val (.ref b1), .val (.int j4), .val (.long j7), .second, .val (.int j9), .val (.int j10), .val (.long j12), .second, .val (.long j15), .second, .val (.int j17), .val (.int j18), .val (.long j20), .second, .unset, .unset, .unset] [(.int (r_3 (u_5_a1_left j15 (u_5_a1_left j7 (100000000 : Int64)))))])
  refine own_go (T' := T22) (g' := (mkF m 138 #[.val (.long q1), .second, .val (.long q2), .second, .val (.int p3), .val (.long (100000000 : Int64)), .second, .val (.ref b1), .val (.int j4), .val (.long j7), .second, .val (.int j9), .val (.int j10), .val (.long j12), .second, .val (.long j15), .second, .val (.int j17), .val (.int j18), .val (.long j20), .second, .val (.int (r_3 (u_5_a1_left j15 (u_5_a1_left j7 (100000000 : Int64))))), .unset, .unset] [])) (fun t k => ?_) ?_
  · show Steps p.tables e below (T22.setTop (mkF m 136 #[.val (.long q1), .second, .val (.long q2), .second, .val (.int p3), .val (.long (100000000 : Int64)), .second, .val (.ref b1), .val (.int j4), .val (.long j7), .second, .val (.int j9), .val (.int j10), .val (.long j12), .second, .val (.long j15), .second, .val (.int j17), .val (.int j18), .val (.long j20), .second, .unset, .unset, .unset] [(.int (r_3 (u_5_a1_left j15 (u_5_a1_left j7 (100000000 : Int64)))))])) _
    refine XS.istore X22.here hx rfl (hb hby at_136) rfl (l' := #[.val (.long q1), .second, .val (.long q2), .second, .val (.int p3), .val (.long (100000000 : Int64)), .second, .val (.ref b1), .val (.int j4), .val (.long j7), .second, .val (.int j9), .val (.int j10), .val (.long j12), .second, .val (.long j15), .second, .val (.int j17), .val (.int j18), .val (.long j20), .second, .val (.int (r_3 (u_5_a1_left j15 (u_5_a1_left j7 (100000000 : Int64))))), .unset, .unset]) rfl ?_
    exact k
  show own_Go p.tables e below _ T22 (mkF m 138 #[.val (.long q1), .second, .val (.long q2), .second, .val (.int p3), .val (.long (100000000 : Int64)), .second, .val (.ref b1), .val (.int j4), .val (.long j7), .second, .val (.int j9), .val (.int j10), .val (.long j12), .second, .val (.long j15), .second, .val (.int j17), .val (.int j18), .val (.long j20), .second, .val (.int (r_3 (u_5_a1_left j15 (u_5_a1_left j7 (100000000 : Int64))))), .unset, .unset] [])
  obtain ⟨j23, hj23⟩ : ∃ z : Int32, z = (r_3 (u_5_a1_left j15 (u_5_a1_left j7 (100000000 : Int64)))) := ⟨_, rfl⟩
  rw [← hj23]
  show own_Go p.tables e below _ T22 (mkF m 138 #[.val (.long q1), .second, .val (.long q2), .second, .val (.int p3), .val (.long (100000000 : Int64)), .second, .val (.ref b1), .val (.int j4), .val (.long j7), .second, .val (.int j9), .val (.int j10), .val (.long j12), .second, .val (.long j15), .second, .val (.int j17), .val (.int j18), .val (.long j20), .second, .val (.int j23), .unset, .unset] [])
  refine own_go (T' := T22) (g' := (mkF m 142 #[.val (.long q1), .second, .val (.long q2), .second, .val (.int p3), .val (.long (100000000 : Int64)), .second, .val (.ref b1), .val (.int j4), .val (.long j7), .second, .val (.int j9), .val (.int j10), .val (.long j12), .second, .val (.long j15), .second, .val (.int j17), .val (.int j18), .val (.long j20), .second, .val (.int j23), .unset, .unset] [(.long j20), (.ref b1)])) (fun t k => ?_) ?_
  · show Steps p.tables e below (T22.setTop (mkF m 138 #[.val (.long q1), .second, .val (.long q2), .second, .val (.int p3), .val (.long (100000000 : Int64)), .second, .val (.ref b1), .val (.int j4), .val (.long j7), .second, .val (.int j9), .val (.int j10), .val (.long j12), .second, .val (.long j15), .second, .val (.int j17), .val (.int j18), .val (.long j20), .second, .val (.int j23), .unset, .unset] [])) _
    refine XS.aload X22.here hx rfl (hb hby at_138) rfl rfl ?_
    show Steps p.tables e below (T22.setTop (mkF m 140 #[.val (.long q1), .second, .val (.long q2), .second, .val (.int p3), .val (.long (100000000 : Int64)), .second, .val (.ref b1), .val (.int j4), .val (.long j7), .second, .val (.int j9), .val (.int j10), .val (.long j12), .second, .val (.long j15), .second, .val (.int j17), .val (.int j18), .val (.long j20), .second, .val (.int j23), .unset, .unset] [(.ref b1)])) _
    refine XS.lload X22.here hx rfl (hb hby at_140) rfl ?_
    exact k
  obtain ⟨cq24, kq24, q24a, q24b, q24c⟩ := isOf hZ e22 E_b1
  obtain ⟨_, _, ⟨T24, L24, k24, n24⟩, -, X24, ⟨Lc24, hQ24, l24, y24, z24⟩, st24⟩ := X22.virtualBack hx (y := (⟨"com/example/kirchberg/kirchberg/model/pattern/PatternBudget", "take", "(J)Z"⟩ : MethodName)) (z := (⟨"com/example/kirchberg/kirchberg/model/pattern/PatternBudget", "take", "(J)Z"⟩ : MethodName)) hown (mvT hZ (hw _ (List.mem_of_getElem? (i := 23) rfl))) (mvT hZ (hw _ (List.mem_of_getElem? (i := 24) rfl))) (notFace_of_selects (args := #[]) (mvT hZ (hw _ (List.mem_of_getElem? (i := 26) rfl)))) (mvT hZ (hw _ (List.mem_of_getElem? (i := 26) rfl))) (mvT hZ (hw _ (List.mem_of_getElem? (i := 25) rfl))) (by decide) (backOf (W := 0) (rm5 l Z a0 hw [] b1 j20 (u_5_a1_left j15 (u_5_a1_left j7 (100000000 : Int64))) T16.heap n0 Z0 F_b1_left E_b1 g_b1) hZ (hw _ (List.mem_of_getElem? (i := 27) rfl)) (hw _ (List.mem_of_getElem? (i := 3) rfl)) (by decide) (by decide)) q24a q24c (g := (mkF m 142 #[.val (.long q1), .second, .val (.long q2), .second, .val (.int p3), .val (.long (100000000 : Int64)), .second, .val (.ref b1), .val (.int j4), .val (.long j7), .second, .val (.int j9), .val (.int j10), .val (.long j12), .second, .val (.long j15), .second, .val (.int j17), .val (.int j18), .val (.long j20), .second, .val (.int j23), .unset, .unset] [(.long j20), (.ref b1)])) rfl (by rw [hml]; rfl) (Steps.refl _) (argsL := [(.long j20)]) (rest := []) (lenOf pd_3 rfl) rfl (by show 2 * 0 + _ ≤ _; exact Nat.le_of_eq rfl) (hb hby at_142) (fun _ _ => ⟨rfl, e22, (by decide : 1 + 0 ≤ _), (by decide : 1 + 0 ≤ _)⟩)
  dsimp only [Pt.U, Pt.locs, Pt.cells, Pt.slots] at X24 l24 y24 z24 st24 hQ24
  subst l24 y24 z24
  obtain ⟨rfl, N24q, K24, Q24_0, Q24_1⟩ := hQ24
  have E_b1 := Q24_0
  have F_b1_left := Q24_1
  have Z0 := Nat.le_trans Z0 K24.1
  have KK := KK.trans K24 (allS (Or.inr sz_b1) all0)
  have NN := Fr.app NN N24q
  refine own_go (fun t k => st24.trans k) ?_
  show own_Go p.tables e below _ T24 (mkF m 145 #[.val (.long q1), .second, .val (.long q2), .second, .val (.int p3), .val (.long (100000000 : Int64)), .second, .val (.ref b1), .val (.int j4), .val (.long j7), .second, .val (.int j9), .val (.int j10), .val (.long j12), .second, .val (.long j15), .second, .val (.int j17), .val (.int j18), .val (.long j20), .second, .val (.int j23), .unset, .unset] [(.int (r_5 j20 (u_5_a1_left j15 (u_5_a1_left j7 (100000000 : Int64)))))])
  refine own_go (T' := T24) (g' := (mkF m 147 #[.val (.long q1), .second, .val (.long q2), .second, .val (.int p3), .val (.long (100000000 : Int64)), .second, .val (.ref b1), .val (.int j4), .val (.long j7), .second, .val (.int j9), .val (.int j10), .val (.long j12), .second, .val (.long j15), .second, .val (.int j17), .val (.int j18), .val (.long j20), .second, .val (.int j23), .val (.int (r_5 j20 (u_5_a1_left j15 (u_5_a1_left j7 (100000000 : Int64))))), .unset] [])) (fun t k => ?_) ?_
  · show Steps p.tables e below (T24.setTop (mkF m 145 #[.val (.long q1), .second, .val (.long q2), .second, .val (.int p3), .val (.long (100000000 : Int64)), .second, .val (.ref b1), .val (.int j4), .val (.long j7), .second, .val (.int j9), .val (.int j10), .val (.long j12), .second, .val (.long j15), .second, .val (.int j17), .val (.int j18), .val (.long j20), .second, .val (.int j23), .unset, .unset] [(.int (r_5 j20 (u_5_a1_left j15 (u_5_a1_left j7 (100000000 : Int64)))))])) _
    refine XS.istore X24.here hx rfl (hb hby at_145) rfl (l' := #[.val (.long q1), .second, .val (.long q2), .second, .val (.int p3), .val (.long (100000000 : Int64)), .second, .val (.ref b1), .val (.int j4), .val (.long j7), .second, .val (.int j9), .val (.int j10), .val (.long j12), .second, .val (.long j15), .second, .val (.int j17), .val (.int j18), .val (.long j20), .second, .val (.int j23), .val (.int (r_5 j20 (u_5_a1_left j15 (u_5_a1_left j7 (100000000 : Int64))))), .unset]) rfl ?_
    exact k
  show own_Go p.tables e below _ T24 (mkF m 147 #[.val (.long q1), .second, .val (.long q2), .second, .val (.int p3), .val (.long (100000000 : Int64)), .second, .val (.ref b1), .val (.int j4), .val (.long j7), .second, .val (.int j9), .val (.int j10), .val (.long j12), .second, .val (.long j15), .second, .val (.int j17), .val (.int j18), .val (.long j20), .second, .val (.int j23), .val (.int (r_5 j20 (u_5_a1_left j15 (u_5_a1_left j7 (100000000 : Int64))))), .unset] [])
  obtain ⟨j25, hj25⟩ : ∃ z : Int32, z = (r_5 j20 (u_5_a1_left j15 (u_5_a1_left j7 (100000000 : Int64)))) := ⟨_, rfl⟩
  rw [← hj25]
  show own_Go p.tables e below _ T24 (mkF m 147 #[.val (.long q1), .second, .val (.long q2), .second, .val (.int p3), .val (.long (100000000 : Int64)), .second, .val (.ref b1), .val (.int j4), .val (.long j7), .second, .val (.int j9), .val (.int j10), .val (.long j12), .second, .val (.long j15), .second, .val (.int j17), .val (.int j18), .val (.long j20), .second, .val (.int j23), .val (.int j25), .unset] [])
  refine own_go (T' := T24) (g' := (mkF m 149 #[.val (.long q1), .second, .val (.long q2), .second, .val (.int p3), .val (.long (100000000 : Int64)), .second, .val (.ref b1), .val (.int j4), .val (.long j7), .second, .val (.int j9), .val (.int j10), .val (.long j12), .second, .val (.long j15), .second, .val (.int j17), .val (.int j18), .val (.long j20), .second, .val (.int j23), .val (.int j25), .unset] [(.ref b1)])) (fun t k => ?_) ?_
  · show Steps p.tables e below (T24.setTop (mkF m 147 #[.val (.long q1), .second, .val (.long q2), .second, .val (.int p3), .val (.long (100000000 : Int64)), .second, .val (.ref b1), .val (.int j4), .val (.long j7), .second, .val (.int j9), .val (.int j10), .val (.long j12), .second, .val (.long j15), .second, .val (.int j17), .val (.int j18), .val (.long j20), .second, .val (.int j23), .val (.int j25), .unset] [])) _
    refine XS.aload X24.here hx rfl (hb hby at_147) rfl rfl ?_
    exact k
  obtain ⟨cq26, kq26, q26a, q26b, q26c⟩ := isOf hZ rfl E_b1
  obtain ⟨_, _, ⟨T26, L26, k26, n26⟩, -, X26, ⟨Lc26, hQ26, l26, y26, z26⟩, st26⟩ := X24.virtualBack hx (y := (⟨"com/example/kirchberg/kirchberg/model/pattern/PatternBudget", "isSpent", "()Z"⟩ : MethodName)) (z := (⟨"com/example/kirchberg/kirchberg/model/pattern/PatternBudget", "isSpent", "()Z"⟩ : MethodName)) hown (mvT hZ (hw _ (List.mem_of_getElem? (i := 13) rfl))) (mvT hZ (hw _ (List.mem_of_getElem? (i := 14) rfl))) (notFace_of_selects (args := #[]) (mvT hZ (hw _ (List.mem_of_getElem? (i := 16) rfl)))) (mvT hZ (hw _ (List.mem_of_getElem? (i := 16) rfl))) (mvT hZ (hw _ (List.mem_of_getElem? (i := 15) rfl))) (by decide) (backOf (W := 0) (rm3 l Z a0 hw [] b1 (u_5_a1_left j20 (u_5_a1_left j15 (u_5_a1_left j7 (100000000 : Int64)))) T24.heap n0 Z0 F_b1_left) hZ (hw _ (List.mem_of_getElem? (i := 17) rfl)) (hw _ (List.mem_of_getElem? (i := 3) rfl)) (by decide) (by decide)) q26a q26c (g := (mkF m 149 #[.val (.long q1), .second, .val (.long q2), .second, .val (.int p3), .val (.long (100000000 : Int64)), .second, .val (.ref b1), .val (.int j4), .val (.long j7), .second, .val (.int j9), .val (.int j10), .val (.long j12), .second, .val (.long j15), .second, .val (.int j17), .val (.int j18), .val (.long j20), .second, .val (.int j23), .val (.int j25), .unset] [(.ref b1)])) rfl (by rw [hml]; rfl) (Steps.refl _) (argsL := []) (rest := []) (lenOf pd_1 rfl) rfl (by show 2 * 0 + _ ≤ _; exact Nat.le_of_eq rfl) (hb hby at_149) (fun _ _ => ⟨rfl, rfl, (by decide : 1 + 0 ≤ _), (by decide : 1 + 0 ≤ _)⟩)
  dsimp only [Pt.U, Pt.locs, Pt.cells, Pt.slots] at X26 l26 y26 z26 st26 hQ26
  subst l26 y26 z26
  obtain ⟨rfl, N26q, e26⟩ := hQ26
  have NN := Fr.app NN N26q
  refine own_go (fun t k => st26.trans k) ?_
  show own_Go p.tables e below _ T26 (mkF m 152 #[.val (.long q1), .second, .val (.long q2), .second, .val (.int p3), .val (.long (100000000 : Int64)), .second, .val (.ref b1), .val (.int j4), .val (.long j7), .second, .val (.int j9), .val (.int j10), .val (.long j12), .second, .val (.long j15), .second, .val (.int j17), .val (.int j18), .val (.long j20), .second, .val (.int j23), .val (.int j25), .unset] [(.int (r_3 (u_5_a1_left j20 (u_5_a1_left j15 (u_5_a1_left j7 (100000000 : Int64))))))])
  refine own_go (T' := T26) (g' := (mkF m 154 #[.val (.long q1), .second, .val (.long q2), .second, .val (.int p3), .val (.long (100000000 : Int64)), .second, .val (.ref b1), .val (.int j4), .val (.long j7), .second, .val (.int j9), .val (.int j10), .val (.long j12), .second, .val (.long j15), .second, .val (.int j17), .val (.int j18), .val (.long j20), .second, .val (.int j23), .val (.int j25), .val (.int (r_3 (u_5_a1_left j20 (u_5_a1_left j15 (u_5_a1_left j7 (100000000 : Int64))))))] [])) (fun t k => ?_) ?_
  · show Steps p.tables e below (T26.setTop (mkF m 152 #[.val (.long q1), .second, .val (.long q2), .second, .val (.int p3), .val (.long (100000000 : Int64)), .second, .val (.ref b1), .val (.int j4), .val (.long j7), .second, .val (.int j9), .val (.int j10), .val (.long j12), .second, .val (.long j15), .second, .val (.int j17), .val (.int j18), .val (.long j20), .second, .val (.int j23), .val (.int j25), .unset] [(.int (r_3 (u_5_a1_left j20 (u_5_a1_left j15 (u_5_a1_left j7 (100000000 : Int64))))))])) _
    refine XS.istore X26.here hx rfl (hb hby at_152) rfl (l' := #[.val (.long q1), .second, .val (.long q2), .second, .val (.int p3), .val (.long (100000000 : Int64)), .second, .val (.ref b1), .val (.int j4), .val (.long j7), .second, .val (.int j9), .val (.int j10), .val (.long j12), .second, .val (.long j15), .second, .val (.int j17), .val (.int j18), .val (.long j20), .second, .val (.int j23), .val (.int j25), .val (.int (r_3 (u_5_a1_left j20 (u_5_a1_left j15 (u_5_a1_left j7 (100000000 : Int64))))))]) rfl ?_
    exact k
  show own_Go p.tables e below _ T26 (mkF m 154 #[.val (.long q1), .second, .val (.long q2), .second, .val (.int p3), .val (.long (100000000 : Int64)), .second, .val (.ref b1), .val (.int j4), .val (.long j7), .second, .val (.int j9), .val (.int j10), .val (.long j12), .second, .val (.long j15), .second, .val (.int j17), .val (.int j18), .val (.long j20), .second, .val (.int j23), .val (.int j25), .val (.int (r_3 (u_5_a1_left j20 (u_5_a1_left j15 (u_5_a1_left j7 (100000000 : Int64))))))] [])
  obtain ⟨j27, hj27⟩ : ∃ z : Int32, z = (r_3 (u_5_a1_left j20 (u_5_a1_left j15 (u_5_a1_left j7 (100000000 : Int64))))) := ⟨_, rfl⟩
  rw [← hj27]
  show own_Go p.tables e below _ T26 (mkF m 154 #[.val (.long q1), .second, .val (.long q2), .second, .val (.int p3), .val (.long (100000000 : Int64)), .second, .val (.ref b1), .val (.int j4), .val (.long j7), .second, .val (.int j9), .val (.int j10), .val (.long j12), .second, .val (.long j15), .second, .val (.int j17), .val (.int j18), .val (.long j20), .second, .val (.int j23), .val (.int j25), .val (.int j27)] [])
  refine own_go (T' := T26) (g' := (mkF m 156 #[.val (.long q1), .second, .val (.long q2), .second, .val (.int p3), .val (.long (100000000 : Int64)), .second, .val (.ref b1), .val (.int j4), .val (.long j7), .second, .val (.int j9), .val (.int j10), .val (.long j12), .second, .val (.long j15), .second, .val (.int j17), .val (.int j18), .val (.long j20), .second, .val (.int j23), .val (.int j25), .val (.int j27)] [(.int j4)])) (fun t k => ?_) ?_
  · show Steps p.tables e below (T26.setTop (mkF m 154 #[.val (.long q1), .second, .val (.long q2), .second, .val (.int p3), .val (.long (100000000 : Int64)), .second, .val (.ref b1), .val (.int j4), .val (.long j7), .second, .val (.int j9), .val (.int j10), .val (.long j12), .second, .val (.long j15), .second, .val (.int j17), .val (.int j18), .val (.long j20), .second, .val (.int j23), .val (.int j25), .val (.int j27)] [])) _
    refine XS.iload X26.here hx rfl (hb hby at_154) rfl ?_
    exact k
  obtain ⟨j28, hj28, st29⟩ : ∃ (j28 : Int32), j28 = (if j4 = (0 : Int32) then (0 : Int32) else (if j9 = j10 then (if j17 = j18 then (if j20 = (0 : Int64) then (if j23 = (1 : Int32) then (if j25 = (0 : Int32) then (0 : Int32) else (if j27 = (0 : Int32) then (0 : Int32) else (1 : Int32))) else (0 : Int32)) else (if j23 = (0 : Int32) then (if j25 = (0 : Int32) then (0 : Int32) else (if j27 = (0 : Int32) then (0 : Int32) else (1 : Int32))) else (0 : Int32))) else (0 : Int32)) else (0 : Int32))) ∧ ∀ t, Steps p.tables e below (T26.setTop (mkF m 205 #[.val (.long q1), .second, .val (.long q2), .second, .val (.int p3), .val (.long (100000000 : Int64)), .second, .val (.ref b1), .val (.int j4), .val (.long j7), .second, .val (.int j9), .val (.int j10), .val (.long j12), .second, .val (.long j15), .second, .val (.int j17), .val (.int j18), .val (.long j20), .second, .val (.int j23), .val (.int j25), .val (.int j27)] [(.int j28)])) t → Steps p.tables e below (T26.setTop (mkF m 156 #[.val (.long q1), .second, .val (.long q2), .second, .val (.int p3), .val (.long (100000000 : Int64)), .second, .val (.ref b1), .val (.int j4), .val (.long j7), .second, .val (.int j9), .val (.int j10), .val (.long j12), .second, .val (.long j15), .second, .val (.int j17), .val (.int j18), .val (.long j20), .second, .val (.int j23), .val (.int j25), .val (.int j27)] [(.int j4)])) t := by
    by_cases hc156_6 : j4 = (0 : Int32)
    · skip
      refine ⟨(0 : Int32), (by simp only [if_pos hc156_6]), fun t k => ?_⟩
      show Steps p.tables e below (T26.setTop (mkF m 156 #[.val (.long q1), .second, .val (.long q2), .second, .val (.int p3), .val (.long (100000000 : Int64)), .second, .val (.ref b1), .val (.int j4), .val (.long j7), .second, .val (.int j9), .val (.int j10), .val (.long j12), .second, .val (.long j15), .second, .val (.int j17), .val (.int j18), .val (.long j20), .second, .val (.int j23), .val (.int j25), .val (.int j27)] [(.int j4)])) _
      refine XS.ifYes X26.here hx rfl (pc0 := 156) (pc' := 204) rfl (hb hby at_156) rfl ((if0 _ _).trans (teq hc156_6).1) (by decide) (by decide) ?_
      show Steps p.tables e below (T26.setTop (mkF m 204 #[.val (.long q1), .second, .val (.long q2), .second, .val (.int p3), .val (.long (100000000 : Int64)), .second, .val (.ref b1), .val (.int j4), .val (.long j7), .second, .val (.int j9), .val (.int j10), .val (.long j12), .second, .val (.long j15), .second, .val (.int j17), .val (.int j18), .val (.long j20), .second, .val (.int j23), .val (.int j25), .val (.int j27)] [])) _
      refine XS.iconst X26.here hx rfl (hb hby at_204) ?_
      exact k
    · skip
      by_cases hc163_7 : j9 = j10
      · skip
        by_cases hc170_8 : j17 = j18
        · skip
          by_cases hc179_9 : j20 = (0 : Int64)
          · skip
            by_cases hc187_10 : j23 = (1 : Int32)
            · skip
              by_cases hc192_11 : j25 = (0 : Int32)
              · skip
                refine ⟨(0 : Int32), (by simp only [if_neg hc156_6, if_pos hc163_7, if_pos hc170_8, if_pos hc179_9, if_pos hc187_10, if_pos hc192_11]), fun t k => ?_⟩
                show Steps p.tables e below (T26.setTop (mkF m 156 #[.val (.long q1), .second, .val (.long q2), .second, .val (.int p3), .val (.long (100000000 : Int64)), .second, .val (.ref b1), .val (.int j4), .val (.long j7), .second, .val (.int j9), .val (.int j10), .val (.long j12), .second, .val (.long j15), .second, .val (.int j17), .val (.int j18), .val (.long j20), .second, .val (.int j23), .val (.int j25), .val (.int j27)] [(.int j4)])) _
                refine XS.ifNo X26.here hx rfl (hb hby at_156) rfl ((if0 _ _).trans (feq hc156_6).1) ?_
                show Steps p.tables e below (T26.setTop (mkF m 159 #[.val (.long q1), .second, .val (.long q2), .second, .val (.int p3), .val (.long (100000000 : Int64)), .second, .val (.ref b1), .val (.int j4), .val (.long j7), .second, .val (.int j9), .val (.int j10), .val (.long j12), .second, .val (.long j15), .second, .val (.int j17), .val (.int j18), .val (.long j20), .second, .val (.int j23), .val (.int j25), .val (.int j27)] [])) _
                refine XS.iload X26.here hx rfl (hb hby at_159) rfl ?_
                show Steps p.tables e below (T26.setTop (mkF m 161 #[.val (.long q1), .second, .val (.long q2), .second, .val (.int p3), .val (.long (100000000 : Int64)), .second, .val (.ref b1), .val (.int j4), .val (.long j7), .second, .val (.int j9), .val (.int j10), .val (.long j12), .second, .val (.long j15), .second, .val (.int j17), .val (.int j18), .val (.long j20), .second, .val (.int j23), .val (.int j25), .val (.int j27)] [(.int j9)])) _
                refine XS.iload X26.here hx rfl (hb hby at_161) rfl ?_
                show Steps p.tables e below (T26.setTop (mkF m 163 #[.val (.long q1), .second, .val (.long q2), .second, .val (.int p3), .val (.long (100000000 : Int64)), .second, .val (.ref b1), .val (.int j4), .val (.long j7), .second, .val (.int j9), .val (.int j10), .val (.long j12), .second, .val (.long j15), .second, .val (.int j17), .val (.int j18), .val (.long j20), .second, .val (.int j23), .val (.int j25), .val (.int j27)] [(.int j10), (.int j9)])) _
                refine XS.icmpNo X26.here hx rfl (hb hby at_163) rfl (teq hc163_7).2 ?_
                show Steps p.tables e below (T26.setTop (mkF m 166 #[.val (.long q1), .second, .val (.long q2), .second, .val (.int p3), .val (.long (100000000 : Int64)), .second, .val (.ref b1), .val (.int j4), .val (.long j7), .second, .val (.int j9), .val (.int j10), .val (.long j12), .second, .val (.long j15), .second, .val (.int j17), .val (.int j18), .val (.long j20), .second, .val (.int j23), .val (.int j25), .val (.int j27)] [])) _
                refine XS.iload X26.here hx rfl (hb hby at_166) rfl ?_
                show Steps p.tables e below (T26.setTop (mkF m 168 #[.val (.long q1), .second, .val (.long q2), .second, .val (.int p3), .val (.long (100000000 : Int64)), .second, .val (.ref b1), .val (.int j4), .val (.long j7), .second, .val (.int j9), .val (.int j10), .val (.long j12), .second, .val (.long j15), .second, .val (.int j17), .val (.int j18), .val (.long j20), .second, .val (.int j23), .val (.int j25), .val (.int j27)] [(.int j17)])) _
                refine XS.iload X26.here hx rfl (hb hby at_168) rfl ?_
                show Steps p.tables e below (T26.setTop (mkF m 170 #[.val (.long q1), .second, .val (.long q2), .second, .val (.int p3), .val (.long (100000000 : Int64)), .second, .val (.ref b1), .val (.int j4), .val (.long j7), .second, .val (.int j9), .val (.int j10), .val (.long j12), .second, .val (.long j15), .second, .val (.int j17), .val (.int j18), .val (.long j20), .second, .val (.int j23), .val (.int j25), .val (.int j27)] [(.int j18), (.int j17)])) _
                refine XS.icmpNo X26.here hx rfl (hb hby at_170) rfl (teq hc170_8).2 ?_
                show Steps p.tables e below (T26.setTop (mkF m 173 #[.val (.long q1), .second, .val (.long q2), .second, .val (.int p3), .val (.long (100000000 : Int64)), .second, .val (.ref b1), .val (.int j4), .val (.long j7), .second, .val (.int j9), .val (.int j10), .val (.long j12), .second, .val (.long j15), .second, .val (.int j17), .val (.int j18), .val (.long j20), .second, .val (.int j23), .val (.int j25), .val (.int j27)] [])) _
                refine XS.iload X26.here hx rfl (hb hby at_173) rfl ?_
                show Steps p.tables e below (T26.setTop (mkF m 175 #[.val (.long q1), .second, .val (.long q2), .second, .val (.int p3), .val (.long (100000000 : Int64)), .second, .val (.ref b1), .val (.int j4), .val (.long j7), .second, .val (.int j9), .val (.int j10), .val (.long j12), .second, .val (.long j15), .second, .val (.int j17), .val (.int j18), .val (.long j20), .second, .val (.int j23), .val (.int j25), .val (.int j27)] [(.int j23)])) _
                refine XS.lload X26.here hx rfl (hb hby at_175) rfl ?_
                show Steps p.tables e below (T26.setTop (mkF m 177 #[.val (.long q1), .second, .val (.long q2), .second, .val (.int p3), .val (.long (100000000 : Int64)), .second, .val (.ref b1), .val (.int j4), .val (.long j7), .second, .val (.int j9), .val (.int j10), .val (.long j12), .second, .val (.long j15), .second, .val (.int j17), .val (.int j18), .val (.long j20), .second, .val (.int j23), .val (.int j25), .val (.int j27)] [(.long j20), (.int j23)])) _
                refine XS.lconst X26.here hx rfl (hb hby at_177) ?_
                show Steps p.tables e below (T26.setTop (mkF m 178 #[.val (.long q1), .second, .val (.long q2), .second, .val (.int p3), .val (.long (100000000 : Int64)), .second, .val (.ref b1), .val (.int j4), .val (.long j7), .second, .val (.int j9), .val (.int j10), .val (.long j12), .second, .val (.long j15), .second, .val (.int j17), .val (.int j18), .val (.long j20), .second, .val (.int j23), .val (.int j25), .val (.int j27)] [(.long (0 : Int64)), (.long j20), (.int j23)])) _
                refine XS.lcmp X26.here hx rfl (hb hby at_178) rfl ?_
                show Steps p.tables e below (T26.setTop (mkF m 179 #[.val (.long q1), .second, .val (.long q2), .second, .val (.int p3), .val (.long (100000000 : Int64)), .second, .val (.ref b1), .val (.int j4), .val (.long j7), .second, .val (.int j9), .val (.int j10), .val (.long j12), .second, .val (.long j15), .second, .val (.int j17), .val (.int j18), .val (.long j20), .second, .val (.int j23), .val (.int j25), .val (.int j27)] [(.int (lcmpW j20 (0 : Int64))), (.int j23)])) _
                refine XS.ifNo X26.here hx rfl (hb hby at_179) rfl ((if0 _ _).trans (teq ((lw_eq j20 (0 : Int64)).mpr hc179_9)).2) ?_
                show Steps p.tables e below (T26.setTop (mkF m 182 #[.val (.long q1), .second, .val (.long q2), .second, .val (.int p3), .val (.long (100000000 : Int64)), .second, .val (.ref b1), .val (.int j4), .val (.long j7), .second, .val (.int j9), .val (.int j10), .val (.long j12), .second, .val (.long j15), .second, .val (.int j17), .val (.int j18), .val (.long j20), .second, .val (.int j23), .val (.int j25), .val (.int j27)] [(.int j23)])) _
                refine XS.iconst X26.here hx rfl (hb hby at_182) ?_
                show Steps p.tables e below (T26.setTop (mkF m 183 #[.val (.long q1), .second, .val (.long q2), .second, .val (.int p3), .val (.long (100000000 : Int64)), .second, .val (.ref b1), .val (.int j4), .val (.long j7), .second, .val (.int j9), .val (.int j10), .val (.long j12), .second, .val (.long j15), .second, .val (.int j17), .val (.int j18), .val (.long j20), .second, .val (.int j23), .val (.int j25), .val (.int j27)] [(.int (1 : Int32)), (.int j23)])) _
                refine XS.goto X26.here hx rfl (pc0 := 183) (pc' := 187) rfl (hb hby at_183) (by decide) (by decide) ?_
                show Steps p.tables e below (T26.setTop (mkF m 187 #[.val (.long q1), .second, .val (.long q2), .second, .val (.int p3), .val (.long (100000000 : Int64)), .second, .val (.ref b1), .val (.int j4), .val (.long j7), .second, .val (.int j9), .val (.int j10), .val (.long j12), .second, .val (.long j15), .second, .val (.int j17), .val (.int j18), .val (.long j20), .second, .val (.int j23), .val (.int j25), .val (.int j27)] [(.int (1 : Int32)), (.int j23)])) _
                refine XS.icmpNo X26.here hx rfl (hb hby at_187) rfl (teq hc187_10).2 ?_
                show Steps p.tables e below (T26.setTop (mkF m 190 #[.val (.long q1), .second, .val (.long q2), .second, .val (.int p3), .val (.long (100000000 : Int64)), .second, .val (.ref b1), .val (.int j4), .val (.long j7), .second, .val (.int j9), .val (.int j10), .val (.long j12), .second, .val (.long j15), .second, .val (.int j17), .val (.int j18), .val (.long j20), .second, .val (.int j23), .val (.int j25), .val (.int j27)] [])) _
                refine XS.iload X26.here hx rfl (hb hby at_190) rfl ?_
                show Steps p.tables e below (T26.setTop (mkF m 192 #[.val (.long q1), .second, .val (.long q2), .second, .val (.int p3), .val (.long (100000000 : Int64)), .second, .val (.ref b1), .val (.int j4), .val (.long j7), .second, .val (.int j9), .val (.int j10), .val (.long j12), .second, .val (.long j15), .second, .val (.int j17), .val (.int j18), .val (.long j20), .second, .val (.int j23), .val (.int j25), .val (.int j27)] [(.int j25)])) _
                refine XS.ifYes X26.here hx rfl (pc0 := 192) (pc' := 204) rfl (hb hby at_192) rfl ((if0 _ _).trans (teq hc192_11).1) (by decide) (by decide) ?_
                show Steps p.tables e below (T26.setTop (mkF m 204 #[.val (.long q1), .second, .val (.long q2), .second, .val (.int p3), .val (.long (100000000 : Int64)), .second, .val (.ref b1), .val (.int j4), .val (.long j7), .second, .val (.int j9), .val (.int j10), .val (.long j12), .second, .val (.long j15), .second, .val (.int j17), .val (.int j18), .val (.long j20), .second, .val (.int j23), .val (.int j25), .val (.int j27)] [])) _
                refine XS.iconst X26.here hx rfl (hb hby at_204) ?_
                exact k
              · skip
                by_cases hc197_12 : j27 = (0 : Int32)
                · skip
                  refine ⟨(0 : Int32), (by simp only [if_neg hc156_6, if_pos hc163_7, if_pos hc170_8, if_pos hc179_9, if_pos hc187_10, if_neg hc192_11, if_pos hc197_12]), fun t k => ?_⟩
                  show Steps p.tables e below (T26.setTop (mkF m 156 #[.val (.long q1), .second, .val (.long q2), .second, .val (.int p3), .val (.long (100000000 : Int64)), .second, .val (.ref b1), .val (.int j4), .val (.long j7), .second, .val (.int j9), .val (.int j10), .val (.long j12), .second, .val (.long j15), .second, .val (.int j17), .val (.int j18), .val (.long j20), .second, .val (.int j23), .val (.int j25), .val (.int j27)] [(.int j4)])) _
                  refine XS.ifNo X26.here hx rfl (hb hby at_156) rfl ((if0 _ _).trans (feq hc156_6).1) ?_
                  show Steps p.tables e below (T26.setTop (mkF m 159 #[.val (.long q1), .second, .val (.long q2), .second, .val (.int p3), .val (.long (100000000 : Int64)), .second, .val (.ref b1), .val (.int j4), .val (.long j7), .second, .val (.int j9), .val (.int j10), .val (.long j12), .second, .val (.long j15), .second, .val (.int j17), .val (.int j18), .val (.long j20), .second, .val (.int j23), .val (.int j25), .val (.int j27)] [])) _
                  refine XS.iload X26.here hx rfl (hb hby at_159) rfl ?_
                  show Steps p.tables e below (T26.setTop (mkF m 161 #[.val (.long q1), .second, .val (.long q2), .second, .val (.int p3), .val (.long (100000000 : Int64)), .second, .val (.ref b1), .val (.int j4), .val (.long j7), .second, .val (.int j9), .val (.int j10), .val (.long j12), .second, .val (.long j15), .second, .val (.int j17), .val (.int j18), .val (.long j20), .second, .val (.int j23), .val (.int j25), .val (.int j27)] [(.int j9)])) _
                  refine XS.iload X26.here hx rfl (hb hby at_161) rfl ?_
                  show Steps p.tables e below (T26.setTop (mkF m 163 #[.val (.long q1), .second, .val (.long q2), .second, .val (.int p3), .val (.long (100000000 : Int64)), .second, .val (.ref b1), .val (.int j4), .val (.long j7), .second, .val (.int j9), .val (.int j10), .val (.long j12), .second, .val (.long j15), .second, .val (.int j17), .val (.int j18), .val (.long j20), .second, .val (.int j23), .val (.int j25), .val (.int j27)] [(.int j10), (.int j9)])) _
                  refine XS.icmpNo X26.here hx rfl (hb hby at_163) rfl (teq hc163_7).2 ?_
                  show Steps p.tables e below (T26.setTop (mkF m 166 #[.val (.long q1), .second, .val (.long q2), .second, .val (.int p3), .val (.long (100000000 : Int64)), .second, .val (.ref b1), .val (.int j4), .val (.long j7), .second, .val (.int j9), .val (.int j10), .val (.long j12), .second, .val (.long j15), .second, .val (.int j17), .val (.int j18), .val (.long j20), .second, .val (.int j23), .val (.int j25), .val (.int j27)] [])) _
                  refine XS.iload X26.here hx rfl (hb hby at_166) rfl ?_
                  show Steps p.tables e below (T26.setTop (mkF m 168 #[.val (.long q1), .second, .val (.long q2), .second, .val (.int p3), .val (.long (100000000 : Int64)), .second, .val (.ref b1), .val (.int j4), .val (.long j7), .second, .val (.int j9), .val (.int j10), .val (.long j12), .second, .val (.long j15), .second, .val (.int j17), .val (.int j18), .val (.long j20), .second, .val (.int j23), .val (.int j25), .val (.int j27)] [(.int j17)])) _
                  refine XS.iload X26.here hx rfl (hb hby at_168) rfl ?_
                  show Steps p.tables e below (T26.setTop (mkF m 170 #[.val (.long q1), .second, .val (.long q2), .second, .val (.int p3), .val (.long (100000000 : Int64)), .second, .val (.ref b1), .val (.int j4), .val (.long j7), .second, .val (.int j9), .val (.int j10), .val (.long j12), .second, .val (.long j15), .second, .val (.int j17), .val (.int j18), .val (.long j20), .second, .val (.int j23), .val (.int j25), .val (.int j27)] [(.int j18), (.int j17)])) _
                  refine XS.icmpNo X26.here hx rfl (hb hby at_170) rfl (teq hc170_8).2 ?_
                  show Steps p.tables e below (T26.setTop (mkF m 173 #[.val (.long q1), .second, .val (.long q2), .second, .val (.int p3), .val (.long (100000000 : Int64)), .second, .val (.ref b1), .val (.int j4), .val (.long j7), .second, .val (.int j9), .val (.int j10), .val (.long j12), .second, .val (.long j15), .second, .val (.int j17), .val (.int j18), .val (.long j20), .second, .val (.int j23), .val (.int j25), .val (.int j27)] [])) _
                  refine XS.iload X26.here hx rfl (hb hby at_173) rfl ?_
                  show Steps p.tables e below (T26.setTop (mkF m 175 #[.val (.long q1), .second, .val (.long q2), .second, .val (.int p3), .val (.long (100000000 : Int64)), .second, .val (.ref b1), .val (.int j4), .val (.long j7), .second, .val (.int j9), .val (.int j10), .val (.long j12), .second, .val (.long j15), .second, .val (.int j17), .val (.int j18), .val (.long j20), .second, .val (.int j23), .val (.int j25), .val (.int j27)] [(.int j23)])) _
                  refine XS.lload X26.here hx rfl (hb hby at_175) rfl ?_
                  show Steps p.tables e below (T26.setTop (mkF m 177 #[.val (.long q1), .second, .val (.long q2), .second, .val (.int p3), .val (.long (100000000 : Int64)), .second, .val (.ref b1), .val (.int j4), .val (.long j7), .second, .val (.int j9), .val (.int j10), .val (.long j12), .second, .val (.long j15), .second, .val (.int j17), .val (.int j18), .val (.long j20), .second, .val (.int j23), .val (.int j25), .val (.int j27)] [(.long j20), (.int j23)])) _
                  refine XS.lconst X26.here hx rfl (hb hby at_177) ?_
                  show Steps p.tables e below (T26.setTop (mkF m 178 #[.val (.long q1), .second, .val (.long q2), .second, .val (.int p3), .val (.long (100000000 : Int64)), .second, .val (.ref b1), .val (.int j4), .val (.long j7), .second, .val (.int j9), .val (.int j10), .val (.long j12), .second, .val (.long j15), .second, .val (.int j17), .val (.int j18), .val (.long j20), .second, .val (.int j23), .val (.int j25), .val (.int j27)] [(.long (0 : Int64)), (.long j20), (.int j23)])) _
                  refine XS.lcmp X26.here hx rfl (hb hby at_178) rfl ?_
                  show Steps p.tables e below (T26.setTop (mkF m 179 #[.val (.long q1), .second, .val (.long q2), .second, .val (.int p3), .val (.long (100000000 : Int64)), .second, .val (.ref b1), .val (.int j4), .val (.long j7), .second, .val (.int j9), .val (.int j10), .val (.long j12), .second, .val (.long j15), .second, .val (.int j17), .val (.int j18), .val (.long j20), .second, .val (.int j23), .val (.int j25), .val (.int j27)] [(.int (lcmpW j20 (0 : Int64))), (.int j23)])) _
                  refine XS.ifNo X26.here hx rfl (hb hby at_179) rfl ((if0 _ _).trans (teq ((lw_eq j20 (0 : Int64)).mpr hc179_9)).2) ?_
                  show Steps p.tables e below (T26.setTop (mkF m 182 #[.val (.long q1), .second, .val (.long q2), .second, .val (.int p3), .val (.long (100000000 : Int64)), .second, .val (.ref b1), .val (.int j4), .val (.long j7), .second, .val (.int j9), .val (.int j10), .val (.long j12), .second, .val (.long j15), .second, .val (.int j17), .val (.int j18), .val (.long j20), .second, .val (.int j23), .val (.int j25), .val (.int j27)] [(.int j23)])) _
                  refine XS.iconst X26.here hx rfl (hb hby at_182) ?_
                  show Steps p.tables e below (T26.setTop (mkF m 183 #[.val (.long q1), .second, .val (.long q2), .second, .val (.int p3), .val (.long (100000000 : Int64)), .second, .val (.ref b1), .val (.int j4), .val (.long j7), .second, .val (.int j9), .val (.int j10), .val (.long j12), .second, .val (.long j15), .second, .val (.int j17), .val (.int j18), .val (.long j20), .second, .val (.int j23), .val (.int j25), .val (.int j27)] [(.int (1 : Int32)), (.int j23)])) _
                  refine XS.goto X26.here hx rfl (pc0 := 183) (pc' := 187) rfl (hb hby at_183) (by decide) (by decide) ?_
                  show Steps p.tables e below (T26.setTop (mkF m 187 #[.val (.long q1), .second, .val (.long q2), .second, .val (.int p3), .val (.long (100000000 : Int64)), .second, .val (.ref b1), .val (.int j4), .val (.long j7), .second, .val (.int j9), .val (.int j10), .val (.long j12), .second, .val (.long j15), .second, .val (.int j17), .val (.int j18), .val (.long j20), .second, .val (.int j23), .val (.int j25), .val (.int j27)] [(.int (1 : Int32)), (.int j23)])) _
                  refine XS.icmpNo X26.here hx rfl (hb hby at_187) rfl (teq hc187_10).2 ?_
                  show Steps p.tables e below (T26.setTop (mkF m 190 #[.val (.long q1), .second, .val (.long q2), .second, .val (.int p3), .val (.long (100000000 : Int64)), .second, .val (.ref b1), .val (.int j4), .val (.long j7), .second, .val (.int j9), .val (.int j10), .val (.long j12), .second, .val (.long j15), .second, .val (.int j17), .val (.int j18), .val (.long j20), .second, .val (.int j23), .val (.int j25), .val (.int j27)] [])) _
                  refine XS.iload X26.here hx rfl (hb hby at_190) rfl ?_
                  show Steps p.tables e below (T26.setTop (mkF m 192 #[.val (.long q1), .second, .val (.long q2), .second, .val (.int p3), .val (.long (100000000 : Int64)), .second, .val (.ref b1), .val (.int j4), .val (.long j7), .second, .val (.int j9), .val (.int j10), .val (.long j12), .second, .val (.long j15), .second, .val (.int j17), .val (.int j18), .val (.long j20), .second, .val (.int j23), .val (.int j25), .val (.int j27)] [(.int j25)])) _
                  refine XS.ifNo X26.here hx rfl (hb hby at_192) rfl ((if0 _ _).trans (feq hc192_11).1) ?_
                  show Steps p.tables e below (T26.setTop (mkF m 195 #[.val (.long q1), .second, .val (.long q2), .second, .val (.int p3), .val (.long (100000000 : Int64)), .second, .val (.ref b1), .val (.int j4), .val (.long j7), .second, .val (.int j9), .val (.int j10), .val (.long j12), .second, .val (.long j15), .second, .val (.int j17), .val (.int j18), .val (.long j20), .second, .val (.int j23), .val (.int j25), .val (.int j27)] [])) _
                  refine XS.iload X26.here hx rfl (hb hby at_195) rfl ?_
                  show Steps p.tables e below (T26.setTop (mkF m 197 #[.val (.long q1), .second, .val (.long q2), .second, .val (.int p3), .val (.long (100000000 : Int64)), .second, .val (.ref b1), .val (.int j4), .val (.long j7), .second, .val (.int j9), .val (.int j10), .val (.long j12), .second, .val (.long j15), .second, .val (.int j17), .val (.int j18), .val (.long j20), .second, .val (.int j23), .val (.int j25), .val (.int j27)] [(.int j27)])) _
                  refine XS.ifYes X26.here hx rfl (pc0 := 197) (pc' := 204) rfl (hb hby at_197) rfl ((if0 _ _).trans (teq hc197_12).1) (by decide) (by decide) ?_
                  show Steps p.tables e below (T26.setTop (mkF m 204 #[.val (.long q1), .second, .val (.long q2), .second, .val (.int p3), .val (.long (100000000 : Int64)), .second, .val (.ref b1), .val (.int j4), .val (.long j7), .second, .val (.int j9), .val (.int j10), .val (.long j12), .second, .val (.long j15), .second, .val (.int j17), .val (.int j18), .val (.long j20), .second, .val (.int j23), .val (.int j25), .val (.int j27)] [])) _
                  refine XS.iconst X26.here hx rfl (hb hby at_204) ?_
                  exact k
                · skip
                  refine ⟨(1 : Int32), (by simp only [if_neg hc156_6, if_pos hc163_7, if_pos hc170_8, if_pos hc179_9, if_pos hc187_10, if_neg hc192_11, if_neg hc197_12]), fun t k => ?_⟩
                  show Steps p.tables e below (T26.setTop (mkF m 156 #[.val (.long q1), .second, .val (.long q2), .second, .val (.int p3), .val (.long (100000000 : Int64)), .second, .val (.ref b1), .val (.int j4), .val (.long j7), .second, .val (.int j9), .val (.int j10), .val (.long j12), .second, .val (.long j15), .second, .val (.int j17), .val (.int j18), .val (.long j20), .second, .val (.int j23), .val (.int j25), .val (.int j27)] [(.int j4)])) _
                  refine XS.ifNo X26.here hx rfl (hb hby at_156) rfl ((if0 _ _).trans (feq hc156_6).1) ?_
                  show Steps p.tables e below (T26.setTop (mkF m 159 #[.val (.long q1), .second, .val (.long q2), .second, .val (.int p3), .val (.long (100000000 : Int64)), .second, .val (.ref b1), .val (.int j4), .val (.long j7), .second, .val (.int j9), .val (.int j10), .val (.long j12), .second, .val (.long j15), .second, .val (.int j17), .val (.int j18), .val (.long j20), .second, .val (.int j23), .val (.int j25), .val (.int j27)] [])) _
                  refine XS.iload X26.here hx rfl (hb hby at_159) rfl ?_
                  show Steps p.tables e below (T26.setTop (mkF m 161 #[.val (.long q1), .second, .val (.long q2), .second, .val (.int p3), .val (.long (100000000 : Int64)), .second, .val (.ref b1), .val (.int j4), .val (.long j7), .second, .val (.int j9), .val (.int j10), .val (.long j12), .second, .val (.long j15), .second, .val (.int j17), .val (.int j18), .val (.long j20), .second, .val (.int j23), .val (.int j25), .val (.int j27)] [(.int j9)])) _
                  refine XS.iload X26.here hx rfl (hb hby at_161) rfl ?_
                  show Steps p.tables e below (T26.setTop (mkF m 163 #[.val (.long q1), .second, .val (.long q2), .second, .val (.int p3), .val (.long (100000000 : Int64)), .second, .val (.ref b1), .val (.int j4), .val (.long j7), .second, .val (.int j9), .val (.int j10), .val (.long j12), .second, .val (.long j15), .second, .val (.int j17), .val (.int j18), .val (.long j20), .second, .val (.int j23), .val (.int j25), .val (.int j27)] [(.int j10), (.int j9)])) _
                  refine XS.icmpNo X26.here hx rfl (hb hby at_163) rfl (teq hc163_7).2 ?_
                  show Steps p.tables e below (T26.setTop (mkF m 166 #[.val (.long q1), .second, .val (.long q2), .second, .val (.int p3), .val (.long (100000000 : Int64)), .second, .val (.ref b1), .val (.int j4), .val (.long j7), .second, .val (.int j9), .val (.int j10), .val (.long j12), .second, .val (.long j15), .second, .val (.int j17), .val (.int j18), .val (.long j20), .second, .val (.int j23), .val (.int j25), .val (.int j27)] [])) _
                  refine XS.iload X26.here hx rfl (hb hby at_166) rfl ?_
                  show Steps p.tables e below (T26.setTop (mkF m 168 #[.val (.long q1), .second, .val (.long q2), .second, .val (.int p3), .val (.long (100000000 : Int64)), .second, .val (.ref b1), .val (.int j4), .val (.long j7), .second, .val (.int j9), .val (.int j10), .val (.long j12), .second, .val (.long j15), .second, .val (.int j17), .val (.int j18), .val (.long j20), .second, .val (.int j23), .val (.int j25), .val (.int j27)] [(.int j17)])) _
                  refine XS.iload X26.here hx rfl (hb hby at_168) rfl ?_
                  show Steps p.tables e below (T26.setTop (mkF m 170 #[.val (.long q1), .second, .val (.long q2), .second, .val (.int p3), .val (.long (100000000 : Int64)), .second, .val (.ref b1), .val (.int j4), .val (.long j7), .second, .val (.int j9), .val (.int j10), .val (.long j12), .second, .val (.long j15), .second, .val (.int j17), .val (.int j18), .val (.long j20), .second, .val (.int j23), .val (.int j25), .val (.int j27)] [(.int j18), (.int j17)])) _
                  refine XS.icmpNo X26.here hx rfl (hb hby at_170) rfl (teq hc170_8).2 ?_
                  show Steps p.tables e below (T26.setTop (mkF m 173 #[.val (.long q1), .second, .val (.long q2), .second, .val (.int p3), .val (.long (100000000 : Int64)), .second, .val (.ref b1), .val (.int j4), .val (.long j7), .second, .val (.int j9), .val (.int j10), .val (.long j12), .second, .val (.long j15), .second, .val (.int j17), .val (.int j18), .val (.long j20), .second, .val (.int j23), .val (.int j25), .val (.int j27)] [])) _
                  refine XS.iload X26.here hx rfl (hb hby at_173) rfl ?_
                  show Steps p.tables e below (T26.setTop (mkF m 175 #[.val (.long q1), .second, .val (.long q2), .second, .val (.int p3), .val (.long (100000000 : Int64)), .second, .val (.ref b1), .val (.int j4), .val (.long j7), .second, .val (.int j9), .val (.int j10), .val (.long j12), .second, .val (.long j15), .second, .val (.int j17), .val (.int j18), .val (.long j20), .second, .val (.int j23), .val (.int j25), .val (.int j27)] [(.int j23)])) _
                  refine XS.lload X26.here hx rfl (hb hby at_175) rfl ?_
                  show Steps p.tables e below (T26.setTop (mkF m 177 #[.val (.long q1), .second, .val (.long q2), .second, .val (.int p3), .val (.long (100000000 : Int64)), .second, .val (.ref b1), .val (.int j4), .val (.long j7), .second, .val (.int j9), .val (.int j10), .val (.long j12), .second, .val (.long j15), .second, .val (.int j17), .val (.int j18), .val (.long j20), .second, .val (.int j23), .val (.int j25), .val (.int j27)] [(.long j20), (.int j23)])) _
                  refine XS.lconst X26.here hx rfl (hb hby at_177) ?_
                  show Steps p.tables e below (T26.setTop (mkF m 178 #[.val (.long q1), .second, .val (.long q2), .second, .val (.int p3), .val (.long (100000000 : Int64)), .second, .val (.ref b1), .val (.int j4), .val (.long j7), .second, .val (.int j9), .val (.int j10), .val (.long j12), .second, .val (.long j15), .second, .val (.int j17), .val (.int j18), .val (.long j20), .second, .val (.int j23), .val (.int j25), .val (.int j27)] [(.long (0 : Int64)), (.long j20), (.int j23)])) _
                  refine XS.lcmp X26.here hx rfl (hb hby at_178) rfl ?_
                  show Steps p.tables e below (T26.setTop (mkF m 179 #[.val (.long q1), .second, .val (.long q2), .second, .val (.int p3), .val (.long (100000000 : Int64)), .second, .val (.ref b1), .val (.int j4), .val (.long j7), .second, .val (.int j9), .val (.int j10), .val (.long j12), .second, .val (.long j15), .second, .val (.int j17), .val (.int j18), .val (.long j20), .second, .val (.int j23), .val (.int j25), .val (.int j27)] [(.int (lcmpW j20 (0 : Int64))), (.int j23)])) _
                  refine XS.ifNo X26.here hx rfl (hb hby at_179) rfl ((if0 _ _).trans (teq ((lw_eq j20 (0 : Int64)).mpr hc179_9)).2) ?_
                  show Steps p.tables e below (T26.setTop (mkF m 182 #[.val (.long q1), .second, .val (.long q2), .second, .val (.int p3), .val (.long (100000000 : Int64)), .second, .val (.ref b1), .val (.int j4), .val (.long j7), .second, .val (.int j9), .val (.int j10), .val (.long j12), .second, .val (.long j15), .second, .val (.int j17), .val (.int j18), .val (.long j20), .second, .val (.int j23), .val (.int j25), .val (.int j27)] [(.int j23)])) _
                  refine XS.iconst X26.here hx rfl (hb hby at_182) ?_
                  show Steps p.tables e below (T26.setTop (mkF m 183 #[.val (.long q1), .second, .val (.long q2), .second, .val (.int p3), .val (.long (100000000 : Int64)), .second, .val (.ref b1), .val (.int j4), .val (.long j7), .second, .val (.int j9), .val (.int j10), .val (.long j12), .second, .val (.long j15), .second, .val (.int j17), .val (.int j18), .val (.long j20), .second, .val (.int j23), .val (.int j25), .val (.int j27)] [(.int (1 : Int32)), (.int j23)])) _
                  refine XS.goto X26.here hx rfl (pc0 := 183) (pc' := 187) rfl (hb hby at_183) (by decide) (by decide) ?_
                  show Steps p.tables e below (T26.setTop (mkF m 187 #[.val (.long q1), .second, .val (.long q2), .second, .val (.int p3), .val (.long (100000000 : Int64)), .second, .val (.ref b1), .val (.int j4), .val (.long j7), .second, .val (.int j9), .val (.int j10), .val (.long j12), .second, .val (.long j15), .second, .val (.int j17), .val (.int j18), .val (.long j20), .second, .val (.int j23), .val (.int j25), .val (.int j27)] [(.int (1 : Int32)), (.int j23)])) _
                  refine XS.icmpNo X26.here hx rfl (hb hby at_187) rfl (teq hc187_10).2 ?_
                  show Steps p.tables e below (T26.setTop (mkF m 190 #[.val (.long q1), .second, .val (.long q2), .second, .val (.int p3), .val (.long (100000000 : Int64)), .second, .val (.ref b1), .val (.int j4), .val (.long j7), .second, .val (.int j9), .val (.int j10), .val (.long j12), .second, .val (.long j15), .second, .val (.int j17), .val (.int j18), .val (.long j20), .second, .val (.int j23), .val (.int j25), .val (.int j27)] [])) _
                  refine XS.iload X26.here hx rfl (hb hby at_190) rfl ?_
                  show Steps p.tables e below (T26.setTop (mkF m 192 #[.val (.long q1), .second, .val (.long q2), .second, .val (.int p3), .val (.long (100000000 : Int64)), .second, .val (.ref b1), .val (.int j4), .val (.long j7), .second, .val (.int j9), .val (.int j10), .val (.long j12), .second, .val (.long j15), .second, .val (.int j17), .val (.int j18), .val (.long j20), .second, .val (.int j23), .val (.int j25), .val (.int j27)] [(.int j25)])) _
                  refine XS.ifNo X26.here hx rfl (hb hby at_192) rfl ((if0 _ _).trans (feq hc192_11).1) ?_
                  show Steps p.tables e below (T26.setTop (mkF m 195 #[.val (.long q1), .second, .val (.long q2), .second, .val (.int p3), .val (.long (100000000 : Int64)), .second, .val (.ref b1), .val (.int j4), .val (.long j7), .second, .val (.int j9), .val (.int j10), .val (.long j12), .second, .val (.long j15), .second, .val (.int j17), .val (.int j18), .val (.long j20), .second, .val (.int j23), .val (.int j25), .val (.int j27)] [])) _
                  refine XS.iload X26.here hx rfl (hb hby at_195) rfl ?_
                  show Steps p.tables e below (T26.setTop (mkF m 197 #[.val (.long q1), .second, .val (.long q2), .second, .val (.int p3), .val (.long (100000000 : Int64)), .second, .val (.ref b1), .val (.int j4), .val (.long j7), .second, .val (.int j9), .val (.int j10), .val (.long j12), .second, .val (.long j15), .second, .val (.int j17), .val (.int j18), .val (.long j20), .second, .val (.int j23), .val (.int j25), .val (.int j27)] [(.int j27)])) _
                  refine XS.ifNo X26.here hx rfl (hb hby at_197) rfl ((if0 _ _).trans (feq hc197_12).1) ?_
                  show Steps p.tables e below (T26.setTop (mkF m 200 #[.val (.long q1), .second, .val (.long q2), .second, .val (.int p3), .val (.long (100000000 : Int64)), .second, .val (.ref b1), .val (.int j4), .val (.long j7), .second, .val (.int j9), .val (.int j10), .val (.long j12), .second, .val (.long j15), .second, .val (.int j17), .val (.int j18), .val (.long j20), .second, .val (.int j23), .val (.int j25), .val (.int j27)] [])) _
                  refine XS.iconst X26.here hx rfl (hb hby at_200) ?_
                  show Steps p.tables e below (T26.setTop (mkF m 201 #[.val (.long q1), .second, .val (.long q2), .second, .val (.int p3), .val (.long (100000000 : Int64)), .second, .val (.ref b1), .val (.int j4), .val (.long j7), .second, .val (.int j9), .val (.int j10), .val (.long j12), .second, .val (.long j15), .second, .val (.int j17), .val (.int j18), .val (.long j20), .second, .val (.int j23), .val (.int j25), .val (.int j27)] [(.int (1 : Int32))])) _
                  refine XS.goto X26.here hx rfl (pc0 := 201) (pc' := 205) rfl (hb hby at_201) (by decide) (by decide) ?_
                  exact k
            · skip
              refine ⟨(0 : Int32), (by simp only [if_neg hc156_6, if_pos hc163_7, if_pos hc170_8, if_pos hc179_9, if_neg hc187_10]), fun t k => ?_⟩
              show Steps p.tables e below (T26.setTop (mkF m 156 #[.val (.long q1), .second, .val (.long q2), .second, .val (.int p3), .val (.long (100000000 : Int64)), .second, .val (.ref b1), .val (.int j4), .val (.long j7), .second, .val (.int j9), .val (.int j10), .val (.long j12), .second, .val (.long j15), .second, .val (.int j17), .val (.int j18), .val (.long j20), .second, .val (.int j23), .val (.int j25), .val (.int j27)] [(.int j4)])) _
              refine XS.ifNo X26.here hx rfl (hb hby at_156) rfl ((if0 _ _).trans (feq hc156_6).1) ?_
              show Steps p.tables e below (T26.setTop (mkF m 159 #[.val (.long q1), .second, .val (.long q2), .second, .val (.int p3), .val (.long (100000000 : Int64)), .second, .val (.ref b1), .val (.int j4), .val (.long j7), .second, .val (.int j9), .val (.int j10), .val (.long j12), .second, .val (.long j15), .second, .val (.int j17), .val (.int j18), .val (.long j20), .second, .val (.int j23), .val (.int j25), .val (.int j27)] [])) _
              refine XS.iload X26.here hx rfl (hb hby at_159) rfl ?_
              show Steps p.tables e below (T26.setTop (mkF m 161 #[.val (.long q1), .second, .val (.long q2), .second, .val (.int p3), .val (.long (100000000 : Int64)), .second, .val (.ref b1), .val (.int j4), .val (.long j7), .second, .val (.int j9), .val (.int j10), .val (.long j12), .second, .val (.long j15), .second, .val (.int j17), .val (.int j18), .val (.long j20), .second, .val (.int j23), .val (.int j25), .val (.int j27)] [(.int j9)])) _
              refine XS.iload X26.here hx rfl (hb hby at_161) rfl ?_
              show Steps p.tables e below (T26.setTop (mkF m 163 #[.val (.long q1), .second, .val (.long q2), .second, .val (.int p3), .val (.long (100000000 : Int64)), .second, .val (.ref b1), .val (.int j4), .val (.long j7), .second, .val (.int j9), .val (.int j10), .val (.long j12), .second, .val (.long j15), .second, .val (.int j17), .val (.int j18), .val (.long j20), .second, .val (.int j23), .val (.int j25), .val (.int j27)] [(.int j10), (.int j9)])) _
              refine XS.icmpNo X26.here hx rfl (hb hby at_163) rfl (teq hc163_7).2 ?_
              show Steps p.tables e below (T26.setTop (mkF m 166 #[.val (.long q1), .second, .val (.long q2), .second, .val (.int p3), .val (.long (100000000 : Int64)), .second, .val (.ref b1), .val (.int j4), .val (.long j7), .second, .val (.int j9), .val (.int j10), .val (.long j12), .second, .val (.long j15), .second, .val (.int j17), .val (.int j18), .val (.long j20), .second, .val (.int j23), .val (.int j25), .val (.int j27)] [])) _
              refine XS.iload X26.here hx rfl (hb hby at_166) rfl ?_
              show Steps p.tables e below (T26.setTop (mkF m 168 #[.val (.long q1), .second, .val (.long q2), .second, .val (.int p3), .val (.long (100000000 : Int64)), .second, .val (.ref b1), .val (.int j4), .val (.long j7), .second, .val (.int j9), .val (.int j10), .val (.long j12), .second, .val (.long j15), .second, .val (.int j17), .val (.int j18), .val (.long j20), .second, .val (.int j23), .val (.int j25), .val (.int j27)] [(.int j17)])) _
              refine XS.iload X26.here hx rfl (hb hby at_168) rfl ?_
              show Steps p.tables e below (T26.setTop (mkF m 170 #[.val (.long q1), .second, .val (.long q2), .second, .val (.int p3), .val (.long (100000000 : Int64)), .second, .val (.ref b1), .val (.int j4), .val (.long j7), .second, .val (.int j9), .val (.int j10), .val (.long j12), .second, .val (.long j15), .second, .val (.int j17), .val (.int j18), .val (.long j20), .second, .val (.int j23), .val (.int j25), .val (.int j27)] [(.int j18), (.int j17)])) _
              refine XS.icmpNo X26.here hx rfl (hb hby at_170) rfl (teq hc170_8).2 ?_
              show Steps p.tables e below (T26.setTop (mkF m 173 #[.val (.long q1), .second, .val (.long q2), .second, .val (.int p3), .val (.long (100000000 : Int64)), .second, .val (.ref b1), .val (.int j4), .val (.long j7), .second, .val (.int j9), .val (.int j10), .val (.long j12), .second, .val (.long j15), .second, .val (.int j17), .val (.int j18), .val (.long j20), .second, .val (.int j23), .val (.int j25), .val (.int j27)] [])) _
              refine XS.iload X26.here hx rfl (hb hby at_173) rfl ?_
              show Steps p.tables e below (T26.setTop (mkF m 175 #[.val (.long q1), .second, .val (.long q2), .second, .val (.int p3), .val (.long (100000000 : Int64)), .second, .val (.ref b1), .val (.int j4), .val (.long j7), .second, .val (.int j9), .val (.int j10), .val (.long j12), .second, .val (.long j15), .second, .val (.int j17), .val (.int j18), .val (.long j20), .second, .val (.int j23), .val (.int j25), .val (.int j27)] [(.int j23)])) _
              refine XS.lload X26.here hx rfl (hb hby at_175) rfl ?_
              show Steps p.tables e below (T26.setTop (mkF m 177 #[.val (.long q1), .second, .val (.long q2), .second, .val (.int p3), .val (.long (100000000 : Int64)), .second, .val (.ref b1), .val (.int j4), .val (.long j7), .second, .val (.int j9), .val (.int j10), .val (.long j12), .second, .val (.long j15), .second, .val (.int j17), .val (.int j18), .val (.long j20), .second, .val (.int j23), .val (.int j25), .val (.int j27)] [(.long j20), (.int j23)])) _
              refine XS.lconst X26.here hx rfl (hb hby at_177) ?_
              show Steps p.tables e below (T26.setTop (mkF m 178 #[.val (.long q1), .second, .val (.long q2), .second, .val (.int p3), .val (.long (100000000 : Int64)), .second, .val (.ref b1), .val (.int j4), .val (.long j7), .second, .val (.int j9), .val (.int j10), .val (.long j12), .second, .val (.long j15), .second, .val (.int j17), .val (.int j18), .val (.long j20), .second, .val (.int j23), .val (.int j25), .val (.int j27)] [(.long (0 : Int64)), (.long j20), (.int j23)])) _
              refine XS.lcmp X26.here hx rfl (hb hby at_178) rfl ?_
              show Steps p.tables e below (T26.setTop (mkF m 179 #[.val (.long q1), .second, .val (.long q2), .second, .val (.int p3), .val (.long (100000000 : Int64)), .second, .val (.ref b1), .val (.int j4), .val (.long j7), .second, .val (.int j9), .val (.int j10), .val (.long j12), .second, .val (.long j15), .second, .val (.int j17), .val (.int j18), .val (.long j20), .second, .val (.int j23), .val (.int j25), .val (.int j27)] [(.int (lcmpW j20 (0 : Int64))), (.int j23)])) _
              refine XS.ifNo X26.here hx rfl (hb hby at_179) rfl ((if0 _ _).trans (teq ((lw_eq j20 (0 : Int64)).mpr hc179_9)).2) ?_
              show Steps p.tables e below (T26.setTop (mkF m 182 #[.val (.long q1), .second, .val (.long q2), .second, .val (.int p3), .val (.long (100000000 : Int64)), .second, .val (.ref b1), .val (.int j4), .val (.long j7), .second, .val (.int j9), .val (.int j10), .val (.long j12), .second, .val (.long j15), .second, .val (.int j17), .val (.int j18), .val (.long j20), .second, .val (.int j23), .val (.int j25), .val (.int j27)] [(.int j23)])) _
              refine XS.iconst X26.here hx rfl (hb hby at_182) ?_
              show Steps p.tables e below (T26.setTop (mkF m 183 #[.val (.long q1), .second, .val (.long q2), .second, .val (.int p3), .val (.long (100000000 : Int64)), .second, .val (.ref b1), .val (.int j4), .val (.long j7), .second, .val (.int j9), .val (.int j10), .val (.long j12), .second, .val (.long j15), .second, .val (.int j17), .val (.int j18), .val (.long j20), .second, .val (.int j23), .val (.int j25), .val (.int j27)] [(.int (1 : Int32)), (.int j23)])) _
              refine XS.goto X26.here hx rfl (pc0 := 183) (pc' := 187) rfl (hb hby at_183) (by decide) (by decide) ?_
              show Steps p.tables e below (T26.setTop (mkF m 187 #[.val (.long q1), .second, .val (.long q2), .second, .val (.int p3), .val (.long (100000000 : Int64)), .second, .val (.ref b1), .val (.int j4), .val (.long j7), .second, .val (.int j9), .val (.int j10), .val (.long j12), .second, .val (.long j15), .second, .val (.int j17), .val (.int j18), .val (.long j20), .second, .val (.int j23), .val (.int j25), .val (.int j27)] [(.int (1 : Int32)), (.int j23)])) _
              refine XS.icmpYes X26.here hx rfl (pc0 := 187) (pc' := 204) rfl (hb hby at_187) rfl (feq hc187_10).2 (by decide) (by decide) ?_
              show Steps p.tables e below (T26.setTop (mkF m 204 #[.val (.long q1), .second, .val (.long q2), .second, .val (.int p3), .val (.long (100000000 : Int64)), .second, .val (.ref b1), .val (.int j4), .val (.long j7), .second, .val (.int j9), .val (.int j10), .val (.long j12), .second, .val (.long j15), .second, .val (.int j17), .val (.int j18), .val (.long j20), .second, .val (.int j23), .val (.int j25), .val (.int j27)] [])) _
              refine XS.iconst X26.here hx rfl (hb hby at_204) ?_
              exact k
          · skip
            by_cases hc187_13 : j23 = (0 : Int32)
            · skip
              by_cases hc192_14 : j25 = (0 : Int32)
              · skip
                refine ⟨(0 : Int32), (by simp only [if_neg hc156_6, if_pos hc163_7, if_pos hc170_8, if_neg hc179_9, if_pos hc187_13, if_pos hc192_14]), fun t k => ?_⟩
                show Steps p.tables e below (T26.setTop (mkF m 156 #[.val (.long q1), .second, .val (.long q2), .second, .val (.int p3), .val (.long (100000000 : Int64)), .second, .val (.ref b1), .val (.int j4), .val (.long j7), .second, .val (.int j9), .val (.int j10), .val (.long j12), .second, .val (.long j15), .second, .val (.int j17), .val (.int j18), .val (.long j20), .second, .val (.int j23), .val (.int j25), .val (.int j27)] [(.int j4)])) _
                refine XS.ifNo X26.here hx rfl (hb hby at_156) rfl ((if0 _ _).trans (feq hc156_6).1) ?_
                show Steps p.tables e below (T26.setTop (mkF m 159 #[.val (.long q1), .second, .val (.long q2), .second, .val (.int p3), .val (.long (100000000 : Int64)), .second, .val (.ref b1), .val (.int j4), .val (.long j7), .second, .val (.int j9), .val (.int j10), .val (.long j12), .second, .val (.long j15), .second, .val (.int j17), .val (.int j18), .val (.long j20), .second, .val (.int j23), .val (.int j25), .val (.int j27)] [])) _
                refine XS.iload X26.here hx rfl (hb hby at_159) rfl ?_
                show Steps p.tables e below (T26.setTop (mkF m 161 #[.val (.long q1), .second, .val (.long q2), .second, .val (.int p3), .val (.long (100000000 : Int64)), .second, .val (.ref b1), .val (.int j4), .val (.long j7), .second, .val (.int j9), .val (.int j10), .val (.long j12), .second, .val (.long j15), .second, .val (.int j17), .val (.int j18), .val (.long j20), .second, .val (.int j23), .val (.int j25), .val (.int j27)] [(.int j9)])) _
                refine XS.iload X26.here hx rfl (hb hby at_161) rfl ?_
                show Steps p.tables e below (T26.setTop (mkF m 163 #[.val (.long q1), .second, .val (.long q2), .second, .val (.int p3), .val (.long (100000000 : Int64)), .second, .val (.ref b1), .val (.int j4), .val (.long j7), .second, .val (.int j9), .val (.int j10), .val (.long j12), .second, .val (.long j15), .second, .val (.int j17), .val (.int j18), .val (.long j20), .second, .val (.int j23), .val (.int j25), .val (.int j27)] [(.int j10), (.int j9)])) _
                refine XS.icmpNo X26.here hx rfl (hb hby at_163) rfl (teq hc163_7).2 ?_
                show Steps p.tables e below (T26.setTop (mkF m 166 #[.val (.long q1), .second, .val (.long q2), .second, .val (.int p3), .val (.long (100000000 : Int64)), .second, .val (.ref b1), .val (.int j4), .val (.long j7), .second, .val (.int j9), .val (.int j10), .val (.long j12), .second, .val (.long j15), .second, .val (.int j17), .val (.int j18), .val (.long j20), .second, .val (.int j23), .val (.int j25), .val (.int j27)] [])) _
                refine XS.iload X26.here hx rfl (hb hby at_166) rfl ?_
                show Steps p.tables e below (T26.setTop (mkF m 168 #[.val (.long q1), .second, .val (.long q2), .second, .val (.int p3), .val (.long (100000000 : Int64)), .second, .val (.ref b1), .val (.int j4), .val (.long j7), .second, .val (.int j9), .val (.int j10), .val (.long j12), .second, .val (.long j15), .second, .val (.int j17), .val (.int j18), .val (.long j20), .second, .val (.int j23), .val (.int j25), .val (.int j27)] [(.int j17)])) _
                refine XS.iload X26.here hx rfl (hb hby at_168) rfl ?_
                show Steps p.tables e below (T26.setTop (mkF m 170 #[.val (.long q1), .second, .val (.long q2), .second, .val (.int p3), .val (.long (100000000 : Int64)), .second, .val (.ref b1), .val (.int j4), .val (.long j7), .second, .val (.int j9), .val (.int j10), .val (.long j12), .second, .val (.long j15), .second, .val (.int j17), .val (.int j18), .val (.long j20), .second, .val (.int j23), .val (.int j25), .val (.int j27)] [(.int j18), (.int j17)])) _
                refine XS.icmpNo X26.here hx rfl (hb hby at_170) rfl (teq hc170_8).2 ?_
                show Steps p.tables e below (T26.setTop (mkF m 173 #[.val (.long q1), .second, .val (.long q2), .second, .val (.int p3), .val (.long (100000000 : Int64)), .second, .val (.ref b1), .val (.int j4), .val (.long j7), .second, .val (.int j9), .val (.int j10), .val (.long j12), .second, .val (.long j15), .second, .val (.int j17), .val (.int j18), .val (.long j20), .second, .val (.int j23), .val (.int j25), .val (.int j27)] [])) _
                refine XS.iload X26.here hx rfl (hb hby at_173) rfl ?_
                show Steps p.tables e below (T26.setTop (mkF m 175 #[.val (.long q1), .second, .val (.long q2), .second, .val (.int p3), .val (.long (100000000 : Int64)), .second, .val (.ref b1), .val (.int j4), .val (.long j7), .second, .val (.int j9), .val (.int j10), .val (.long j12), .second, .val (.long j15), .second, .val (.int j17), .val (.int j18), .val (.long j20), .second, .val (.int j23), .val (.int j25), .val (.int j27)] [(.int j23)])) _
                refine XS.lload X26.here hx rfl (hb hby at_175) rfl ?_
                show Steps p.tables e below (T26.setTop (mkF m 177 #[.val (.long q1), .second, .val (.long q2), .second, .val (.int p3), .val (.long (100000000 : Int64)), .second, .val (.ref b1), .val (.int j4), .val (.long j7), .second, .val (.int j9), .val (.int j10), .val (.long j12), .second, .val (.long j15), .second, .val (.int j17), .val (.int j18), .val (.long j20), .second, .val (.int j23), .val (.int j25), .val (.int j27)] [(.long j20), (.int j23)])) _
                refine XS.lconst X26.here hx rfl (hb hby at_177) ?_
                show Steps p.tables e below (T26.setTop (mkF m 178 #[.val (.long q1), .second, .val (.long q2), .second, .val (.int p3), .val (.long (100000000 : Int64)), .second, .val (.ref b1), .val (.int j4), .val (.long j7), .second, .val (.int j9), .val (.int j10), .val (.long j12), .second, .val (.long j15), .second, .val (.int j17), .val (.int j18), .val (.long j20), .second, .val (.int j23), .val (.int j25), .val (.int j27)] [(.long (0 : Int64)), (.long j20), (.int j23)])) _
                refine XS.lcmp X26.here hx rfl (hb hby at_178) rfl ?_
                show Steps p.tables e below (T26.setTop (mkF m 179 #[.val (.long q1), .second, .val (.long q2), .second, .val (.int p3), .val (.long (100000000 : Int64)), .second, .val (.ref b1), .val (.int j4), .val (.long j7), .second, .val (.int j9), .val (.int j10), .val (.long j12), .second, .val (.long j15), .second, .val (.int j17), .val (.int j18), .val (.long j20), .second, .val (.int j23), .val (.int j25), .val (.int j27)] [(.int (lcmpW j20 (0 : Int64))), (.int j23)])) _
                refine XS.ifYes X26.here hx rfl (pc0 := 179) (pc' := 186) rfl (hb hby at_179) rfl ((if0 _ _).trans (feq (fun q => hc179_9 ((lw_eq j20 (0 : Int64)).mp q))).2) (by decide) (by decide) ?_
                show Steps p.tables e below (T26.setTop (mkF m 186 #[.val (.long q1), .second, .val (.long q2), .second, .val (.int p3), .val (.long (100000000 : Int64)), .second, .val (.ref b1), .val (.int j4), .val (.long j7), .second, .val (.int j9), .val (.int j10), .val (.long j12), .second, .val (.long j15), .second, .val (.int j17), .val (.int j18), .val (.long j20), .second, .val (.int j23), .val (.int j25), .val (.int j27)] [(.int j23)])) _
                refine XS.iconst X26.here hx rfl (hb hby at_186) ?_
                show Steps p.tables e below (T26.setTop (mkF m 187 #[.val (.long q1), .second, .val (.long q2), .second, .val (.int p3), .val (.long (100000000 : Int64)), .second, .val (.ref b1), .val (.int j4), .val (.long j7), .second, .val (.int j9), .val (.int j10), .val (.long j12), .second, .val (.long j15), .second, .val (.int j17), .val (.int j18), .val (.long j20), .second, .val (.int j23), .val (.int j25), .val (.int j27)] [(.int (0 : Int32)), (.int j23)])) _
                refine XS.icmpNo X26.here hx rfl (hb hby at_187) rfl (teq hc187_13).2 ?_
                show Steps p.tables e below (T26.setTop (mkF m 190 #[.val (.long q1), .second, .val (.long q2), .second, .val (.int p3), .val (.long (100000000 : Int64)), .second, .val (.ref b1), .val (.int j4), .val (.long j7), .second, .val (.int j9), .val (.int j10), .val (.long j12), .second, .val (.long j15), .second, .val (.int j17), .val (.int j18), .val (.long j20), .second, .val (.int j23), .val (.int j25), .val (.int j27)] [])) _
                refine XS.iload X26.here hx rfl (hb hby at_190) rfl ?_
                show Steps p.tables e below (T26.setTop (mkF m 192 #[.val (.long q1), .second, .val (.long q2), .second, .val (.int p3), .val (.long (100000000 : Int64)), .second, .val (.ref b1), .val (.int j4), .val (.long j7), .second, .val (.int j9), .val (.int j10), .val (.long j12), .second, .val (.long j15), .second, .val (.int j17), .val (.int j18), .val (.long j20), .second, .val (.int j23), .val (.int j25), .val (.int j27)] [(.int j25)])) _
                refine XS.ifYes X26.here hx rfl (pc0 := 192) (pc' := 204) rfl (hb hby at_192) rfl ((if0 _ _).trans (teq hc192_14).1) (by decide) (by decide) ?_
                show Steps p.tables e below (T26.setTop (mkF m 204 #[.val (.long q1), .second, .val (.long q2), .second, .val (.int p3), .val (.long (100000000 : Int64)), .second, .val (.ref b1), .val (.int j4), .val (.long j7), .second, .val (.int j9), .val (.int j10), .val (.long j12), .second, .val (.long j15), .second, .val (.int j17), .val (.int j18), .val (.long j20), .second, .val (.int j23), .val (.int j25), .val (.int j27)] [])) _
                refine XS.iconst X26.here hx rfl (hb hby at_204) ?_
                exact k
              · skip
                by_cases hc197_15 : j27 = (0 : Int32)
                · skip
                  refine ⟨(0 : Int32), (by simp only [if_neg hc156_6, if_pos hc163_7, if_pos hc170_8, if_neg hc179_9, if_pos hc187_13, if_neg hc192_14, if_pos hc197_15]), fun t k => ?_⟩
                  show Steps p.tables e below (T26.setTop (mkF m 156 #[.val (.long q1), .second, .val (.long q2), .second, .val (.int p3), .val (.long (100000000 : Int64)), .second, .val (.ref b1), .val (.int j4), .val (.long j7), .second, .val (.int j9), .val (.int j10), .val (.long j12), .second, .val (.long j15), .second, .val (.int j17), .val (.int j18), .val (.long j20), .second, .val (.int j23), .val (.int j25), .val (.int j27)] [(.int j4)])) _
                  refine XS.ifNo X26.here hx rfl (hb hby at_156) rfl ((if0 _ _).trans (feq hc156_6).1) ?_
                  show Steps p.tables e below (T26.setTop (mkF m 159 #[.val (.long q1), .second, .val (.long q2), .second, .val (.int p3), .val (.long (100000000 : Int64)), .second, .val (.ref b1), .val (.int j4), .val (.long j7), .second, .val (.int j9), .val (.int j10), .val (.long j12), .second, .val (.long j15), .second, .val (.int j17), .val (.int j18), .val (.long j20), .second, .val (.int j23), .val (.int j25), .val (.int j27)] [])) _
                  refine XS.iload X26.here hx rfl (hb hby at_159) rfl ?_
                  show Steps p.tables e below (T26.setTop (mkF m 161 #[.val (.long q1), .second, .val (.long q2), .second, .val (.int p3), .val (.long (100000000 : Int64)), .second, .val (.ref b1), .val (.int j4), .val (.long j7), .second, .val (.int j9), .val (.int j10), .val (.long j12), .second, .val (.long j15), .second, .val (.int j17), .val (.int j18), .val (.long j20), .second, .val (.int j23), .val (.int j25), .val (.int j27)] [(.int j9)])) _
                  refine XS.iload X26.here hx rfl (hb hby at_161) rfl ?_
                  show Steps p.tables e below (T26.setTop (mkF m 163 #[.val (.long q1), .second, .val (.long q2), .second, .val (.int p3), .val (.long (100000000 : Int64)), .second, .val (.ref b1), .val (.int j4), .val (.long j7), .second, .val (.int j9), .val (.int j10), .val (.long j12), .second, .val (.long j15), .second, .val (.int j17), .val (.int j18), .val (.long j20), .second, .val (.int j23), .val (.int j25), .val (.int j27)] [(.int j10), (.int j9)])) _
                  refine XS.icmpNo X26.here hx rfl (hb hby at_163) rfl (teq hc163_7).2 ?_
                  show Steps p.tables e below (T26.setTop (mkF m 166 #[.val (.long q1), .second, .val (.long q2), .second, .val (.int p3), .val (.long (100000000 : Int64)), .second, .val (.ref b1), .val (.int j4), .val (.long j7), .second, .val (.int j9), .val (.int j10), .val (.long j12), .second, .val (.long j15), .second, .val (.int j17), .val (.int j18), .val (.long j20), .second, .val (.int j23), .val (.int j25), .val (.int j27)] [])) _
                  refine XS.iload X26.here hx rfl (hb hby at_166) rfl ?_
                  show Steps p.tables e below (T26.setTop (mkF m 168 #[.val (.long q1), .second, .val (.long q2), .second, .val (.int p3), .val (.long (100000000 : Int64)), .second, .val (.ref b1), .val (.int j4), .val (.long j7), .second, .val (.int j9), .val (.int j10), .val (.long j12), .second, .val (.long j15), .second, .val (.int j17), .val (.int j18), .val (.long j20), .second, .val (.int j23), .val (.int j25), .val (.int j27)] [(.int j17)])) _
                  refine XS.iload X26.here hx rfl (hb hby at_168) rfl ?_
                  show Steps p.tables e below (T26.setTop (mkF m 170 #[.val (.long q1), .second, .val (.long q2), .second, .val (.int p3), .val (.long (100000000 : Int64)), .second, .val (.ref b1), .val (.int j4), .val (.long j7), .second, .val (.int j9), .val (.int j10), .val (.long j12), .second, .val (.long j15), .second, .val (.int j17), .val (.int j18), .val (.long j20), .second, .val (.int j23), .val (.int j25), .val (.int j27)] [(.int j18), (.int j17)])) _
                  refine XS.icmpNo X26.here hx rfl (hb hby at_170) rfl (teq hc170_8).2 ?_
                  show Steps p.tables e below (T26.setTop (mkF m 173 #[.val (.long q1), .second, .val (.long q2), .second, .val (.int p3), .val (.long (100000000 : Int64)), .second, .val (.ref b1), .val (.int j4), .val (.long j7), .second, .val (.int j9), .val (.int j10), .val (.long j12), .second, .val (.long j15), .second, .val (.int j17), .val (.int j18), .val (.long j20), .second, .val (.int j23), .val (.int j25), .val (.int j27)] [])) _
                  refine XS.iload X26.here hx rfl (hb hby at_173) rfl ?_
                  show Steps p.tables e below (T26.setTop (mkF m 175 #[.val (.long q1), .second, .val (.long q2), .second, .val (.int p3), .val (.long (100000000 : Int64)), .second, .val (.ref b1), .val (.int j4), .val (.long j7), .second, .val (.int j9), .val (.int j10), .val (.long j12), .second, .val (.long j15), .second, .val (.int j17), .val (.int j18), .val (.long j20), .second, .val (.int j23), .val (.int j25), .val (.int j27)] [(.int j23)])) _
                  refine XS.lload X26.here hx rfl (hb hby at_175) rfl ?_
                  show Steps p.tables e below (T26.setTop (mkF m 177 #[.val (.long q1), .second, .val (.long q2), .second, .val (.int p3), .val (.long (100000000 : Int64)), .second, .val (.ref b1), .val (.int j4), .val (.long j7), .second, .val (.int j9), .val (.int j10), .val (.long j12), .second, .val (.long j15), .second, .val (.int j17), .val (.int j18), .val (.long j20), .second, .val (.int j23), .val (.int j25), .val (.int j27)] [(.long j20), (.int j23)])) _
                  refine XS.lconst X26.here hx rfl (hb hby at_177) ?_
                  show Steps p.tables e below (T26.setTop (mkF m 178 #[.val (.long q1), .second, .val (.long q2), .second, .val (.int p3), .val (.long (100000000 : Int64)), .second, .val (.ref b1), .val (.int j4), .val (.long j7), .second, .val (.int j9), .val (.int j10), .val (.long j12), .second, .val (.long j15), .second, .val (.int j17), .val (.int j18), .val (.long j20), .second, .val (.int j23), .val (.int j25), .val (.int j27)] [(.long (0 : Int64)), (.long j20), (.int j23)])) _
                  refine XS.lcmp X26.here hx rfl (hb hby at_178) rfl ?_
                  show Steps p.tables e below (T26.setTop (mkF m 179 #[.val (.long q1), .second, .val (.long q2), .second, .val (.int p3), .val (.long (100000000 : Int64)), .second, .val (.ref b1), .val (.int j4), .val (.long j7), .second, .val (.int j9), .val (.int j10), .val (.long j12), .second, .val (.long j15), .second, .val (.int j17), .val (.int j18), .val (.long j20), .second, .val (.int j23), .val (.int j25), .val (.int j27)] [(.int (lcmpW j20 (0 : Int64))), (.int j23)])) _
                  refine XS.ifYes X26.here hx rfl (pc0 := 179) (pc' := 186) rfl (hb hby at_179) rfl ((if0 _ _).trans (feq (fun q => hc179_9 ((lw_eq j20 (0 : Int64)).mp q))).2) (by decide) (by decide) ?_
                  show Steps p.tables e below (T26.setTop (mkF m 186 #[.val (.long q1), .second, .val (.long q2), .second, .val (.int p3), .val (.long (100000000 : Int64)), .second, .val (.ref b1), .val (.int j4), .val (.long j7), .second, .val (.int j9), .val (.int j10), .val (.long j12), .second, .val (.long j15), .second, .val (.int j17), .val (.int j18), .val (.long j20), .second, .val (.int j23), .val (.int j25), .val (.int j27)] [(.int j23)])) _
                  refine XS.iconst X26.here hx rfl (hb hby at_186) ?_
                  show Steps p.tables e below (T26.setTop (mkF m 187 #[.val (.long q1), .second, .val (.long q2), .second, .val (.int p3), .val (.long (100000000 : Int64)), .second, .val (.ref b1), .val (.int j4), .val (.long j7), .second, .val (.int j9), .val (.int j10), .val (.long j12), .second, .val (.long j15), .second, .val (.int j17), .val (.int j18), .val (.long j20), .second, .val (.int j23), .val (.int j25), .val (.int j27)] [(.int (0 : Int32)), (.int j23)])) _
                  refine XS.icmpNo X26.here hx rfl (hb hby at_187) rfl (teq hc187_13).2 ?_
                  show Steps p.tables e below (T26.setTop (mkF m 190 #[.val (.long q1), .second, .val (.long q2), .second, .val (.int p3), .val (.long (100000000 : Int64)), .second, .val (.ref b1), .val (.int j4), .val (.long j7), .second, .val (.int j9), .val (.int j10), .val (.long j12), .second, .val (.long j15), .second, .val (.int j17), .val (.int j18), .val (.long j20), .second, .val (.int j23), .val (.int j25), .val (.int j27)] [])) _
                  refine XS.iload X26.here hx rfl (hb hby at_190) rfl ?_
                  show Steps p.tables e below (T26.setTop (mkF m 192 #[.val (.long q1), .second, .val (.long q2), .second, .val (.int p3), .val (.long (100000000 : Int64)), .second, .val (.ref b1), .val (.int j4), .val (.long j7), .second, .val (.int j9), .val (.int j10), .val (.long j12), .second, .val (.long j15), .second, .val (.int j17), .val (.int j18), .val (.long j20), .second, .val (.int j23), .val (.int j25), .val (.int j27)] [(.int j25)])) _
                  refine XS.ifNo X26.here hx rfl (hb hby at_192) rfl ((if0 _ _).trans (feq hc192_14).1) ?_
                  show Steps p.tables e below (T26.setTop (mkF m 195 #[.val (.long q1), .second, .val (.long q2), .second, .val (.int p3), .val (.long (100000000 : Int64)), .second, .val (.ref b1), .val (.int j4), .val (.long j7), .second, .val (.int j9), .val (.int j10), .val (.long j12), .second, .val (.long j15), .second, .val (.int j17), .val (.int j18), .val (.long j20), .second, .val (.int j23), .val (.int j25), .val (.int j27)] [])) _
                  refine XS.iload X26.here hx rfl (hb hby at_195) rfl ?_
                  show Steps p.tables e below (T26.setTop (mkF m 197 #[.val (.long q1), .second, .val (.long q2), .second, .val (.int p3), .val (.long (100000000 : Int64)), .second, .val (.ref b1), .val (.int j4), .val (.long j7), .second, .val (.int j9), .val (.int j10), .val (.long j12), .second, .val (.long j15), .second, .val (.int j17), .val (.int j18), .val (.long j20), .second, .val (.int j23), .val (.int j25), .val (.int j27)] [(.int j27)])) _
                  refine XS.ifYes X26.here hx rfl (pc0 := 197) (pc' := 204) rfl (hb hby at_197) rfl ((if0 _ _).trans (teq hc197_15).1) (by decide) (by decide) ?_
                  show Steps p.tables e below (T26.setTop (mkF m 204 #[.val (.long q1), .second, .val (.long q2), .second, .val (.int p3), .val (.long (100000000 : Int64)), .second, .val (.ref b1), .val (.int j4), .val (.long j7), .second, .val (.int j9), .val (.int j10), .val (.long j12), .second, .val (.long j15), .second, .val (.int j17), .val (.int j18), .val (.long j20), .second, .val (.int j23), .val (.int j25), .val (.int j27)] [])) _
                  refine XS.iconst X26.here hx rfl (hb hby at_204) ?_
                  exact k
                · skip
                  refine ⟨(1 : Int32), (by simp only [if_neg hc156_6, if_pos hc163_7, if_pos hc170_8, if_neg hc179_9, if_pos hc187_13, if_neg hc192_14, if_neg hc197_15]), fun t k => ?_⟩
                  show Steps p.tables e below (T26.setTop (mkF m 156 #[.val (.long q1), .second, .val (.long q2), .second, .val (.int p3), .val (.long (100000000 : Int64)), .second, .val (.ref b1), .val (.int j4), .val (.long j7), .second, .val (.int j9), .val (.int j10), .val (.long j12), .second, .val (.long j15), .second, .val (.int j17), .val (.int j18), .val (.long j20), .second, .val (.int j23), .val (.int j25), .val (.int j27)] [(.int j4)])) _
                  refine XS.ifNo X26.here hx rfl (hb hby at_156) rfl ((if0 _ _).trans (feq hc156_6).1) ?_
                  show Steps p.tables e below (T26.setTop (mkF m 159 #[.val (.long q1), .second, .val (.long q2), .second, .val (.int p3), .val (.long (100000000 : Int64)), .second, .val (.ref b1), .val (.int j4), .val (.long j7), .second, .val (.int j9), .val (.int j10), .val (.long j12), .second, .val (.long j15), .second, .val (.int j17), .val (.int j18), .val (.long j20), .second, .val (.int j23), .val (.int j25), .val (.int j27)] [])) _
                  refine XS.iload X26.here hx rfl (hb hby at_159) rfl ?_
                  show Steps p.tables e below (T26.setTop (mkF m 161 #[.val (.long q1), .second, .val (.long q2), .second, .val (.int p3), .val (.long (100000000 : Int64)), .second, .val (.ref b1), .val (.int j4), .val (.long j7), .second, .val (.int j9), .val (.int j10), .val (.long j12), .second, .val (.long j15), .second, .val (.int j17), .val (.int j18), .val (.long j20), .second, .val (.int j23), .val (.int j25), .val (.int j27)] [(.int j9)])) _
                  refine XS.iload X26.here hx rfl (hb hby at_161) rfl ?_
                  show Steps p.tables e below (T26.setTop (mkF m 163 #[.val (.long q1), .second, .val (.long q2), .second, .val (.int p3), .val (.long (100000000 : Int64)), .second, .val (.ref b1), .val (.int j4), .val (.long j7), .second, .val (.int j9), .val (.int j10), .val (.long j12), .second, .val (.long j15), .second, .val (.int j17), .val (.int j18), .val (.long j20), .second, .val (.int j23), .val (.int j25), .val (.int j27)] [(.int j10), (.int j9)])) _
                  refine XS.icmpNo X26.here hx rfl (hb hby at_163) rfl (teq hc163_7).2 ?_
                  show Steps p.tables e below (T26.setTop (mkF m 166 #[.val (.long q1), .second, .val (.long q2), .second, .val (.int p3), .val (.long (100000000 : Int64)), .second, .val (.ref b1), .val (.int j4), .val (.long j7), .second, .val (.int j9), .val (.int j10), .val (.long j12), .second, .val (.long j15), .second, .val (.int j17), .val (.int j18), .val (.long j20), .second, .val (.int j23), .val (.int j25), .val (.int j27)] [])) _
                  refine XS.iload X26.here hx rfl (hb hby at_166) rfl ?_
                  show Steps p.tables e below (T26.setTop (mkF m 168 #[.val (.long q1), .second, .val (.long q2), .second, .val (.int p3), .val (.long (100000000 : Int64)), .second, .val (.ref b1), .val (.int j4), .val (.long j7), .second, .val (.int j9), .val (.int j10), .val (.long j12), .second, .val (.long j15), .second, .val (.int j17), .val (.int j18), .val (.long j20), .second, .val (.int j23), .val (.int j25), .val (.int j27)] [(.int j17)])) _
                  refine XS.iload X26.here hx rfl (hb hby at_168) rfl ?_
                  show Steps p.tables e below (T26.setTop (mkF m 170 #[.val (.long q1), .second, .val (.long q2), .second, .val (.int p3), .val (.long (100000000 : Int64)), .second, .val (.ref b1), .val (.int j4), .val (.long j7), .second, .val (.int j9), .val (.int j10), .val (.long j12), .second, .val (.long j15), .second, .val (.int j17), .val (.int j18), .val (.long j20), .second, .val (.int j23), .val (.int j25), .val (.int j27)] [(.int j18), (.int j17)])) _
                  refine XS.icmpNo X26.here hx rfl (hb hby at_170) rfl (teq hc170_8).2 ?_
                  show Steps p.tables e below (T26.setTop (mkF m 173 #[.val (.long q1), .second, .val (.long q2), .second, .val (.int p3), .val (.long (100000000 : Int64)), .second, .val (.ref b1), .val (.int j4), .val (.long j7), .second, .val (.int j9), .val (.int j10), .val (.long j12), .second, .val (.long j15), .second, .val (.int j17), .val (.int j18), .val (.long j20), .second, .val (.int j23), .val (.int j25), .val (.int j27)] [])) _
                  refine XS.iload X26.here hx rfl (hb hby at_173) rfl ?_
                  show Steps p.tables e below (T26.setTop (mkF m 175 #[.val (.long q1), .second, .val (.long q2), .second, .val (.int p3), .val (.long (100000000 : Int64)), .second, .val (.ref b1), .val (.int j4), .val (.long j7), .second, .val (.int j9), .val (.int j10), .val (.long j12), .second, .val (.long j15), .second, .val (.int j17), .val (.int j18), .val (.long j20), .second, .val (.int j23), .val (.int j25), .val (.int j27)] [(.int j23)])) _
                  refine XS.lload X26.here hx rfl (hb hby at_175) rfl ?_
                  show Steps p.tables e below (T26.setTop (mkF m 177 #[.val (.long q1), .second, .val (.long q2), .second, .val (.int p3), .val (.long (100000000 : Int64)), .second, .val (.ref b1), .val (.int j4), .val (.long j7), .second, .val (.int j9), .val (.int j10), .val (.long j12), .second, .val (.long j15), .second, .val (.int j17), .val (.int j18), .val (.long j20), .second, .val (.int j23), .val (.int j25), .val (.int j27)] [(.long j20), (.int j23)])) _
                  refine XS.lconst X26.here hx rfl (hb hby at_177) ?_
                  show Steps p.tables e below (T26.setTop (mkF m 178 #[.val (.long q1), .second, .val (.long q2), .second, .val (.int p3), .val (.long (100000000 : Int64)), .second, .val (.ref b1), .val (.int j4), .val (.long j7), .second, .val (.int j9), .val (.int j10), .val (.long j12), .second, .val (.long j15), .second, .val (.int j17), .val (.int j18), .val (.long j20), .second, .val (.int j23), .val (.int j25), .val (.int j27)] [(.long (0 : Int64)), (.long j20), (.int j23)])) _
                  refine XS.lcmp X26.here hx rfl (hb hby at_178) rfl ?_
                  show Steps p.tables e below (T26.setTop (mkF m 179 #[.val (.long q1), .second, .val (.long q2), .second, .val (.int p3), .val (.long (100000000 : Int64)), .second, .val (.ref b1), .val (.int j4), .val (.long j7), .second, .val (.int j9), .val (.int j10), .val (.long j12), .second, .val (.long j15), .second, .val (.int j17), .val (.int j18), .val (.long j20), .second, .val (.int j23), .val (.int j25), .val (.int j27)] [(.int (lcmpW j20 (0 : Int64))), (.int j23)])) _
                  refine XS.ifYes X26.here hx rfl (pc0 := 179) (pc' := 186) rfl (hb hby at_179) rfl ((if0 _ _).trans (feq (fun q => hc179_9 ((lw_eq j20 (0 : Int64)).mp q))).2) (by decide) (by decide) ?_
                  show Steps p.tables e below (T26.setTop (mkF m 186 #[.val (.long q1), .second, .val (.long q2), .second, .val (.int p3), .val (.long (100000000 : Int64)), .second, .val (.ref b1), .val (.int j4), .val (.long j7), .second, .val (.int j9), .val (.int j10), .val (.long j12), .second, .val (.long j15), .second, .val (.int j17), .val (.int j18), .val (.long j20), .second, .val (.int j23), .val (.int j25), .val (.int j27)] [(.int j23)])) _
                  refine XS.iconst X26.here hx rfl (hb hby at_186) ?_
                  show Steps p.tables e below (T26.setTop (mkF m 187 #[.val (.long q1), .second, .val (.long q2), .second, .val (.int p3), .val (.long (100000000 : Int64)), .second, .val (.ref b1), .val (.int j4), .val (.long j7), .second, .val (.int j9), .val (.int j10), .val (.long j12), .second, .val (.long j15), .second, .val (.int j17), .val (.int j18), .val (.long j20), .second, .val (.int j23), .val (.int j25), .val (.int j27)] [(.int (0 : Int32)), (.int j23)])) _
                  refine XS.icmpNo X26.here hx rfl (hb hby at_187) rfl (teq hc187_13).2 ?_
                  show Steps p.tables e below (T26.setTop (mkF m 190 #[.val (.long q1), .second, .val (.long q2), .second, .val (.int p3), .val (.long (100000000 : Int64)), .second, .val (.ref b1), .val (.int j4), .val (.long j7), .second, .val (.int j9), .val (.int j10), .val (.long j12), .second, .val (.long j15), .second, .val (.int j17), .val (.int j18), .val (.long j20), .second, .val (.int j23), .val (.int j25), .val (.int j27)] [])) _
                  refine XS.iload X26.here hx rfl (hb hby at_190) rfl ?_
                  show Steps p.tables e below (T26.setTop (mkF m 192 #[.val (.long q1), .second, .val (.long q2), .second, .val (.int p3), .val (.long (100000000 : Int64)), .second, .val (.ref b1), .val (.int j4), .val (.long j7), .second, .val (.int j9), .val (.int j10), .val (.long j12), .second, .val (.long j15), .second, .val (.int j17), .val (.int j18), .val (.long j20), .second, .val (.int j23), .val (.int j25), .val (.int j27)] [(.int j25)])) _
                  refine XS.ifNo X26.here hx rfl (hb hby at_192) rfl ((if0 _ _).trans (feq hc192_14).1) ?_
                  show Steps p.tables e below (T26.setTop (mkF m 195 #[.val (.long q1), .second, .val (.long q2), .second, .val (.int p3), .val (.long (100000000 : Int64)), .second, .val (.ref b1), .val (.int j4), .val (.long j7), .second, .val (.int j9), .val (.int j10), .val (.long j12), .second, .val (.long j15), .second, .val (.int j17), .val (.int j18), .val (.long j20), .second, .val (.int j23), .val (.int j25), .val (.int j27)] [])) _
                  refine XS.iload X26.here hx rfl (hb hby at_195) rfl ?_
                  show Steps p.tables e below (T26.setTop (mkF m 197 #[.val (.long q1), .second, .val (.long q2), .second, .val (.int p3), .val (.long (100000000 : Int64)), .second, .val (.ref b1), .val (.int j4), .val (.long j7), .second, .val (.int j9), .val (.int j10), .val (.long j12), .second, .val (.long j15), .second, .val (.int j17), .val (.int j18), .val (.long j20), .second, .val (.int j23), .val (.int j25), .val (.int j27)] [(.int j27)])) _
                  refine XS.ifNo X26.here hx rfl (hb hby at_197) rfl ((if0 _ _).trans (feq hc197_15).1) ?_
                  show Steps p.tables e below (T26.setTop (mkF m 200 #[.val (.long q1), .second, .val (.long q2), .second, .val (.int p3), .val (.long (100000000 : Int64)), .second, .val (.ref b1), .val (.int j4), .val (.long j7), .second, .val (.int j9), .val (.int j10), .val (.long j12), .second, .val (.long j15), .second, .val (.int j17), .val (.int j18), .val (.long j20), .second, .val (.int j23), .val (.int j25), .val (.int j27)] [])) _
                  refine XS.iconst X26.here hx rfl (hb hby at_200) ?_
                  show Steps p.tables e below (T26.setTop (mkF m 201 #[.val (.long q1), .second, .val (.long q2), .second, .val (.int p3), .val (.long (100000000 : Int64)), .second, .val (.ref b1), .val (.int j4), .val (.long j7), .second, .val (.int j9), .val (.int j10), .val (.long j12), .second, .val (.long j15), .second, .val (.int j17), .val (.int j18), .val (.long j20), .second, .val (.int j23), .val (.int j25), .val (.int j27)] [(.int (1 : Int32))])) _
                  refine XS.goto X26.here hx rfl (pc0 := 201) (pc' := 205) rfl (hb hby at_201) (by decide) (by decide) ?_
                  exact k
            · skip
              refine ⟨(0 : Int32), (by simp only [if_neg hc156_6, if_pos hc163_7, if_pos hc170_8, if_neg hc179_9, if_neg hc187_13]), fun t k => ?_⟩
              show Steps p.tables e below (T26.setTop (mkF m 156 #[.val (.long q1), .second, .val (.long q2), .second, .val (.int p3), .val (.long (100000000 : Int64)), .second, .val (.ref b1), .val (.int j4), .val (.long j7), .second, .val (.int j9), .val (.int j10), .val (.long j12), .second, .val (.long j15), .second, .val (.int j17), .val (.int j18), .val (.long j20), .second, .val (.int j23), .val (.int j25), .val (.int j27)] [(.int j4)])) _
              refine XS.ifNo X26.here hx rfl (hb hby at_156) rfl ((if0 _ _).trans (feq hc156_6).1) ?_
              show Steps p.tables e below (T26.setTop (mkF m 159 #[.val (.long q1), .second, .val (.long q2), .second, .val (.int p3), .val (.long (100000000 : Int64)), .second, .val (.ref b1), .val (.int j4), .val (.long j7), .second, .val (.int j9), .val (.int j10), .val (.long j12), .second, .val (.long j15), .second, .val (.int j17), .val (.int j18), .val (.long j20), .second, .val (.int j23), .val (.int j25), .val (.int j27)] [])) _
              refine XS.iload X26.here hx rfl (hb hby at_159) rfl ?_
              show Steps p.tables e below (T26.setTop (mkF m 161 #[.val (.long q1), .second, .val (.long q2), .second, .val (.int p3), .val (.long (100000000 : Int64)), .second, .val (.ref b1), .val (.int j4), .val (.long j7), .second, .val (.int j9), .val (.int j10), .val (.long j12), .second, .val (.long j15), .second, .val (.int j17), .val (.int j18), .val (.long j20), .second, .val (.int j23), .val (.int j25), .val (.int j27)] [(.int j9)])) _
              refine XS.iload X26.here hx rfl (hb hby at_161) rfl ?_
              show Steps p.tables e below (T26.setTop (mkF m 163 #[.val (.long q1), .second, .val (.long q2), .second, .val (.int p3), .val (.long (100000000 : Int64)), .second, .val (.ref b1), .val (.int j4), .val (.long j7), .second, .val (.int j9), .val (.int j10), .val (.long j12), .second, .val (.long j15), .second, .val (.int j17), .val (.int j18), .val (.long j20), .second, .val (.int j23), .val (.int j25), .val (.int j27)] [(.int j10), (.int j9)])) _
              refine XS.icmpNo X26.here hx rfl (hb hby at_163) rfl (teq hc163_7).2 ?_
              show Steps p.tables e below (T26.setTop (mkF m 166 #[.val (.long q1), .second, .val (.long q2), .second, .val (.int p3), .val (.long (100000000 : Int64)), .second, .val (.ref b1), .val (.int j4), .val (.long j7), .second, .val (.int j9), .val (.int j10), .val (.long j12), .second, .val (.long j15), .second, .val (.int j17), .val (.int j18), .val (.long j20), .second, .val (.int j23), .val (.int j25), .val (.int j27)] [])) _
              refine XS.iload X26.here hx rfl (hb hby at_166) rfl ?_
              show Steps p.tables e below (T26.setTop (mkF m 168 #[.val (.long q1), .second, .val (.long q2), .second, .val (.int p3), .val (.long (100000000 : Int64)), .second, .val (.ref b1), .val (.int j4), .val (.long j7), .second, .val (.int j9), .val (.int j10), .val (.long j12), .second, .val (.long j15), .second, .val (.int j17), .val (.int j18), .val (.long j20), .second, .val (.int j23), .val (.int j25), .val (.int j27)] [(.int j17)])) _
              refine XS.iload X26.here hx rfl (hb hby at_168) rfl ?_
              show Steps p.tables e below (T26.setTop (mkF m 170 #[.val (.long q1), .second, .val (.long q2), .second, .val (.int p3), .val (.long (100000000 : Int64)), .second, .val (.ref b1), .val (.int j4), .val (.long j7), .second, .val (.int j9), .val (.int j10), .val (.long j12), .second, .val (.long j15), .second, .val (.int j17), .val (.int j18), .val (.long j20), .second, .val (.int j23), .val (.int j25), .val (.int j27)] [(.int j18), (.int j17)])) _
              refine XS.icmpNo X26.here hx rfl (hb hby at_170) rfl (teq hc170_8).2 ?_
              show Steps p.tables e below (T26.setTop (mkF m 173 #[.val (.long q1), .second, .val (.long q2), .second, .val (.int p3), .val (.long (100000000 : Int64)), .second, .val (.ref b1), .val (.int j4), .val (.long j7), .second, .val (.int j9), .val (.int j10), .val (.long j12), .second, .val (.long j15), .second, .val (.int j17), .val (.int j18), .val (.long j20), .second, .val (.int j23), .val (.int j25), .val (.int j27)] [])) _
              refine XS.iload X26.here hx rfl (hb hby at_173) rfl ?_
              show Steps p.tables e below (T26.setTop (mkF m 175 #[.val (.long q1), .second, .val (.long q2), .second, .val (.int p3), .val (.long (100000000 : Int64)), .second, .val (.ref b1), .val (.int j4), .val (.long j7), .second, .val (.int j9), .val (.int j10), .val (.long j12), .second, .val (.long j15), .second, .val (.int j17), .val (.int j18), .val (.long j20), .second, .val (.int j23), .val (.int j25), .val (.int j27)] [(.int j23)])) _
              refine XS.lload X26.here hx rfl (hb hby at_175) rfl ?_
              show Steps p.tables e below (T26.setTop (mkF m 177 #[.val (.long q1), .second, .val (.long q2), .second, .val (.int p3), .val (.long (100000000 : Int64)), .second, .val (.ref b1), .val (.int j4), .val (.long j7), .second, .val (.int j9), .val (.int j10), .val (.long j12), .second, .val (.long j15), .second, .val (.int j17), .val (.int j18), .val (.long j20), .second, .val (.int j23), .val (.int j25), .val (.int j27)] [(.long j20), (.int j23)])) _
              refine XS.lconst X26.here hx rfl (hb hby at_177) ?_
              show Steps p.tables e below (T26.setTop (mkF m 178 #[.val (.long q1), .second, .val (.long q2), .second, .val (.int p3), .val (.long (100000000 : Int64)), .second, .val (.ref b1), .val (.int j4), .val (.long j7), .second, .val (.int j9), .val (.int j10), .val (.long j12), .second, .val (.long j15), .second, .val (.int j17), .val (.int j18), .val (.long j20), .second, .val (.int j23), .val (.int j25), .val (.int j27)] [(.long (0 : Int64)), (.long j20), (.int j23)])) _
              refine XS.lcmp X26.here hx rfl (hb hby at_178) rfl ?_
              show Steps p.tables e below (T26.setTop (mkF m 179 #[.val (.long q1), .second, .val (.long q2), .second, .val (.int p3), .val (.long (100000000 : Int64)), .second, .val (.ref b1), .val (.int j4), .val (.long j7), .second, .val (.int j9), .val (.int j10), .val (.long j12), .second, .val (.long j15), .second, .val (.int j17), .val (.int j18), .val (.long j20), .second, .val (.int j23), .val (.int j25), .val (.int j27)] [(.int (lcmpW j20 (0 : Int64))), (.int j23)])) _
              refine XS.ifYes X26.here hx rfl (pc0 := 179) (pc' := 186) rfl (hb hby at_179) rfl ((if0 _ _).trans (feq (fun q => hc179_9 ((lw_eq j20 (0 : Int64)).mp q))).2) (by decide) (by decide) ?_
              show Steps p.tables e below (T26.setTop (mkF m 186 #[.val (.long q1), .second, .val (.long q2), .second, .val (.int p3), .val (.long (100000000 : Int64)), .second, .val (.ref b1), .val (.int j4), .val (.long j7), .second, .val (.int j9), .val (.int j10), .val (.long j12), .second, .val (.long j15), .second, .val (.int j17), .val (.int j18), .val (.long j20), .second, .val (.int j23), .val (.int j25), .val (.int j27)] [(.int j23)])) _
              refine XS.iconst X26.here hx rfl (hb hby at_186) ?_
              show Steps p.tables e below (T26.setTop (mkF m 187 #[.val (.long q1), .second, .val (.long q2), .second, .val (.int p3), .val (.long (100000000 : Int64)), .second, .val (.ref b1), .val (.int j4), .val (.long j7), .second, .val (.int j9), .val (.int j10), .val (.long j12), .second, .val (.long j15), .second, .val (.int j17), .val (.int j18), .val (.long j20), .second, .val (.int j23), .val (.int j25), .val (.int j27)] [(.int (0 : Int32)), (.int j23)])) _
              refine XS.icmpYes X26.here hx rfl (pc0 := 187) (pc' := 204) rfl (hb hby at_187) rfl (feq hc187_13).2 (by decide) (by decide) ?_
              show Steps p.tables e below (T26.setTop (mkF m 204 #[.val (.long q1), .second, .val (.long q2), .second, .val (.int p3), .val (.long (100000000 : Int64)), .second, .val (.ref b1), .val (.int j4), .val (.long j7), .second, .val (.int j9), .val (.int j10), .val (.long j12), .second, .val (.long j15), .second, .val (.int j17), .val (.int j18), .val (.long j20), .second, .val (.int j23), .val (.int j25), .val (.int j27)] [])) _
              refine XS.iconst X26.here hx rfl (hb hby at_204) ?_
              exact k
        · skip
          refine ⟨(0 : Int32), (by simp only [if_neg hc156_6, if_pos hc163_7, if_neg hc170_8]), fun t k => ?_⟩
          show Steps p.tables e below (T26.setTop (mkF m 156 #[.val (.long q1), .second, .val (.long q2), .second, .val (.int p3), .val (.long (100000000 : Int64)), .second, .val (.ref b1), .val (.int j4), .val (.long j7), .second, .val (.int j9), .val (.int j10), .val (.long j12), .second, .val (.long j15), .second, .val (.int j17), .val (.int j18), .val (.long j20), .second, .val (.int j23), .val (.int j25), .val (.int j27)] [(.int j4)])) _
          refine XS.ifNo X26.here hx rfl (hb hby at_156) rfl ((if0 _ _).trans (feq hc156_6).1) ?_
          show Steps p.tables e below (T26.setTop (mkF m 159 #[.val (.long q1), .second, .val (.long q2), .second, .val (.int p3), .val (.long (100000000 : Int64)), .second, .val (.ref b1), .val (.int j4), .val (.long j7), .second, .val (.int j9), .val (.int j10), .val (.long j12), .second, .val (.long j15), .second, .val (.int j17), .val (.int j18), .val (.long j20), .second, .val (.int j23), .val (.int j25), .val (.int j27)] [])) _
          refine XS.iload X26.here hx rfl (hb hby at_159) rfl ?_
          show Steps p.tables e below (T26.setTop (mkF m 161 #[.val (.long q1), .second, .val (.long q2), .second, .val (.int p3), .val (.long (100000000 : Int64)), .second, .val (.ref b1), .val (.int j4), .val (.long j7), .second, .val (.int j9), .val (.int j10), .val (.long j12), .second, .val (.long j15), .second, .val (.int j17), .val (.int j18), .val (.long j20), .second, .val (.int j23), .val (.int j25), .val (.int j27)] [(.int j9)])) _
          refine XS.iload X26.here hx rfl (hb hby at_161) rfl ?_
          show Steps p.tables e below (T26.setTop (mkF m 163 #[.val (.long q1), .second, .val (.long q2), .second, .val (.int p3), .val (.long (100000000 : Int64)), .second, .val (.ref b1), .val (.int j4), .val (.long j7), .second, .val (.int j9), .val (.int j10), .val (.long j12), .second, .val (.long j15), .second, .val (.int j17), .val (.int j18), .val (.long j20), .second, .val (.int j23), .val (.int j25), .val (.int j27)] [(.int j10), (.int j9)])) _
          refine XS.icmpNo X26.here hx rfl (hb hby at_163) rfl (teq hc163_7).2 ?_
          show Steps p.tables e below (T26.setTop (mkF m 166 #[.val (.long q1), .second, .val (.long q2), .second, .val (.int p3), .val (.long (100000000 : Int64)), .second, .val (.ref b1), .val (.int j4), .val (.long j7), .second, .val (.int j9), .val (.int j10), .val (.long j12), .second, .val (.long j15), .second, .val (.int j17), .val (.int j18), .val (.long j20), .second, .val (.int j23), .val (.int j25), .val (.int j27)] [])) _
          refine XS.iload X26.here hx rfl (hb hby at_166) rfl ?_
          show Steps p.tables e below (T26.setTop (mkF m 168 #[.val (.long q1), .second, .val (.long q2), .second, .val (.int p3), .val (.long (100000000 : Int64)), .second, .val (.ref b1), .val (.int j4), .val (.long j7), .second, .val (.int j9), .val (.int j10), .val (.long j12), .second, .val (.long j15), .second, .val (.int j17), .val (.int j18), .val (.long j20), .second, .val (.int j23), .val (.int j25), .val (.int j27)] [(.int j17)])) _
          refine XS.iload X26.here hx rfl (hb hby at_168) rfl ?_
          show Steps p.tables e below (T26.setTop (mkF m 170 #[.val (.long q1), .second, .val (.long q2), .second, .val (.int p3), .val (.long (100000000 : Int64)), .second, .val (.ref b1), .val (.int j4), .val (.long j7), .second, .val (.int j9), .val (.int j10), .val (.long j12), .second, .val (.long j15), .second, .val (.int j17), .val (.int j18), .val (.long j20), .second, .val (.int j23), .val (.int j25), .val (.int j27)] [(.int j18), (.int j17)])) _
          refine XS.icmpYes X26.here hx rfl (pc0 := 170) (pc' := 204) rfl (hb hby at_170) rfl (feq hc170_8).2 (by decide) (by decide) ?_
          show Steps p.tables e below (T26.setTop (mkF m 204 #[.val (.long q1), .second, .val (.long q2), .second, .val (.int p3), .val (.long (100000000 : Int64)), .second, .val (.ref b1), .val (.int j4), .val (.long j7), .second, .val (.int j9), .val (.int j10), .val (.long j12), .second, .val (.long j15), .second, .val (.int j17), .val (.int j18), .val (.long j20), .second, .val (.int j23), .val (.int j25), .val (.int j27)] [])) _
          refine XS.iconst X26.here hx rfl (hb hby at_204) ?_
          exact k
      · skip
        refine ⟨(0 : Int32), (by simp only [if_neg hc156_6, if_neg hc163_7]), fun t k => ?_⟩
        show Steps p.tables e below (T26.setTop (mkF m 156 #[.val (.long q1), .second, .val (.long q2), .second, .val (.int p3), .val (.long (100000000 : Int64)), .second, .val (.ref b1), .val (.int j4), .val (.long j7), .second, .val (.int j9), .val (.int j10), .val (.long j12), .second, .val (.long j15), .second, .val (.int j17), .val (.int j18), .val (.long j20), .second, .val (.int j23), .val (.int j25), .val (.int j27)] [(.int j4)])) _
        refine XS.ifNo X26.here hx rfl (hb hby at_156) rfl ((if0 _ _).trans (feq hc156_6).1) ?_
        show Steps p.tables e below (T26.setTop (mkF m 159 #[.val (.long q1), .second, .val (.long q2), .second, .val (.int p3), .val (.long (100000000 : Int64)), .second, .val (.ref b1), .val (.int j4), .val (.long j7), .second, .val (.int j9), .val (.int j10), .val (.long j12), .second, .val (.long j15), .second, .val (.int j17), .val (.int j18), .val (.long j20), .second, .val (.int j23), .val (.int j25), .val (.int j27)] [])) _
        refine XS.iload X26.here hx rfl (hb hby at_159) rfl ?_
        show Steps p.tables e below (T26.setTop (mkF m 161 #[.val (.long q1), .second, .val (.long q2), .second, .val (.int p3), .val (.long (100000000 : Int64)), .second, .val (.ref b1), .val (.int j4), .val (.long j7), .second, .val (.int j9), .val (.int j10), .val (.long j12), .second, .val (.long j15), .second, .val (.int j17), .val (.int j18), .val (.long j20), .second, .val (.int j23), .val (.int j25), .val (.int j27)] [(.int j9)])) _
        refine XS.iload X26.here hx rfl (hb hby at_161) rfl ?_
        show Steps p.tables e below (T26.setTop (mkF m 163 #[.val (.long q1), .second, .val (.long q2), .second, .val (.int p3), .val (.long (100000000 : Int64)), .second, .val (.ref b1), .val (.int j4), .val (.long j7), .second, .val (.int j9), .val (.int j10), .val (.long j12), .second, .val (.long j15), .second, .val (.int j17), .val (.int j18), .val (.long j20), .second, .val (.int j23), .val (.int j25), .val (.int j27)] [(.int j10), (.int j9)])) _
        refine XS.icmpYes X26.here hx rfl (pc0 := 163) (pc' := 204) rfl (hb hby at_163) rfl (feq hc163_7).2 (by decide) (by decide) ?_
        show Steps p.tables e below (T26.setTop (mkF m 204 #[.val (.long q1), .second, .val (.long q2), .second, .val (.int p3), .val (.long (100000000 : Int64)), .second, .val (.ref b1), .val (.int j4), .val (.long j7), .second, .val (.int j9), .val (.int j10), .val (.long j12), .second, .val (.long j15), .second, .val (.int j17), .val (.int j18), .val (.long j20), .second, .val (.int j23), .val (.int j25), .val (.int j27)] [])) _
        refine XS.iconst X26.here hx rfl (hb hby at_204) ?_
        exact k
  refine own_go st29 ?_
  show own_Go p.tables e below _ T26 (mkF m 205 #[.val (.long q1), .second, .val (.long q2), .second, .val (.int p3), .val (.long (100000000 : Int64)), .second, .val (.ref b1), .val (.int j4), .val (.long j7), .second, .val (.int j9), .val (.int j10), .val (.long j12), .second, .val (.long j15), .second, .val (.int j17), .val (.int j18), .val (.long j20), .second, .val (.int j23), .val (.int j25), .val (.int j27)] [(.int j28)])
  have hv1 : (nar .boolean j28) = 1 := own_yes_x q1 q2 p3 j4 j7 j9 j10 j12 j15 j17 j18 j20 j23 j25 j27 j28 hj4 hj7 hj9 hj10 hj12 hj15 hj17 hj18 hj20 hj23 hj25 hj27 hj28
  obtain ⟨fs, hr, hrun, hended, hW, hsame⟩ := X26.leave (v := some (.int (nar .boolean j28))) (fun h => by rw [Bd.returns] at h; cases h)
  refine ⟨_, _, ?_, hrun, hended, _, _, rfl, ?_, ⟨_, rfl⟩, hW, hsame.mono (by decide) (by decide)⟩
  · exact retN X26 hx (t := .boolean) Bd.returns (by simp) (hb hby at_205) hr
  · show Q0 Z q1 q2 p3 h0 n0 _ _ _
    exact ⟨by rw [hv1], NN⟩
set_option maxRecDepth 65536 in
set_option maxHeartbeats 40000000 in
theorem comes_1 {Post : Tables → Env → Array Value → State → Outcome → State → Prop} (hpost : ∀ tb e args s v u, (limb_1_1.after args s (.returned v) u = true ∧ limb_1_2.after args s (.returned v) u = true ∧ True) → FrameEnd s (.returned v) u (Jvm.fieldLocs frame_1_writes args s ++ Jvm.arrayLocs frame_1_arrays args s ++ Jvm.staticLocs frame_1_statics s) 16 128 → Post tb e args s (.returned v) u) :
    ArmFor flags0 classFile x code maxLocals ret World_1 tables_1 room_1 Calls_1 rest_1 Pre_1 Post := by
  intro l hfl _ _ p e ha hc hk s m args below hf hA hF happ hP
  obtain ⟨hcalls, hrest, hpre⟩ := hP
  obtain ⟨-, -, -, hnamed, -, -, -, hat⟩ := (Spec.applies_iff hf).mp happ
  obtain ⟨hg, hn⟩ := and_e (Cond.before_iff.mp (show (Jvm.Cond.and given_1 narrow_1).before args s = true from hpre))
  obtain ⟨hcount, hg0⟩ := and_e hg
  obtain ⟨ha0, hg1⟩ := and_e hg0
  obtain ⟨ha1, hg2⟩ := and_e hg1
  have ha2 := hg2
  obtain ⟨w0, w1, w2, rfl⟩ : ∃ w0 w1 w2 : Value, args = #[w0, w1, w2] := by
    have hs : args.size = 3 := by simpa [Cond.value, given_1] using hcount
    obtain ⟨L⟩ := args
    match L, hs with
    | [w0, w1, w2], _ => exact ⟨w0, w1, w2, rfl⟩
  have hw := fun d (hd : d ∈ tables_1) => atoms_spec (ws := Jvm.Cond.code x code maxLocals ret :: tables_1) hat d (List.mem_cons_of_mem _ hd)
  obtain ⟨i0, ei0⟩ := isL_v ha0
  obtain rfl : w0 = (.long i0) := Option.some.inj ei0
  obtain ⟨i1, ei1⟩ := isL_v ha1
  obtain rfl : w1 = (.long i1) := Option.some.inj ei1
  obtain ⟨i2, ei2⟩ := is_v ha2
  obtain rfl : w2 = (.int i2) := Option.some.inj ei2
  obtain ⟨n, o, h1, h2, h3, _, L, rfl, ⟨rfl, N⟩, hq⟩ := rm0 l s _ hw tables_1 i0 i1 i2 s.heap s.heap.size (Nat.le_refl _) p e ha hc hk s m _ below hf ((Spec.applies_iff_loose hf).mp happ).1 ⟨rfl, State.Warmed39.refl s, rfl⟩ trivial
  refine ⟨n, _, h1, h2, h3, hpost _ _ _ _ _ _ ⟨Cond.after_iff.mpr rfl, Cond.after_iff.mpr (eq_i res_at (Term.int_eval (1)) rfl), trivial⟩ ⟨hq.1, hq.2.1, (hq.2.2.sift fun y hy => Or.inr (N y hy)).mono (by decide) (by decide)⟩⟩
theorem main_1_1 : Claimed_1_1 := comes_1 fun _ _ _ _ _ _ h hF => ⟨h.1, hF⟩
theorem main_1_2 : Claimed_1_2 := comes_1 fun _ _ _ _ _ _ h hF => ⟨h.2.1, hF⟩
end Jvm.Pilot.@@N@@
namespace Jvm.Pilot.@@N@@
open Jvm Jvm.ClassFile Sem Op Lib Jvm.Free Jvm.Stand Jvm.Pilot.@@N@@.Jvm.D
/-! MADE BY PROGRAM (witnessworld.py) out of the Statement's table words and the real class files: 9 classes; the members and pool entries that the words name. The judged class is class 1, her method 2. -/
namespace start1
open Jvm.ClassFile
def u (s : String) : CpInfo := .utf8 (stringToUtf16 s)
/-- a pool by its gaps: so many unusable entries, then the entry; so many at the end -/
def gap : Nat → List CpInfo → List CpInfo
  | 0, r => r
  | n + 1, r => .unusable :: gap n r
def poolList (es : List (Nat × CpInfo)) (last : Nat) : List CpInfo := es.foldr (fun e r => gap e.1 (e.2 :: r)) (gap last [])
def pool (es : List (Nat × CpInfo)) (last : Nat) : Array CpInfo := ⟨poolList es last⟩
def fileOf (pool : Array CpInfo) (this : Nat) (attrs : Array Attribute := #[]) (ms : Array MethodInfo := #[]) (fl : Nat := 33) (sup : Nat := 0) (ifs : Array Nat := #[]) (fds : Array FieldInfo := #[]) : ClassFile where
  minorVersion := 0
  majorVersion := 65
  constantPool := pool
  accessFlags := fl
  thisClass := this
  superClass := sup
  interfaces := ifs
  fields := fds
  methods := ms
  attributes := attrs
def plain (name : String) (sup : Option ClassId) : Class where
  name := name
  kind := .ordinary
  loader := none
  accessFlags := 33
  super := sup
  interfaces := #[]
  cf := none
  fields := #[]
  methods := #[]
  instanceTypes := #[]
  staticTypes := #[]
  resolved := #[]
  callSites := []
  init := .initialized
  statics := none
  mirror := none

def pool0 : Array CpInfo := pool [(5, u "<init>"), (0, u "()V"), (1, .class_ 10), (1, u "java/lang/Object")] 113

def k0c0 : Code := { maxStack := 0, maxLocals := 1, code := object_method_1_code, exceptionTable := #[], attributes := #[] }
def k0m0 : Method := { name := "<init>", desc := "()V", sig := { parameters := [], returnType := none }, accessFlags := 1, code := some k0c0 }
/-- java/lang/Object -/
def k0 : Class := { plain "java/lang/Object" none with
  accessFlags := 33
  interfaces := #[]
  cf := some (fileOf pool0 8 #[] #[{ accessFlags := 1, nameIndex := 5, descriptorIndex := 6, attributes := #[] }] 33 0 #[] #[])
  fields := #[]
  methods := #[k0m0]
  instanceTypes := #[]
  staticTypes := #[]
  resolved := Array.replicate 124 none
  statics := none }

def pool1 : Array CpInfo := pool [(2, .class_ 4), (0, .nameAndType 5 6), (0, u "java/lang/Object"), (0, u "<init>"), (0, u "()V"), (2, .long 9223372036854775807), (1, .class_ 12), (0, u "com/example/kirchberg/kirchberg/model/pattern/PatternBudget"), (0, .long 100000002), (1, .long 3), (1, .long 100000000), (1, .methodref 11 3), (0, .methodref 11 21), (0, .nameAndType 22 23), (0, u "isSpent"), (0, u "()Z"), (0, .methodref 25 26), (0, .class_ 27), (0, .nameAndType 28 29), (0, u "com/example/kirchberg/kirchberg/model/pattern/PatternBudgetTakePinLaw"), (0, u "pick"), (0, u "(JIJ)J"), (0, .methodref 11 31), (0, .nameAndType 32 33), (0, u "take"), (0, u "(J)Z"), (3, u "law"), (0, u "(JJI)Z")] 2

def k1m0 : Method := { name := "<init>", desc := "()V", sig := { parameters := [], returnType := none }, accessFlags := 1, code := none }
def k1c1 : Code := { maxStack := 6, maxLocals := 10, code := method_2_code, exceptionTable := #[], attributes := #[] }
def k1m1 : Method := { name := "pick", desc := "(JIJ)J", sig := { parameters := [.long, .int, .long], returnType := some .long }, accessFlags := 10, code := some k1c1 }
def k1c2 : Code := { maxStack := 5, maxLocals := 24, code := code, exceptionTable := #[], attributes := #[] }
def k1m2 : Method := { name := "law", desc := "(JJI)Z", sig := { parameters := [.long, .long, .int], returnType := some .boolean }, accessFlags := 9, code := some k1c2 }
/-- com/example/kirchberg/kirchberg/model/pattern/PatternBudgetTakePinLaw -/
def k1 : Class := { plain "com/example/kirchberg/kirchberg/model/pattern/PatternBudgetTakePinLaw" (some 0) with
  accessFlags := 49
  interfaces := #[]
  cf := some (fileOf pool1 25 #[] #[{ accessFlags := 1, nameIndex := 5, descriptorIndex := 6, attributes := #[] }, { accessFlags := 10, nameIndex := 28, descriptorIndex := 29, attributes := #[] }, { accessFlags := 9, nameIndex := 37, descriptorIndex := 38, attributes := #[] }] 49 2 #[] #[])
  fields := #[]
  methods := #[k1m0, k1m1, k1m2]
  instanceTypes := #[]
  staticTypes := #[]
  resolved := Array.replicate 41 none
  statics := none }

def pool2 : Array CpInfo := pool [(1, .methodref 2 3), (0, .class_ 4), (0, .nameAndType 5 6), (0, u "java/lang/Object"), (0, u "<init>"), (0, u "()V"), (0, .class_ 8), (0, u "com/example/kirchberg/kirchberg/model/pattern/PatternBudget"), (0, .long 100000000), (1, .fieldref 7 12), (0, .nameAndType 13 14), (0, u "left"), (0, u "J"), (0, u "STEPS_PER_REQUEST"), (3, u "take"), (0, u "(J)Z"), (1, u "isSpent"), (0, u "()Z")] 2

def k2c0 : Code := { maxStack := 3, maxLocals := 1, code := prog_79_method_1_code, exceptionTable := #[], attributes := #[] }
def k2m0 : Method := { name := "<init>", desc := "()V", sig := { parameters := [], returnType := none }, accessFlags := 1, code := some k2c0 }
def k2c1 : Code := { maxStack := 5, maxLocals := 4, code := prog_79_method_2_code, exceptionTable := #[], attributes := #[] }
def k2m1 : Method := { name := "take", desc := "(J)Z", sig := { parameters := [.long], returnType := some .boolean }, accessFlags := 0, code := some k2c1 }
def k2c2 : Code := { maxStack := 4, maxLocals := 1, code := prog_79_method_3_code, exceptionTable := #[], attributes := #[] }
def k2m2 : Method := { name := "isSpent", desc := "()Z", sig := { parameters := [], returnType := some .boolean }, accessFlags := 0, code := some k2c2 }
/-- com/example/kirchberg/kirchberg/model/pattern/PatternBudget -/
def k2 : Class := { plain "com/example/kirchberg/kirchberg/model/pattern/PatternBudget" (some 0) with
  accessFlags := 33
  interfaces := #[]
  cf := some (fileOf pool2 7 #[] #[{ accessFlags := 1, nameIndex := 5, descriptorIndex := 6, attributes := #[] }, { accessFlags := 0, nameIndex := 19, descriptorIndex := 20, attributes := #[] }, { accessFlags := 0, nameIndex := 22, descriptorIndex := 23, attributes := #[] }] 33 2 #[] #[{ accessFlags := 25, nameIndex := 15, descriptorIndex := 14, attributes := #[] }, { accessFlags := 2, nameIndex := 13, descriptorIndex := 14, attributes := #[] }])
  fields := #[{ name := "STEPS_PER_REQUEST", type := .long, accessFlags := 25, slot := 0, constantValue := 0 }, { name := "left", type := .long, accessFlags := 2, slot := 0, constantValue := 0 }]
  methods := #[k2m0, k2m1, k2m2]
  instanceTypes := #[.long]
  staticTypes := #[.long]
  resolved := Array.replicate 26 none
  statics := none }

def pool3 : Array CpInfo := pool [(1, u "java/lang/Cloneable"), (0, .class_ 1), (0, u "java/lang/Object"), (0, .class_ 3)] 3

/-- java/lang/Cloneable -/
def k3 : Class := { plain "java/lang/Cloneable" (some 0) with
  accessFlags := 1537
  interfaces := #[]
  cf := some (fileOf pool3 2 #[] #[] 1537 4 #[] #[])
  fields := #[]
  methods := #[]
  instanceTypes := #[]
  staticTypes := #[]
  resolved := Array.replicate 8 none
  statics := none }

def pool4 : Array CpInfo := pool [(1, u "java/io/Serializable"), (0, .class_ 1), (0, u "java/lang/Object"), (0, .class_ 3)] 3

/-- java/io/Serializable -/
def k4 : Class := { plain "java/io/Serializable" (some 0) with
  accessFlags := 1537
  interfaces := #[]
  cf := some (fileOf pool4 2 #[] #[] 1537 4 #[] #[])
  fields := #[]
  methods := #[]
  instanceTypes := #[]
  staticTypes := #[]
  resolved := Array.replicate 8 none
  statics := none }

/-- the primitive byte -/
def k5 : Class := { plain "byte" none with kind := .primitive 'B', accessFlags := 0x411 }
/-- [B -/
def k6 : Class := { plain "[B" (some 0) with kind := .array 5 .byte, interfaces := #[3, 4], accessFlags := 1041 }

/-- the primitive int -/
def k7 : Class := { plain "int" none with kind := .primitive 'I', accessFlags := 0x411 }
/-- [I -/
def k8 : Class := { plain "[I" (some 0) with kind := .array 7 .int, interfaces := #[3, 4], accessFlags := 1041 }

def heap : Heap := #[]
def classes : Array Class := #[k0, k1, k2, k3, k4, k5, k6, k7, k8]
def interned : List (Array UInt16 × Addr) := []
def slotsUsed : Nat := 0
def theMethod : MethodId := ⟨1, 2⟩
def args0 : Array Value := #[.long 7, .long 8, .int 7]
def aboutOver (below : List Frame) : State where
  vm := { classes := classes, interned := interned.toArray }
  heap := heap
  slotsUsed := slotsUsed
  threads := #[{ frames := .invoking theMethod args0 :: below }]
def below0 : List Frame := [.native { method := ⟨0, 0⟩, args := #[] }]
def about1 : State := aboutOver below0
def p0 : Program := .bare "" "" ""
def e0 : Env := launch0.env 0 0 0
theorem w_frames : about1.frames = Frame.invoking theMethod args0 :: below0 := rfl
set_option maxRecDepth 65536 in
theorem w_args : argsFit about1.vm theMethod args0 = true := by decide +kernel
set_option maxRecDepth 65536 in
theorem w_heap : heapFits about1 = true := by decide +kernel
set_option maxRecDepth 65536 in
theorem w_runnable : about1.curStatus? = some .runnable := by decide +kernel
set_option maxRecDepth 65536 in
theorem w_alone : about1.alone = true := by decide +kernel
set_option maxRecDepth 65536 in
theorem w_named : about1.methodNamed? x = some theMethod := by decide +kernel
set_option maxRecDepth 65536 in
theorem w_hears : about1.hears theMethod below0 = true := by decide +kernel
set_option maxRecDepth 65536 in
theorem w_ripe : about1.ripe theMethod args0 below0 = true := by decide +kernel
theorem w_running : about1.status = .running := rfl
set_option maxRecDepth 65536 in
theorem w_room : about1.hasRoom e0.platform room_1 = true :=
  launch0.hasRoom_least _ room_1 (by decide +kernel) (by decide +kernel) (by decide +kernel) (by decide +kernel) (by decide +kernel) (by decide +kernel)
theorem allAtoms_all (ts : List Jvm.Cond) (a : Array Jvm.Value) (st : Jvm.State) : (allAtoms ts).before a st = ts.all (fun c => c.before a st) := by
  induction ts with
  | nil => rfl
  | cons c t ih =>
    show (Jvm.Cond.and c (allAtoms t)).before a st = _
    rw [Jvm.Cond.before_and, ih, List.all_cons]
def words1 : List Jvm.Cond := Jvm.Cond.code x code maxLocals ret :: tables_1
/-- a 'code' word, met by the world's own term for the bytes: nothing is compared byte by byte -/
theorem code_word {y : MethodName} {bytes : ByteArray} {mx : Nat} {rt : Option FieldType} {a : Array Value} {s : State} {m : MethodId} {meth : Method} {c : Code} (h1 : s.methodNamed? y = some m) (h2 : s.vm.method? m = some meth) (h3 : meth.code = some c) (h4 : c.code = bytes)
    (h5 : (c.maxLocals == mx && c.exceptionTable.isEmpty && decide (c.maxStack ≤ mostOperands) && decide (meth.sig.returnType = rt) && !meth.locks && decide (parseMethodDescriptor y.desc = some meth.sig)) = true) : (Jvm.Cond.code y bytes mx rt).before a s = true := by
  simp only [Bool.and_eq_true, beq_iff_eq, Bool.not_eq_true', decide_eq_true_eq] at h5
  obtain ⟨⟨⟨⟨⟨g1, g2⟩, g3⟩, g4⟩, g5⟩, g6⟩ := h5
  simp [Cond.before, Cond.holds, Cond.value, h1, h2, h3, h4, g1, g2, g3, g4, g5, g6]
def isCode : Jvm.Cond → Bool
  | .code _ _ _ _ => true
  | _ => false
theorem all_split {L : List Jvm.Cond} {P : Jvm.Cond → Bool} (h1 : L.all (fun c => isCode c || P c) = true) (h2 : ∀ c ∈ L.filter isCode, P c = true) : L.all P = true := by
  refine List.all_eq_true.mpr fun c hc => ?_
  have h := List.all_eq_true.mp h1 c hc
  rcases Bool.eq_false_or_eq_true (isCode c) with hi | hi
  · exact h2 c (List.mem_filter.mpr ⟨hc, hi⟩)
  · simpa [hi] using h
set_option maxRecDepth 65536 in
theorem w_c0 : (Jvm.Cond.code x code maxLocals ret).before args0 about1 = true := code_word (m := ⟨1, 2⟩) (meth := k1m2) (c := k1c2) (by decide +kernel) rfl rfl rfl (by decide +kernel)
set_option maxRecDepth 65536 in
theorem w_c1 : (Jvm.Cond.code ({ cls := "com/example/kirchberg/kirchberg/model/pattern/PatternBudget", name := "<init>", desc := "()V" } : Jvm.MethodName) prog_79_method_1_code (1 : Nat) (Option.none : Option Jvm.ClassFile.FieldType)).before args0 about1 = true := code_word (m := ⟨2, 0⟩) (meth := k2m0) (c := k2c0) (by decide +kernel) rfl rfl rfl (by decide +kernel)
set_option maxRecDepth 65536 in
theorem w_c2 : (Jvm.Cond.code ({ cls := "java/lang/Object", name := "<init>", desc := "()V" } : Jvm.MethodName) object_method_1_code (1 : Nat) (Option.none : Option Jvm.ClassFile.FieldType)).before args0 about1 = true := code_word (m := ⟨0, 0⟩) (meth := k0m0) (c := k0c0) (by decide +kernel) rfl rfl rfl (by decide +kernel)
set_option maxRecDepth 65536 in
theorem w_c3 : (Jvm.Cond.code ({ cls := "com/example/kirchberg/kirchberg/model/pattern/PatternBudget", name := "isSpent", desc := "()Z" } : Jvm.MethodName) prog_79_method_3_code (1 : Nat) (Option.some Jvm.ClassFile.FieldType.boolean)).before args0 about1 = true := code_word (m := ⟨2, 2⟩) (meth := k2m2) (c := k2c2) (by decide +kernel) rfl rfl rfl (by decide +kernel)
set_option maxRecDepth 65536 in
theorem w_c4 : (Jvm.Cond.code ({ cls := "com/example/kirchberg/kirchberg/model/pattern/PatternBudgetTakePinLaw", name := "pick", desc := "(JIJ)J" } : Jvm.MethodName) method_2_code (10 : Nat) (Option.some Jvm.ClassFile.FieldType.long)).before args0 about1 = true := code_word (m := ⟨1, 1⟩) (meth := k1m1) (c := k1c1) (by decide +kernel) rfl rfl rfl (by decide +kernel)
set_option maxRecDepth 65536 in
theorem w_c5 : (Jvm.Cond.code ({ cls := "com/example/kirchberg/kirchberg/model/pattern/PatternBudget", name := "take", desc := "(J)Z" } : Jvm.MethodName) prog_79_method_2_code (4 : Nat) (Option.some Jvm.ClassFile.FieldType.boolean)).before args0 about1 = true := code_word (m := ⟨2, 1⟩) (meth := k2m1) (c := k2c1) (by decide +kernel) rfl rfl rfl (by decide +kernel)
def codes1 : List Jvm.Cond := [Jvm.Cond.code x code maxLocals ret, Jvm.Cond.code ({ cls := "com/example/kirchberg/kirchberg/model/pattern/PatternBudget", name := "<init>", desc := "()V" } : Jvm.MethodName) prog_79_method_1_code (1 : Nat) (Option.none : Option Jvm.ClassFile.FieldType), Jvm.Cond.code ({ cls := "java/lang/Object", name := "<init>", desc := "()V" } : Jvm.MethodName) object_method_1_code (1 : Nat) (Option.none : Option Jvm.ClassFile.FieldType), Jvm.Cond.code ({ cls := "com/example/kirchberg/kirchberg/model/pattern/PatternBudget", name := "isSpent", desc := "()Z" } : Jvm.MethodName) prog_79_method_3_code (1 : Nat) (Option.some Jvm.ClassFile.FieldType.boolean), Jvm.Cond.code ({ cls := "com/example/kirchberg/kirchberg/model/pattern/PatternBudgetTakePinLaw", name := "pick", desc := "(JIJ)J" } : Jvm.MethodName) method_2_code (10 : Nat) (Option.some Jvm.ClassFile.FieldType.long), Jvm.Cond.code ({ cls := "com/example/kirchberg/kirchberg/model/pattern/PatternBudget", name := "take", desc := "(J)Z" } : Jvm.MethodName) prog_79_method_2_code (4 : Nat) (Option.some Jvm.ClassFile.FieldType.boolean)]
set_option maxRecDepth 65536 in
theorem codes_eq : words1.filter isCode = codes1 := rfl
theorem w_codes : ∀ c ∈ words1.filter isCode, c.before args0 about1 = true := by
  rw [codes_eq]
  intro c hc
  simp only [codes1, List.mem_cons, List.not_mem_nil, or_false] at hc
  rcases hc with rfl | rfl | rfl | rfl | rfl | rfl
  · exact w_c0
  · exact w_c1
  · exact w_c2
  · exact w_c3
  · exact w_c4
  · exact w_c5
set_option maxRecDepth 65536 in
theorem w_t1 : (words1.take 24).all (fun c => isCode c || c.before args0 about1) = true := by decide +kernel
set_option maxRecDepth 65536 in
theorem w_t2 : (words1.drop 24).all (fun c => isCode c || c.before args0 about1) = true := by decide +kernel
theorem w_tables : (allAtoms (Jvm.Cond.code x code maxLocals ret :: tables_1)).before args0 about1 = true := by
  rw [allAtoms_all]
  show words1.all (fun c => c.before args0 about1) = true
  refine all_split ?_ w_codes
  rw [← List.take_append_drop 24 words1, List.all_append, w_t1, w_t2]
  rfl
set_option maxRecDepth 65536 in
theorem w_case : (Jvm.Cond.and given_1 narrow_1).before args0 about1 = true := by decide +kernel
theorem w_applies : (headSpec (Jvm.Cond.code x code maxLocals ret :: tables_1) room_1).applies x e0.platform about1 = true :=
  (Spec.applies_iff w_frames).mpr ⟨w_running, w_runnable, w_alone, w_named, w_hears, w_ripe, w_room, w_tables⟩
theorem atStart : AtStart classFile x code maxLocals ret World_1 tables_1 room_1 Calls_1 rest_1 Pre_1 launch0 p0 e0 about1 theMethod args0 below0 :=
  ⟨lists_1, trivial, launch0.admits_env _ _ _, launch0.least_env, fairChoices_fair.cas, fairChoices_fair.clock, w_frames, w_args, w_heap, w_applies, trivial, trivial, w_case⟩
end start1
theorem witness_1 : WitnessClaimed_1 := ⟨start1.p0, start1.e0, start1.about1, start1.theMethod, start1.args0, start1.below0, start1.atStart⟩
end Jvm.Pilot.@@N@@

import JvmDerived
import JvmDerived.Pilot.@@N@@Statement
import JvmDerived.Pilot.@@N@@Code
set_option linter.unusedVariables false
set_option linter.unusedSimpArgs false
namespace Jvm.RoadKit
open Sem ClassFile Op Lib Jvm.Stand Jvm.Free Jvm.LawKit
section New
variable {p : Program} {l : Launch} {e : Env} {R : Room} {s : State} {m : MethodId} {args : Array Value} {below : List Frame} {meth : Method} {c : Code} {T : State} {locs : List Loc} {cells slots : Nat}
theorem retI (X : Stand p l e R s m args below meth c T locs cells slots) (hx : p.tables.exec = Jvm.exec) {pc : Nat} {Ls : Array Slot} {z : Int32} {rest : List Value} (hret : meth.sig.returnType = some .int) (hd : decode c.code pc = .ok (.ireturn, 1)) {fs : List Frame}
    (hl : ∀ (f : JFrame) (acts : List Action), f.method = m → f.locked = none → f.entered = [] → (doReturn e (T.setTop f) acts (some (.int z))).1 = T.setFrames fs) : Steps p.tables e below (T.setTop (mkF m pc Ls (.int z :: rest))) (T.setFrames fs) := by
  have hm' : T.vm.method? m = some meth := X.method'
  have hn : narrow .int (.int z) = .int z := rfl
  show Steps p.tables e below (T.setTop { method := m, pc := pc, locals := Ls, stack := _ :: rest, locked := none }) _
  jvm_step X.here [X.here.top, hx, hd, hm', hret, hn]
  first | (intro acts; rw [hl _ acts rfl rfl rfl]) | rw [hl _ _ rfl rfl rfl]
  exact Steps.refl _
theorem own_retJ (X : Stand p l e R s m args below meth c T locs cells slots) (hx : p.tables.exec = Jvm.exec) {pc : Nat} {Ls : Array Slot} {z : Int64} {rest : List Value} (hret : meth.sig.returnType = some .long) (hd : decode c.code pc = .ok (.lreturn, 1)) {fs : List Frame}
    (hl : ∀ (f : JFrame) (acts : List Action), f.method = m → f.locked = none → f.entered = [] → (doReturn e (T.setTop f) acts (some (.long z))).1 = T.setFrames fs) : Steps p.tables e below (T.setTop (mkF m pc Ls (.long z :: rest))) (T.setFrames fs) :=
  retOut X hx (t := .long) (i := .lreturn) hret rfl (Or.inr (Or.inl ⟨rfl, rfl, z, rfl⟩)) hd hl
theorem own_retR (X : Stand p l e R s m args below meth c T locs cells slots) (hx : p.tables.exec = Jvm.exec) {pc : Nat} {Ls : Array Slot} {w : Value} {t : FieldType} {rest : List Value} (hret : meth.sig.returnType = some t) (ht : t.isReference = true) (hw : w.isRef = true) (hd : decode c.code pc = .ok (.areturn, 1)) {fs : List Frame}
    (hl : ∀ (f : JFrame) (acts : List Action), f.method = m → f.locked = none → f.entered = [] → (doReturn e (T.setTop f) acts (some w)).1 = T.setFrames fs) : Steps p.tables e below (T.setTop (mkF m pc Ls (w :: rest))) (T.setFrames fs) :=
  retOut X hx (i := .areturn) hret (by cases t <;> simp_all [FieldType.isReference, narrow]) (Or.inr (Or.inr (Or.inr (Or.inr ⟨rfl, ht, hw⟩)))) hd hl
theorem own_narZ (x : Int32) : nar .boolean x = x &&& 1 := rfl
theorem own_narC (x : Int32) : nar .char x = x.toUInt32.toUInt16.toUInt32.toInt32 := rfl
theorem own_narB (x : Int32) : nar .byte x = x.toInt8.toInt32 := rfl
/-- where the run stands, and how it ends -/
abbrev own_Go (tb : Tables) (e : Env) (below : List Frame) (P : State → Outcome → Prop) (T : State) (g : JFrame) : Prop := ∃ s₂ o, Steps tb e below (T.setTop g) s₂ ∧ s₂.status = .running ∧ Ended s₂ below o ∧ P s₂ o
theorem own_go {tb : Tables} {P : State → Outcome → Prop} {T' : State} {g g' : JFrame} (st : ∀ t, Steps tb e below (T'.setTop g') t → Steps tb e below (T.setTop g) t) (k : own_Go tb e below P T' g') : own_Go tb e below P T g := by
  obtain ⟨s₂, o, h1, h2⟩ := k
  exact ⟨s₂, o, st _ h1, h2⟩
theorem own_start {tb : Tables} {P : State → Outcome → Prop} {g g' : JFrame} (q : g = g') (k : own_Go tb e below P T g') : own_Go tb e below P T g := q ▸ k
theorem own_selPriv {z y : MethodName} (hz : z.cls = y.cls) (hs : (Cond.selects y.cls z z).before args s = true) (hp : s.PrivateAt y) (hi : (Cond.instanceMethod y).before args s = true) (hy : y.cls ≠ "java/lang/invoke/MethodHandle" ∧ y.cls ≠ "java/lang/invoke/VarHandle") : (Cond.selects y.cls y y).before args s = true := by
  obtain ⟨c, r, m, h1, -, h3, -, k, h5, h6⟩ := Cond.selects_spec hs
  exact selects_self_of_private (hz ▸ findClass_of_methodNamed h3) h5 h6 hp hi hy
end New
end Jvm.RoadKit
namespace Jvm.Pilot.@@N@@
open Jvm Jvm.ClassFile Sem Op Lib Jvm.Free Jvm.Stand Jvm.LawKit Jvm.RoadKit Bundle Jvm.Pilot.@@N@@.Jvm.D
theorem d1_0 : decode prog_79_method_1_code 0 = .ok (.aload_n 0, 1) := by decide +kernel
theorem d1_1 : decode prog_79_method_1_code 1 = .ok (.invokespecial 1, 3) := by decide +kernel
theorem d1_4 : decode prog_79_method_1_code 4 = .ok (.aload_n 0, 1) := by decide +kernel
theorem d1_5 : decode prog_79_method_1_code 5 = .ok (.ldc2_w 9, 3) := by decide +kernel
theorem d1_8 : decode prog_79_method_1_code 8 = .ok (.putfield 11, 3) := by decide +kernel
theorem d1_11 : decode prog_79_method_1_code 11 = .ok (.return_, 1) := by decide +kernel
theorem pn_0 : plainName "com/example/kirchberg/kirchberg/model/pattern/PatternBudget" = true := by first | (simp [plainName, overriddenIn]; done) | decide +kernel
theorem ef_1 (m : MethodId) (a1 : Addr) : entryFrame m #[(.ref a1)] 1 = mkF m 0 #[.val (.ref a1)] [] := by first | (simp [entryFrame, mkF, argsToLocals, Value.category]; done) | rfl
def Q1 (Z : State) (a1 : Addr) (u_left_a1 : Value) (h0 : Heap) (n0 : Nat) (v : Option Value) (h : Heap) (L : List Loc) : Prop := v = none ∧ Fr n0 L ∧ Keep h0 h [a1] ∧ Exa Z h a1 "com/example/kirchberg/kirchberg/model/pattern/PatternBudget" ∧ Fld Z h a1 "com/example/kirchberg/kirchberg/model/pattern/PatternBudget" "left" "J" (.long (100000000 : Int64))
set_option maxRecDepth 65536 in
set_option maxHeartbeats 40000000 in
theorem rm1 (l : Launch) (Z : State) (a0 : Array Value) (hw : ∀ d ∈ tables_1, d.before a0 Z = true) (ws : List Jvm.Cond) (a1 : Addr) (u_left_a1 : Value) (h0 : Heap) (n0 : Nat) (Z0 : n0 ≤ h0.size) (E_a1 : Exa Z h0 a1 "com/example/kirchberg/kirchberg/model/pattern/PatternBudget") (F_a1_left : Fld Z h0 a1 "com/example/kirchberg/kirchberg/model/pattern/PatternBudget" "left" "J" u_left_a1) (g_a1 : n0 ≤ a1) :
    MetFree l (⟨"com/example/kirchberg/kirchberg/model/pattern/PatternBudget", "<init>", "()V"⟩ : MethodName) (head1 (Jvm.Cond.code (⟨"com/example/kirchberg/kirchberg/model/pattern/PatternBudget", "<init>", "()V"⟩ : MethodName) prog_79_method_1_code 1 none :: ws) ({ frames := 1, cells := 0, slots := 0, locals := 12 } : Room)) (fun a U => a = #[(.ref a1)] ∧ Z.Warmed39 U.vm ∧ U.heap = h0) (fun _ _ _ _ _ => True) (fun _ U o U' => ∃ v L, o = .returned v ∧ Q1 Z a1 u_left_a1 h0 n0 v U'.heap L ∧ FrameEnd U o U' L ({ frames := 1, cells := 0, slots := 0, locals := 12 } : Room).cells ({ frames := 1, cells := 0, slots := 0, locals := 12 } : Room).slots) := by
  refine MetFree.of_bodySF (plainFor_of_name pn_0) hisR ?_
  intro p e s m args below meth c s₁ Bd hml0 hP hK
  obtain ⟨rfl, hZ, hh⟩ := hP
  have hx := Bd.exec
  have hby := Bd.bytes
  have hml : c.maxLocals = 1 := hml0
  have hown : s.vm.findClass "com/example/kirchberg/kirchberg/model/pattern/PatternBudget" = some m.cls := findClass_of_methodNamed Bd.named
  have hnm := (name_of_methodNamed Bd.named Bd.method).1
  have X0 : Stand p l e ({ frames := 1, cells := 0, slots := 0, locals := 12 } : Room) s m #[(.ref a1)] below meth c s₁ [] 0 0 := Stand.of_body Bd
  have e0 : s₁.heap = h0 := by rw [← hh, Bd.state]; rfl
  have NN := Fr.nil n0
  have KK : Keep h0 h0 [a1] := Keep.refl h0 [a1]
  refine own_start (ef_1 m a1) ?_
  refine own_go (T' := s₁) (g' := (mkF m 1 #[.val (.ref a1)] [(.ref a1)])) (fun t k => ?_) ?_
  · show Steps p.tables e below (s₁.setTop (mkF m 0 #[.val (.ref a1)] [])) _
    refine XS.aloadN X0.here hx rfl (hb hby d1_0) rfl rfl ?_
    exact k
  obtain ⟨T1, X1, e1, st1⟩ := initO X0 hx hZ hown (hw _ (List.mem_of_getElem? (i := 8) rfl)) (hw _ (List.mem_of_getElem? (i := 9) rfl)) (hw _ (List.mem_of_getElem? (i := 10) rfl)) e0 (g := (mkF m 1 #[.val (.ref a1)] [(.ref a1)])) rfl (by rw [hml]; rfl) rfl (hb hby d1_1) (by decide) (W := 0) (by show 2 * 0 + _ ≤ _; exact Nat.le_of_eq rfl) (by decide)
  refine own_go st1 ?_
  show own_Go p.tables e below _ T1 (mkF m 4 #[.val (.ref a1)] [])
  refine own_go (T' := T1) (g' := (mkF m 8 #[.val (.ref a1)] [(.long (100000000 : Int64)), (.ref a1)])) (fun t k => ?_) ?_
  · show Steps p.tables e below (T1.setTop (mkF m 4 #[.val (.ref a1)] [])) _
    refine XS.aloadN X1.here hx rfl (hb hby d1_4) rfl rfl ?_
    show Steps p.tables e below (T1.setTop (mkF m 5 #[.val (.ref a1)] [(.ref a1)])) _
    refine X1.ldc2Long hx hown (mvT hZ (hw _ (List.mem_of_getElem? (i := 11) rfl))) (g := (mkF m 5 #[.val (.ref a1)] [(.ref a1)])) rfl (hb hby d1_5) _ ?_
    exact k
  obtain ⟨T2, h2, X2, e2, W2, st2⟩ := putF X1 hx hZ hown (host := "") (Or.inl (hw _ (List.mem_of_getElem? (i := 12) rfl))) Via.refl e1 F_a1_left E_a1 (Or.inl (hw _ (List.mem_of_getElem? (i := 13) rfl))) (hw _ (List.mem_of_getElem? (i := 3) rfl)) (ty := .long) (by decide) rfl rfl (g := (mkF m 8 #[.val (.ref a1)] [(.long (100000000 : Int64)), (.ref a1)])) rfl rfl (hb hby d1_8)
  refine own_go st2 ?_
  have E_a1 := E_a1.wr W2
  have F_a1_left := F_a1_left.same W2
  have Z0 := Nat.le_trans Z0 (Keep.of_wr W2).1
  have KK := KK.wr W2 (Or.inl (List.mem_of_getElem? (i := 0) rfl))
  have NN := Fr.snoc X2 NN g_a1
  show own_Go p.tables e below _ T2 (mkF m 11 #[.val (.ref a1)] [])
  obtain ⟨fs, hr, hrun, hended, hW, hsame⟩ := X2.leave (v := none) (fun _ => rfl)
  refine ⟨_, _, ?_, hrun, hended, _, _, rfl, ?_, ⟨_, rfl⟩, hW, hsame.mono (by decide) (by decide)⟩
  · exact X2.returnOut hx Bd.returns (hb hby d1_11) hr
  · show Q1 Z a1 u_left_a1 h0 n0 _ T2.heap _
    rw [e2]
    exact ⟨rfl, NN, KK, E_a1, F_a1_left⟩
theorem d3_0 : decode prog_79_method_3_code 0 = .ok (.aload_n 0, 1) := by decide +kernel
theorem d3_1 : decode prog_79_method_3_code 1 = .ok (.getfield 11, 3) := by decide +kernel
theorem d3_4 : decode prog_79_method_3_code 4 = .ok (.lconst 0, 1) := by decide +kernel
theorem d3_5 : decode prog_79_method_3_code 5 = .ok (.lcmp, 1) := by decide +kernel
theorem d3_6 : decode prog_79_method_3_code 6 = .ok (.ifCond .ne 7, 3) := by decide +kernel
theorem d3_9 : decode prog_79_method_3_code 9 = .ok (.iconst 1, 1) := by decide +kernel
theorem d3_10 : decode prog_79_method_3_code 10 = .ok (.goto 4, 3) := by decide +kernel
theorem d3_13 : decode prog_79_method_3_code 13 = .ok (.iconst 0, 1) := by decide +kernel
theorem d3_14 : decode prog_79_method_3_code 14 = .ok (.ireturn, 1) := by decide +kernel
theorem ef_3 (m : MethodId) (a1 : Addr) : entryFrame m #[(.ref a1)] 1 = mkF m 0 #[.val (.ref a1)] [] := by first | (simp [entryFrame, mkF, argsToLocals, Value.category]; done) | rfl
def r_3 (w_left_a1 : Int64) : Int32 := (((if w_left_a1 = (0 : Int64) then (1 : Int32) else (0 : Int32))) &&& 1)
def Q3 (Z : State) (a1 : Addr) (w_left_a1 : Int64) (h0 : Heap) (n0 : Nat) (v : Option Value) (h : Heap) (L : List Loc) : Prop := v = some (.int (r_3 w_left_a1)) ∧ Fr n0 L ∧ h = h0
set_option maxRecDepth 65536 in
set_option maxHeartbeats 40000000 in
theorem rm3 (l : Launch) (Z : State) (a0 : Array Value) (hw : ∀ d ∈ tables_1, d.before a0 Z = true) (ws : List Jvm.Cond) (a1 : Addr) (w_left_a1 : Int64) (h0 : Heap) (n0 : Nat) (Z0 : n0 ≤ h0.size) (F_a1_left : Fld Z h0 a1 "com/example/kirchberg/kirchberg/model/pattern/PatternBudget" "left" "J" (.long w_left_a1)) :
    MetFree l (⟨"com/example/kirchberg/kirchberg/model/pattern/PatternBudget", "isSpent", "()Z"⟩ : MethodName) (head1 (Jvm.Cond.code (⟨"com/example/kirchberg/kirchberg/model/pattern/PatternBudget", "isSpent", "()Z"⟩ : MethodName) prog_79_method_3_code 1 (some .boolean) :: ws) ({ frames := 0, cells := 0, slots := 0, locals := 0 } : Room)) (fun a U => a = #[(.ref a1)] ∧ Z.Warmed39 U.vm ∧ U.heap = h0) (fun _ _ _ _ _ => True) (fun _ U o U' => ∃ v L, o = .returned v ∧ Q3 Z a1 w_left_a1 h0 n0 v U'.heap L ∧ FrameEnd U o U' L ({ frames := 0, cells := 0, slots := 0, locals := 0 } : Room).cells ({ frames := 0, cells := 0, slots := 0, locals := 0 } : Room).slots) := by
  refine MetFree.of_bodySF (plainFor_of_name pn_0) hisR ?_
  intro p e s m args below meth c s₁ Bd hml0 hP hK
  obtain ⟨rfl, hZ, hh⟩ := hP
  have hx := Bd.exec
  have hby := Bd.bytes
  have hml : c.maxLocals = 1 := hml0
  have hown : s.vm.findClass "com/example/kirchberg/kirchberg/model/pattern/PatternBudget" = some m.cls := findClass_of_methodNamed Bd.named
  have hnm := (name_of_methodNamed Bd.named Bd.method).1
  have X0 : Stand p l e ({ frames := 0, cells := 0, slots := 0, locals := 0 } : Room) s m #[(.ref a1)] below meth c s₁ [] 0 0 := Stand.of_body Bd
  have e0 : s₁.heap = h0 := by rw [← hh, Bd.state]; rfl
  have NN := Fr.nil n0
  have KK : Keep h0 h0 [] := Keep.refl h0 []
  refine own_start (ef_3 m a1) ?_
  refine own_go (T' := s₁) (g' := (mkF m 1 #[.val (.ref a1)] [(.ref a1)])) (fun t k => ?_) ?_
  · show Steps p.tables e below (s₁.setTop (mkF m 0 #[.val (.ref a1)] [])) _
    refine XS.aloadN X0.here hx rfl (hb hby d3_0) rfl rfl ?_
    exact k
  obtain ⟨T1, X1, e1, st1⟩ := getF X0 hx hZ hown (host := "") (Or.inl (hw _ (List.mem_of_getElem? (i := 12) rfl))) Via.refl e0 F_a1_left (g := (mkF m 1 #[.val (.ref a1)] [(.ref a1)])) rfl rfl (hb hby d3_1)
  refine own_go st1 ?_
  show own_Go p.tables e below _ T1 (mkF m 4 #[.val (.ref a1)] [(.long w_left_a1)])
  refine own_go (T' := T1) (g' := (mkF m 6 #[.val (.ref a1)] [(.int (lcmpW w_left_a1 (0 : Int64)))])) (fun t k => ?_) ?_
  · show Steps p.tables e below (T1.setTop (mkF m 4 #[.val (.ref a1)] [(.long w_left_a1)])) _
    refine XS.lconst X1.here hx rfl (hb hby d3_4) ?_
    show Steps p.tables e below (T1.setTop (mkF m 5 #[.val (.ref a1)] [(.long (0 : Int64)), (.long w_left_a1)])) _
    refine XS.lcmp X1.here hx rfl (hb hby d3_5) rfl ?_
    exact k
  obtain ⟨j2, hj2, st3⟩ : ∃ (j2 : Int32), j2 = (if w_left_a1 = (0 : Int64) then (1 : Int32) else (0 : Int32)) ∧ ∀ t, Steps p.tables e below (T1.setTop (mkF m 14 #[.val (.ref a1)] [(.int j2)])) t → Steps p.tables e below (T1.setTop (mkF m 6 #[.val (.ref a1)] [(.int (lcmpW w_left_a1 (0 : Int64)))])) t := by
    by_cases hc6_1 : w_left_a1 = (0 : Int64)
    · skip
      refine ⟨(1 : Int32), (by simp only [if_pos hc6_1]), fun t k => ?_⟩
      show Steps p.tables e below (T1.setTop (mkF m 6 #[.val (.ref a1)] [(.int (lcmpW w_left_a1 (0 : Int64)))])) _
      refine XS.ifNo X1.here hx rfl (hb hby d3_6) rfl ((if0 _ _).trans (teq ((lw_eq w_left_a1 (0 : Int64)).mpr hc6_1)).2) ?_
      show Steps p.tables e below (T1.setTop (mkF m 9 #[.val (.ref a1)] [])) _
      refine XS.iconst X1.here hx rfl (hb hby d3_9) ?_
      show Steps p.tables e below (T1.setTop (mkF m 10 #[.val (.ref a1)] [(.int (1 : Int32))])) _
      refine XS.goto X1.here hx rfl (pc0 := 10) (pc' := 14) rfl (hb hby d3_10) (by decide) (by decide) ?_
      exact k
    · skip
      refine ⟨(0 : Int32), (by simp only [if_neg hc6_1]), fun t k => ?_⟩
      show Steps p.tables e below (T1.setTop (mkF m 6 #[.val (.ref a1)] [(.int (lcmpW w_left_a1 (0 : Int64)))])) _
      refine XS.ifYes X1.here hx rfl (pc0 := 6) (pc' := 13) rfl (hb hby d3_6) rfl ((if0 _ _).trans (feq (fun q => hc6_1 ((lw_eq w_left_a1 (0 : Int64)).mp q))).2) (by decide) (by decide) ?_
      show Steps p.tables e below (T1.setTop (mkF m 13 #[.val (.ref a1)] [])) _
      refine XS.iconst X1.here hx rfl (hb hby d3_13) ?_
      exact k
  refine own_go st3 ?_
  show own_Go p.tables e below _ T1 (mkF m 14 #[.val (.ref a1)] [(.int j2)])
  obtain ⟨fs, hr, hrun, hended, hW, hsame⟩ := X1.leave (v := some (.int (nar .boolean j2))) (fun h => by rw [Bd.returns] at h; cases h)
  refine ⟨_, _, ?_, hrun, hended, _, _, rfl, ?_, ⟨_, rfl⟩, hW, hsame.mono (by decide) (by decide)⟩
  · exact retN X1 hx (t := .boolean) Bd.returns (by simp) (hb hby d3_14) hr
  · show Q3 Z a1 w_left_a1 h0 n0 _ T1.heap _
    rw [e1]
    exact ⟨(by subst hj2; first | (simp only [r_3, own_narZ, own_narC, own_narB]; done) | rfl), NN, rfl⟩
theorem d4_0 : decode prog_79_method_2_code 0 = .ok (.lload_n 1, 1) := by decide +kernel
theorem d4_1 : decode prog_79_method_2_code 1 = .ok (.aload_n 0, 1) := by decide +kernel
theorem d4_2 : decode prog_79_method_2_code 2 = .ok (.getfield 11, 3) := by decide +kernel
theorem d4_5 : decode prog_79_method_2_code 5 = .ok (.lcmp, 1) := by decide +kernel
theorem d4_6 : decode prog_79_method_2_code 6 = .ok (.ifCond .gt 7, 3) := by decide +kernel
theorem d4_9 : decode prog_79_method_2_code 9 = .ok (.iconst 1, 1) := by decide +kernel
theorem d4_10 : decode prog_79_method_2_code 10 = .ok (.goto 4, 3) := by decide +kernel
theorem d4_13 : decode prog_79_method_2_code 13 = .ok (.iconst 0, 1) := by decide +kernel
theorem d4_14 : decode prog_79_method_2_code 14 = .ok (.istore_n 3, 1) := by decide +kernel
theorem d4_15 : decode prog_79_method_2_code 15 = .ok (.aload_n 0, 1) := by decide +kernel
theorem d4_16 : decode prog_79_method_2_code 16 = .ok (.iload_n 3, 1) := by decide +kernel
theorem d4_17 : decode prog_79_method_2_code 17 = .ok (.ifCond .eq 12, 3) := by decide +kernel
theorem d4_20 : decode prog_79_method_2_code 20 = .ok (.aload_n 0, 1) := by decide +kernel
theorem d4_21 : decode prog_79_method_2_code 21 = .ok (.getfield 11, 3) := by decide +kernel
theorem d4_24 : decode prog_79_method_2_code 24 = .ok (.lload_n 1, 1) := by decide +kernel
theorem d4_25 : decode prog_79_method_2_code 25 = .ok (.lsub, 1) := by decide +kernel
theorem d4_26 : decode prog_79_method_2_code 26 = .ok (.goto 4, 3) := by decide +kernel
theorem d4_29 : decode prog_79_method_2_code 29 = .ok (.lconst 0, 1) := by decide +kernel
theorem d4_30 : decode prog_79_method_2_code 30 = .ok (.putfield 11, 3) := by decide +kernel
theorem d4_33 : decode prog_79_method_2_code 33 = .ok (.iload_n 3, 1) := by decide +kernel
theorem d4_34 : decode prog_79_method_2_code 34 = .ok (.ireturn, 1) := by decide +kernel
theorem ef_4 (m : MethodId) (a1 : Addr) (q2 : Int64) : entryFrame m #[(.ref a1), (.long q2)] 4 = mkF m 0 #[.val (.ref a1), .val (.long q2), .second, .unset] [] := by first | (simp [entryFrame, mkF, argsToLocals, Value.category]; done) | rfl
def r_4 (q2 : Int64) (w_left_a1 : Int64) : Int32 := (if ((if w_left_a1 < q2 then (0 : Int32) else (1 : Int32))) = (0 : Int32) then (((if w_left_a1 < q2 then (0 : Int32) else (1 : Int32))) &&& 1) else (((if w_left_a1 < q2 then (0 : Int32) else (1 : Int32))) &&& 1))
def u_4_a1_left (q2 : Int64) (w_left_a1 : Int64) : Int64 := (if ((if w_left_a1 < q2 then (0 : Int32) else (1 : Int32))) = (0 : Int32) then (0 : Int64) else (w_left_a1 - q2))
def Q4 (Z : State) (a1 : Addr) (q2 : Int64) (w_left_a1 : Int64) (h0 : Heap) (n0 : Nat) (v : Option Value) (h : Heap) (L : List Loc) : Prop := v = some (.int (r_4 q2 w_left_a1)) ∧ Fr n0 L ∧ Keep h0 h [a1] ∧ Exa Z h a1 "com/example/kirchberg/kirchberg/model/pattern/PatternBudget" ∧ Fld Z h a1 "com/example/kirchberg/kirchberg/model/pattern/PatternBudget" "left" "J" (.long (u_4_a1_left q2 w_left_a1))
set_option maxRecDepth 65536 in
set_option maxHeartbeats 40000000 in
theorem rm4 (l : Launch) (Z : State) (a0 : Array Value) (hw : ∀ d ∈ tables_1, d.before a0 Z = true) (ws : List Jvm.Cond) (a1 : Addr) (q2 : Int64) (w_left_a1 : Int64) (h0 : Heap) (n0 : Nat) (Z0 : n0 ≤ h0.size) (F_a1_left : Fld Z h0 a1 "com/example/kirchberg/kirchberg/model/pattern/PatternBudget" "left" "J" (.long w_left_a1)) (E_a1 : Exa Z h0 a1 "com/example/kirchberg/kirchberg/model/pattern/PatternBudget") (g_a1 : n0 ≤ a1) :
    MetFree l (⟨"com/example/kirchberg/kirchberg/model/pattern/PatternBudget", "take", "(J)Z"⟩ : MethodName) (head1 (Jvm.Cond.code (⟨"com/example/kirchberg/kirchberg/model/pattern/PatternBudget", "take", "(J)Z"⟩ : MethodName) prog_79_method_2_code 4 (some .boolean) :: ws) ({ frames := 0, cells := 0, slots := 0, locals := 0 } : Room)) (fun a U => a = #[(.ref a1), (.long q2)] ∧ Z.Warmed39 U.vm ∧ U.heap = h0) (fun _ _ _ _ _ => True) (fun _ U o U' => ∃ v L, o = .returned v ∧ Q4 Z a1 q2 w_left_a1 h0 n0 v U'.heap L ∧ FrameEnd U o U' L ({ frames := 0, cells := 0, slots := 0, locals := 0 } : Room).cells ({ frames := 0, cells := 0, slots := 0, locals := 0 } : Room).slots) := by
  refine MetFree.of_bodySF (plainFor_of_name pn_0) hisR ?_
  intro p e s m args below meth c s₁ Bd hml0 hP hK
  obtain ⟨rfl, hZ, hh⟩ := hP
  have hx := Bd.exec
  have hby := Bd.bytes
  have hml : c.maxLocals = 4 := hml0
  have hown : s.vm.findClass "com/example/kirchberg/kirchberg/model/pattern/PatternBudget" = some m.cls := findClass_of_methodNamed Bd.named
  have hnm := (name_of_methodNamed Bd.named Bd.method).1
  have X0 : Stand p l e ({ frames := 0, cells := 0, slots := 0, locals := 0 } : Room) s m #[(.ref a1), (.long q2)] below meth c s₁ [] 0 0 := Stand.of_body Bd
  have e0 : s₁.heap = h0 := by rw [← hh, Bd.state]; rfl
  have NN := Fr.nil n0
  have KK : Keep h0 h0 [a1] := Keep.refl h0 [a1]
  refine own_start (ef_4 m a1 q2) ?_
  refine own_go (T' := s₁) (g' := (mkF m 2 #[.val (.ref a1), .val (.long q2), .second, .unset] [(.ref a1), (.long q2)])) (fun t k => ?_) ?_
  · show Steps p.tables e below (s₁.setTop (mkF m 0 #[.val (.ref a1), .val (.long q2), .second, .unset] [])) _
    refine XS.lloadN X0.here hx rfl (hb hby d4_0) rfl ?_
    show Steps p.tables e below (s₁.setTop (mkF m 1 #[.val (.ref a1), .val (.long q2), .second, .unset] [(.long q2)])) _
    refine XS.aloadN X0.here hx rfl (hb hby d4_1) rfl rfl ?_
    exact k
  obtain ⟨T1, X1, e1, st1⟩ := getF X0 hx hZ hown (host := "") (Or.inl (hw _ (List.mem_of_getElem? (i := 12) rfl))) Via.refl e0 F_a1_left (g := (mkF m 2 #[.val (.ref a1), .val (.long q2), .second, .unset] [(.ref a1), (.long q2)])) rfl rfl (hb hby d4_2)
  refine own_go st1 ?_
  show own_Go p.tables e below _ T1 (mkF m 5 #[.val (.ref a1), .val (.long q2), .second, .unset] [(.long w_left_a1), (.long q2)])
  refine own_go (T' := T1) (g' := (mkF m 6 #[.val (.ref a1), .val (.long q2), .second, .unset] [(.int (lcmpW q2 w_left_a1))])) (fun t k => ?_) ?_
  · show Steps p.tables e below (T1.setTop (mkF m 5 #[.val (.ref a1), .val (.long q2), .second, .unset] [(.long w_left_a1), (.long q2)])) _
    refine XS.lcmp X1.here hx rfl (hb hby d4_5) rfl ?_
    exact k
  obtain ⟨j2, hj2, st3⟩ : ∃ (j2 : Int32), j2 = (if w_left_a1 < q2 then (0 : Int32) else (1 : Int32)) ∧ ∀ t, Steps p.tables e below (T1.setTop (mkF m 14 #[.val (.ref a1), .val (.long q2), .second, .unset] [(.int j2)])) t → Steps p.tables e below (T1.setTop (mkF m 6 #[.val (.ref a1), .val (.long q2), .second, .unset] [(.int (lcmpW q2 w_left_a1))])) t := by
    by_cases hc6_1 : w_left_a1 < q2
    · skip
      refine ⟨(0 : Int32), (by simp only [if_pos hc6_1]), fun t k => ?_⟩
      show Steps p.tables e below (T1.setTop (mkF m 6 #[.val (.ref a1), .val (.long q2), .second, .unset] [(.int (lcmpW q2 w_left_a1))])) _
      refine XS.ifYes X1.here hx rfl (pc0 := 6) (pc' := 13) rfl (hb hby d4_6) rfl ((if0 _ _).trans (tlt ((lw_gt q2 w_left_a1).mpr hc6_1)).2.2.1) (by decide) (by decide) ?_
      show Steps p.tables e below (T1.setTop (mkF m 13 #[.val (.ref a1), .val (.long q2), .second, .unset] [])) _
      refine XS.iconst X1.here hx rfl (hb hby d4_13) ?_
      exact k
    · skip
      refine ⟨(1 : Int32), (by simp only [if_neg hc6_1]), fun t k => ?_⟩
      show Steps p.tables e below (T1.setTop (mkF m 6 #[.val (.ref a1), .val (.long q2), .second, .unset] [(.int (lcmpW q2 w_left_a1))])) _
      refine XS.ifNo X1.here hx rfl (hb hby d4_6) rfl ((if0 _ _).trans (flt (fun q => hc6_1 ((lw_gt q2 w_left_a1).mp q))).2.2.1) ?_
      show Steps p.tables e below (T1.setTop (mkF m 9 #[.val (.ref a1), .val (.long q2), .second, .unset] [])) _
      refine XS.iconst X1.here hx rfl (hb hby d4_9) ?_
      show Steps p.tables e below (T1.setTop (mkF m 10 #[.val (.ref a1), .val (.long q2), .second, .unset] [(.int (1 : Int32))])) _
      refine XS.goto X1.here hx rfl (pc0 := 10) (pc' := 14) rfl (hb hby d4_10) (by decide) (by decide) ?_
      exact k
  refine own_go st3 ?_
  show own_Go p.tables e below _ T1 (mkF m 14 #[.val (.ref a1), .val (.long q2), .second, .unset] [(.int j2)])
  refine own_go (T' := T1) (g' := (mkF m 17 #[.val (.ref a1), .val (.long q2), .second, .val (.int j2)] [(.int j2), (.ref a1)])) (fun t k => ?_) ?_
  · show Steps p.tables e below (T1.setTop (mkF m 14 #[.val (.ref a1), .val (.long q2), .second, .unset] [(.int j2)])) _
    refine XS.istoreN X1.here hx rfl (hb hby d4_14) rfl (l' := #[.val (.ref a1), .val (.long q2), .second, .val (.int j2)]) rfl ?_
    show Steps p.tables e below (T1.setTop (mkF m 15 #[.val (.ref a1), .val (.long q2), .second, .val (.int j2)] [])) _
    refine XS.aloadN X1.here hx rfl (hb hby d4_15) rfl rfl ?_
    show Steps p.tables e below (T1.setTop (mkF m 16 #[.val (.ref a1), .val (.long q2), .second, .val (.int j2)] [(.ref a1)])) _
    refine XS.iloadN X1.here hx rfl (hb hby d4_16) rfl ?_
    exact k
  by_cases hc17_2 : j2 = (0 : Int32)
  · skip
    refine own_go (T' := T1) (g' := (mkF m 30 #[.val (.ref a1), .val (.long q2), .second, .val (.int j2)] [(.long (0 : Int64)), (.ref a1)])) (fun t k => ?_) ?_
    · show Steps p.tables e below (T1.setTop (mkF m 17 #[.val (.ref a1), .val (.long q2), .second, .val (.int j2)] [(.int j2), (.ref a1)])) _
      refine XS.ifYes X1.here hx rfl (pc0 := 17) (pc' := 29) rfl (hb hby d4_17) rfl ((if0 _ _).trans (teq hc17_2).1) (by decide) (by decide) ?_
      show Steps p.tables e below (T1.setTop (mkF m 29 #[.val (.ref a1), .val (.long q2), .second, .val (.int j2)] [(.ref a1)])) _
      refine XS.lconst X1.here hx rfl (hb hby d4_29) ?_
      exact k
    obtain ⟨T4, h4, X4, e4, W4, st4⟩ := putF X1 hx hZ hown (host := "") (Or.inl (hw _ (List.mem_of_getElem? (i := 12) rfl))) Via.refl e1 F_a1_left E_a1 (Or.inl (hw _ (List.mem_of_getElem? (i := 13) rfl))) (hw _ (List.mem_of_getElem? (i := 3) rfl)) (ty := .long) (by decide) rfl rfl (g := (mkF m 30 #[.val (.ref a1), .val (.long q2), .second, .val (.int j2)] [(.long (0 : Int64)), (.ref a1)])) rfl rfl (hb hby d4_30)
    refine own_go st4 ?_
    have F_a1_left := F_a1_left.same W4
    have E_a1 := E_a1.wr W4
    have Z0 := Nat.le_trans Z0 (Keep.of_wr W4).1
    have KK := KK.wr W4 (Or.inl (List.mem_of_getElem? (i := 0) rfl))
    have NN := Fr.snoc X4 NN g_a1
    show own_Go p.tables e below _ T4 (mkF m 33 #[.val (.ref a1), .val (.long q2), .second, .val (.int j2)] [])
    refine own_go (T' := T4) (g' := (mkF m 34 #[.val (.ref a1), .val (.long q2), .second, .val (.int j2)] [(.int j2)])) (fun t k => ?_) ?_
    · show Steps p.tables e below (T4.setTop (mkF m 33 #[.val (.ref a1), .val (.long q2), .second, .val (.int j2)] [])) _
      refine XS.iloadN X4.here hx rfl (hb hby d4_33) rfl ?_
      exact k
    obtain ⟨fs, hr, hrun, hended, hW, hsame⟩ := X4.leave (v := some (.int (nar .boolean j2))) (fun h => by rw [Bd.returns] at h; cases h)
    refine ⟨_, _, ?_, hrun, hended, _, _, rfl, ?_, ⟨_, rfl⟩, hW, hsame.mono (by decide) (by decide)⟩
    · exact retN X4 hx (t := .boolean) Bd.returns (by simp) (hb hby d4_34) hr
    · show Q4 Z a1 q2 w_left_a1 h0 n0 _ T4.heap _
      rw [e4]
      exact ⟨(by subst hj2; simp only [r_4, if_pos hc17_2, own_narZ, own_narC, own_narB]), NN, KK, E_a1, (by rw [← ((by subst hj2; simp only [u_4_a1_left, if_pos hc17_2]) : (0 : Int64) = u_4_a1_left q2 w_left_a1)]; exact F_a1_left)⟩
  · skip
    refine own_go (T' := T1) (g' := (mkF m 21 #[.val (.ref a1), .val (.long q2), .second, .val (.int j2)] [(.ref a1), (.ref a1)])) (fun t k => ?_) ?_
    · show Steps p.tables e below (T1.setTop (mkF m 17 #[.val (.ref a1), .val (.long q2), .second, .val (.int j2)] [(.int j2), (.ref a1)])) _
      refine XS.ifNo X1.here hx rfl (hb hby d4_17) rfl ((if0 _ _).trans (feq hc17_2).1) ?_
      show Steps p.tables e below (T1.setTop (mkF m 20 #[.val (.ref a1), .val (.long q2), .second, .val (.int j2)] [(.ref a1)])) _
      refine XS.aloadN X1.here hx rfl (hb hby d4_20) rfl rfl ?_
      exact k
    obtain ⟨T5, X5, e5, st5⟩ := getF X1 hx hZ hown (host := "") (Or.inl (hw _ (List.mem_of_getElem? (i := 12) rfl))) Via.refl e1 F_a1_left (g := (mkF m 21 #[.val (.ref a1), .val (.long q2), .second, .val (.int j2)] [(.ref a1), (.ref a1)])) rfl rfl (hb hby d4_21)
    refine own_go st5 ?_
    show own_Go p.tables e below _ T5 (mkF m 24 #[.val (.ref a1), .val (.long q2), .second, .val (.int j2)] [(.long w_left_a1), (.ref a1)])
    refine own_go (T' := T5) (g' := (mkF m 30 #[.val (.ref a1), .val (.long q2), .second, .val (.int j2)] [(.long (w_left_a1 - q2)), (.ref a1)])) (fun t k => ?_) ?_
    · show Steps p.tables e below (T5.setTop (mkF m 24 #[.val (.ref a1), .val (.long q2), .second, .val (.int j2)] [(.long w_left_a1), (.ref a1)])) _
      refine XS.lloadN X5.here hx rfl (hb hby d4_24) rfl ?_
      show Steps p.tables e below (T5.setTop (mkF m 25 #[.val (.ref a1), .val (.long q2), .second, .val (.int j2)] [(.long q2), (.long w_left_a1), (.ref a1)])) _
      refine XS.lsub X5.here hx rfl (hb hby d4_25) rfl ?_
      show Steps p.tables e below (T5.setTop (mkF m 26 #[.val (.ref a1), .val (.long q2), .second, .val (.int j2)] [(.long (w_left_a1 - q2)), (.ref a1)])) _
      refine XS.goto X5.here hx rfl (pc0 := 26) (pc' := 30) rfl (hb hby d4_26) (by decide) (by decide) ?_
      exact k
    obtain ⟨T6, h6, X6, e6, W6, st6⟩ := putF X5 hx hZ hown (host := "") (Or.inl (hw _ (List.mem_of_getElem? (i := 12) rfl))) Via.refl e5 F_a1_left E_a1 (Or.inl (hw _ (List.mem_of_getElem? (i := 13) rfl))) (hw _ (List.mem_of_getElem? (i := 3) rfl)) (ty := .long) (by decide) rfl rfl (g := (mkF m 30 #[.val (.ref a1), .val (.long q2), .second, .val (.int j2)] [(.long (w_left_a1 - q2)), (.ref a1)])) rfl rfl (hb hby d4_30)
    refine own_go st6 ?_
    have F_a1_left := F_a1_left.same W6
    have E_a1 := E_a1.wr W6
    have Z0 := Nat.le_trans Z0 (Keep.of_wr W6).1
    have KK := KK.wr W6 (Or.inl (List.mem_of_getElem? (i := 0) rfl))
    have NN := Fr.snoc X6 NN g_a1
    show own_Go p.tables e below _ T6 (mkF m 33 #[.val (.ref a1), .val (.long q2), .second, .val (.int j2)] [])
    refine own_go (T' := T6) (g' := (mkF m 34 #[.val (.ref a1), .val (.long q2), .second, .val (.int j2)] [(.int j2)])) (fun t k => ?_) ?_
    · show Steps p.tables e below (T6.setTop (mkF m 33 #[.val (.ref a1), .val (.long q2), .second, .val (.int j2)] [])) _
      refine XS.iloadN X6.here hx rfl (hb hby d4_33) rfl ?_
      exact k
    obtain ⟨fs, hr, hrun, hended, hW, hsame⟩ := X6.leave (v := some (.int (nar .boolean j2))) (fun h => by rw [Bd.returns] at h; cases h)
    refine ⟨_, _, ?_, hrun, hended, _, _, rfl, ?_, ⟨_, rfl⟩, hW, hsame.mono (by decide) (by decide)⟩
    · exact retN X6 hx (t := .boolean) Bd.returns (by simp) (hb hby d4_34) hr
    · show Q4 Z a1 q2 w_left_a1 h0 n0 _ T6.heap _
      rw [e6]
      exact ⟨(by subst hj2; simp only [r_4, if_neg hc17_2, own_narZ, own_narC, own_narB]), NN, KK, E_a1, (by rw [← ((by subst hj2; simp only [u_4_a1_left, if_neg hc17_2]) : (w_left_a1 - q2) = u_4_a1_left q2 w_left_a1)]; exact F_a1_left)⟩
theorem d5_0 : decode jdk_29_method_66_code 0 = .ok (.lload_n 0, 1) := by decide +kernel
theorem d5_1 : decode jdk_29_method_66_code 1 = .ok (.lload_n 2, 1) := by decide +kernel
theorem d5_2 : decode jdk_29_method_66_code 2 = .ok (.lcmp, 1) := by decide +kernel
theorem d5_3 : decode jdk_29_method_66_code 3 = .ok (.ifCond .lt 7, 3) := by decide +kernel
theorem d5_6 : decode jdk_29_method_66_code 6 = .ok (.lload_n 0, 1) := by decide +kernel
theorem d5_7 : decode jdk_29_method_66_code 7 = .ok (.goto 4, 3) := by decide +kernel
theorem d5_10 : decode jdk_29_method_66_code 10 = .ok (.lload_n 2, 1) := by decide +kernel
theorem d5_11 : decode jdk_29_method_66_code 11 = .ok (.lreturn, 1) := by decide +kernel
theorem ef_5 (m : MethodId) (q1 : Int64) (q2 : Int64) : entryFrame m #[(.long q1), (.long q2)] 4 = mkF m 0 #[.val (.long q1), .second, .val (.long q2), .second] [] := by first | (simp [entryFrame, mkF, argsToLocals, Value.category]; done) | rfl
def r_5 (q1 : Int64) (q2 : Int64) : Int64 := ((if q1 < q2 then q2 else q1))
def Q5 (Z : State) (q1 : Int64) (q2 : Int64) (h0 : Heap) (n0 : Nat) (v : Option Value) (h : Heap) (L : List Loc) : Prop := v = some (.long (r_5 q1 q2)) ∧ Fr n0 L ∧ h = h0
set_option maxRecDepth 65536 in
set_option maxHeartbeats 40000000 in
theorem rm5 (l : Launch) (Z : State) (a0 : Array Value) (hw : ∀ d ∈ tables_1, d.before a0 Z = true) (ws : List Jvm.Cond) (q1 : Int64) (q2 : Int64) (h0 : Heap) (n0 : Nat) (Z0 : n0 ≤ h0.size) :
    MetFree l (⟨"java/lang/Math", "max", "(JJ)J"⟩ : MethodName) (head1 (Jvm.Cond.code (⟨"java/lang/Math", "max", "(JJ)J"⟩ : MethodName) jdk_29_method_66_code 4 (some .long) :: ws) ({ frames := 0, cells := 0, slots := 0, locals := 0 } : Room)) (fun a U => a = #[(.long q1), (.long q2)] ∧ Z.Warmed39 U.vm ∧ U.heap = h0) (fun _ _ _ _ _ => True) (fun _ U o U' => ∃ v L, o = .returned v ∧ Q5 Z q1 q2 h0 n0 v U'.heap L ∧ FrameEnd U o U' L ({ frames := 0, cells := 0, slots := 0, locals := 0 } : Room).cells ({ frames := 0, cells := 0, slots := 0, locals := 0 } : Room).slots) := by
  refine MetFree.of_bodySF (Jvm.Free.JP.mathPlain rfl (by decide +kernel)) hisR ?_
  intro p e s m args below meth c s₁ Bd hml0 hP hK
  obtain ⟨rfl, hZ, hh⟩ := hP
  have hx := Bd.exec
  have hby := Bd.bytes
  have hml : c.maxLocals = 4 := hml0
  have hown : s.vm.findClass "java/lang/Math" = some m.cls := findClass_of_methodNamed Bd.named
  have hnm := (name_of_methodNamed Bd.named Bd.method).1
  have X0 : Stand p l e ({ frames := 0, cells := 0, slots := 0, locals := 0 } : Room) s m #[(.long q1), (.long q2)] below meth c s₁ [] 0 0 := Stand.of_body Bd
  have e0 : s₁.heap = h0 := by rw [← hh, Bd.state]; rfl
  have NN := Fr.nil n0
  have KK : Keep h0 h0 [] := Keep.refl h0 []
  refine own_start (ef_5 m q1 q2) ?_
  refine own_go (T' := s₁) (g' := (mkF m 3 #[.val (.long q1), .second, .val (.long q2), .second] [(.int (lcmpW q1 q2))])) (fun t k => ?_) ?_
  · show Steps p.tables e below (s₁.setTop (mkF m 0 #[.val (.long q1), .second, .val (.long q2), .second] [])) _
    refine XS.lloadN X0.here hx rfl (hb hby d5_0) rfl ?_
    show Steps p.tables e below (s₁.setTop (mkF m 1 #[.val (.long q1), .second, .val (.long q2), .second] [(.long q1)])) _
    refine XS.lloadN X0.here hx rfl (hb hby d5_1) rfl ?_
    show Steps p.tables e below (s₁.setTop (mkF m 2 #[.val (.long q1), .second, .val (.long q2), .second] [(.long q2), (.long q1)])) _
    refine XS.lcmp X0.here hx rfl (hb hby d5_2) rfl ?_
    exact k
  obtain ⟨j1, hj1, st2⟩ : ∃ (j1 : Int64), j1 = (if q1 < q2 then q2 else q1) ∧ ∀ t, Steps p.tables e below (s₁.setTop (mkF m 11 #[.val (.long q1), .second, .val (.long q2), .second] [(.long j1)])) t → Steps p.tables e below (s₁.setTop (mkF m 3 #[.val (.long q1), .second, .val (.long q2), .second] [(.int (lcmpW q1 q2))])) t := by
    by_cases hc3_1 : q1 < q2
    · skip
      refine ⟨q2, (by simp only [if_pos hc3_1]), fun t k => ?_⟩
      show Steps p.tables e below (s₁.setTop (mkF m 3 #[.val (.long q1), .second, .val (.long q2), .second] [(.int (lcmpW q1 q2))])) _
      refine XS.ifYes X0.here hx rfl (pc0 := 3) (pc' := 10) rfl (hb hby d5_3) rfl ((if0 _ _).trans (tlt ((lw_lt q1 q2).mpr hc3_1)).1) (by decide) (by decide) ?_
      show Steps p.tables e below (s₁.setTop (mkF m 10 #[.val (.long q1), .second, .val (.long q2), .second] [])) _
      refine XS.lloadN X0.here hx rfl (hb hby d5_10) rfl ?_
      exact k
    · skip
      refine ⟨q1, (by simp only [if_neg hc3_1]), fun t k => ?_⟩
      show Steps p.tables e below (s₁.setTop (mkF m 3 #[.val (.long q1), .second, .val (.long q2), .second] [(.int (lcmpW q1 q2))])) _
      refine XS.ifNo X0.here hx rfl (hb hby d5_3) rfl ((if0 _ _).trans (flt (fun q => hc3_1 ((lw_lt q1 q2).mp q))).1) ?_
      show Steps p.tables e below (s₁.setTop (mkF m 6 #[.val (.long q1), .second, .val (.long q2), .second] [])) _
      refine XS.lloadN X0.here hx rfl (hb hby d5_6) rfl ?_
      show Steps p.tables e below (s₁.setTop (mkF m 7 #[.val (.long q1), .second, .val (.long q2), .second] [(.long q1)])) _
      refine XS.goto X0.here hx rfl (pc0 := 7) (pc' := 11) rfl (hb hby d5_7) (by decide) (by decide) ?_
      exact k
  refine own_go st2 ?_
  show own_Go p.tables e below _ s₁ (mkF m 11 #[.val (.long q1), .second, .val (.long q2), .second] [(.long j1)])
  obtain ⟨fs, hr, hrun, hended, hW, hsame⟩ := X0.leave (v := some (.long j1)) (fun h => by rw [Bd.returns] at h; cases h)
  refine ⟨_, _, ?_, hrun, hended, _, _, rfl, ?_, ⟨_, rfl⟩, hW, hsame.mono (by decide) (by decide)⟩
  · exact own_retJ X0 hx Bd.returns (hb hby d5_11) hr
  · show Q5 Z q1 q2 h0 n0 _ s₁.heap _
    rw [e0]
    exact ⟨(by subst hj1; first | (simp only [r_5]; done) | rfl), NN, rfl⟩
theorem own_pl_sp (x : Int64) : r_3 x = if x = 0 then 1 else 0 := by
  simp only [r_3]
  by_cases h : x = 0
  · simp only [if_pos h]; rfl
  · simp only [if_neg h]; rfl
theorem own_pl_lf (s l : Int64) : u_4_a1_left s l = if l < s then (0 : Int64) else (l - s) := by
  simp only [u_4_a1_left]
  by_cases h : l < s
  · simp only [if_pos h]; rfl
  · simp only [if_neg h]; rfl
theorem own_pl_zero (s l : Int64) : u_4_a1_left s l = 0 ↔ ¬ s < l := by
  rw [own_pl_lf]
  have e := c_lsub l s
  have r1 := rng64 l
  have r2 := rng64 s
  have r3 := rng64 (l - s)
  have k0 : (0 : Int64).toInt = 0 := rfl
  by_cases h : l < s
  · rw [if_pos h]
    rw [Int64.lt_iff_toInt_lt] at h
    rw [Int64.lt_iff_toInt_lt]
    constructor
    · intro _; omega
    · intro _; rfl
  · rw [if_neg h]
    rw [Int64.lt_iff_toInt_lt] at h
    rw [Int64.lt_iff_toInt_lt, ← Int64.toInt_inj, k0]
    omega
theorem own_pl_core (s1 s2 rest : Int64) (h2 : 0 ≤ s2.toInt) (hr : rest = (100000000 : Int64) - s1) (a b c w1 w2 : Int32) (ha : a = r_3 (100000000 : Int64)) (hb : b = r_3 (u_4_a1_left s1 (100000000 : Int64))) (hc : c = r_3 (u_4_a1_left s2 (u_4_a1_left s1 (100000000 : Int64)))) (hw1 : w1 = (if s1 < (100000000 : Int64) then (0 : Int32) else (1 : Int32))) (hw2 : w2 = (if w1 = (0 : Int32) then (if s2 < rest then (0 : Int32) else (1 : Int32)) else (1 : Int32))) : a = 0 ∧ b = w1 ∧ c = w2 := by
  refine ⟨by rw [ha]; decide, ?_, ?_⟩
  · rw [hb, hw1, own_pl_sp]
    by_cases h : s1 < (100000000 : Int64)
    · rw [if_pos h, if_neg (fun q => (own_pl_zero _ _).mp q h)]
    · rw [if_neg h, if_pos ((own_pl_zero _ _).mpr h)]
  · rw [hc, hw2, own_pl_sp]
    by_cases h : s1 < (100000000 : Int64)
    · rw [if_pos h] at hw1
      rw [if_pos hw1]
      have n : ¬ (100000000 : Int64) < s1 := by rw [Int64.lt_iff_toInt_lt] at *; omega
      rw [own_pl_lf s1, if_neg n, ← hr]
      by_cases g : s2 < rest
      · rw [if_pos g, if_neg (fun q => (own_pl_zero _ _).mp q g)]
      · rw [if_neg g, if_pos ((own_pl_zero _ _).mpr g)]
    · rw [if_neg h] at hw1
      have w : ¬ w1 = (0 : Int32) := by rw [hw1]; decide
      rw [if_neg w, (own_pl_zero s1 _).mpr h]
      rw [if_pos]
      rw [own_pl_zero, Int64.lt_iff_toInt_lt]
      have k0 : (0 : Int64).toInt = 0 := rfl
      omega
theorem own_pl_max (x : Int64) : 0 ≤ (x &&& (9223372036854775807 : Int64)).toInt := by
  rw [c_maskL x _ 63 (by decide) (by decide)]
  omega
theorem pn_1 : plainName "com/example/kirchberg/kirchberg/model/pattern/PatternBudgetIsSpentPinLaw" = true := by first | (simp [plainName, overriddenIn]; done) | decide +kernel
theorem pd_0 : parseMethodDescriptor "()V" = some ⟨[], none⟩ := by decide +kernel
theorem pd_1 : parseMethodDescriptor "()Z" = some ⟨[], some .boolean⟩ := by decide +kernel
theorem pd_2 : parseMethodDescriptor "(J)Z" = some ⟨[.long], some .boolean⟩ := by decide +kernel
theorem pd_3 : parseMethodDescriptor "(JJ)J" = some ⟨[.long, .long], some .long⟩ := by decide +kernel
theorem ef_0 (m : MethodId) (q1 : Int64) (q2 : Int64) (p3 : Int32) : entryFrame m #[(.long q1), (.long q2), (.int p3)] maxLocals = mkF m 0 #[.val (.long q1), .second, .val (.long q2), .second, .val (.int p3), .unset, .unset, .unset, .unset, .unset, .unset, .unset, .unset, .unset, .unset, .unset, .unset, .unset, .unset] [] := by first | (simp [entryFrame, mkF, argsToLocals, Value.category, maxLocals]; done) | rfl
def Q0 (Z : State) (q1 : Int64) (q2 : Int64) (p3 : Int32) (h0 : Heap) (n0 : Nat) (v : Option Value) (h : Heap) (L : List Loc) : Prop := v = some (.int 1) ∧ Fr n0 L
theorem own_yes_t (q1 : Int64) (q2 : Int64) (p3 : Int32) (j1 : Int64) (j3 : Int64) (j4 : Int64) (j8 : Int32) (j11 : Int32) (j14 : Int32) (j15 : Int32) (j17 : Int32) (j19 : Int32) (hj1 : j1 = (if (p3 &&& (1 : Int32)) = (0 : Int32) then (q1 &&& (9223372036854775807 : Int64)) else (((100000000 : Int64) - (2 : Int64)) + (q1 &&& (3 : Int64))))) (hj3 : j3 = ((100000000 : Int64) - j1)) (hj4 : j4 = (q2 &&& (9223372036854775807 : Int64))) (hj8 : j8 = (r_3 (100000000 : Int64))) (hj11 : j11 = (r_3 (u_4_a1_left j1 (100000000 : Int64)))) (hj14 : j14 = (r_3 (u_4_a1_left j4 (u_4_a1_left j1 (100000000 : Int64))))) (hj15 : j15 = (if j1 < (100000000 : Int64) then (0 : Int32) else (1 : Int32))) (hj17 : j17 = (if j15 = (0 : Int32) then (if j4 < j3 then (0 : Int32) else (1 : Int32)) else (1 : Int32))) (hj19 : j19 = (if j8 = (0 : Int32) then (if j11 = j15 then (if j14 = j17 then (1 : Int32) else (0 : Int32)) else (0 : Int32)) else (0 : Int32))) (hc45_2 : (p3 &&& (2 : Int32)) = (0 : Int32)) : (nar .boolean j19) = 1 := by
  have n : 0 ≤ j4.toInt := by rw [hj4]; exact own_pl_max _
  have k := own_pl_core j1 j4 j3 n hj3 j8 j11 j14 j15 j17 hj8 hj11 hj14 hj15 hj17
  rw [hj19, if_pos k.1, if_pos k.2.1, if_pos k.2.2]
  rfl
theorem own_yes_f (q1 : Int64) (q2 : Int64) (p3 : Int32) (j1 : Int64) (j3 : Int64) (j22 : Int64) (j26 : Int32) (j29 : Int32) (j32 : Int32) (j33 : Int32) (j35 : Int32) (j37 : Int32) (hj1 : j1 = (if (p3 &&& (1 : Int32)) = (0 : Int32) then (q1 &&& (9223372036854775807 : Int64)) else (((100000000 : Int64) - (2 : Int64)) + (q1 &&& (3 : Int64))))) (hj3 : j3 = ((100000000 : Int64) - j1)) (hj22 : j22 = (r_5 (0 : Int64) ((j3 - (1 : Int64)) + (q2 &&& (3 : Int64))))) (hj26 : j26 = (r_3 (100000000 : Int64))) (hj29 : j29 = (r_3 (u_4_a1_left j1 (100000000 : Int64)))) (hj32 : j32 = (r_3 (u_4_a1_left j22 (u_4_a1_left j1 (100000000 : Int64))))) (hj33 : j33 = (if j1 < (100000000 : Int64) then (0 : Int32) else (1 : Int32))) (hj35 : j35 = (if j33 = (0 : Int32) then (if j22 < j3 then (0 : Int32) else (1 : Int32)) else (1 : Int32))) (hj37 : j37 = (if j26 = (0 : Int32) then (if j29 = j33 then (if j32 = j35 then (1 : Int32) else (0 : Int32)) else (0 : Int32)) else (0 : Int32))) (hc45_2 : ¬ ((p3 &&& (2 : Int32)) = (0 : Int32))) : (nar .boolean j37) = 1 := by
  have n : 0 ≤ j22.toInt := by
    rw [hj22, r_5]
    split
    · next h =>
      rw [Int64.lt_iff_toInt_lt] at h
      have k0 : (0 : Int64).toInt = 0 := rfl
      omega
    · exact Int.le_refl _
  have k := own_pl_core j1 j22 j3 n hj3 j26 j29 j32 j33 j35 hj26 hj29 hj32 hj33 hj35
  rw [hj37, if_pos k.1, if_pos k.2.1, if_pos k.2.2]
  rfl
set_option maxRecDepth 65536 in
set_option maxHeartbeats 40000000 in
theorem rm0 (l : Launch) (Z : State) (a0 : Array Value) (hw : ∀ d ∈ tables_1, d.before a0 Z = true) (ws : List Jvm.Cond) (q1 : Int64) (q2 : Int64) (p3 : Int32) (h0 : Heap) (n0 : Nat) (Z0 : n0 ≤ h0.size) :
    MetFree l x (head1 (Jvm.Cond.code x code maxLocals ret :: ws) room_1) (fun a U => a = #[(.long q1), (.long q2), (.int p3)] ∧ Z.Warmed39 U.vm ∧ U.heap = h0) (fun _ _ _ _ _ => True) (fun _ U o U' => ∃ v L, o = .returned v ∧ Q0 Z q1 q2 p3 h0 n0 v U'.heap L ∧ FrameEnd U o U' L room_1.cells room_1.slots) := by
  refine MetFree.of_bodySF (plainFor_of_name pn_1) hisR ?_
  intro p e s m args below meth c s₁ Bd hml0 hP hK
  obtain ⟨rfl, hZ, hh⟩ := hP
  have hx := Bd.exec
  have hby := Bd.bytes
  have hml : c.maxLocals = 19 := hml0
  have hown : s.vm.findClass "com/example/kirchberg/kirchberg/model/pattern/PatternBudgetIsSpentPinLaw" = some m.cls := findClass_of_methodNamed Bd.named
  have hnm := (name_of_methodNamed Bd.named Bd.method).1
  have X0 : Stand p l e room_1 s m #[(.long q1), (.long q2), (.int p3)] below meth c s₁ [] 0 0 := Stand.of_body Bd
  have e0 : s₁.heap = h0 := by rw [← hh, Bd.state]; rfl
  have NN := Fr.nil n0
  have KK : Keep h0 h0 [] := Keep.refl h0 []
  refine own_start (ef_0 m q1 q2 p3) ?_
  refine own_go (T' := s₁) (g' := (mkF m 9 #[.val (.long q1), .second, .val (.long q2), .second, .val (.int p3), .val (.long (100000000 : Int64)), .second, .unset, .unset, .unset, .unset, .unset, .unset, .unset, .unset, .unset, .unset, .unset, .unset] [(.int (p3 &&& (1 : Int32)))])) (fun t k => ?_) ?_
  · show Steps p.tables e below (s₁.setTop (mkF m 0 #[.val (.long q1), .second, .val (.long q2), .second, .val (.int p3), .unset, .unset, .unset, .unset, .unset, .unset, .unset, .unset, .unset, .unset, .unset, .unset, .unset, .unset] [])) _
    refine X0.ldc2Long hx hown (mvT hZ (hw _ (List.mem_of_getElem? (i := 0) rfl))) (g := (mkF m 0 #[.val (.long q1), .second, .val (.long q2), .second, .val (.int p3), .unset, .unset, .unset, .unset, .unset, .unset, .unset, .unset, .unset, .unset, .unset, .unset, .unset, .unset] [])) rfl (hb hby at_0) _ ?_
    show Steps p.tables e below (s₁.setTop (mkF m 3 #[.val (.long q1), .second, .val (.long q2), .second, .val (.int p3), .unset, .unset, .unset, .unset, .unset, .unset, .unset, .unset, .unset, .unset, .unset, .unset, .unset, .unset] [(.long (100000000 : Int64))])) _
    refine XS.lstore X0.here hx rfl (hb hby at_3) rfl (l' := #[.val (.long q1), .second, .val (.long q2), .second, .val (.int p3), .val (.long (100000000 : Int64)), .second, .unset, .unset, .unset, .unset, .unset, .unset, .unset, .unset, .unset, .unset, .unset, .unset]) rfl ?_
    show Steps p.tables e below (s₁.setTop (mkF m 5 #[.val (.long q1), .second, .val (.long q2), .second, .val (.int p3), .val (.long (100000000 : Int64)), .second, .unset, .unset, .unset, .unset, .unset, .unset, .unset, .unset, .unset, .unset, .unset, .unset] [])) _
    refine XS.iload X0.here hx rfl (hb hby at_5) rfl ?_
    show Steps p.tables e below (s₁.setTop (mkF m 7 #[.val (.long q1), .second, .val (.long q2), .second, .val (.int p3), .val (.long (100000000 : Int64)), .second, .unset, .unset, .unset, .unset, .unset, .unset, .unset, .unset, .unset, .unset, .unset, .unset] [(.int p3)])) _
    refine XS.iconst X0.here hx rfl (hb hby at_7) ?_
    show Steps p.tables e below (s₁.setTop (mkF m 8 #[.val (.long q1), .second, .val (.long q2), .second, .val (.int p3), .val (.long (100000000 : Int64)), .second, .unset, .unset, .unset, .unset, .unset, .unset, .unset, .unset, .unset, .unset, .unset, .unset] [(.int (1 : Int32)), (.int p3)])) _
    refine XS.iand X0.here hx rfl (hb hby at_8) rfl ?_
    exact k
  obtain ⟨j1, hj1, st2⟩ : ∃ (j1 : Int64), j1 = (if (p3 &&& (1 : Int32)) = (0 : Int32) then (q1 &&& (9223372036854775807 : Int64)) else (((100000000 : Int64) - (2 : Int64)) + (q1 &&& (3 : Int64)))) ∧ ∀ t, Steps p.tables e below (s₁.setTop (mkF m 32 #[.val (.long q1), .second, .val (.long q2), .second, .val (.int p3), .val (.long (100000000 : Int64)), .second, .unset, .unset, .unset, .unset, .unset, .unset, .unset, .unset, .unset, .unset, .unset, .unset] [(.long j1)])) t → Steps p.tables e below (s₁.setTop (mkF m 9 #[.val (.long q1), .second, .val (.long q2), .second, .val (.int p3), .val (.long (100000000 : Int64)), .second, .unset, .unset, .unset, .unset, .unset, .unset, .unset, .unset, .unset, .unset, .unset, .unset] [(.int (p3 &&& (1 : Int32)))])) t := by
    by_cases hc9_1 : (p3 &&& (1 : Int32)) = (0 : Int32)
    · skip
      refine ⟨(q1 &&& (9223372036854775807 : Int64)), (by simp only [if_pos hc9_1]), fun t k => ?_⟩
      show Steps p.tables e below (s₁.setTop (mkF m 9 #[.val (.long q1), .second, .val (.long q2), .second, .val (.int p3), .val (.long (100000000 : Int64)), .second, .unset, .unset, .unset, .unset, .unset, .unset, .unset, .unset, .unset, .unset, .unset, .unset] [(.int (p3 &&& (1 : Int32)))])) _
      refine XS.ifYes X0.here hx rfl (pc0 := 9) (pc' := 27) rfl (hb hby at_9) rfl ((if0 _ _).trans (teq hc9_1).1) (by decide) (by decide) ?_
      show Steps p.tables e below (s₁.setTop (mkF m 27 #[.val (.long q1), .second, .val (.long q2), .second, .val (.int p3), .val (.long (100000000 : Int64)), .second, .unset, .unset, .unset, .unset, .unset, .unset, .unset, .unset, .unset, .unset, .unset, .unset] [])) _
      refine XS.lloadN X0.here hx rfl (hb hby at_27) rfl ?_
      show Steps p.tables e below (s₁.setTop (mkF m 28 #[.val (.long q1), .second, .val (.long q2), .second, .val (.int p3), .val (.long (100000000 : Int64)), .second, .unset, .unset, .unset, .unset, .unset, .unset, .unset, .unset, .unset, .unset, .unset, .unset] [(.long q1)])) _
      refine X0.ldc2Long hx hown (mvT hZ (hw _ (List.mem_of_getElem? (i := 1) rfl))) (g := (mkF m 28 #[.val (.long q1), .second, .val (.long q2), .second, .val (.int p3), .val (.long (100000000 : Int64)), .second, .unset, .unset, .unset, .unset, .unset, .unset, .unset, .unset, .unset, .unset, .unset, .unset] [(.long q1)])) rfl (hb hby at_28) _ ?_
      show Steps p.tables e below (s₁.setTop (mkF m 31 #[.val (.long q1), .second, .val (.long q2), .second, .val (.int p3), .val (.long (100000000 : Int64)), .second, .unset, .unset, .unset, .unset, .unset, .unset, .unset, .unset, .unset, .unset, .unset, .unset] [(.long (9223372036854775807 : Int64)), (.long q1)])) _
      refine XS.land X0.here hx rfl (hb hby at_31) rfl ?_
      exact k
    · skip
      refine ⟨(((100000000 : Int64) - (2 : Int64)) + (q1 &&& (3 : Int64))), (by simp only [if_neg hc9_1]), fun t k => ?_⟩
      show Steps p.tables e below (s₁.setTop (mkF m 9 #[.val (.long q1), .second, .val (.long q2), .second, .val (.int p3), .val (.long (100000000 : Int64)), .second, .unset, .unset, .unset, .unset, .unset, .unset, .unset, .unset, .unset, .unset, .unset, .unset] [(.int (p3 &&& (1 : Int32)))])) _
      refine XS.ifNo X0.here hx rfl (hb hby at_9) rfl ((if0 _ _).trans (feq hc9_1).1) ?_
      show Steps p.tables e below (s₁.setTop (mkF m 12 #[.val (.long q1), .second, .val (.long q2), .second, .val (.int p3), .val (.long (100000000 : Int64)), .second, .unset, .unset, .unset, .unset, .unset, .unset, .unset, .unset, .unset, .unset, .unset, .unset] [])) _
      refine XS.lload X0.here hx rfl (hb hby at_12) rfl ?_
      show Steps p.tables e below (s₁.setTop (mkF m 14 #[.val (.long q1), .second, .val (.long q2), .second, .val (.int p3), .val (.long (100000000 : Int64)), .second, .unset, .unset, .unset, .unset, .unset, .unset, .unset, .unset, .unset, .unset, .unset, .unset] [(.long (100000000 : Int64))])) _
      refine X0.ldc2Long hx hown (mvT hZ (hw _ (List.mem_of_getElem? (i := 24) rfl))) (g := (mkF m 14 #[.val (.long q1), .second, .val (.long q2), .second, .val (.int p3), .val (.long (100000000 : Int64)), .second, .unset, .unset, .unset, .unset, .unset, .unset, .unset, .unset, .unset, .unset, .unset, .unset] [(.long (100000000 : Int64))])) rfl (hb hby at_14) _ ?_
      show Steps p.tables e below (s₁.setTop (mkF m 17 #[.val (.long q1), .second, .val (.long q2), .second, .val (.int p3), .val (.long (100000000 : Int64)), .second, .unset, .unset, .unset, .unset, .unset, .unset, .unset, .unset, .unset, .unset, .unset, .unset] [(.long (2 : Int64)), (.long (100000000 : Int64))])) _
      refine XS.lsub X0.here hx rfl (hb hby at_17) rfl ?_
      show Steps p.tables e below (s₁.setTop (mkF m 18 #[.val (.long q1), .second, .val (.long q2), .second, .val (.int p3), .val (.long (100000000 : Int64)), .second, .unset, .unset, .unset, .unset, .unset, .unset, .unset, .unset, .unset, .unset, .unset, .unset] [(.long ((100000000 : Int64) - (2 : Int64)))])) _
      refine XS.lloadN X0.here hx rfl (hb hby at_18) rfl ?_
      show Steps p.tables e below (s₁.setTop (mkF m 19 #[.val (.long q1), .second, .val (.long q2), .second, .val (.int p3), .val (.long (100000000 : Int64)), .second, .unset, .unset, .unset, .unset, .unset, .unset, .unset, .unset, .unset, .unset, .unset, .unset] [(.long q1), (.long ((100000000 : Int64) - (2 : Int64)))])) _
      refine X0.ldc2Long hx hown (mvT hZ (hw _ (List.mem_of_getElem? (i := 25) rfl))) (g := (mkF m 19 #[.val (.long q1), .second, .val (.long q2), .second, .val (.int p3), .val (.long (100000000 : Int64)), .second, .unset, .unset, .unset, .unset, .unset, .unset, .unset, .unset, .unset, .unset, .unset, .unset] [(.long q1), (.long ((100000000 : Int64) - (2 : Int64)))])) rfl (hb hby at_19) _ ?_
      show Steps p.tables e below (s₁.setTop (mkF m 22 #[.val (.long q1), .second, .val (.long q2), .second, .val (.int p3), .val (.long (100000000 : Int64)), .second, .unset, .unset, .unset, .unset, .unset, .unset, .unset, .unset, .unset, .unset, .unset, .unset] [(.long (3 : Int64)), (.long q1), (.long ((100000000 : Int64) - (2 : Int64)))])) _
      refine XS.land X0.here hx rfl (hb hby at_22) rfl ?_
      show Steps p.tables e below (s₁.setTop (mkF m 23 #[.val (.long q1), .second, .val (.long q2), .second, .val (.int p3), .val (.long (100000000 : Int64)), .second, .unset, .unset, .unset, .unset, .unset, .unset, .unset, .unset, .unset, .unset, .unset, .unset] [(.long (q1 &&& (3 : Int64))), (.long ((100000000 : Int64) - (2 : Int64)))])) _
      refine XS.ladd X0.here hx rfl (hb hby at_23) rfl ?_
      show Steps p.tables e below (s₁.setTop (mkF m 24 #[.val (.long q1), .second, .val (.long q2), .second, .val (.int p3), .val (.long (100000000 : Int64)), .second, .unset, .unset, .unset, .unset, .unset, .unset, .unset, .unset, .unset, .unset, .unset, .unset] [(.long (((100000000 : Int64) - (2 : Int64)) + (q1 &&& (3 : Int64))))])) _
      refine XS.goto X0.here hx rfl (pc0 := 24) (pc' := 32) rfl (hb hby at_24) (by decide) (by decide) ?_
      exact k
  refine own_go st2 ?_
  show own_Go p.tables e below _ s₁ (mkF m 32 #[.val (.long q1), .second, .val (.long q2), .second, .val (.int p3), .val (.long (100000000 : Int64)), .second, .unset, .unset, .unset, .unset, .unset, .unset, .unset, .unset, .unset, .unset, .unset, .unset] [(.long j1)])
  refine own_go (T' := s₁) (g' := (mkF m 41 #[.val (.long q1), .second, .val (.long q2), .second, .val (.int p3), .val (.long (100000000 : Int64)), .second, .val (.long j1), .second, .val (.long ((100000000 : Int64) - j1)), .second, .unset, .unset, .unset, .unset, .unset, .unset, .unset, .unset] [])) (fun t k => ?_) ?_
  · show Steps p.tables e below (s₁.setTop (mkF m 32 #[.val (.long q1), .second, .val (.long q2), .second, .val (.int p3), .val (.long (100000000 : Int64)), .second, .unset, .unset, .unset, .unset, .unset, .unset, .unset, .unset, .unset, .unset, .unset, .unset] [(.long j1)])) _
    refine XS.lstore X0.here hx rfl (hb hby at_32) rfl (l' := #[.val (.long q1), .second, .val (.long q2), .second, .val (.int p3), .val (.long (100000000 : Int64)), .second, .val (.long j1), .second, .unset, .unset, .unset, .unset, .unset, .unset, .unset, .unset, .unset, .unset]) rfl ?_
    show Steps p.tables e below (s₁.setTop (mkF m 34 #[.val (.long q1), .second, .val (.long q2), .second, .val (.int p3), .val (.long (100000000 : Int64)), .second, .val (.long j1), .second, .unset, .unset, .unset, .unset, .unset, .unset, .unset, .unset, .unset, .unset] [])) _
    refine XS.lload X0.here hx rfl (hb hby at_34) rfl ?_
    show Steps p.tables e below (s₁.setTop (mkF m 36 #[.val (.long q1), .second, .val (.long q2), .second, .val (.int p3), .val (.long (100000000 : Int64)), .second, .val (.long j1), .second, .unset, .unset, .unset, .unset, .unset, .unset, .unset, .unset, .unset, .unset] [(.long (100000000 : Int64))])) _
    refine XS.lload X0.here hx rfl (hb hby at_36) rfl ?_
    show Steps p.tables e below (s₁.setTop (mkF m 38 #[.val (.long q1), .second, .val (.long q2), .second, .val (.int p3), .val (.long (100000000 : Int64)), .second, .val (.long j1), .second, .unset, .unset, .unset, .unset, .unset, .unset, .unset, .unset, .unset, .unset] [(.long j1), (.long (100000000 : Int64))])) _
    refine XS.lsub X0.here hx rfl (hb hby at_38) rfl ?_
    show Steps p.tables e below (s₁.setTop (mkF m 39 #[.val (.long q1), .second, .val (.long q2), .second, .val (.int p3), .val (.long (100000000 : Int64)), .second, .val (.long j1), .second, .unset, .unset, .unset, .unset, .unset, .unset, .unset, .unset, .unset, .unset] [(.long ((100000000 : Int64) - j1))])) _
    refine XS.lstore X0.here hx rfl (hb hby at_39) rfl (l' := #[.val (.long q1), .second, .val (.long q2), .second, .val (.int p3), .val (.long (100000000 : Int64)), .second, .val (.long j1), .second, .val (.long ((100000000 : Int64) - j1)), .second, .unset, .unset, .unset, .unset, .unset, .unset, .unset, .unset]) rfl ?_
    exact k
  show own_Go p.tables e below _ s₁ (mkF m 41 #[.val (.long q1), .second, .val (.long q2), .second, .val (.int p3), .val (.long (100000000 : Int64)), .second, .val (.long j1), .second, .val (.long ((100000000 : Int64) - j1)), .second, .unset, .unset, .unset, .unset, .unset, .unset, .unset, .unset] [])
  obtain ⟨j3, hj3⟩ : ∃ z : Int64, z = ((100000000 : Int64) - j1) := ⟨_, rfl⟩
  rw [← hj3]
  show own_Go p.tables e below _ s₁ (mkF m 41 #[.val (.long q1), .second, .val (.long q2), .second, .val (.int p3), .val (.long (100000000 : Int64)), .second, .val (.long j1), .second, .val (.long j3), .second, .unset, .unset, .unset, .unset, .unset, .unset, .unset, .unset] [])
  refine own_go (T' := s₁) (g' := (mkF m 45 #[.val (.long q1), .second, .val (.long q2), .second, .val (.int p3), .val (.long (100000000 : Int64)), .second, .val (.long j1), .second, .val (.long j3), .second, .unset, .unset, .unset, .unset, .unset, .unset, .unset, .unset] [(.int (p3 &&& (2 : Int32)))])) (fun t k => ?_) ?_
  · show Steps p.tables e below (s₁.setTop (mkF m 41 #[.val (.long q1), .second, .val (.long q2), .second, .val (.int p3), .val (.long (100000000 : Int64)), .second, .val (.long j1), .second, .val (.long j3), .second, .unset, .unset, .unset, .unset, .unset, .unset, .unset, .unset] [])) _
    refine XS.iload X0.here hx rfl (hb hby at_41) rfl ?_
    show Steps p.tables e below (s₁.setTop (mkF m 43 #[.val (.long q1), .second, .val (.long q2), .second, .val (.int p3), .val (.long (100000000 : Int64)), .second, .val (.long j1), .second, .val (.long j3), .second, .unset, .unset, .unset, .unset, .unset, .unset, .unset, .unset] [(.int p3)])) _
    refine XS.iconst X0.here hx rfl (hb hby at_43) ?_
    show Steps p.tables e below (s₁.setTop (mkF m 44 #[.val (.long q1), .second, .val (.long q2), .second, .val (.int p3), .val (.long (100000000 : Int64)), .second, .val (.long j1), .second, .val (.long j3), .second, .unset, .unset, .unset, .unset, .unset, .unset, .unset, .unset] [(.int (2 : Int32)), (.int p3)])) _
    refine XS.iand X0.here hx rfl (hb hby at_44) rfl ?_
    exact k
  by_cases hc45_2 : (p3 &&& (2 : Int32)) = (0 : Int32)
  · skip
    refine own_go (T' := s₁) (g' := (mkF m 72 #[.val (.long q1), .second, .val (.long q2), .second, .val (.int p3), .val (.long (100000000 : Int64)), .second, .val (.long j1), .second, .val (.long j3), .second, .val (.long (q2 &&& (9223372036854775807 : Int64))), .second, .unset, .unset, .unset, .unset, .unset, .unset] [])) (fun t k => ?_) ?_
    · show Steps p.tables e below (s₁.setTop (mkF m 45 #[.val (.long q1), .second, .val (.long q2), .second, .val (.int p3), .val (.long (100000000 : Int64)), .second, .val (.long j1), .second, .val (.long j3), .second, .unset, .unset, .unset, .unset, .unset, .unset, .unset, .unset] [(.int (p3 &&& (2 : Int32)))])) _
      refine XS.ifYes X0.here hx rfl (pc0 := 45) (pc' := 65) rfl (hb hby at_45) rfl ((if0 _ _).trans (teq hc45_2).1) (by decide) (by decide) ?_
      show Steps p.tables e below (s₁.setTop (mkF m 65 #[.val (.long q1), .second, .val (.long q2), .second, .val (.int p3), .val (.long (100000000 : Int64)), .second, .val (.long j1), .second, .val (.long j3), .second, .unset, .unset, .unset, .unset, .unset, .unset, .unset, .unset] [])) _
      refine XS.lloadN X0.here hx rfl (hb hby at_65) rfl ?_
      show Steps p.tables e below (s₁.setTop (mkF m 66 #[.val (.long q1), .second, .val (.long q2), .second, .val (.int p3), .val (.long (100000000 : Int64)), .second, .val (.long j1), .second, .val (.long j3), .second, .unset, .unset, .unset, .unset, .unset, .unset, .unset, .unset] [(.long q2)])) _
      refine X0.ldc2Long hx hown (mvT hZ (hw _ (List.mem_of_getElem? (i := 1) rfl))) (g := (mkF m 66 #[.val (.long q1), .second, .val (.long q2), .second, .val (.int p3), .val (.long (100000000 : Int64)), .second, .val (.long j1), .second, .val (.long j3), .second, .unset, .unset, .unset, .unset, .unset, .unset, .unset, .unset] [(.long q2)])) rfl (hb hby at_66) _ ?_
      show Steps p.tables e below (s₁.setTop (mkF m 69 #[.val (.long q1), .second, .val (.long q2), .second, .val (.int p3), .val (.long (100000000 : Int64)), .second, .val (.long j1), .second, .val (.long j3), .second, .unset, .unset, .unset, .unset, .unset, .unset, .unset, .unset] [(.long (9223372036854775807 : Int64)), (.long q2)])) _
      refine XS.land X0.here hx rfl (hb hby at_69) rfl ?_
      show Steps p.tables e below (s₁.setTop (mkF m 70 #[.val (.long q1), .second, .val (.long q2), .second, .val (.int p3), .val (.long (100000000 : Int64)), .second, .val (.long j1), .second, .val (.long j3), .second, .unset, .unset, .unset, .unset, .unset, .unset, .unset, .unset] [(.long (q2 &&& (9223372036854775807 : Int64)))])) _
      refine XS.lstore X0.here hx rfl (hb hby at_70) rfl (l' := #[.val (.long q1), .second, .val (.long q2), .second, .val (.int p3), .val (.long (100000000 : Int64)), .second, .val (.long j1), .second, .val (.long j3), .second, .val (.long (q2 &&& (9223372036854775807 : Int64))), .second, .unset, .unset, .unset, .unset, .unset, .unset]) rfl ?_
      exact k
    show own_Go p.tables e below _ s₁ (mkF m 72 #[.val (.long q1), .second, .val (.long q2), .second, .val (.int p3), .val (.long (100000000 : Int64)), .second, .val (.long j1), .second, .val (.long j3), .second, .val (.long (q2 &&& (9223372036854775807 : Int64))), .second, .unset, .unset, .unset, .unset, .unset, .unset] [])
    obtain ⟨j4, hj4⟩ : ∃ z : Int64, z = (q2 &&& (9223372036854775807 : Int64)) := ⟨_, rfl⟩
    rw [← hj4]
    show own_Go p.tables e below _ s₁ (mkF m 72 #[.val (.long q1), .second, .val (.long q2), .second, .val (.int p3), .val (.long (100000000 : Int64)), .second, .val (.long j1), .second, .val (.long j3), .second, .val (.long j4), .second, .unset, .unset, .unset, .unset, .unset, .unset] [])
    obtain ⟨T5, h5, X5, e5, E5, A5, D5, -, st5⟩ := newO X0 hx hZ hown (hw _ (List.mem_of_getElem? (i := 2) rfl)) (hw _ (List.mem_of_getElem? (i := 3) rfl)) (hw _ (List.mem_of_getElem? (i := 4) rfl)) e0 (g := (mkF m 72 #[.val (.long q1), .second, .val (.long q2), .second, .val (.int p3), .val (.long (100000000 : Int64)), .second, .val (.long j1), .second, .val (.long j3), .second, .val (.long j4), .second, .unset, .unset, .unset, .unset, .unset, .unset] [])) rfl (hb hby at_72) (by decide) (by decide)
    obtain ⟨b5, g5⟩ : ∃ z, z = h0.size := ⟨_, rfl⟩
    rw [← g5] at A5 D5 st5
    have g_b5 : n0 ≤ b5 := Nat.le_trans Z0 (Nat.le_of_eq g5.symm)
    have sz_b5 : h0.size ≤ b5 := Nat.le_trans KK.1 (Nat.le_of_eq g5.symm)
    have Z0 := Nat.le_trans Z0 E5.1
    have KK := KK.ext E5
    have E_b5 := A5
    have F_b5_left : Fld Z h5 b5 "com/example/kirchberg/kirchberg/model/pattern/PatternBudget" "left" "J" (.long (0 : Int64)) := D5 (Or.inl (hw _ (List.mem_of_getElem? (i := 13) rfl))) (ty := .long) (by decide)
    refine own_go st5 ?_
    show own_Go p.tables e below _ T5 (mkF m 75 #[.val (.long q1), .second, .val (.long q2), .second, .val (.int p3), .val (.long (100000000 : Int64)), .second, .val (.long j1), .second, .val (.long j3), .second, .val (.long j4), .second, .unset, .unset, .unset, .unset, .unset, .unset] [(.ref b5)])
    refine own_go (T' := T5) (g' := (mkF m 76 #[.val (.long q1), .second, .val (.long q2), .second, .val (.int p3), .val (.long (100000000 : Int64)), .second, .val (.long j1), .second, .val (.long j3), .second, .val (.long j4), .second, .unset, .unset, .unset, .unset, .unset, .unset] [(.ref b5), (.ref b5)])) (fun t k => ?_) ?_
    · show Steps p.tables e below (T5.setTop (mkF m 75 #[.val (.long q1), .second, .val (.long q2), .second, .val (.int p3), .val (.long (100000000 : Int64)), .second, .val (.long j1), .second, .val (.long j3), .second, .val (.long j4), .second, .unset, .unset, .unset, .unset, .unset, .unset] [(.ref b5)])) _
      refine XS.dup X5.here hx rfl (hb hby at_75) rfl rfl ?_
      exact k
    obtain ⟨_, _, ⟨T6, L6, k6, n6⟩, -, X6, ⟨Lc6, hQ6, l6, y6, z6⟩, st6⟩ := X5.specialBack hx (y := (⟨"com/example/kirchberg/kirchberg/model/pattern/PatternBudget", "<init>", "()V"⟩ : MethodName)) rfl hown (mvT hZ (hw _ (List.mem_of_getElem? (i := 5) rfl))) (mvT hZ (hw _ (List.mem_of_getElem? (i := 6) rfl))) (mvT hZ (hw _ (List.mem_of_getElem? (i := 7) rfl))) (by decide) (backOf (W := 1) (rm1 l Z a0 hw [] b5 (.long (0 : Int64)) h5 n0 Z0 E_b5 F_b5_left g_b5) hZ (hw _ (List.mem_of_getElem? (i := 7) rfl)) (hw _ (List.mem_of_getElem? (i := 4) rfl)) (by decide) (by decide)) (g := (mkF m 76 #[.val (.long q1), .second, .val (.long q2), .second, .val (.int p3), .val (.long (100000000 : Int64)), .second, .val (.long j1), .second, .val (.long j3), .second, .val (.long j4), .second, .unset, .unset, .unset, .unset, .unset, .unset] [(.ref b5), (.ref b5)])) rfl (by rw [hml]; rfl) (Steps.refl _) (a := b5) (argsL := []) (rest := [(.ref b5)]) (lenOf pd_0 rfl) rfl (by show 2 * 0 + _ ≤ _; exact Nat.le_of_eq rfl) (hb hby at_76) (fun _ _ => ⟨rfl, e5, (by decide : 1 + 0 ≤ _), (by decide : 1 + 0 ≤ _)⟩)
    dsimp only [Pt.U, Pt.locs, Pt.cells, Pt.slots] at X6 l6 y6 z6 st6 hQ6
    subst l6 y6 z6
    obtain ⟨rfl, N6q, K6, Q6_0, Q6_1⟩ := hQ6
    have E_b5 := Q6_0
    have F_b5_left := Q6_1
    have Z0 := Nat.le_trans Z0 K6.1
    have KK := KK.trans K6 (allS (Or.inr sz_b5) all0)
    have NN := Fr.app NN N6q
    refine own_go (fun t k => st6.trans k) ?_
    show own_Go p.tables e below _ T6 (mkF m 79 #[.val (.long q1), .second, .val (.long q2), .second, .val (.int p3), .val (.long (100000000 : Int64)), .second, .val (.long j1), .second, .val (.long j3), .second, .val (.long j4), .second, .unset, .unset, .unset, .unset, .unset, .unset] [(.ref b5)])
    refine own_go (T' := T6) (g' := (mkF m 83 #[.val (.long q1), .second, .val (.long q2), .second, .val (.int p3), .val (.long (100000000 : Int64)), .second, .val (.long j1), .second, .val (.long j3), .second, .val (.long j4), .second, .val (.ref b5), .unset, .unset, .unset, .unset, .unset] [(.ref b5)])) (fun t k => ?_) ?_
    · show Steps p.tables e below (T6.setTop (mkF m 79 #[.val (.long q1), .second, .val (.long q2), .second, .val (.int p3), .val (.long (100000000 : Int64)), .second, .val (.long j1), .second, .val (.long j3), .second, .val (.long j4), .second, .unset, .unset, .unset, .unset, .unset, .unset] [(.ref b5)])) _
      refine XS.astore X6.here hx rfl (hb hby at_79) rfl rfl (l' := #[.val (.long q1), .second, .val (.long q2), .second, .val (.int p3), .val (.long (100000000 : Int64)), .second, .val (.long j1), .second, .val (.long j3), .second, .val (.long j4), .second, .val (.ref b5), .unset, .unset, .unset, .unset, .unset]) rfl ?_
      show Steps p.tables e below (T6.setTop (mkF m 81 #[.val (.long q1), .second, .val (.long q2), .second, .val (.int p3), .val (.long (100000000 : Int64)), .second, .val (.long j1), .second, .val (.long j3), .second, .val (.long j4), .second, .val (.ref b5), .unset, .unset, .unset, .unset, .unset] [])) _
      refine XS.aload X6.here hx rfl (hb hby at_81) rfl rfl ?_
      exact k
    obtain ⟨cq7, kq7, q7a, q7b, q7c⟩ := isOf hZ rfl E_b5
    obtain ⟨_, _, ⟨T7, L7, k7, n7⟩, -, X7, ⟨Lc7, hQ7, l7, y7, z7⟩, st7⟩ := X6.virtualBack hx (y := (⟨"com/example/kirchberg/kirchberg/model/pattern/PatternBudget", "isSpent", "()Z"⟩ : MethodName)) (z := (⟨"com/example/kirchberg/kirchberg/model/pattern/PatternBudget", "isSpent", "()Z"⟩ : MethodName)) hown (mvT hZ (hw _ (List.mem_of_getElem? (i := 14) rfl))) (mvT hZ (hw _ (List.mem_of_getElem? (i := 15) rfl))) (notFace_of_selects (args := #[]) (mvT hZ (hw _ (List.mem_of_getElem? (i := 17) rfl)))) (mvT hZ (hw _ (List.mem_of_getElem? (i := 17) rfl))) (mvT hZ (hw _ (List.mem_of_getElem? (i := 16) rfl))) (by decide) (backOf (W := 0) (rm3 l Z a0 hw [] b5 (100000000 : Int64) T6.heap n0 Z0 F_b5_left) hZ (hw _ (List.mem_of_getElem? (i := 18) rfl)) (hw _ (List.mem_of_getElem? (i := 4) rfl)) (by decide) (by decide)) q7a q7c (g := (mkF m 83 #[.val (.long q1), .second, .val (.long q2), .second, .val (.int p3), .val (.long (100000000 : Int64)), .second, .val (.long j1), .second, .val (.long j3), .second, .val (.long j4), .second, .val (.ref b5), .unset, .unset, .unset, .unset, .unset] [(.ref b5)])) rfl (by rw [hml]; rfl) (Steps.refl _) (argsL := []) (rest := []) (lenOf pd_1 rfl) rfl (by show 2 * 0 + _ ≤ _; exact Nat.le_of_eq rfl) (hb hby at_83) (fun _ _ => ⟨rfl, rfl, (by decide : 1 + 0 ≤ _), (by decide : 1 + 0 ≤ _)⟩)
    dsimp only [Pt.U, Pt.locs, Pt.cells, Pt.slots] at X7 l7 y7 z7 st7 hQ7
    subst l7 y7 z7
    obtain ⟨rfl, N7q, e7⟩ := hQ7
    have NN := Fr.app NN N7q
    refine own_go (fun t k => st7.trans k) ?_
    show own_Go p.tables e below _ T7 (mkF m 86 #[.val (.long q1), .second, .val (.long q2), .second, .val (.int p3), .val (.long (100000000 : Int64)), .second, .val (.long j1), .second, .val (.long j3), .second, .val (.long j4), .second, .val (.ref b5), .unset, .unset, .unset, .unset, .unset] [(.int (r_3 (100000000 : Int64)))])
    refine own_go (T' := T7) (g' := (mkF m 88 #[.val (.long q1), .second, .val (.long q2), .second, .val (.int p3), .val (.long (100000000 : Int64)), .second, .val (.long j1), .second, .val (.long j3), .second, .val (.long j4), .second, .val (.ref b5), .val (.int (r_3 (100000000 : Int64))), .unset, .unset, .unset, .unset] [])) (fun t k => ?_) ?_
    · show Steps p.tables e below (T7.setTop (mkF m 86 #[.val (.long q1), .second, .val (.long q2), .second, .val (.int p3), .val (.long (100000000 : Int64)), .second, .val (.long j1), .second, .val (.long j3), .second, .val (.long j4), .second, .val (.ref b5), .unset, .unset, .unset, .unset, .unset] [(.int (r_3 (100000000 : Int64)))])) _
      refine XS.istore X7.here hx rfl (hb hby at_86) rfl (l' := #[.val (.long q1), .second, .val (.long q2), .second, .val (.int p3), .val (.long (100000000 : Int64)), .second, .val (.long j1), .second, .val (.long j3), .second, .val (.long j4), .second, .val (.ref b5), .val (.int (r_3 (100000000 : Int64))), .unset, .unset, .unset, .unset]) rfl ?_
      exact k
    show own_Go p.tables e below _ T7 (mkF m 88 #[.val (.long q1), .second, .val (.long q2), .second, .val (.int p3), .val (.long (100000000 : Int64)), .second, .val (.long j1), .second, .val (.long j3), .second, .val (.long j4), .second, .val (.ref b5), .val (.int (r_3 (100000000 : Int64))), .unset, .unset, .unset, .unset] [])
    obtain ⟨j8, hj8⟩ : ∃ z : Int32, z = (r_3 (100000000 : Int64)) := ⟨_, rfl⟩
    rw [← hj8]
    show own_Go p.tables e below _ T7 (mkF m 88 #[.val (.long q1), .second, .val (.long q2), .second, .val (.int p3), .val (.long (100000000 : Int64)), .second, .val (.long j1), .second, .val (.long j3), .second, .val (.long j4), .second, .val (.ref b5), .val (.int j8), .unset, .unset, .unset, .unset] [])
    refine own_go (T' := T7) (g' := (mkF m 92 #[.val (.long q1), .second, .val (.long q2), .second, .val (.int p3), .val (.long (100000000 : Int64)), .second, .val (.long j1), .second, .val (.long j3), .second, .val (.long j4), .second, .val (.ref b5), .val (.int j8), .unset, .unset, .unset, .unset] [(.long j1), (.ref b5)])) (fun t k => ?_) ?_
    · show Steps p.tables e below (T7.setTop (mkF m 88 #[.val (.long q1), .second, .val (.long q2), .second, .val (.int p3), .val (.long (100000000 : Int64)), .second, .val (.long j1), .second, .val (.long j3), .second, .val (.long j4), .second, .val (.ref b5), .val (.int j8), .unset, .unset, .unset, .unset] [])) _
      refine XS.aload X7.here hx rfl (hb hby at_88) rfl rfl ?_
      show Steps p.tables e below (T7.setTop (mkF m 90 #[.val (.long q1), .second, .val (.long q2), .second, .val (.int p3), .val (.long (100000000 : Int64)), .second, .val (.long j1), .second, .val (.long j3), .second, .val (.long j4), .second, .val (.ref b5), .val (.int j8), .unset, .unset, .unset, .unset] [(.ref b5)])) _
      refine XS.lload X7.here hx rfl (hb hby at_90) rfl ?_
      exact k
    obtain ⟨cq9, kq9, q9a, q9b, q9c⟩ := isOf hZ e7 E_b5
    obtain ⟨_, _, ⟨T9, L9, k9, n9⟩, -, X9, ⟨Lc9, hQ9, l9, y9, z9⟩, st9⟩ := X7.virtualBack hx (y := (⟨"com/example/kirchberg/kirchberg/model/pattern/PatternBudget", "take", "(J)Z"⟩ : MethodName)) (z := (⟨"com/example/kirchberg/kirchberg/model/pattern/PatternBudget", "take", "(J)Z"⟩ : MethodName)) hown (mvT hZ (hw _ (List.mem_of_getElem? (i := 19) rfl))) (mvT hZ (hw _ (List.mem_of_getElem? (i := 20) rfl))) (notFace_of_selects (args := #[]) (mvT hZ (hw _ (List.mem_of_getElem? (i := 22) rfl)))) (mvT hZ (hw _ (List.mem_of_getElem? (i := 22) rfl))) (mvT hZ (hw _ (List.mem_of_getElem? (i := 21) rfl))) (by decide) (backOf (W := 0) (rm4 l Z a0 hw [] b5 j1 (100000000 : Int64) T6.heap n0 Z0 F_b5_left E_b5 g_b5) hZ (hw _ (List.mem_of_getElem? (i := 23) rfl)) (hw _ (List.mem_of_getElem? (i := 4) rfl)) (by decide) (by decide)) q9a q9c (g := (mkF m 92 #[.val (.long q1), .second, .val (.long q2), .second, .val (.int p3), .val (.long (100000000 : Int64)), .second, .val (.long j1), .second, .val (.long j3), .second, .val (.long j4), .second, .val (.ref b5), .val (.int j8), .unset, .unset, .unset, .unset] [(.long j1), (.ref b5)])) rfl (by rw [hml]; rfl) (Steps.refl _) (argsL := [(.long j1)]) (rest := []) (lenOf pd_2 rfl) rfl (by show 2 * 0 + _ ≤ _; exact Nat.le_of_eq rfl) (hb hby at_92) (fun _ _ => ⟨rfl, e7, (by decide : 1 + 0 ≤ _), (by decide : 1 + 0 ≤ _)⟩)
    dsimp only [Pt.U, Pt.locs, Pt.cells, Pt.slots] at X9 l9 y9 z9 st9 hQ9
    subst l9 y9 z9
    obtain ⟨rfl, N9q, K9, Q9_0, Q9_1⟩ := hQ9
    have E_b5 := Q9_0
    have F_b5_left := Q9_1
    have Z0 := Nat.le_trans Z0 K9.1
    have KK := KK.trans K9 (allS (Or.inr sz_b5) all0)
    have NN := Fr.app NN N9q
    refine own_go (fun t k => st9.trans k) ?_
    show own_Go p.tables e below _ T9 (mkF m 95 #[.val (.long q1), .second, .val (.long q2), .second, .val (.int p3), .val (.long (100000000 : Int64)), .second, .val (.long j1), .second, .val (.long j3), .second, .val (.long j4), .second, .val (.ref b5), .val (.int j8), .unset, .unset, .unset, .unset] [(.int (r_4 j1 (100000000 : Int64)))])
    refine own_go (T' := T9) (g' := (mkF m 98 #[.val (.long q1), .second, .val (.long q2), .second, .val (.int p3), .val (.long (100000000 : Int64)), .second, .val (.long j1), .second, .val (.long j3), .second, .val (.long j4), .second, .val (.ref b5), .val (.int j8), .unset, .unset, .unset, .unset] [(.ref b5)])) (fun t k => ?_) ?_
    · show Steps p.tables e below (T9.setTop (mkF m 95 #[.val (.long q1), .second, .val (.long q2), .second, .val (.int p3), .val (.long (100000000 : Int64)), .second, .val (.long j1), .second, .val (.long j3), .second, .val (.long j4), .second, .val (.ref b5), .val (.int j8), .unset, .unset, .unset, .unset] [(.int (r_4 j1 (100000000 : Int64)))])) _
      refine XS.pop X9.here hx rfl (hb hby at_95) rfl rfl ?_
      show Steps p.tables e below (T9.setTop (mkF m 96 #[.val (.long q1), .second, .val (.long q2), .second, .val (.int p3), .val (.long (100000000 : Int64)), .second, .val (.long j1), .second, .val (.long j3), .second, .val (.long j4), .second, .val (.ref b5), .val (.int j8), .unset, .unset, .unset, .unset] [])) _
      refine XS.aload X9.here hx rfl (hb hby at_96) rfl rfl ?_
      exact k
    obtain ⟨cq10, kq10, q10a, q10b, q10c⟩ := isOf hZ rfl E_b5
    obtain ⟨_, _, ⟨T10, L10, k10, n10⟩, -, X10, ⟨Lc10, hQ10, l10, y10, z10⟩, st10⟩ := X9.virtualBack hx (y := (⟨"com/example/kirchberg/kirchberg/model/pattern/PatternBudget", "isSpent", "()Z"⟩ : MethodName)) (z := (⟨"com/example/kirchberg/kirchberg/model/pattern/PatternBudget", "isSpent", "()Z"⟩ : MethodName)) hown (mvT hZ (hw _ (List.mem_of_getElem? (i := 14) rfl))) (mvT hZ (hw _ (List.mem_of_getElem? (i := 15) rfl))) (notFace_of_selects (args := #[]) (mvT hZ (hw _ (List.mem_of_getElem? (i := 17) rfl)))) (mvT hZ (hw _ (List.mem_of_getElem? (i := 17) rfl))) (mvT hZ (hw _ (List.mem_of_getElem? (i := 16) rfl))) (by decide) (backOf (W := 0) (rm3 l Z a0 hw [] b5 (u_4_a1_left j1 (100000000 : Int64)) T9.heap n0 Z0 F_b5_left) hZ (hw _ (List.mem_of_getElem? (i := 18) rfl)) (hw _ (List.mem_of_getElem? (i := 4) rfl)) (by decide) (by decide)) q10a q10c (g := (mkF m 98 #[.val (.long q1), .second, .val (.long q2), .second, .val (.int p3), .val (.long (100000000 : Int64)), .second, .val (.long j1), .second, .val (.long j3), .second, .val (.long j4), .second, .val (.ref b5), .val (.int j8), .unset, .unset, .unset, .unset] [(.ref b5)])) rfl (by rw [hml]; rfl) (Steps.refl _) (argsL := []) (rest := []) (lenOf pd_1 rfl) rfl (by show 2 * 0 + _ ≤ _; exact Nat.le_of_eq rfl) (hb hby at_98) (fun _ _ => ⟨rfl, rfl, (by decide : 1 + 0 ≤ _), (by decide : 1 + 0 ≤ _)⟩)
    dsimp only [Pt.U, Pt.locs, Pt.cells, Pt.slots] at X10 l10 y10 z10 st10 hQ10
    subst l10 y10 z10
    obtain ⟨rfl, N10q, e10⟩ := hQ10
    have NN := Fr.app NN N10q
    refine own_go (fun t k => st10.trans k) ?_
    show own_Go p.tables e below _ T10 (mkF m 101 #[.val (.long q1), .second, .val (.long q2), .second, .val (.int p3), .val (.long (100000000 : Int64)), .second, .val (.long j1), .second, .val (.long j3), .second, .val (.long j4), .second, .val (.ref b5), .val (.int j8), .unset, .unset, .unset, .unset] [(.int (r_3 (u_4_a1_left j1 (100000000 : Int64))))])
    refine own_go (T' := T10) (g' := (mkF m 103 #[.val (.long q1), .second, .val (.long q2), .second, .val (.int p3), .val (.long (100000000 : Int64)), .second, .val (.long j1), .second, .val (.long j3), .second, .val (.long j4), .second, .val (.ref b5), .val (.int j8), .val (.int (r_3 (u_4_a1_left j1 (100000000 : Int64)))), .unset, .unset, .unset] [])) (fun t k => ?_) ?_
    · show Steps p.tables e below (T10.setTop (mkF m 101 #[.val (.long q1), .second, .val (.long q2), .second, .val (.int p3), .val (.long (100000000 : Int64)), .second, .val (.long j1), .second, .val (.long j3), .second, .val (.long j4), .second, .val (.ref b5), .val (.int j8), .unset, .unset, .unset, .unset] [(.int (r_3 (u_4_a1_left j1 (100000000 : Int64))))])) _
      refine XS.istore X10.here hx rfl (hb hby at_101) rfl (l' := #[.val (.long q1), .second, .val (.long q2), .second, .val (.int p3), .val (.long (100000000 : Int64)), .second, .val (.long j1), .second, .val (.long j3), .second, .val (.long j4), .second, .val (.ref b5), .val (.int j8), .val (.int (r_3 (u_4_a1_left j1 (100000000 : Int64)))), .unset, .unset, .unset]) rfl ?_
      exact k
    show own_Go p.tables e below _ T10 (mkF m 103 #[.val (.long q1), .second, .val (.long q2), .second, .val (.int p3), .val (.long (100000000 : Int64)), .second, .val (.long j1), .second, .val (.long j3), .second, .val (.long j4), .second, .val (.ref b5), .val (.int j8), .val (.int (r_3 (u_4_a1_left j1 (100000000 : Int64)))), .unset, .unset, .unset] [])
    obtain ⟨j11, hj11⟩ : ∃ z : Int32, z = (r_3 (u_4_a1_left j1 (100000000 : Int64))) := ⟨_, rfl⟩
    rw [← hj11]
    show own_Go p.tables e below _ T10 (mkF m 103 #[.val (.long q1), .second, .val (.long q2), .second, .val (.int p3), .val (.long (100000000 : Int64)), .second, .val (.long j1), .second, .val (.long j3), .second, .val (.long j4), .second, .val (.ref b5), .val (.int j8), .val (.int j11), .unset, .unset, .unset] [])
    refine own_go (T' := T10) (g' := (mkF m 107 #[.val (.long q1), .second, .val (.long q2), .second, .val (.int p3), .val (.long (100000000 : Int64)), .second, .val (.long j1), .second, .val (.long j3), .second, .val (.long j4), .second, .val (.ref b5), .val (.int j8), .val (.int j11), .unset, .unset, .unset] [(.long j4), (.ref b5)])) (fun t k => ?_) ?_
    · show Steps p.tables e below (T10.setTop (mkF m 103 #[.val (.long q1), .second, .val (.long q2), .second, .val (.int p3), .val (.long (100000000 : Int64)), .second, .val (.long j1), .second, .val (.long j3), .second, .val (.long j4), .second, .val (.ref b5), .val (.int j8), .val (.int j11), .unset, .unset, .unset] [])) _
      refine XS.aload X10.here hx rfl (hb hby at_103) rfl rfl ?_
      show Steps p.tables e below (T10.setTop (mkF m 105 #[.val (.long q1), .second, .val (.long q2), .second, .val (.int p3), .val (.long (100000000 : Int64)), .second, .val (.long j1), .second, .val (.long j3), .second, .val (.long j4), .second, .val (.ref b5), .val (.int j8), .val (.int j11), .unset, .unset, .unset] [(.ref b5)])) _
      refine XS.lload X10.here hx rfl (hb hby at_105) rfl ?_
      exact k
    obtain ⟨cq12, kq12, q12a, q12b, q12c⟩ := isOf hZ e10 E_b5
    obtain ⟨_, _, ⟨T12, L12, k12, n12⟩, -, X12, ⟨Lc12, hQ12, l12, y12, z12⟩, st12⟩ := X10.virtualBack hx (y := (⟨"com/example/kirchberg/kirchberg/model/pattern/PatternBudget", "take", "(J)Z"⟩ : MethodName)) (z := (⟨"com/example/kirchberg/kirchberg/model/pattern/PatternBudget", "take", "(J)Z"⟩ : MethodName)) hown (mvT hZ (hw _ (List.mem_of_getElem? (i := 19) rfl))) (mvT hZ (hw _ (List.mem_of_getElem? (i := 20) rfl))) (notFace_of_selects (args := #[]) (mvT hZ (hw _ (List.mem_of_getElem? (i := 22) rfl)))) (mvT hZ (hw _ (List.mem_of_getElem? (i := 22) rfl))) (mvT hZ (hw _ (List.mem_of_getElem? (i := 21) rfl))) (by decide) (backOf (W := 0) (rm4 l Z a0 hw [] b5 j4 (u_4_a1_left j1 (100000000 : Int64)) T9.heap n0 Z0 F_b5_left E_b5 g_b5) hZ (hw _ (List.mem_of_getElem? (i := 23) rfl)) (hw _ (List.mem_of_getElem? (i := 4) rfl)) (by decide) (by decide)) q12a q12c (g := (mkF m 107 #[.val (.long q1), .second, .val (.long q2), .second, .val (.int p3), .val (.long (100000000 : Int64)), .second, .val (.long j1), .second, .val (.long j3), .second, .val (.long j4), .second, .val (.ref b5), .val (.int j8), .val (.int j11), .unset, .unset, .unset] [(.long j4), (.ref b5)])) rfl (by rw [hml]; rfl) (Steps.refl _) (argsL := [(.long j4)]) (rest := []) (lenOf pd_2 rfl) rfl (by show 2 * 0 + _ ≤ _; exact Nat.le_of_eq rfl) (hb hby at_107) (fun _ _ => ⟨rfl, e10, (by decide : 1 + 0 ≤ _), (by decide : 1 + 0 ≤ _)⟩)
    dsimp only [Pt.U, Pt.locs, Pt.cells, Pt.slots] at X12 l12 y12 z12 st12 hQ12
    subst l12 y12 z12
    obtain ⟨rfl, N12q, K12, Q12_0, Q12_1⟩ := hQ12
    have E_b5 := Q12_0
    have F_b5_left := Q12_1
    have Z0 := Nat.le_trans Z0 K12.1
    have KK := KK.trans K12 (allS (Or.inr sz_b5) all0)
    have NN := Fr.app NN N12q
    refine own_go (fun t k => st12.trans k) ?_
    show own_Go p.tables e below _ T12 (mkF m 110 #[.val (.long q1), .second, .val (.long q2), .second, .val (.int p3), .val (.long (100000000 : Int64)), .second, .val (.long j1), .second, .val (.long j3), .second, .val (.long j4), .second, .val (.ref b5), .val (.int j8), .val (.int j11), .unset, .unset, .unset] [(.int (r_4 j4 (u_4_a1_left j1 (100000000 : Int64))))])
    refine own_go (T' := T12) (g' := (mkF m 113 #[.val (.long q1), .second, .val (.long q2), .second, .val (.int p3), .val (.long (100000000 : Int64)), .second, .val (.long j1), .second, .val (.long j3), .second, .val (.long j4), .second, .val (.ref b5), .val (.int j8), .val (.int j11), .unset, .unset, .unset] [(.ref b5)])) (fun t k => ?_) ?_
    · show Steps p.tables e below (T12.setTop (mkF m 110 #[.val (.long q1), .second, .val (.long q2), .second, .val (.int p3), .val (.long (100000000 : Int64)), .second, .val (.long j1), .second, .val (.long j3), .second, .val (.long j4), .second, .val (.ref b5), .val (.int j8), .val (.int j11), .unset, .unset, .unset] [(.int (r_4 j4 (u_4_a1_left j1 (100000000 : Int64))))])) _
      refine XS.pop X12.here hx rfl (hb hby at_110) rfl rfl ?_
      show Steps p.tables e below (T12.setTop (mkF m 111 #[.val (.long q1), .second, .val (.long q2), .second, .val (.int p3), .val (.long (100000000 : Int64)), .second, .val (.long j1), .second, .val (.long j3), .second, .val (.long j4), .second, .val (.ref b5), .val (.int j8), .val (.int j11), .unset, .unset, .unset] [])) _
      refine XS.aload X12.here hx rfl (hb hby at_111) rfl rfl ?_
      exact k
    obtain ⟨cq13, kq13, q13a, q13b, q13c⟩ := isOf hZ rfl E_b5
    obtain ⟨_, _, ⟨T13, L13, k13, n13⟩, -, X13, ⟨Lc13, hQ13, l13, y13, z13⟩, st13⟩ := X12.virtualBack hx (y := (⟨"com/example/kirchberg/kirchberg/model/pattern/PatternBudget", "isSpent", "()Z"⟩ : MethodName)) (z := (⟨"com/example/kirchberg/kirchberg/model/pattern/PatternBudget", "isSpent", "()Z"⟩ : MethodName)) hown (mvT hZ (hw _ (List.mem_of_getElem? (i := 14) rfl))) (mvT hZ (hw _ (List.mem_of_getElem? (i := 15) rfl))) (notFace_of_selects (args := #[]) (mvT hZ (hw _ (List.mem_of_getElem? (i := 17) rfl)))) (mvT hZ (hw _ (List.mem_of_getElem? (i := 17) rfl))) (mvT hZ (hw _ (List.mem_of_getElem? (i := 16) rfl))) (by decide) (backOf (W := 0) (rm3 l Z a0 hw [] b5 (u_4_a1_left j4 (u_4_a1_left j1 (100000000 : Int64))) T12.heap n0 Z0 F_b5_left) hZ (hw _ (List.mem_of_getElem? (i := 18) rfl)) (hw _ (List.mem_of_getElem? (i := 4) rfl)) (by decide) (by decide)) q13a q13c (g := (mkF m 113 #[.val (.long q1), .second, .val (.long q2), .second, .val (.int p3), .val (.long (100000000 : Int64)), .second, .val (.long j1), .second, .val (.long j3), .second, .val (.long j4), .second, .val (.ref b5), .val (.int j8), .val (.int j11), .unset, .unset, .unset] [(.ref b5)])) rfl (by rw [hml]; rfl) (Steps.refl _) (argsL := []) (rest := []) (lenOf pd_1 rfl) rfl (by show 2 * 0 + _ ≤ _; exact Nat.le_of_eq rfl) (hb hby at_113) (fun _ _ => ⟨rfl, rfl, (by decide : 1 + 0 ≤ _), (by decide : 1 + 0 ≤ _)⟩)
    dsimp only [Pt.U, Pt.locs, Pt.cells, Pt.slots] at X13 l13 y13 z13 st13 hQ13
    subst l13 y13 z13
    obtain ⟨rfl, N13q, e13⟩ := hQ13
    have NN := Fr.app NN N13q
    refine own_go (fun t k => st13.trans k) ?_
    show own_Go p.tables e below _ T13 (mkF m 116 #[.val (.long q1), .second, .val (.long q2), .second, .val (.int p3), .val (.long (100000000 : Int64)), .second, .val (.long j1), .second, .val (.long j3), .second, .val (.long j4), .second, .val (.ref b5), .val (.int j8), .val (.int j11), .unset, .unset, .unset] [(.int (r_3 (u_4_a1_left j4 (u_4_a1_left j1 (100000000 : Int64)))))])
    refine own_go (T' := T13) (g' := (mkF m 118 #[.val (.long q1), .second, .val (.long q2), .second, .val (.int p3), .val (.long (100000000 : Int64)), .second, .val (.long j1), .second, .val (.long j3), .second, .val (.long j4), .second, .val (.ref b5), .val (.int j8), .val (.int j11), .val (.int (r_3 (u_4_a1_left j4 (u_4_a1_left j1 (100000000 : Int64))))), .unset, .unset] [])) (fun t k => ?_) ?_
    · show Steps p.tables e below (T13.setTop (mkF m 116 #[.val (.long q1), .second, .val (.long q2), .second, .val (.int p3), .val (.long (100000000 : Int64)), .second, .val (.long j1), .second, .val (.long j3), .second, .val (.long j4), .second, .val (.ref b5), .val (.int j8), .val (.int j11), .unset, .unset, .unset] [(.int (r_3 (u_4_a1_left j4 (u_4_a1_left j1 (100000000 : Int64)))))])) _
      refine XS.istore X13.here hx rfl (hb hby at_116) rfl (l' := #[.val (.long q1), .second, .val (.long q2), .second, .val (.int p3), .val (.long (100000000 : Int64)), .second, .val (.long j1), .second, .val (.long j3), .second, .val (.long j4), .second, .val (.ref b5), .val (.int j8), .val (.int j11), .val (.int (r_3 (u_4_a1_left j4 (u_4_a1_left j1 (100000000 : Int64))))), .unset, .unset]) rfl ?_
      exact k
    show own_Go p.tables e below _ T13 (mkF m 118 #[.val (.long q1), .second, .val (.long q2), .second, .val (.int p3), .val (.long (100000000 : Int64)), .second, .val (.long j1), .second, .val (.long j3), .second, .val (.long j4), .second, .val (.ref b5), .val (.int j8), .val (.int j11), .val (.int (r_3 (u_4_a1_left j4 (u_4_a1_left j1 (100000000 : Int64))))), .unset, .unset] [])
    obtain ⟨j14, hj14⟩ : ∃ z : Int32, z = (r_3 (u_4_a1_left j4 (u_4_a1_left j1 (100000000 : Int64)))) := ⟨_, rfl⟩
    rw [← hj14]
    show own_Go p.tables e below _ T13 (mkF m 118 #[.val (.long q1), .second, .val (.long q2), .second, .val (.int p3), .val (.long (100000000 : Int64)), .second, .val (.long j1), .second, .val (.long j3), .second, .val (.long j4), .second, .val (.ref b5), .val (.int j8), .val (.int j11), .val (.int j14), .unset, .unset] [])
    refine own_go (T' := T13) (g' := (mkF m 123 #[.val (.long q1), .second, .val (.long q2), .second, .val (.int p3), .val (.long (100000000 : Int64)), .second, .val (.long j1), .second, .val (.long j3), .second, .val (.long j4), .second, .val (.ref b5), .val (.int j8), .val (.int j11), .val (.int j14), .unset, .unset] [(.int (lcmpW j1 (100000000 : Int64)))])) (fun t k => ?_) ?_
    · show Steps p.tables e below (T13.setTop (mkF m 118 #[.val (.long q1), .second, .val (.long q2), .second, .val (.int p3), .val (.long (100000000 : Int64)), .second, .val (.long j1), .second, .val (.long j3), .second, .val (.long j4), .second, .val (.ref b5), .val (.int j8), .val (.int j11), .val (.int j14), .unset, .unset] [])) _
      refine XS.lload X13.here hx rfl (hb hby at_118) rfl ?_
      show Steps p.tables e below (T13.setTop (mkF m 120 #[.val (.long q1), .second, .val (.long q2), .second, .val (.int p3), .val (.long (100000000 : Int64)), .second, .val (.long j1), .second, .val (.long j3), .second, .val (.long j4), .second, .val (.ref b5), .val (.int j8), .val (.int j11), .val (.int j14), .unset, .unset] [(.long j1)])) _
      refine XS.lload X13.here hx rfl (hb hby at_120) rfl ?_
      show Steps p.tables e below (T13.setTop (mkF m 122 #[.val (.long q1), .second, .val (.long q2), .second, .val (.int p3), .val (.long (100000000 : Int64)), .second, .val (.long j1), .second, .val (.long j3), .second, .val (.long j4), .second, .val (.ref b5), .val (.int j8), .val (.int j11), .val (.int j14), .unset, .unset] [(.long (100000000 : Int64)), (.long j1)])) _
      refine XS.lcmp X13.here hx rfl (hb hby at_122) rfl ?_
      exact k
    obtain ⟨j15, hj15, st16⟩ : ∃ (j15 : Int32), j15 = (if j1 < (100000000 : Int64) then (0 : Int32) else (1 : Int32)) ∧ ∀ t, Steps p.tables e below (T13.setTop (mkF m 131 #[.val (.long q1), .second, .val (.long q2), .second, .val (.int p3), .val (.long (100000000 : Int64)), .second, .val (.long j1), .second, .val (.long j3), .second, .val (.long j4), .second, .val (.ref b5), .val (.int j8), .val (.int j11), .val (.int j14), .unset, .unset] [(.int j15)])) t → Steps p.tables e below (T13.setTop (mkF m 123 #[.val (.long q1), .second, .val (.long q2), .second, .val (.int p3), .val (.long (100000000 : Int64)), .second, .val (.long j1), .second, .val (.long j3), .second, .val (.long j4), .second, .val (.ref b5), .val (.int j8), .val (.int j11), .val (.int j14), .unset, .unset] [(.int (lcmpW j1 (100000000 : Int64)))])) t := by
      by_cases hc123_3 : j1 < (100000000 : Int64)
      · skip
        refine ⟨(0 : Int32), (by simp only [if_pos hc123_3]), fun t k => ?_⟩
        show Steps p.tables e below (T13.setTop (mkF m 123 #[.val (.long q1), .second, .val (.long q2), .second, .val (.int p3), .val (.long (100000000 : Int64)), .second, .val (.long j1), .second, .val (.long j3), .second, .val (.long j4), .second, .val (.ref b5), .val (.int j8), .val (.int j11), .val (.int j14), .unset, .unset] [(.int (lcmpW j1 (100000000 : Int64)))])) _
        refine XS.ifYes X13.here hx rfl (pc0 := 123) (pc' := 130) rfl (hb hby at_123) rfl ((if0 _ _).trans (tlt ((lw_lt j1 (100000000 : Int64)).mpr hc123_3)).1) (by decide) (by decide) ?_
        show Steps p.tables e below (T13.setTop (mkF m 130 #[.val (.long q1), .second, .val (.long q2), .second, .val (.int p3), .val (.long (100000000 : Int64)), .second, .val (.long j1), .second, .val (.long j3), .second, .val (.long j4), .second, .val (.ref b5), .val (.int j8), .val (.int j11), .val (.int j14), .unset, .unset] [])) _
        refine XS.iconst X13.here hx rfl (hb hby at_130) ?_
        exact k
      · skip
        refine ⟨(1 : Int32), (by simp only [if_neg hc123_3]), fun t k => ?_⟩
        show Steps p.tables e below (T13.setTop (mkF m 123 #[.val (.long q1), .second, .val (.long q2), .second, .val (.int p3), .val (.long (100000000 : Int64)), .second, .val (.long j1), .second, .val (.long j3), .second, .val (.long j4), .second, .val (.ref b5), .val (.int j8), .val (.int j11), .val (.int j14), .unset, .unset] [(.int (lcmpW j1 (100000000 : Int64)))])) _
        refine XS.ifNo X13.here hx rfl (hb hby at_123) rfl ((if0 _ _).trans (flt (fun q => hc123_3 ((lw_lt j1 (100000000 : Int64)).mp q))).1) ?_
        show Steps p.tables e below (T13.setTop (mkF m 126 #[.val (.long q1), .second, .val (.long q2), .second, .val (.int p3), .val (.long (100000000 : Int64)), .second, .val (.long j1), .second, .val (.long j3), .second, .val (.long j4), .second, .val (.ref b5), .val (.int j8), .val (.int j11), .val (.int j14), .unset, .unset] [])) _
        refine XS.iconst X13.here hx rfl (hb hby at_126) ?_
        show Steps p.tables e below (T13.setTop (mkF m 127 #[.val (.long q1), .second, .val (.long q2), .second, .val (.int p3), .val (.long (100000000 : Int64)), .second, .val (.long j1), .second, .val (.long j3), .second, .val (.long j4), .second, .val (.ref b5), .val (.int j8), .val (.int j11), .val (.int j14), .unset, .unset] [(.int (1 : Int32))])) _
        refine XS.goto X13.here hx rfl (pc0 := 127) (pc' := 131) rfl (hb hby at_127) (by decide) (by decide) ?_
        exact k
    refine own_go st16 ?_
    show own_Go p.tables e below _ T13 (mkF m 131 #[.val (.long q1), .second, .val (.long q2), .second, .val (.int p3), .val (.long (100000000 : Int64)), .second, .val (.long j1), .second, .val (.long j3), .second, .val (.long j4), .second, .val (.ref b5), .val (.int j8), .val (.int j11), .val (.int j14), .unset, .unset] [(.int j15)])
    refine own_go (T' := T13) (g' := (mkF m 135 #[.val (.long q1), .second, .val (.long q2), .second, .val (.int p3), .val (.long (100000000 : Int64)), .second, .val (.long j1), .second, .val (.long j3), .second, .val (.long j4), .second, .val (.ref b5), .val (.int j8), .val (.int j11), .val (.int j14), .val (.int j15), .unset] [(.int j15)])) (fun t k => ?_) ?_
    · show Steps p.tables e below (T13.setTop (mkF m 131 #[.val (.long q1), .second, .val (.long q2), .second, .val (.int p3), .val (.long (100000000 : Int64)), .second, .val (.long j1), .second, .val (.long j3), .second, .val (.long j4), .second, .val (.ref b5), .val (.int j8), .val (.int j11), .val (.int j14), .unset, .unset] [(.int j15)])) _
      refine XS.istore X13.here hx rfl (hb hby at_131) rfl (l' := #[.val (.long q1), .second, .val (.long q2), .second, .val (.int p3), .val (.long (100000000 : Int64)), .second, .val (.long j1), .second, .val (.long j3), .second, .val (.long j4), .second, .val (.ref b5), .val (.int j8), .val (.int j11), .val (.int j14), .val (.int j15), .unset]) rfl ?_
      show Steps p.tables e below (T13.setTop (mkF m 133 #[.val (.long q1), .second, .val (.long q2), .second, .val (.int p3), .val (.long (100000000 : Int64)), .second, .val (.long j1), .second, .val (.long j3), .second, .val (.long j4), .second, .val (.ref b5), .val (.int j8), .val (.int j11), .val (.int j14), .val (.int j15), .unset] [])) _
      refine XS.iload X13.here hx rfl (hb hby at_133) rfl ?_
      exact k
    obtain ⟨j17, hj17, st18⟩ : ∃ (j17 : Int32), j17 = (if j15 = (0 : Int32) then (if j4 < j3 then (0 : Int32) else (1 : Int32)) else (1 : Int32)) ∧ ∀ t, Steps p.tables e below (T13.setTop (mkF m 151 #[.val (.long q1), .second, .val (.long q2), .second, .val (.int p3), .val (.long (100000000 : Int64)), .second, .val (.long j1), .second, .val (.long j3), .second, .val (.long j4), .second, .val (.ref b5), .val (.int j8), .val (.int j11), .val (.int j14), .val (.int j15), .unset] [(.int j17)])) t → Steps p.tables e below (T13.setTop (mkF m 135 #[.val (.long q1), .second, .val (.long q2), .second, .val (.int p3), .val (.long (100000000 : Int64)), .second, .val (.long j1), .second, .val (.long j3), .second, .val (.long j4), .second, .val (.ref b5), .val (.int j8), .val (.int j11), .val (.int j14), .val (.int j15), .unset] [(.int j15)])) t := by
      by_cases hc135_4 : j15 = (0 : Int32)
      · skip
        by_cases hc143_5 : j4 < j3
        · skip
          refine ⟨(0 : Int32), (by simp only [if_pos hc135_4, if_pos hc143_5]), fun t k => ?_⟩
          show Steps p.tables e below (T13.setTop (mkF m 135 #[.val (.long q1), .second, .val (.long q2), .second, .val (.int p3), .val (.long (100000000 : Int64)), .second, .val (.long j1), .second, .val (.long j3), .second, .val (.long j4), .second, .val (.ref b5), .val (.int j8), .val (.int j11), .val (.int j14), .val (.int j15), .unset] [(.int j15)])) _
          refine XS.ifNo X13.here hx rfl (hb hby at_135) rfl ((if0 _ _).trans (teq hc135_4).2) ?_
          show Steps p.tables e below (T13.setTop (mkF m 138 #[.val (.long q1), .second, .val (.long q2), .second, .val (.int p3), .val (.long (100000000 : Int64)), .second, .val (.long j1), .second, .val (.long j3), .second, .val (.long j4), .second, .val (.ref b5), .val (.int j8), .val (.int j11), .val (.int j14), .val (.int j15), .unset] [])) _
          refine XS.lload X13.here hx rfl (hb hby at_138) rfl ?_
          show Steps p.tables e below (T13.setTop (mkF m 140 #[.val (.long q1), .second, .val (.long q2), .second, .val (.int p3), .val (.long (100000000 : Int64)), .second, .val (.long j1), .second, .val (.long j3), .second, .val (.long j4), .second, .val (.ref b5), .val (.int j8), .val (.int j11), .val (.int j14), .val (.int j15), .unset] [(.long j4)])) _
          refine XS.lload X13.here hx rfl (hb hby at_140) rfl ?_
          show Steps p.tables e below (T13.setTop (mkF m 142 #[.val (.long q1), .second, .val (.long q2), .second, .val (.int p3), .val (.long (100000000 : Int64)), .second, .val (.long j1), .second, .val (.long j3), .second, .val (.long j4), .second, .val (.ref b5), .val (.int j8), .val (.int j11), .val (.int j14), .val (.int j15), .unset] [(.long j3), (.long j4)])) _
          refine XS.lcmp X13.here hx rfl (hb hby at_142) rfl ?_
          show Steps p.tables e below (T13.setTop (mkF m 143 #[.val (.long q1), .second, .val (.long q2), .second, .val (.int p3), .val (.long (100000000 : Int64)), .second, .val (.long j1), .second, .val (.long j3), .second, .val (.long j4), .second, .val (.ref b5), .val (.int j8), .val (.int j11), .val (.int j14), .val (.int j15), .unset] [(.int (lcmpW j4 j3))])) _
          refine XS.ifYes X13.here hx rfl (pc0 := 143) (pc' := 150) rfl (hb hby at_143) rfl ((if0 _ _).trans (tlt ((lw_lt j4 j3).mpr hc143_5)).1) (by decide) (by decide) ?_
          show Steps p.tables e below (T13.setTop (mkF m 150 #[.val (.long q1), .second, .val (.long q2), .second, .val (.int p3), .val (.long (100000000 : Int64)), .second, .val (.long j1), .second, .val (.long j3), .second, .val (.long j4), .second, .val (.ref b5), .val (.int j8), .val (.int j11), .val (.int j14), .val (.int j15), .unset] [])) _
          refine XS.iconst X13.here hx rfl (hb hby at_150) ?_
          exact k
        · skip
          refine ⟨(1 : Int32), (by simp only [if_pos hc135_4, if_neg hc143_5]), fun t k => ?_⟩
          show Steps p.tables e below (T13.setTop (mkF m 135 #[.val (.long q1), .second, .val (.long q2), .second, .val (.int p3), .val (.long (100000000 : Int64)), .second, .val (.long j1), .second, .val (.long j3), .second, .val (.long j4), .second, .val (.ref b5), .val (.int j8), .val (.int j11), .val (.int j14), .val (.int j15), .unset] [(.int j15)])) _
          refine XS.ifNo X13.here hx rfl (hb hby at_135) rfl ((if0 _ _).trans (teq hc135_4).2) ?_
          show Steps p.tables e below (T13.setTop (mkF m 138 #[.val (.long q1), .second, .val (.long q2), .second, .val (.int p3), .val (.long (100000000 : Int64)), .second, .val (.long j1), .second, .val (.long j3), .second, .val (.long j4), .second, .val (.ref b5), .val (.int j8), .val (.int j11), .val (.int j14), .val (.int j15), .unset] [])) _
          refine XS.lload X13.here hx rfl (hb hby at_138) rfl ?_
          show Steps p.tables e below (T13.setTop (mkF m 140 #[.val (.long q1), .second, .val (.long q2), .second, .val (.int p3), .val (.long (100000000 : Int64)), .second, .val (.long j1), .second, .val (.long j3), .second, .val (.long j4), .second, .val (.ref b5), .val (.int j8), .val (.int j11), .val (.int j14), .val (.int j15), .unset] [(.long j4)])) _
          refine XS.lload X13.here hx rfl (hb hby at_140) rfl ?_
          show Steps p.tables e below (T13.setTop (mkF m 142 #[.val (.long q1), .second, .val (.long q2), .second, .val (.int p3), .val (.long (100000000 : Int64)), .second, .val (.long j1), .second, .val (.long j3), .second, .val (.long j4), .second, .val (.ref b5), .val (.int j8), .val (.int j11), .val (.int j14), .val (.int j15), .unset] [(.long j3), (.long j4)])) _
          refine XS.lcmp X13.here hx rfl (hb hby at_142) rfl ?_
          show Steps p.tables e below (T13.setTop (mkF m 143 #[.val (.long q1), .second, .val (.long q2), .second, .val (.int p3), .val (.long (100000000 : Int64)), .second, .val (.long j1), .second, .val (.long j3), .second, .val (.long j4), .second, .val (.ref b5), .val (.int j8), .val (.int j11), .val (.int j14), .val (.int j15), .unset] [(.int (lcmpW j4 j3))])) _
          refine XS.ifNo X13.here hx rfl (hb hby at_143) rfl ((if0 _ _).trans (flt (fun q => hc143_5 ((lw_lt j4 j3).mp q))).1) ?_
          show Steps p.tables e below (T13.setTop (mkF m 146 #[.val (.long q1), .second, .val (.long q2), .second, .val (.int p3), .val (.long (100000000 : Int64)), .second, .val (.long j1), .second, .val (.long j3), .second, .val (.long j4), .second, .val (.ref b5), .val (.int j8), .val (.int j11), .val (.int j14), .val (.int j15), .unset] [])) _
          refine XS.iconst X13.here hx rfl (hb hby at_146) ?_
          show Steps p.tables e below (T13.setTop (mkF m 147 #[.val (.long q1), .second, .val (.long q2), .second, .val (.int p3), .val (.long (100000000 : Int64)), .second, .val (.long j1), .second, .val (.long j3), .second, .val (.long j4), .second, .val (.ref b5), .val (.int j8), .val (.int j11), .val (.int j14), .val (.int j15), .unset] [(.int (1 : Int32))])) _
          refine XS.goto X13.here hx rfl (pc0 := 147) (pc' := 151) rfl (hb hby at_147) (by decide) (by decide) ?_
          exact k
      · skip
        refine ⟨(1 : Int32), (by simp only [if_neg hc135_4]), fun t k => ?_⟩
        show Steps p.tables e below (T13.setTop (mkF m 135 #[.val (.long q1), .second, .val (.long q2), .second, .val (.int p3), .val (.long (100000000 : Int64)), .second, .val (.long j1), .second, .val (.long j3), .second, .val (.long j4), .second, .val (.ref b5), .val (.int j8), .val (.int j11), .val (.int j14), .val (.int j15), .unset] [(.int j15)])) _
        refine XS.ifYes X13.here hx rfl (pc0 := 135) (pc' := 146) rfl (hb hby at_135) rfl ((if0 _ _).trans (feq hc135_4).2) (by decide) (by decide) ?_
        show Steps p.tables e below (T13.setTop (mkF m 146 #[.val (.long q1), .second, .val (.long q2), .second, .val (.int p3), .val (.long (100000000 : Int64)), .second, .val (.long j1), .second, .val (.long j3), .second, .val (.long j4), .second, .val (.ref b5), .val (.int j8), .val (.int j11), .val (.int j14), .val (.int j15), .unset] [])) _
        refine XS.iconst X13.here hx rfl (hb hby at_146) ?_
        show Steps p.tables e below (T13.setTop (mkF m 147 #[.val (.long q1), .second, .val (.long q2), .second, .val (.int p3), .val (.long (100000000 : Int64)), .second, .val (.long j1), .second, .val (.long j3), .second, .val (.long j4), .second, .val (.ref b5), .val (.int j8), .val (.int j11), .val (.int j14), .val (.int j15), .unset] [(.int (1 : Int32))])) _
        refine XS.goto X13.here hx rfl (pc0 := 147) (pc' := 151) rfl (hb hby at_147) (by decide) (by decide) ?_
        exact k
    refine own_go st18 ?_
    show own_Go p.tables e below _ T13 (mkF m 151 #[.val (.long q1), .second, .val (.long q2), .second, .val (.int p3), .val (.long (100000000 : Int64)), .second, .val (.long j1), .second, .val (.long j3), .second, .val (.long j4), .second, .val (.ref b5), .val (.int j8), .val (.int j11), .val (.int j14), .val (.int j15), .unset] [(.int j17)])
    refine own_go (T' := T13) (g' := (mkF m 155 #[.val (.long q1), .second, .val (.long q2), .second, .val (.int p3), .val (.long (100000000 : Int64)), .second, .val (.long j1), .second, .val (.long j3), .second, .val (.long j4), .second, .val (.ref b5), .val (.int j8), .val (.int j11), .val (.int j14), .val (.int j15), .val (.int j17)] [(.int j8)])) (fun t k => ?_) ?_
    · show Steps p.tables e below (T13.setTop (mkF m 151 #[.val (.long q1), .second, .val (.long q2), .second, .val (.int p3), .val (.long (100000000 : Int64)), .second, .val (.long j1), .second, .val (.long j3), .second, .val (.long j4), .second, .val (.ref b5), .val (.int j8), .val (.int j11), .val (.int j14), .val (.int j15), .unset] [(.int j17)])) _
      refine XS.istore X13.here hx rfl (hb hby at_151) rfl (l' := #[.val (.long q1), .second, .val (.long q2), .second, .val (.int p3), .val (.long (100000000 : Int64)), .second, .val (.long j1), .second, .val (.long j3), .second, .val (.long j4), .second, .val (.ref b5), .val (.int j8), .val (.int j11), .val (.int j14), .val (.int j15), .val (.int j17)]) rfl ?_
      show Steps p.tables e below (T13.setTop (mkF m 153 #[.val (.long q1), .second, .val (.long q2), .second, .val (.int p3), .val (.long (100000000 : Int64)), .second, .val (.long j1), .second, .val (.long j3), .second, .val (.long j4), .second, .val (.ref b5), .val (.int j8), .val (.int j11), .val (.int j14), .val (.int j15), .val (.int j17)] [])) _
      refine XS.iload X13.here hx rfl (hb hby at_153) rfl ?_
      exact k
    obtain ⟨j19, hj19, st20⟩ : ∃ (j19 : Int32), j19 = (if j8 = (0 : Int32) then (if j11 = j15 then (if j14 = j17 then (1 : Int32) else (0 : Int32)) else (0 : Int32)) else (0 : Int32)) ∧ ∀ t, Steps p.tables e below (T13.setTop (mkF m 177 #[.val (.long q1), .second, .val (.long q2), .second, .val (.int p3), .val (.long (100000000 : Int64)), .second, .val (.long j1), .second, .val (.long j3), .second, .val (.long j4), .second, .val (.ref b5), .val (.int j8), .val (.int j11), .val (.int j14), .val (.int j15), .val (.int j17)] [(.int j19)])) t → Steps p.tables e below (T13.setTop (mkF m 155 #[.val (.long q1), .second, .val (.long q2), .second, .val (.int p3), .val (.long (100000000 : Int64)), .second, .val (.long j1), .second, .val (.long j3), .second, .val (.long j4), .second, .val (.ref b5), .val (.int j8), .val (.int j11), .val (.int j14), .val (.int j15), .val (.int j17)] [(.int j8)])) t := by
      by_cases hc155_6 : j8 = (0 : Int32)
      · skip
        by_cases hc162_7 : j11 = j15
        · skip
          by_cases hc169_8 : j14 = j17
          · skip
            refine ⟨(1 : Int32), (by simp only [if_pos hc155_6, if_pos hc162_7, if_pos hc169_8]), fun t k => ?_⟩
            show Steps p.tables e below (T13.setTop (mkF m 155 #[.val (.long q1), .second, .val (.long q2), .second, .val (.int p3), .val (.long (100000000 : Int64)), .second, .val (.long j1), .second, .val (.long j3), .second, .val (.long j4), .second, .val (.ref b5), .val (.int j8), .val (.int j11), .val (.int j14), .val (.int j15), .val (.int j17)] [(.int j8)])) _
            refine XS.ifNo X13.here hx rfl (hb hby at_155) rfl ((if0 _ _).trans (teq hc155_6).2) ?_
            show Steps p.tables e below (T13.setTop (mkF m 158 #[.val (.long q1), .second, .val (.long q2), .second, .val (.int p3), .val (.long (100000000 : Int64)), .second, .val (.long j1), .second, .val (.long j3), .second, .val (.long j4), .second, .val (.ref b5), .val (.int j8), .val (.int j11), .val (.int j14), .val (.int j15), .val (.int j17)] [])) _
            refine XS.iload X13.here hx rfl (hb hby at_158) rfl ?_
            show Steps p.tables e below (T13.setTop (mkF m 160 #[.val (.long q1), .second, .val (.long q2), .second, .val (.int p3), .val (.long (100000000 : Int64)), .second, .val (.long j1), .second, .val (.long j3), .second, .val (.long j4), .second, .val (.ref b5), .val (.int j8), .val (.int j11), .val (.int j14), .val (.int j15), .val (.int j17)] [(.int j11)])) _
            refine XS.iload X13.here hx rfl (hb hby at_160) rfl ?_
            show Steps p.tables e below (T13.setTop (mkF m 162 #[.val (.long q1), .second, .val (.long q2), .second, .val (.int p3), .val (.long (100000000 : Int64)), .second, .val (.long j1), .second, .val (.long j3), .second, .val (.long j4), .second, .val (.ref b5), .val (.int j8), .val (.int j11), .val (.int j14), .val (.int j15), .val (.int j17)] [(.int j15), (.int j11)])) _
            refine XS.icmpNo X13.here hx rfl (hb hby at_162) rfl (teq hc162_7).2 ?_
            show Steps p.tables e below (T13.setTop (mkF m 165 #[.val (.long q1), .second, .val (.long q2), .second, .val (.int p3), .val (.long (100000000 : Int64)), .second, .val (.long j1), .second, .val (.long j3), .second, .val (.long j4), .second, .val (.ref b5), .val (.int j8), .val (.int j11), .val (.int j14), .val (.int j15), .val (.int j17)] [])) _
            refine XS.iload X13.here hx rfl (hb hby at_165) rfl ?_
            show Steps p.tables e below (T13.setTop (mkF m 167 #[.val (.long q1), .second, .val (.long q2), .second, .val (.int p3), .val (.long (100000000 : Int64)), .second, .val (.long j1), .second, .val (.long j3), .second, .val (.long j4), .second, .val (.ref b5), .val (.int j8), .val (.int j11), .val (.int j14), .val (.int j15), .val (.int j17)] [(.int j14)])) _
            refine XS.iload X13.here hx rfl (hb hby at_167) rfl ?_
            show Steps p.tables e below (T13.setTop (mkF m 169 #[.val (.long q1), .second, .val (.long q2), .second, .val (.int p3), .val (.long (100000000 : Int64)), .second, .val (.long j1), .second, .val (.long j3), .second, .val (.long j4), .second, .val (.ref b5), .val (.int j8), .val (.int j11), .val (.int j14), .val (.int j15), .val (.int j17)] [(.int j17), (.int j14)])) _
            refine XS.icmpNo X13.here hx rfl (hb hby at_169) rfl (teq hc169_8).2 ?_
            show Steps p.tables e below (T13.setTop (mkF m 172 #[.val (.long q1), .second, .val (.long q2), .second, .val (.int p3), .val (.long (100000000 : Int64)), .second, .val (.long j1), .second, .val (.long j3), .second, .val (.long j4), .second, .val (.ref b5), .val (.int j8), .val (.int j11), .val (.int j14), .val (.int j15), .val (.int j17)] [])) _
            refine XS.iconst X13.here hx rfl (hb hby at_172) ?_
            show Steps p.tables e below (T13.setTop (mkF m 173 #[.val (.long q1), .second, .val (.long q2), .second, .val (.int p3), .val (.long (100000000 : Int64)), .second, .val (.long j1), .second, .val (.long j3), .second, .val (.long j4), .second, .val (.ref b5), .val (.int j8), .val (.int j11), .val (.int j14), .val (.int j15), .val (.int j17)] [(.int (1 : Int32))])) _
            refine XS.goto X13.here hx rfl (pc0 := 173) (pc' := 177) rfl (hb hby at_173) (by decide) (by decide) ?_
            exact k
          · skip
            refine ⟨(0 : Int32), (by simp only [if_pos hc155_6, if_pos hc162_7, if_neg hc169_8]), fun t k => ?_⟩
            show Steps p.tables e below (T13.setTop (mkF m 155 #[.val (.long q1), .second, .val (.long q2), .second, .val (.int p3), .val (.long (100000000 : Int64)), .second, .val (.long j1), .second, .val (.long j3), .second, .val (.long j4), .second, .val (.ref b5), .val (.int j8), .val (.int j11), .val (.int j14), .val (.int j15), .val (.int j17)] [(.int j8)])) _
            refine XS.ifNo X13.here hx rfl (hb hby at_155) rfl ((if0 _ _).trans (teq hc155_6).2) ?_
            show Steps p.tables e below (T13.setTop (mkF m 158 #[.val (.long q1), .second, .val (.long q2), .second, .val (.int p3), .val (.long (100000000 : Int64)), .second, .val (.long j1), .second, .val (.long j3), .second, .val (.long j4), .second, .val (.ref b5), .val (.int j8), .val (.int j11), .val (.int j14), .val (.int j15), .val (.int j17)] [])) _
            refine XS.iload X13.here hx rfl (hb hby at_158) rfl ?_
            show Steps p.tables e below (T13.setTop (mkF m 160 #[.val (.long q1), .second, .val (.long q2), .second, .val (.int p3), .val (.long (100000000 : Int64)), .second, .val (.long j1), .second, .val (.long j3), .second, .val (.long j4), .second, .val (.ref b5), .val (.int j8), .val (.int j11), .val (.int j14), .val (.int j15), .val (.int j17)] [(.int j11)])) _
            refine XS.iload X13.here hx rfl (hb hby at_160) rfl ?_
            show Steps p.tables e below (T13.setTop (mkF m 162 #[.val (.long q1), .second, .val (.long q2), .second, .val (.int p3), .val (.long (100000000 : Int64)), .second, .val (.long j1), .second, .val (.long j3), .second, .val (.long j4), .second, .val (.ref b5), .val (.int j8), .val (.int j11), .val (.int j14), .val (.int j15), .val (.int j17)] [(.int j15), (.int j11)])) _
            refine XS.icmpNo X13.here hx rfl (hb hby at_162) rfl (teq hc162_7).2 ?_
            show Steps p.tables e below (T13.setTop (mkF m 165 #[.val (.long q1), .second, .val (.long q2), .second, .val (.int p3), .val (.long (100000000 : Int64)), .second, .val (.long j1), .second, .val (.long j3), .second, .val (.long j4), .second, .val (.ref b5), .val (.int j8), .val (.int j11), .val (.int j14), .val (.int j15), .val (.int j17)] [])) _
            refine XS.iload X13.here hx rfl (hb hby at_165) rfl ?_
            show Steps p.tables e below (T13.setTop (mkF m 167 #[.val (.long q1), .second, .val (.long q2), .second, .val (.int p3), .val (.long (100000000 : Int64)), .second, .val (.long j1), .second, .val (.long j3), .second, .val (.long j4), .second, .val (.ref b5), .val (.int j8), .val (.int j11), .val (.int j14), .val (.int j15), .val (.int j17)] [(.int j14)])) _
            refine XS.iload X13.here hx rfl (hb hby at_167) rfl ?_
            show Steps p.tables e below (T13.setTop (mkF m 169 #[.val (.long q1), .second, .val (.long q2), .second, .val (.int p3), .val (.long (100000000 : Int64)), .second, .val (.long j1), .second, .val (.long j3), .second, .val (.long j4), .second, .val (.ref b5), .val (.int j8), .val (.int j11), .val (.int j14), .val (.int j15), .val (.int j17)] [(.int j17), (.int j14)])) _
            refine XS.icmpYes X13.here hx rfl (pc0 := 169) (pc' := 176) rfl (hb hby at_169) rfl (feq hc169_8).2 (by decide) (by decide) ?_
            show Steps p.tables e below (T13.setTop (mkF m 176 #[.val (.long q1), .second, .val (.long q2), .second, .val (.int p3), .val (.long (100000000 : Int64)), .second, .val (.long j1), .second, .val (.long j3), .second, .val (.long j4), .second, .val (.ref b5), .val (.int j8), .val (.int j11), .val (.int j14), .val (.int j15), .val (.int j17)] [])) _
            refine XS.iconst X13.here hx rfl (hb hby at_176) ?_
            exact k
        · skip
          refine ⟨(0 : Int32), (by simp only [if_pos hc155_6, if_neg hc162_7]), fun t k => ?_⟩
          show Steps p.tables e below (T13.setTop (mkF m 155 #[.val (.long q1), .second, .val (.long q2), .second, .val (.int p3), .val (.long (100000000 : Int64)), .second, .val (.long j1), .second, .val (.long j3), .second, .val (.long j4), .second, .val (.ref b5), .val (.int j8), .val (.int j11), .val (.int j14), .val (.int j15), .val (.int j17)] [(.int j8)])) _
          refine XS.ifNo X13.here hx rfl (hb hby at_155) rfl ((if0 _ _).trans (teq hc155_6).2) ?_
          show Steps p.tables e below (T13.setTop (mkF m 158 #[.val (.long q1), .second, .val (.long q2), .second, .val (.int p3), .val (.long (100000000 : Int64)), .second, .val (.long j1), .second, .val (.long j3), .second, .val (.long j4), .second, .val (.ref b5), .val (.int j8), .val (.int j11), .val (.int j14), .val (.int j15), .val (.int j17)] [])) _
          refine XS.iload X13.here hx rfl (hb hby at_158) rfl ?_
          show Steps p.tables e below (T13.setTop (mkF m 160 #[.val (.long q1), .second, .val (.long q2), .second, .val (.int p3), .val (.long (100000000 : Int64)), .second, .val (.long j1), .second, .val (.long j3), .second, .val (.long j4), .second, .val (.ref b5), .val (.int j8), .val (.int j11), .val (.int j14), .val (.int j15), .val (.int j17)] [(.int j11)])) _
          refine XS.iload X13.here hx rfl (hb hby at_160) rfl ?_
          show Steps p.tables e below (T13.setTop (mkF m 162 #[.val (.long q1), .second, .val (.long q2), .second, .val (.int p3), .val (.long (100000000 : Int64)), .second, .val (.long j1), .second, .val (.long j3), .second, .val (.long j4), .second, .val (.ref b5), .val (.int j8), .val (.int j11), .val (.int j14), .val (.int j15), .val (.int j17)] [(.int j15), (.int j11)])) _
          refine XS.icmpYes X13.here hx rfl (pc0 := 162) (pc' := 176) rfl (hb hby at_162) rfl (feq hc162_7).2 (by decide) (by decide) ?_
          show Steps p.tables e below (T13.setTop (mkF m 176 #[.val (.long q1), .second, .val (.long q2), .second, .val (.int p3), .val (.long (100000000 : Int64)), .second, .val (.long j1), .second, .val (.long j3), .second, .val (.long j4), .second, .val (.ref b5), .val (.int j8), .val (.int j11), .val (.int j14), .val (.int j15), .val (.int j17)] [])) _
          refine XS.iconst X13.here hx rfl (hb hby at_176) ?_
          exact k
      · skip
        refine ⟨(0 : Int32), (by simp only [if_neg hc155_6]), fun t k => ?_⟩
        show Steps p.tables e below (T13.setTop (mkF m 155 #[.val (.long q1), .second, .val (.long q2), .second, .val (.int p3), .val (.long (100000000 : Int64)), .second, .val (.long j1), .second, .val (.long j3), .second, .val (.long j4), .second, .val (.ref b5), .val (.int j8), .val (.int j11), .val (.int j14), .val (.int j15), .val (.int j17)] [(.int j8)])) _
        refine XS.ifYes X13.here hx rfl (pc0 := 155) (pc' := 176) rfl (hb hby at_155) rfl ((if0 _ _).trans (feq hc155_6).2) (by decide) (by decide) ?_
        show Steps p.tables e below (T13.setTop (mkF m 176 #[.val (.long q1), .second, .val (.long q2), .second, .val (.int p3), .val (.long (100000000 : Int64)), .second, .val (.long j1), .second, .val (.long j3), .second, .val (.long j4), .second, .val (.ref b5), .val (.int j8), .val (.int j11), .val (.int j14), .val (.int j15), .val (.int j17)] [])) _
        refine XS.iconst X13.here hx rfl (hb hby at_176) ?_
        exact k
    refine own_go st20 ?_
    show own_Go p.tables e below _ T13 (mkF m 177 #[.val (.long q1), .second, .val (.long q2), .second, .val (.int p3), .val (.long (100000000 : Int64)), .second, .val (.long j1), .second, .val (.long j3), .second, .val (.long j4), .second, .val (.ref b5), .val (.int j8), .val (.int j11), .val (.int j14), .val (.int j15), .val (.int j17)] [(.int j19)])
    have hv1 : (nar .boolean j19) = 1 := own_yes_t q1 q2 p3 j1 j3 j4 j8 j11 j14 j15 j17 j19 hj1 hj3 hj4 hj8 hj11 hj14 hj15 hj17 hj19 hc45_2
    obtain ⟨fs, hr, hrun, hended, hW, hsame⟩ := X13.leave (v := some (.int (nar .boolean j19))) (fun h => by rw [Bd.returns] at h; cases h)
    refine ⟨_, _, ?_, hrun, hended, _, _, rfl, ?_, ⟨_, rfl⟩, hW, hsame.mono (by decide) (by decide)⟩
    · exact retN X13 hx (t := .boolean) Bd.returns (by simp) (hb hby at_177) hr
    · show Q0 Z q1 q2 p3 h0 n0 _ _ _
      exact ⟨by rw [hv1], NN⟩
  · skip
    refine own_go (T' := s₁) (g' := (mkF m 59 #[.val (.long q1), .second, .val (.long q2), .second, .val (.int p3), .val (.long (100000000 : Int64)), .second, .val (.long j1), .second, .val (.long j3), .second, .unset, .unset, .unset, .unset, .unset, .unset, .unset, .unset] [(.long ((j3 - (1 : Int64)) + (q2 &&& (3 : Int64)))), (.long (0 : Int64))])) (fun t k => ?_) ?_
    · show Steps p.tables e below (s₁.setTop (mkF m 45 #[.val (.long q1), .second, .val (.long q2), .second, .val (.int p3), .val (.long (100000000 : Int64)), .second, .val (.long j1), .second, .val (.long j3), .second, .unset, .unset, .unset, .unset, .unset, .unset, .unset, .unset] [(.int (p3 &&& (2 : Int32)))])) _
      refine XS.ifNo X0.here hx rfl (hb hby at_45) rfl ((if0 _ _).trans (feq hc45_2).1) ?_
      show Steps p.tables e below (s₁.setTop (mkF m 48 #[.val (.long q1), .second, .val (.long q2), .second, .val (.int p3), .val (.long (100000000 : Int64)), .second, .val (.long j1), .second, .val (.long j3), .second, .unset, .unset, .unset, .unset, .unset, .unset, .unset, .unset] [])) _
      refine XS.lconst X0.here hx rfl (hb hby at_48) ?_
      show Steps p.tables e below (s₁.setTop (mkF m 49 #[.val (.long q1), .second, .val (.long q2), .second, .val (.int p3), .val (.long (100000000 : Int64)), .second, .val (.long j1), .second, .val (.long j3), .second, .unset, .unset, .unset, .unset, .unset, .unset, .unset, .unset] [(.long (0 : Int64))])) _
      refine XS.lload X0.here hx rfl (hb hby at_49) rfl ?_
      show Steps p.tables e below (s₁.setTop (mkF m 51 #[.val (.long q1), .second, .val (.long q2), .second, .val (.int p3), .val (.long (100000000 : Int64)), .second, .val (.long j1), .second, .val (.long j3), .second, .unset, .unset, .unset, .unset, .unset, .unset, .unset, .unset] [(.long j3), (.long (0 : Int64))])) _
      refine XS.lconst X0.here hx rfl (hb hby at_51) ?_
      show Steps p.tables e below (s₁.setTop (mkF m 52 #[.val (.long q1), .second, .val (.long q2), .second, .val (.int p3), .val (.long (100000000 : Int64)), .second, .val (.long j1), .second, .val (.long j3), .second, .unset, .unset, .unset, .unset, .unset, .unset, .unset, .unset] [(.long (1 : Int64)), (.long j3), (.long (0 : Int64))])) _
      refine XS.lsub X0.here hx rfl (hb hby at_52) rfl ?_
      show Steps p.tables e below (s₁.setTop (mkF m 53 #[.val (.long q1), .second, .val (.long q2), .second, .val (.int p3), .val (.long (100000000 : Int64)), .second, .val (.long j1), .second, .val (.long j3), .second, .unset, .unset, .unset, .unset, .unset, .unset, .unset, .unset] [(.long (j3 - (1 : Int64))), (.long (0 : Int64))])) _
      refine XS.lloadN X0.here hx rfl (hb hby at_53) rfl ?_
      show Steps p.tables e below (s₁.setTop (mkF m 54 #[.val (.long q1), .second, .val (.long q2), .second, .val (.int p3), .val (.long (100000000 : Int64)), .second, .val (.long j1), .second, .val (.long j3), .second, .unset, .unset, .unset, .unset, .unset, .unset, .unset, .unset] [(.long q2), (.long (j3 - (1 : Int64))), (.long (0 : Int64))])) _
      refine X0.ldc2Long hx hown (mvT hZ (hw _ (List.mem_of_getElem? (i := 25) rfl))) (g := (mkF m 54 #[.val (.long q1), .second, .val (.long q2), .second, .val (.int p3), .val (.long (100000000 : Int64)), .second, .val (.long j1), .second, .val (.long j3), .second, .unset, .unset, .unset, .unset, .unset, .unset, .unset, .unset] [(.long q2), (.long (j3 - (1 : Int64))), (.long (0 : Int64))])) rfl (hb hby at_54) _ ?_
      show Steps p.tables e below (s₁.setTop (mkF m 57 #[.val (.long q1), .second, .val (.long q2), .second, .val (.int p3), .val (.long (100000000 : Int64)), .second, .val (.long j1), .second, .val (.long j3), .second, .unset, .unset, .unset, .unset, .unset, .unset, .unset, .unset] [(.long (3 : Int64)), (.long q2), (.long (j3 - (1 : Int64))), (.long (0 : Int64))])) _
      refine XS.land X0.here hx rfl (hb hby at_57) rfl ?_
      show Steps p.tables e below (s₁.setTop (mkF m 58 #[.val (.long q1), .second, .val (.long q2), .second, .val (.int p3), .val (.long (100000000 : Int64)), .second, .val (.long j1), .second, .val (.long j3), .second, .unset, .unset, .unset, .unset, .unset, .unset, .unset, .unset] [(.long (q2 &&& (3 : Int64))), (.long (j3 - (1 : Int64))), (.long (0 : Int64))])) _
      refine XS.ladd X0.here hx rfl (hb hby at_58) rfl ?_
      exact k
    obtain ⟨_, _, ⟨T21, L21, k21, n21⟩, -, X21, ⟨Lc21, hQ21, l21, y21, z21⟩, st21⟩ := Jvm.LawKit.callS X0 hx (y := (⟨"java/lang/Math", "max", "(JJ)J"⟩ : MethodName)) hown (mvT hZ (hw _ (List.mem_of_getElem? (i := 26) rfl))) (mvT hZ (hw _ (List.mem_of_getElem? (i := 27) rfl))) (mvT hZ (hw _ (List.mem_of_getElem? (i := 28) rfl))) (mvT hZ (hw _ (List.mem_of_getElem? (i := 29) rfl))) (by decide) (backOf (W := 0) (rm5 l Z a0 hw [] (0 : Int64) ((j3 - (1 : Int64)) + (q2 &&& (3 : Int64))) h0 n0 Z0 ) hZ (hw _ (List.mem_of_getElem? (i := 29) rfl)) (hw _ (List.mem_of_getElem? (i := 28) rfl)) (by decide) (by decide)) (g := (mkF m 59 #[.val (.long q1), .second, .val (.long q2), .second, .val (.int p3), .val (.long (100000000 : Int64)), .second, .val (.long j1), .second, .val (.long j3), .second, .unset, .unset, .unset, .unset, .unset, .unset, .unset, .unset] [(.long ((j3 - (1 : Int64)) + (q2 &&& (3 : Int64)))), (.long (0 : Int64))])) rfl (by rw [hml]; rfl) (argsL := [(.long (0 : Int64)), (.long ((j3 - (1 : Int64)) + (q2 &&& (3 : Int64))))]) (rest := []) (lenOf pd_3 rfl) rfl (by show 2 * 0 + _ ≤ _; exact Nat.le_of_eq rfl) (hb hby at_59) (fun _ _ => ⟨rfl, e0, (by decide : 0 + 0 ≤ _), (by decide : 0 + 0 ≤ _)⟩)
    dsimp only [Pt.U, Pt.locs, Pt.cells, Pt.slots] at X21 l21 y21 z21 st21 hQ21
    subst l21 y21 z21
    obtain ⟨rfl, N21q, e21⟩ := hQ21
    have NN := Fr.app NN N21q
    refine own_go st21 ?_
    show own_Go p.tables e below _ T21 (mkF m 62 #[.val (.long q1), .second, .val (.long q2), .second, .val (.int p3), .val (.long (100000000 : Int64)), .second, .val (.long j1), .second, .val (.long j3), .second, .unset, .unset, .unset, .unset, .unset, .unset, .unset, .unset] [(.long (r_5 (0 : Int64) ((j3 - (1 : Int64)) + (q2 &&& (3 : Int64)))))])
    refine own_go (T' := T21) (g' := (mkF m 72 #[.val (.long q1), .second, .val (.long q2), .second, .val (.int p3), .val (.long (100000000 : Int64)), .second, .val (.long j1), .second, .val (.long j3), .second, .val (.long (r_5 (0 : Int64) ((j3 - (1 : Int64)) + (q2 &&& (3 : Int64))))), .second, .unset, .unset, .unset, .unset, .unset, .unset] [])) (fun t k => ?_) ?_
    · show Steps p.tables e below (T21.setTop (mkF m 62 #[.val (.long q1), .second, .val (.long q2), .second, .val (.int p3), .val (.long (100000000 : Int64)), .second, .val (.long j1), .second, .val (.long j3), .second, .unset, .unset, .unset, .unset, .unset, .unset, .unset, .unset] [(.long (r_5 (0 : Int64) ((j3 - (1 : Int64)) + (q2 &&& (3 : Int64)))))])) _
      refine XS.goto X21.here hx rfl (pc0 := 62) (pc' := 70) rfl (hb hby at_62) (by decide) (by decide) ?_
      show Steps p.tables e below (T21.setTop (mkF m 70 #[.val (.long q1), .second, .val (.long q2), .second, .val (.int p3), .val (.long (100000000 : Int64)), .second, .val (.long j1), .second, .val (.long j3), .second, .unset, .unset, .unset, .unset, .unset, .unset, .unset, .unset] [(.long (r_5 (0 : Int64) ((j3 - (1 : Int64)) + (q2 &&& (3 : Int64)))))])) _
      refine XS.lstore X21.here hx rfl (hb hby at_70) rfl (l' := #[.val (.long q1), .second, .val (.long q2), .second, .val (.int p3), .val (.long (100000000 : Int64)), .second, .val (.long j1), .second, .val (.long j3), .second, .val (.long (r_5 (0 : Int64) ((j3 - (1 : Int64)) + (q2 &&& (3 : Int64))))), .second, .unset, .unset, .unset, .unset, .unset, .unset]) rfl ?_
      exact k
    show own_Go p.tables e below _ T21 (mkF m 72 #[.val (.long q1), .second, .val (.long q2), .second, .val (.int p3), .val (.long (100000000 : Int64)), .second, .val (.long j1), .second, .val (.long j3), .second, .val (.long (r_5 (0 : Int64) ((j3 - (1 : Int64)) + (q2 &&& (3 : Int64))))), .second, .unset, .unset, .unset, .unset, .unset, .unset] [])
    obtain ⟨j22, hj22⟩ : ∃ z : Int64, z = (r_5 (0 : Int64) ((j3 - (1 : Int64)) + (q2 &&& (3 : Int64)))) := ⟨_, rfl⟩
    rw [← hj22]
    show own_Go p.tables e below _ T21 (mkF m 72 #[.val (.long q1), .second, .val (.long q2), .second, .val (.int p3), .val (.long (100000000 : Int64)), .second, .val (.long j1), .second, .val (.long j3), .second, .val (.long j22), .second, .unset, .unset, .unset, .unset, .unset, .unset] [])
    obtain ⟨T23, h23, X23, e23, E23, A23, D23, -, st23⟩ := newO X21 hx hZ hown (hw _ (List.mem_of_getElem? (i := 2) rfl)) (hw _ (List.mem_of_getElem? (i := 3) rfl)) (hw _ (List.mem_of_getElem? (i := 4) rfl)) e21 (g := (mkF m 72 #[.val (.long q1), .second, .val (.long q2), .second, .val (.int p3), .val (.long (100000000 : Int64)), .second, .val (.long j1), .second, .val (.long j3), .second, .val (.long j22), .second, .unset, .unset, .unset, .unset, .unset, .unset] [])) rfl (hb hby at_72) (by decide) (by decide)
    obtain ⟨b23, g23⟩ : ∃ z, z = h0.size := ⟨_, rfl⟩
    rw [← g23] at A23 D23 st23
    have g_b23 : n0 ≤ b23 := Nat.le_trans Z0 (Nat.le_of_eq g23.symm)
    have sz_b23 : h0.size ≤ b23 := Nat.le_trans KK.1 (Nat.le_of_eq g23.symm)
    have Z0 := Nat.le_trans Z0 E23.1
    have KK := KK.ext E23
    have E_b23 := A23
    have F_b23_left : Fld Z h23 b23 "com/example/kirchberg/kirchberg/model/pattern/PatternBudget" "left" "J" (.long (0 : Int64)) := D23 (Or.inl (hw _ (List.mem_of_getElem? (i := 13) rfl))) (ty := .long) (by decide)
    refine own_go st23 ?_
    show own_Go p.tables e below _ T23 (mkF m 75 #[.val (.long q1), .second, .val (.long q2), .second, .val (.int p3), .val (.long (100000000 : Int64)), .second, .val (.long j1), .second, .val (.long j3), .second, .val (.long j22), .second, .unset, .unset, .unset, .unset, .unset, .unset] [(.ref b23)])
    refine own_go (T' := T23) (g' := (mkF m 76 #[.val (.long q1), .second, .val (.long q2), .second, .val (.int p3), .val (.long (100000000 : Int64)), .second, .val (.long j1), .second, .val (.long j3), .second, .val (.long j22), .second, .unset, .unset, .unset, .unset, .unset, .unset] [(.ref b23), (.ref b23)])) (fun t k => ?_) ?_
    · show Steps p.tables e below (T23.setTop (mkF m 75 #[.val (.long q1), .second, .val (.long q2), .second, .val (.int p3), .val (.long (100000000 : Int64)), .second, .val (.long j1), .second, .val (.long j3), .second, .val (.long j22), .second, .unset, .unset, .unset, .unset, .unset, .unset] [(.ref b23)])) _
      refine XS.dup X23.here hx rfl (hb hby at_75) rfl rfl ?_
      exact k
    obtain ⟨_, _, ⟨T24, L24, k24, n24⟩, -, X24, ⟨Lc24, hQ24, l24, y24, z24⟩, st24⟩ := X23.specialBack hx (y := (⟨"com/example/kirchberg/kirchberg/model/pattern/PatternBudget", "<init>", "()V"⟩ : MethodName)) rfl hown (mvT hZ (hw _ (List.mem_of_getElem? (i := 5) rfl))) (mvT hZ (hw _ (List.mem_of_getElem? (i := 6) rfl))) (mvT hZ (hw _ (List.mem_of_getElem? (i := 7) rfl))) (by decide) (backOf (W := 1) (rm1 l Z a0 hw [] b23 (.long (0 : Int64)) h23 n0 Z0 E_b23 F_b23_left g_b23) hZ (hw _ (List.mem_of_getElem? (i := 7) rfl)) (hw _ (List.mem_of_getElem? (i := 4) rfl)) (by decide) (by decide)) (g := (mkF m 76 #[.val (.long q1), .second, .val (.long q2), .second, .val (.int p3), .val (.long (100000000 : Int64)), .second, .val (.long j1), .second, .val (.long j3), .second, .val (.long j22), .second, .unset, .unset, .unset, .unset, .unset, .unset] [(.ref b23), (.ref b23)])) rfl (by rw [hml]; rfl) (Steps.refl _) (a := b23) (argsL := []) (rest := [(.ref b23)]) (lenOf pd_0 rfl) rfl (by show 2 * 0 + _ ≤ _; exact Nat.le_of_eq rfl) (hb hby at_76) (fun _ _ => ⟨rfl, e23, (by decide : 1 + 0 ≤ _), (by decide : 1 + 0 ≤ _)⟩)
    dsimp only [Pt.U, Pt.locs, Pt.cells, Pt.slots] at X24 l24 y24 z24 st24 hQ24
    subst l24 y24 z24
    obtain ⟨rfl, N24q, K24, Q24_0, Q24_1⟩ := hQ24
    have E_b23 := Q24_0
    have F_b23_left := Q24_1
    have Z0 := Nat.le_trans Z0 K24.1
    have KK := KK.trans K24 (allS (Or.inr sz_b23) all0)
    have NN := Fr.app NN N24q
    refine own_go (fun t k => st24.trans k) ?_
    show own_Go p.tables e below _ T24 (mkF m 79 #[.val (.long q1), .second, .val (.long q2), .second, .val (.int p3), .val (.long (100000000 : Int64)), .second, .val (.long j1), .second, .val (.long j3), .second, .val (.long j22), .second, .unset, .unset, .unset, .unset, .unset, .unset] [(.ref b23)])
    refine own_go (T' := T24) (g' := (mkF m 83 #[.val (.long q1), .second, .val (.long q2), .second, .val (.int p3), .val (.long (100000000 : Int64)), .second, .val (.long j1), .second, .val (.long j3), .second, .val (.long j22), .second, .val (.ref b23), .unset, .unset, .unset, .unset, .unset] [(.ref b23)])) (fun t k => ?_) ?_
    · show Steps p.tables e below (T24.setTop (mkF m 79 #[.val (.long q1), .second, .val (.long q2), .second, .val (.int p3), .val (.long (100000000 : Int64)), .second, .val (.long j1), .second, .val (.long j3), .second, .val (.long j22), .second, .unset, .unset, .unset, .unset, .unset, .unset] [(.ref b23)])) _
      refine XS.astore X24.here hx rfl (hb hby at_79) rfl rfl (l' := #[.val (.long q1), .second, .val (.long q2), .second, .val (.int p3), .val (.long (100000000 : Int64)), .second, .val (.long j1), .second, .val (.long j3), .second, .val (.long j22), .second, .val (.ref b23), .unset, .unset, .unset, .unset, .unset]) rfl ?_
      show Steps p.tables e below (T24.setTop (mkF m 81 #[.val (.long q1), .second, .val (.long q2), .second, .val (.int p3), .val (.long (100000000 : Int64)), .second, .val (.long j1), .second, .val (.long j3), .second, .val (.long j22), .second, .val (.ref b23), .unset, .unset, .unset, .unset, .unset] [])) _
      refine XS.aload X24.here hx rfl (hb hby at_81) rfl rfl ?_
      exact k
    obtain ⟨cq25, kq25, q25a, q25b, q25c⟩ := isOf hZ rfl E_b23
    obtain ⟨_, _, ⟨T25, L25, k25, n25⟩, -, X25, ⟨Lc25, hQ25, l25, y25, z25⟩, st25⟩ := X24.virtualBack hx (y := (⟨"com/example/kirchberg/kirchberg/model/pattern/PatternBudget", "isSpent", "()Z"⟩ : MethodName)) (z := (⟨"com/example/kirchberg/kirchberg/model/pattern/PatternBudget", "isSpent", "()Z"⟩ : MethodName)) hown (mvT hZ (hw _ (List.mem_of_getElem? (i := 14) rfl))) (mvT hZ (hw _ (List.mem_of_getElem? (i := 15) rfl))) (notFace_of_selects (args := #[]) (mvT hZ (hw _ (List.mem_of_getElem? (i := 17) rfl)))) (mvT hZ (hw _ (List.mem_of_getElem? (i := 17) rfl))) (mvT hZ (hw _ (List.mem_of_getElem? (i := 16) rfl))) (by decide) (backOf (W := 0) (rm3 l Z a0 hw [] b23 (100000000 : Int64) T24.heap n0 Z0 F_b23_left) hZ (hw _ (List.mem_of_getElem? (i := 18) rfl)) (hw _ (List.mem_of_getElem? (i := 4) rfl)) (by decide) (by decide)) q25a q25c (g := (mkF m 83 #[.val (.long q1), .second, .val (.long q2), .second, .val (.int p3), .val (.long (100000000 : Int64)), .second, .val (.long j1), .second, .val (.long j3), .second, .val (.long j22), .second, .val (.ref b23), .unset, .unset, .unset, .unset, .unset] [(.ref b23)])) rfl (by rw [hml]; rfl) (Steps.refl _) (argsL := []) (rest := []) (lenOf pd_1 rfl) rfl (by show 2 * 0 + _ ≤ _; exact Nat.le_of_eq rfl) (hb hby at_83) (fun _ _ => ⟨rfl, rfl, (by decide : 1 + 0 ≤ _), (by decide : 1 + 0 ≤ _)⟩)
    dsimp only [Pt.U, Pt.locs, Pt.cells, Pt.slots] at X25 l25 y25 z25 st25 hQ25
    subst l25 y25 z25
    obtain ⟨rfl, N25q, e25⟩ := hQ25
    have NN := Fr.app NN N25q
    refine own_go (fun t k => st25.trans k) ?_
    show own_Go p.tables e below _ T25 (mkF m 86 #[.val (.long q1), .second, .val (.long q2), .second, .val (.int p3), .val (.long (100000000 : Int64)), .second, .val (.long j1), .second, .val (.long j3), .second, .val (.long j22), .second, .val (.ref b23), .unset, .unset, .unset, .unset, .unset] [(.int (r_3 (100000000 : Int64)))])
    refine own_go (T' := T25) (g' := (mkF m 88 #[.val (.long q1), .second, .val (.long q2), .second, .val (.int p3), .val (.long (100000000 : Int64)), .second, .val (.long j1), .second, .val (.long j3), .second, .val (.long j22), .second, .val (.ref b23), .val (.int (r_3 (100000000 : Int64))), .unset, .unset, .unset, .unset] [])) (fun t k => ?_) ?_
    · show Steps p.tables e below (T25.setTop (mkF m 86 #[.val (.long q1), .second, .val (.long q2), .second, .val (.int p3), .val (.long (100000000 : Int64)), .second, .val (.long j1), .second, .val (.long j3), .second, .val (.long j22), .second, .val (.ref b23), .unset, .unset, .unset, .unset, .unset] [(.int (r_3 (100000000 : Int64)))])) _
      refine XS.istore X25.here hx rfl (hb hby at_86) rfl (l' := #[.val (.long q1), .second, .val (.long q2), .second, .val (.int p3), .val (.long (100000000 : Int64)), .second, .val (.long j1), .second, .val (.long j3), .second, .val (.long j22), .second, .val (.ref b23), .val (.int (r_3 (100000000 : Int64))), .unset, .unset, .unset, .unset]) rfl ?_
      exact k
    show own_Go p.tables e below _ T25 (mkF m 88 #[.val (.long q1), .second, .val (.long q2), .second, .val (.int p3), .val (.long (100000000 : Int64)), .second, .val (.long j1), .second, .val (.long j3), .second, .val (.long j22), .second, .val (.ref b23), .val (.int (r_3 (100000000 : Int64))), .unset, .unset, .unset, .unset] [])
    obtain ⟨j26, hj26⟩ : ∃ z : Int32, z = (r_3 (100000000 : Int64)) := ⟨_, rfl⟩
    rw [← hj26]
    show own_Go p.tables e below _ T25 (mkF m 88 #[.val (.long q1), .second, .val (.long q2), .second, .val (.int p3), .val (.long (100000000 : Int64)), .second, .val (.long j1), .second, .val (.long j3), .second, .val (.long j22), .second, .val (.ref b23), .val (.int j26), .unset, .unset, .unset, .unset] [])
    refine own_go (T' := T25) (g' := (mkF m 92 #[.val (.long q1), .second, .val (.long q2), .second, .val (.int p3), .val (.long (100000000 : Int64)), .second, .val (.long j1), .second, .val (.long j3), .second, .val (.long j22), .second, .val (.ref b23), .val (.int j26), .unset, .unset, .unset, .unset] [(.long j1), (.ref b23)])) (fun t k => ?_) ?_
    · show Steps p.tables e below (T25.setTop (mkF m 88 #[.val (.long q1), .second, .val (.long q2), .second, .val (.int p3), .val (.long (100000000 : Int64)), .second, .val (.long j1), .second, .val (.long j3), .second, .val (.long j22), .second, .val (.ref b23), .val (.int j26), .unset, .unset, .unset, .unset] [])) _
      refine XS.aload X25.here hx rfl (hb hby at_88) rfl rfl ?_
      show Steps p.tables e below (T25.setTop (mkF m 90 #[.val (.long q1), .second, .val (.long q2), .second, .val (.int p3), .val (.long (100000000 : Int64)), .second, .val (.long j1), .second, .val (.long j3), .second, .val (.long j22), .second, .val (.ref b23), .val (.int j26), .unset, .unset, .unset, .unset] [(.ref b23)])) _
      refine XS.lload X25.here hx rfl (hb hby at_90) rfl ?_
      exact k
    obtain ⟨cq27, kq27, q27a, q27b, q27c⟩ := isOf hZ e25 E_b23
    obtain ⟨_, _, ⟨T27, L27, k27, n27⟩, -, X27, ⟨Lc27, hQ27, l27, y27, z27⟩, st27⟩ := X25.virtualBack hx (y := (⟨"com/example/kirchberg/kirchberg/model/pattern/PatternBudget", "take", "(J)Z"⟩ : MethodName)) (z := (⟨"com/example/kirchberg/kirchberg/model/pattern/PatternBudget", "take", "(J)Z"⟩ : MethodName)) hown (mvT hZ (hw _ (List.mem_of_getElem? (i := 19) rfl))) (mvT hZ (hw _ (List.mem_of_getElem? (i := 20) rfl))) (notFace_of_selects (args := #[]) (mvT hZ (hw _ (List.mem_of_getElem? (i := 22) rfl)))) (mvT hZ (hw _ (List.mem_of_getElem? (i := 22) rfl))) (mvT hZ (hw _ (List.mem_of_getElem? (i := 21) rfl))) (by decide) (backOf (W := 0) (rm4 l Z a0 hw [] b23 j1 (100000000 : Int64) T24.heap n0 Z0 F_b23_left E_b23 g_b23) hZ (hw _ (List.mem_of_getElem? (i := 23) rfl)) (hw _ (List.mem_of_getElem? (i := 4) rfl)) (by decide) (by decide)) q27a q27c (g := (mkF m 92 #[.val (.long q1), .second, .val (.long q2), .second, .val (.int p3), .val (.long (100000000 : Int64)), .second, .val (.long j1), .second, .val (.long j3), .second, .val (.long j22), .second, .val (.ref b23), .val (.int j26), .unset, .unset, .unset, .unset] [(.long j1), (.ref b23)])) rfl (by rw [hml]; rfl) (Steps.refl _) (argsL := [(.long j1)]) (rest := []) (lenOf pd_2 rfl) rfl (by show 2 * 0 + _ ≤ _; exact Nat.le_of_eq rfl) (hb hby at_92) (fun _ _ => ⟨rfl, e25, (by decide : 1 + 0 ≤ _), (by decide : 1 + 0 ≤ _)⟩)
    dsimp only [Pt.U, Pt.locs, Pt.cells, Pt.slots] at X27 l27 y27 z27 st27 hQ27
    subst l27 y27 z27
    obtain ⟨rfl, N27q, K27, Q27_0, Q27_1⟩ := hQ27
    have E_b23 := Q27_0
    have F_b23_left := Q27_1
    have Z0 := Nat.le_trans Z0 K27.1
    have KK := KK.trans K27 (allS (Or.inr sz_b23) all0)
    have NN := Fr.app NN N27q
    refine own_go (fun t k => st27.trans k) ?_
    show own_Go p.tables e below _ T27 (mkF m 95 #[.val (.long q1), .second, .val (.long q2), .second, .val (.int p3), .val (.long (100000000 : Int64)), .second, .val (.long j1), .second, .val (.long j3), .second, .val (.long j22), .second, .val (.ref b23), .val (.int j26), .unset, .unset, .unset, .unset] [(.int (r_4 j1 (100000000 : Int64)))])
    refine own_go (T' := T27) (g' := (mkF m 98 #[.val (.long q1), .second, .val (.long q2), .second, .val (.int p3), .val (.long (100000000 : Int64)), .second, .val (.long j1), .second, .val (.long j3), .second, .val (.long j22), .second, .val (.ref b23), .val (.int j26), .unset, .unset, .unset, .unset] [(.ref b23)])) (fun t k => ?_) ?_
    · show Steps p.tables e below (T27.setTop (mkF m 95 #[.val (.long q1), .second, .val (.long q2), .second, .val (.int p3), .val (.long (100000000 : Int64)), .second, .val (.long j1), .second, .val (.long j3), .second, .val (.long j22), .second, .val (.ref b23), .val (.int j26), .unset, .unset, .unset, .unset] [(.int (r_4 j1 (100000000 : Int64)))])) _
      refine XS.pop X27.here hx rfl (hb hby at_95) rfl rfl ?_
      show Steps p.tables e below (T27.setTop (mkF m 96 #[.val (.long q1), .second, .val (.long q2), .second, .val (.int p3), .val (.long (100000000 : Int64)), .second, .val (.long j1), .second, .val (.long j3), .second, .val (.long j22), .second, .val (.ref b23), .val (.int j26), .unset, .unset, .unset, .unset] [])) _
      refine XS.aload X27.here hx rfl (hb hby at_96) rfl rfl ?_
      exact k
    obtain ⟨cq28, kq28, q28a, q28b, q28c⟩ := isOf hZ rfl E_b23
    obtain ⟨_, _, ⟨T28, L28, k28, n28⟩, -, X28, ⟨Lc28, hQ28, l28, y28, z28⟩, st28⟩ := X27.virtualBack hx (y := (⟨"com/example/kirchberg/kirchberg/model/pattern/PatternBudget", "isSpent", "()Z"⟩ : MethodName)) (z := (⟨"com/example/kirchberg/kirchberg/model/pattern/PatternBudget", "isSpent", "()Z"⟩ : MethodName)) hown (mvT hZ (hw _ (List.mem_of_getElem? (i := 14) rfl))) (mvT hZ (hw _ (List.mem_of_getElem? (i := 15) rfl))) (notFace_of_selects (args := #[]) (mvT hZ (hw _ (List.mem_of_getElem? (i := 17) rfl)))) (mvT hZ (hw _ (List.mem_of_getElem? (i := 17) rfl))) (mvT hZ (hw _ (List.mem_of_getElem? (i := 16) rfl))) (by decide) (backOf (W := 0) (rm3 l Z a0 hw [] b23 (u_4_a1_left j1 (100000000 : Int64)) T27.heap n0 Z0 F_b23_left) hZ (hw _ (List.mem_of_getElem? (i := 18) rfl)) (hw _ (List.mem_of_getElem? (i := 4) rfl)) (by decide) (by decide)) q28a q28c (g := (mkF m 98 #[.val (.long q1), .second, .val (.long q2), .second, .val (.int p3), .val (.long (100000000 : Int64)), .second, .val (.long j1), .second, .val (.long j3), .second, .val (.long j22), .second, .val (.ref b23), .val (.int j26), .unset, .unset, .unset, .unset] [(.ref b23)])) rfl (by rw [hml]; rfl) (Steps.refl _) (argsL := []) (rest := []) (lenOf pd_1 rfl) rfl (by show 2 * 0 + _ ≤ _; exact Nat.le_of_eq rfl) (hb hby at_98) (fun _ _ => ⟨rfl, rfl, (by decide : 1 + 0 ≤ _), (by decide : 1 + 0 ≤ _)⟩)
    dsimp only [Pt.U, Pt.locs, Pt.cells, Pt.slots] at X28 l28 y28 z28 st28 hQ28
    subst l28 y28 z28
    obtain ⟨rfl, N28q, e28⟩ := hQ28
    have NN := Fr.app NN N28q
    refine own_go (fun t k => st28.trans k) ?_
    show own_Go p.tables e below _ T28 (mkF m 101 #[.val (.long q1), .second, .val (.long q2), .second, .val (.int p3), .val (.long (100000000 : Int64)), .second, .val (.long j1), .second, .val (.long j3), .second, .val (.long j22), .second, .val (.ref b23), .val (.int j26), .unset, .unset, .unset, .unset] [(.int (r_3 (u_4_a1_left j1 (100000000 : Int64))))])
    refine own_go (T' := T28) (g' := (mkF m 103 #[.val (.long q1), .second, .val (.long q2), .second, .val (.int p3), .val (.long (100000000 : Int64)), .second, .val (.long j1), .second, .val (.long j3), .second, .val (.long j22), .second, .val (.ref b23), .val (.int j26), .val (.int (r_3 (u_4_a1_left j1 (100000000 : Int64)))), .unset, .unset, .unset] [])) (fun t k => ?_) ?_
    · show Steps p.tables e below (T28.setTop (mkF m 101 #[.val (.long q1), .second, .val (.long q2), .second, .val (.int p3), .val (.long (100000000 : Int64)), .second, .val (.long j1), .second, .val (.long j3), .second, .val (.long j22), .second, .val (.ref b23), .val (.int j26), .unset, .unset, .unset, .unset] [(.int (r_3 (u_4_a1_left j1 (100000000 : Int64))))])) _
      refine XS.istore X28.here hx rfl (hb hby at_101) rfl (l' := #[.val (.long q1), .second, .val (.long q2), .second, .val (.int p3), .val (.long (100000000 : Int64)), .second, .val (.long j1), .second, .val (.long j3), .second, .val (.long j22), .second, .val (.ref b23), .val (.int j26), .val (.int (r_3 (u_4_a1_left j1 (100000000 : Int64)))), .unset, .unset, .unset]) rfl ?_
      exact k
    show own_Go p.tables e below _ T28 (mkF m 103 #[.val (.long q1), .second, .val (.long q2), .second, .val (.int p3), .val (.long (100000000 : Int64)), .second, .val (.long j1), .second, .val (.long j3), .second, .val (.long j22), .second, .val (.ref b23), .val (.int j26), .val (.int (r_3 (u_4_a1_left j1 (100000000 : Int64)))), .unset, .unset, .unset] [])
    obtain ⟨j29, hj29⟩ : ∃ z : Int32, z = (r_3 (u_4_a1_left j1 (100000000 : Int64))) := ⟨_, rfl⟩
    rw [← hj29]
    show own_Go p.tables e below _ T28 (mkF m 103 #[.val (.long q1), .second, .val (.long q2), .second, .val (.int p3), .val (.long (100000000 : Int64)), .second, .val (.long j1), .second, .val (.long j3), .second, .val (.long j22), .second, .val (.ref b23), .val (.int j26), .val (.int j29), .unset, .unset, .unset] [])
    refine own_go (T' := T28) (g' := (mkF m 107 #[.val (.long q1), .second, .val (.long q2), .second, .val (.int p3), .val (.long (100000000 : Int64)), .second, .val (.long j1), .second, .val (.long j3), .second, .val (.long j22), .second, .val (.ref b23), .val (.int j26), .val (.int j29), .unset, .unset, .unset] [(.long j22), (.ref b23)])) (fun t k => ?_) ?_
    · show Steps p.tables e below (T28.setTop (mkF m 103 #[.val (.long q1), .second, .val (.long q2), .second, .val (.int p3), .val (.long (100000000 : Int64)), .second, .val (.long j1), .second, .val (.long j3), .second, .val (.long j22), .second, .val (.ref b23), .val (.int j26), .val (.int j29), .unset, .unset, .unset] [])) _
      refine XS.aload X28.here hx rfl (hb hby at_103) rfl rfl ?_
      show Steps p.tables e below (T28.setTop (mkF m 105 #[.val (.long q1), .second, .val (.long q2), .second, .val (.int p3), .val (.long (100000000 : Int64)), .second, .val (.long j1), .second, .val (.long j3), .second, .val (.long j22), .second, .val (.ref b23), .val (.int j26), .val (.int j29), .unset, .unset, .unset] [(.ref b23)])) _
      refine XS.lload X28.here hx rfl (hb hby at_105) rfl ?_
      exact k
    obtain ⟨cq30, kq30, q30a, q30b, q30c⟩ := isOf hZ e28 E_b23
    obtain ⟨_, _, ⟨T30, L30, k30, n30⟩, -, X30, ⟨Lc30, hQ30, l30, y30, z30⟩, st30⟩ := X28.virtualBack hx (y := (⟨"com/example/kirchberg/kirchberg/model/pattern/PatternBudget", "take", "(J)Z"⟩ : MethodName)) (z := (⟨"com/example/kirchberg/kirchberg/model/pattern/PatternBudget", "take", "(J)Z"⟩ : MethodName)) hown (mvT hZ (hw _ (List.mem_of_getElem? (i := 19) rfl))) (mvT hZ (hw _ (List.mem_of_getElem? (i := 20) rfl))) (notFace_of_selects (args := #[]) (mvT hZ (hw _ (List.mem_of_getElem? (i := 22) rfl)))) (mvT hZ (hw _ (List.mem_of_getElem? (i := 22) rfl))) (mvT hZ (hw _ (List.mem_of_getElem? (i := 21) rfl))) (by decide) (backOf (W := 0) (rm4 l Z a0 hw [] b23 j22 (u_4_a1_left j1 (100000000 : Int64)) T27.heap n0 Z0 F_b23_left E_b23 g_b23) hZ (hw _ (List.mem_of_getElem? (i := 23) rfl)) (hw _ (List.mem_of_getElem? (i := 4) rfl)) (by decide) (by decide)) q30a q30c (g := (mkF m 107 #[.val (.long q1), .second, .val (.long q2), .second, .val (.int p3), .val (.long (100000000 : Int64)), .second, .val (.long j1), .second, .val (.long j3), .second, .val (.long j22), .second, .val (.ref b23), .val (.int j26), .val (.int j29), .unset, .unset, .unset] [(.long j22), (.ref b23)])) rfl (by rw [hml]; rfl) (Steps.refl _) (argsL := [(.long j22)]) (rest := []) (lenOf pd_2 rfl) rfl (by show 2 * 0 + _ ≤ _; exact Nat.le_of_eq rfl) (hb hby at_107) (fun _ _ => ⟨rfl, e28, (by decide : 1 + 0 ≤ _), (by decide : 1 + 0 ≤ _)⟩)
    dsimp only [Pt.U, Pt.locs, Pt.cells, Pt.slots] at X30 l30 y30 z30 st30 hQ30
    subst l30 y30 z30
    obtain ⟨rfl, N30q, K30, Q30_0, Q30_1⟩ := hQ30
    have E_b23 := Q30_0
    have F_b23_left := Q30_1
    have Z0 := Nat.le_trans Z0 K30.1
    have KK := KK.trans K30 (allS (Or.inr sz_b23) all0)
    have NN := Fr.app NN N30q
    refine own_go (fun t k => st30.trans k) ?_
    show own_Go p.tables e below _ T30 (mkF m 110 #[.val (.long q1), .second, .val (.long q2), .second, .val (.int p3), .val (.long (100000000 : Int64)), .second, .val (.long j1), .second, .val (.long j3), .second, .val (.long j22), .second, .val (.ref b23), .val (.int j26), .val (.int j29), .unset, .unset, .unset] [(.int (r_4 j22 (u_4_a1_left j1 (100000000 : Int64))))])
    refine own_go (T' := T30) (g' := (mkF m 113 #[.val (.long q1), .second, .val (.long q2), .second, .val (.int p3), .val (.long (100000000 : Int64)), .second, .val (.long j1), .second, .val (.long j3), .second, .val (.long j22), .second, .val (.ref b23), .val (.int j26), .val (.int j29), .unset, .unset, .unset] [(.ref b23)])) (fun t k => ?_) ?_
    · show Steps p.tables e below (T30.setTop (mkF m 110 #[.val (.long q1), .second, .val (.long q2), .second, .val (.int p3), .val (.long (100000000 : Int64)), .second, .val (.long j1), .second, .val (.long j3), .second, .val (.long j22), .second, .val (.ref b23), .val (.int j26), .val (.int j29), .unset, .unset, .unset] [(.int (r_4 j22 (u_4_a1_left j1 (100000000 : Int64))))])) _
      refine XS.pop X30.here hx rfl (hb hby at_110) rfl rfl ?_
      show Steps p.tables e below (T30.setTop (mkF m 111 #[.val (.long q1), .second, .val (.long q2), .second, .val (.int p3), .val (.long (100000000 : Int64)), .second, .val (.long j1), .second, .val (.long j3), .second, .val (.long j22), .second, .val (.ref b23), .val (.int j26), .val (.int j29), .unset, .unset, .unset] [])) _
      refine XS.aload X30.here hx rfl (hb hby at_111) rfl rfl ?_
      exact k
    obtain ⟨cq31, kq31, q31a, q31b, q31c⟩ := isOf hZ rfl E_b23
    obtain ⟨_, _, ⟨T31, L31, k31, n31⟩, -, X31, ⟨Lc31, hQ31, l31, y31, z31⟩, st31⟩ := X30.virtualBack hx (y := (⟨"com/example/kirchberg/kirchberg/model/pattern/PatternBudget", "isSpent", "()Z"⟩ : MethodName)) (z := (⟨"com/example/kirchberg/kirchberg/model/pattern/PatternBudget", "isSpent", "()Z"⟩ : MethodName)) hown (mvT hZ (hw _ (List.mem_of_getElem? (i := 14) rfl))) (mvT hZ (hw _ (List.mem_of_getElem? (i := 15) rfl))) (notFace_of_selects (args := #[]) (mvT hZ (hw _ (List.mem_of_getElem? (i := 17) rfl)))) (mvT hZ (hw _ (List.mem_of_getElem? (i := 17) rfl))) (mvT hZ (hw _ (List.mem_of_getElem? (i := 16) rfl))) (by decide) (backOf (W := 0) (rm3 l Z a0 hw [] b23 (u_4_a1_left j22 (u_4_a1_left j1 (100000000 : Int64))) T30.heap n0 Z0 F_b23_left) hZ (hw _ (List.mem_of_getElem? (i := 18) rfl)) (hw _ (List.mem_of_getElem? (i := 4) rfl)) (by decide) (by decide)) q31a q31c (g := (mkF m 113 #[.val (.long q1), .second, .val (.long q2), .second, .val (.int p3), .val (.long (100000000 : Int64)), .second, .val (.long j1), .second, .val (.long j3), .second, .val (.long j22), .second, .val (.ref b23), .val (.int j26), .val (.int j29), .unset, .unset, .unset] [(.ref b23)])) rfl (by rw [hml]; rfl) (Steps.refl _) (argsL := []) (rest := []) (lenOf pd_1 rfl) rfl (by show 2 * 0 + _ ≤ _; exact Nat.le_of_eq rfl) (hb hby at_113) (fun _ _ => ⟨rfl, rfl, (by decide : 1 + 0 ≤ _), (by decide : 1 + 0 ≤ _)⟩)
    dsimp only [Pt.U, Pt.locs, Pt.cells, Pt.slots] at X31 l31 y31 z31 st31 hQ31
    subst l31 y31 z31
    obtain ⟨rfl, N31q, e31⟩ := hQ31
    have NN := Fr.app NN N31q
    refine own_go (fun t k => st31.trans k) ?_
    show own_Go p.tables e below _ T31 (mkF m 116 #[.val (.long q1), .second, .val (.long q2), .second, .val (.int p3), .val (.long (100000000 : Int64)), .second, .val (.long j1), .second, .val (.long j3), .second, .val (.long j22), .second, .val (.ref b23), .val (.int j26), .val (.int j29), .unset, .unset, .unset] [(.int (r_3 (u_4_a1_left j22 (u_4_a1_left j1 (100000000 : Int64)))))])
    refine own_go (T' := T31) (g' := (mkF m 118 #[.val (.long q1), .second, .val (.long q2), .second, .val (.int p3), .val (.long (100000000 : Int64)), .second, .val (.long j1), .second, .val (.long j3), .second, .val (.long j22), .second, .val (.ref b23), .val (.int j26), .val (.int j29), .val (.int (r_3 (u_4_a1_left j22 (u_4_a1_left j1 (100000000 : Int64))))), .unset, .unset] [])) (fun t k => ?_) ?_
    · show Steps p.tables e below (T31.setTop (mkF m 116 #[.val (.long q1), .second, .val (.long q2), .second, .val (.int p3), .val (.long (100000000 : Int64)), .second, .val (.long j1), .second, .val (.long j3), .second, .val (.long j22), .second, .val (.ref b23), .val (.int j26), .val (.int j29), .unset, .unset, .unset] [(.int (r_3 (u_4_a1_left j22 (u_4_a1_left j1 (100000000 : Int64)))))])) _
      refine XS.istore X31.here hx rfl (hb hby at_116) rfl (l' := #[.val (.long q1), .second, .val (.long q2), .second, .val (.int p3), .val (.long (100000000 : Int64)), .second, .val (.long j1), .second, .val (.long j3), .second, .val (.long j22), .second, .val (.ref b23), .val (.int j26), .val (.int j29), .val (.int (r_3 (u_4_a1_left j22 (u_4_a1_left j1 (100000000 : Int64))))), .unset, .unset]) rfl ?_
      exact k
    show own_Go p.tables e below _ T31 (mkF m 118 #[.val (.long q1), .second, .val (.long q2), .second, .val (.int p3), .val (.long (100000000 : Int64)), .second, .val (.long j1), .second, .val (.long j3), .second, .val (.long j22), .second, .val (.ref b23), .val (.int j26), .val (.int j29), .val (.int (r_3 (u_4_a1_left j22 (u_4_a1_left j1 (100000000 : Int64))))), .unset, .unset] [])
    obtain ⟨j32, hj32⟩ : ∃ z : Int32, z = (r_3 (u_4_a1_left j22 (u_4_a1_left j1 (100000000 : Int64)))) := ⟨_, rfl⟩
    rw [← hj32]
    show own_Go p.tables e below _ T31 (mkF m 118 #[.val (.long q1), .second, .val (.long q2), .second, .val (.int p3), .val (.long (100000000 : Int64)), .second, .val (.long j1), .second, .val (.long j3), .second, .val (.long j22), .second, .val (.ref b23), .val (.int j26), .val (.int j29), .val (.int j32), .unset, .unset] [])
    refine own_go (T' := T31) (g' := (mkF m 123 #[.val (.long q1), .second, .val (.long q2), .second, .val (.int p3), .val (.long (100000000 : Int64)), .second, .val (.long j1), .second, .val (.long j3), .second, .val (.long j22), .second, .val (.ref b23), .val (.int j26), .val (.int j29), .val (.int j32), .unset, .unset] [(.int (lcmpW j1 (100000000 : Int64)))])) (fun t k => ?_) ?_
    · show Steps p.tables e below (T31.setTop (mkF m 118 #[.val (.long q1), .second, .val (.long q2), .second, .val (.int p3), .val (.long (100000000 : Int64)), .second, .val (.long j1), .second, .val (.long j3), .second, .val (.long j22), .second, .val (.ref b23), .val (.int j26), .val (.int j29), .val (.int j32), .unset, .unset] [])) _
      refine XS.lload X31.here hx rfl (hb hby at_118) rfl ?_
      show Steps p.tables e below (T31.setTop (mkF m 120 #[.val (.long q1), .second, .val (.long q2), .second, .val (.int p3), .val (.long (100000000 : Int64)), .second, .val (.long j1), .second, .val (.long j3), .second, .val (.long j22), .second, .val (.ref b23), .val (.int j26), .val (.int j29), .val (.int j32), .unset, .unset] [(.long j1)])) _
      refine XS.lload X31.here hx rfl (hb hby at_120) rfl ?_
      show Steps p.tables e below (T31.setTop (mkF m 122 #[.val (.long q1), .second, .val (.long q2), .second, .val (.int p3), .val (.long (100000000 : Int64)), .second, .val (.long j1), .second, .val (.long j3), .second, .val (.long j22), .second, .val (.ref b23), .val (.int j26), .val (.int j29), .val (.int j32), .unset, .unset] [(.long (100000000 : Int64)), (.long j1)])) _
      refine XS.lcmp X31.here hx rfl (hb hby at_122) rfl ?_
      exact k
    obtain ⟨j33, hj33, st34⟩ : ∃ (j33 : Int32), j33 = (if j1 < (100000000 : Int64) then (0 : Int32) else (1 : Int32)) ∧ ∀ t, Steps p.tables e below (T31.setTop (mkF m 131 #[.val (.long q1), .second, .val (.long q2), .second, .val (.int p3), .val (.long (100000000 : Int64)), .second, .val (.long j1), .second, .val (.long j3), .second, .val (.long j22), .second, .val (.ref b23), .val (.int j26), .val (.int j29), .val (.int j32), .unset, .unset] [(.int j33)])) t → Steps p.tables e below (T31.setTop (mkF m 123 #[.val (.long q1), .second, .val (.long q2), .second, .val (.int p3), .val (.long (100000000 : Int64)), .second, .val (.long j1), .second, .val (.long j3), .second, .val (.long j22), .second, .val (.ref b23), .val (.int j26), .val (.int j29), .val (.int j32), .unset, .unset] [(.int (lcmpW j1 (100000000 : Int64)))])) t := by
      by_cases hc123_9 : j1 < (100000000 : Int64)
      · skip
        refine ⟨(0 : Int32), (by simp only [if_pos hc123_9]), fun t k => ?_⟩
        show Steps p.tables e below (T31.setTop (mkF m 123 #[.val (.long q1), .second, .val (.long q2), .second, .val (.int p3), .val (.long (100000000 : Int64)), .second, .val (.long j1), .second, .val (.long j3), .second, .val (.long j22), .second, .val (.ref b23), .val (.int j26), .val (.int j29), .val (.int j32), .unset, .unset] [(.int (lcmpW j1 (100000000 : Int64)))])) _
        refine XS.ifYes X31.here hx rfl (pc0 := 123) (pc' := 130) rfl (hb hby at_123) rfl ((if0 _ _).trans (tlt ((lw_lt j1 (100000000 : Int64)).mpr hc123_9)).1) (by decide) (by decide) ?_
        show Steps p.tables e below (T31.setTop (mkF m 130 #[.val (.long q1), .second, .val (.long q2), .second, .val (.int p3), .val (.long (100000000 : Int64)), .second, .val (.long j1), .second, .val (.long j3), .second, .val (.long j22), .second, .val (.ref b23), .val (.int j26), .val (.int j29), .val (.int j32), .unset, .unset] [])) _
        refine XS.iconst X31.here hx rfl (hb hby at_130) ?_
        exact k
      · skip
        refine ⟨(1 : Int32), (by simp only [if_neg hc123_9]), fun t k => ?_⟩
        show Steps p.tables e below (T31.setTop (mkF m 123 #[.val (.long q1), .second, .val (.long q2), .second, .val (.int p3), .val (.long (100000000 : Int64)), .second, .val (.long j1), .second, .val (.long j3), .second, .val (.long j22), .second, .val (.ref b23), .val (.int j26), .val (.int j29), .val (.int j32), .unset, .unset] [(.int (lcmpW j1 (100000000 : Int64)))])) _
        refine XS.ifNo X31.here hx rfl (hb hby at_123) rfl ((if0 _ _).trans (flt (fun q => hc123_9 ((lw_lt j1 (100000000 : Int64)).mp q))).1) ?_
        show Steps p.tables e below (T31.setTop (mkF m 126 #[.val (.long q1), .second, .val (.long q2), .second, .val (.int p3), .val (.long (100000000 : Int64)), .second, .val (.long j1), .second, .val (.long j3), .second, .val (.long j22), .second, .val (.ref b23), .val (.int j26), .val (.int j29), .val (.int j32), .unset, .unset] [])) _
        refine XS.iconst X31.here hx rfl (hb hby at_126) ?_
        show Steps p.tables e below (T31.setTop (mkF m 127 #[.val (.long q1), .second, .val (.long q2), .second, .val (.int p3), .val (.long (100000000 : Int64)), .second, .val (.long j1), .second, .val (.long j3), .second, .val (.long j22), .second, .val (.ref b23), .val (.int j26), .val (.int j29), .val (.int j32), .unset, .unset] [(.int (1 : Int32))])) _
        refine XS.goto X31.here hx rfl (pc0 := 127) (pc' := 131) rfl (hb hby at_127) (by decide) (by decide) ?_
        exact k
    refine own_go st34 ?_
    show own_Go p.tables e below _ T31 (mkF m 131 #[.val (.long q1), .second, .val (.long q2), .second, .val (.int p3), .val (.long (100000000 : Int64)), .second, .val (.long j1), .second, .val (.long j3), .second, .val (.long j22), .second, .val (.ref b23), .val (.int j26), .val (.int j29), .val (.int j32), .unset, .unset] [(.int j33)])
    refine own_go (T' := T31) (g' := (mkF m 135 #[.val (.long q1), .second, .val (.long q2), .second, .val (.int p3), .val (.long (100000000 : Int64)), .second, .val (.long j1), .second, .val (.long j3), .second, .val (.long j22), .second, .val (.ref b23), .val (.int j26), .val (.int j29), .val (.int j32), .val (.int j33), .unset] [(.int j33)])) (fun t k => ?_) ?_
    · show Steps p.tables e below (T31.setTop (mkF m 131 #[.val (.long q1), .second, .val (.long q2), .second, .val (.int p3), .val (.long (100000000 : Int64)), .second, .val (.long j1), .second, .val (.long j3), .second, .val (.long j22), .second, .val (.ref b23), .val (.int j26), .val (.int j29), .val (.int j32), .unset, .unset] [(.int j33)])) _
      refine XS.istore X31.here hx rfl (hb hby at_131) rfl (l' := #[.val (.long q1), .second, .val (.long q2), .second, .val (.int p3), .val (.long (100000000 : Int64)), .second, .val (.long j1), .second, .val (.long j3), .second, .val (.long j22), .second, .val (.ref b23), .val (.int j26), .val (.int j29), .val (.int j32), .val (.int j33), .unset]) rfl ?_
      show Steps p.tables e below (T31.setTop (mkF m 133 #[.val (.long q1), .second, .val (.long q2), .second, .val (.int p3), .val (.long (100000000 : Int64)), .second, .val (.long j1), .second, .val (.long j3), .second, .val (.long j22), .second, .val (.ref b23), .val (.int j26), .val (.int j29), .val (.int j32), .val (.int j33), .unset] [])) _
      refine XS.iload X31.here hx rfl (hb hby at_133) rfl ?_
      exact k
    obtain ⟨j35, hj35, st36⟩ : ∃ (j35 : Int32), j35 = (if j33 = (0 : Int32) then (if j22 < j3 then (0 : Int32) else (1 : Int32)) else (1 : Int32)) ∧ ∀ t, Steps p.tables e below (T31.setTop (mkF m 151 #[.val (.long q1), .second, .val (.long q2), .second, .val (.int p3), .val (.long (100000000 : Int64)), .second, .val (.long j1), .second, .val (.long j3), .second, .val (.long j22), .second, .val (.ref b23), .val (.int j26), .val (.int j29), .val (.int j32), .val (.int j33), .unset] [(.int j35)])) t → Steps p.tables e below (T31.setTop (mkF m 135 #[.val (.long q1), .second, .val (.long q2), .second, .val (.int p3), .val (.long (100000000 : Int64)), .second, .val (.long j1), .second, .val (.long j3), .second, .val (.long j22), .second, .val (.ref b23), .val (.int j26), .val (.int j29), .val (.int j32), .val (.int j33), .unset] [(.int j33)])) t := by
      by_cases hc135_10 : j33 = (0 : Int32)
      · skip
        by_cases hc143_11 : j22 < j3
        · skip
          refine ⟨(0 : Int32), (by simp only [if_pos hc135_10, if_pos hc143_11]), fun t k => ?_⟩
          show Steps p.tables e below (T31.setTop (mkF m 135 #[.val (.long q1), .second, .val (.long q2), .second, .val (.int p3), .val (.long (100000000 : Int64)), .second, .val (.long j1), .second, .val (.long j3), .second, .val (.long j22), .second, .val (.ref b23), .val (.int j26), .val (.int j29), .val (.int j32), .val (.int j33), .unset] [(.int j33)])) _
          refine XS.ifNo X31.here hx rfl (hb hby at_135) rfl ((if0 _ _).trans (teq hc135_10).2) ?_
          show Steps p.tables e below (T31.setTop (mkF m 138 #[.val (.long q1), .second, .val (.long q2), .second, .val (.int p3), .val (.long (100000000 : Int64)), .second, .val (.long j1), .second, .val (.long j3), .second, .val (.long j22), .second, .val (.ref b23), .val (.int j26), .val (.int j29), .val (.int j32), .val (.int j33), .unset] [])) _
          refine XS.lload X31.here hx rfl (hb hby at_138) rfl ?_
          show Steps p.tables e below (T31.setTop (mkF m 140 #[.val (.long q1), .second, .val (.long q2), .second, .val (.int p3), .val (.long (100000000 : Int64)), .second, .val (.long j1), .second, .val (.long j3), .second, .val (.long j22), .second, .val (.ref b23), .val (.int j26), .val (.int j29), .val (.int j32), .val (.int j33), .unset] [(.long j22)])) _
          refine XS.lload X31.here hx rfl (hb hby at_140) rfl ?_
          show Steps p.tables e below (T31.setTop (mkF m 142 #[.val (.long q1), .second, .val (.long q2), .second, .val (.int p3), .val (.long (100000000 : Int64)), .second, .val (.long j1), .second, .val (.long j3), .second, .val (.long j22), .second, .val (.ref b23), .val (.int j26), .val (.int j29), .val (.int j32), .val (.int j33), .unset] [(.long j3), (.long j22)])) _
          refine XS.lcmp X31.here hx rfl (hb hby at_142) rfl ?_
          show Steps p.tables e below (T31.setTop (mkF m 143 #[.val (.long q1), .second, .val (.long q2), .second, .val (.int p3), .val (.long (100000000 : Int64)), .second, .val (.long j1), .second, .val (.long j3), .second, .val (.long j22), .second, .val (.ref b23), .val (.int j26), .val (.int j29), .val (.int j32), .val (.int j33), .unset] [(.int (lcmpW j22 j3))])) _
          refine XS.ifYes X31.here hx rfl (pc0 := 143) (pc' := 150) rfl (hb hby at_143) rfl ((if0 _ _).trans (tlt ((lw_lt j22 j3).mpr hc143_11)).1) (by decide) (by decide) ?_
          show Steps p.tables e below (T31.setTop (mkF m 150 #[.val (.long q1), .second, .val (.long q2), .second, .val (.int p3), .val (.long (100000000 : Int64)), .second, .val (.long j1), .second, .val (.long j3), .second, .val (.long j22), .second, .val (.ref b23), .val (.int j26), .val (.int j29), .val (.int j32), .val (.int j33), .unset] [])) _
          refine XS.iconst X31.here hx rfl (hb hby at_150) ?_
          exact k
        · skip
          refine ⟨(1 : Int32), (by simp only [if_pos hc135_10, if_neg hc143_11]), fun t k => ?_⟩
          show Steps p.tables e below (T31.setTop (mkF m 135 #[.val (.long q1), .second, .val (.long q2), .second, .val (.int p3), .val (.long (100000000 : Int64)), .second, .val (.long j1), .second, .val (.long j3), .second, .val (.long j22), .second, .val (.ref b23), .val (.int j26), .val (.int j29), .val (.int j32), .val (.int j33), .unset] [(.int j33)])) _
          refine XS.ifNo X31.here hx rfl (hb hby at_135) rfl ((if0 _ _).trans (teq hc135_10).2) ?_
          show Steps p.tables e below (T31.setTop (mkF m 138 #[.val (.long q1), .second, .val (.long q2), .second, .val (.int p3), .val (.long (100000000 : Int64)), .second, .val (.long j1), .second, .val (.long j3), .second, .val (.long j22), .second, .val (.ref b23), .val (.int j26), .val (.int j29), .val (.int j32), .val (.int j33), .unset] [])) _
          refine XS.lload X31.here hx rfl (hb hby at_138) rfl ?_
          show Steps p.tables e below (T31.setTop (mkF m 140 #[.val (.long q1), .second, .val (.long q2), .second, .val (.int p3), .val (.long (100000000 : Int64)), .second, .val (.long j1), .second, .val (.long j3), .second, .val (.long j22), .second, .val (.ref b23), .val (.int j26), .val (.int j29), .val (.int j32), .val (.int j33), .unset] [(.long j22)])) _
          refine XS.lload X31.here hx rfl (hb hby at_140) rfl ?_
          show Steps p.tables e below (T31.setTop (mkF m 142 #[.val (.long q1), .second, .val (.long q2), .second, .val (.int p3), .val (.long (100000000 : Int64)), .second, .val (.long j1), .second, .val (.long j3), .second, .val (.long j22), .second, .val (.ref b23), .val (.int j26), .val (.int j29), .val (.int j32), .val (.int j33), .unset] [(.long j3), (.long j22)])) _
          refine XS.lcmp X31.here hx rfl (hb hby at_142) rfl ?_
          show Steps p.tables e below (T31.setTop (mkF m 143 #[.val (.long q1), .second, .val (.long q2), .second, .val (.int p3), .val (.long (100000000 : Int64)), .second, .val (.long j1), .second, .val (.long j3), .second, .val (.long j22), .second, .val (.ref b23), .val (.int j26), .val (.int j29), .val (.int j32), .val (.int j33), .unset] [(.int (lcmpW j22 j3))])) _
          refine XS.ifNo X31.here hx rfl (hb hby at_143) rfl ((if0 _ _).trans (flt (fun q => hc143_11 ((lw_lt j22 j3).mp q))).1) ?_
          show Steps p.tables e below (T31.setTop (mkF m 146 #[.val (.long q1), .second, .val (.long q2), .second, .val (.int p3), .val (.long (100000000 : Int64)), .second, .val (.long j1), .second, .val (.long j3), .second, .val (.long j22), .second, .val (.ref b23), .val (.int j26), .val (.int j29), .val (.int j32), .val (.int j33), .unset] [])) _
          refine XS.iconst X31.here hx rfl (hb hby at_146) ?_
          show Steps p.tables e below (T31.setTop (mkF m 147 #[.val (.long q1), .second, .val (.long q2), .second, .val (.int p3), .val (.long (100000000 : Int64)), .second, .val (.long j1), .second, .val (.long j3), .second, .val (.long j22), .second, .val (.ref b23), .val (.int j26), .val (.int j29), .val (.int j32), .val (.int j33), .unset] [(.int (1 : Int32))])) _
          refine XS.goto X31.here hx rfl (pc0 := 147) (pc' := 151) rfl (hb hby at_147) (by decide) (by decide) ?_
          exact k
      · skip
        refine ⟨(1 : Int32), (by simp only [if_neg hc135_10]), fun t k => ?_⟩
        show Steps p.tables e below (T31.setTop (mkF m 135 #[.val (.long q1), .second, .val (.long q2), .second, .val (.int p3), .val (.long (100000000 : Int64)), .second, .val (.long j1), .second, .val (.long j3), .second, .val (.long j22), .second, .val (.ref b23), .val (.int j26), .val (.int j29), .val (.int j32), .val (.int j33), .unset] [(.int j33)])) _
        refine XS.ifYes X31.here hx rfl (pc0 := 135) (pc' := 146) rfl (hb hby at_135) rfl ((if0 _ _).trans (feq hc135_10).2) (by decide) (by decide) ?_
        show Steps p.tables e below (T31.setTop (mkF m 146 #[.val (.long q1), .second, .val (.long q2), .second, .val (.int p3), .val (.long (100000000 : Int64)), .second, .val (.long j1), .second, .val (.long j3), .second, .val (.long j22), .second, .val (.ref b23), .val (.int j26), .val (.int j29), .val (.int j32), .val (.int j33), .unset] [])) _
        refine XS.iconst X31.here hx rfl (hb hby at_146) ?_
        show Steps p.tables e below (T31.setTop (mkF m 147 #[.val (.long q1), .second, .val (.long q2), .second, .val (.int p3), .val (.long (100000000 : Int64)), .second, .val (.long j1), .second, .val (.long j3), .second, .val (.long j22), .second, .val (.ref b23), .val (.int j26), .val (.int j29), .val (.int j32), .val (.int j33), .unset] [(.int (1 : Int32))])) _
        refine XS.goto X31.here hx rfl (pc0 := 147) (pc' := 151) rfl (hb hby at_147) (by decide) (by decide) ?_
        exact k
    refine own_go st36 ?_
    show own_Go p.tables e below _ T31 (mkF m 151 #[.val (.long q1), .second, .val (.long q2), .second, .val (.int p3), .val (.long (100000000 : Int64)), .second, .val (.long j1), .second, .val (.long j3), .second, .val (.long j22), .second, .val (.ref b23), .val (.int j26), .val (.int j29), .val (.int j32), .val (.int j33), .unset] [(.int j35)])
    refine own_go (T' := T31) (g' := (mkF m 155 #[.val (.long q1), .second, .val (.long q2), .second, .val (.int p3), .val (.long (100000000 : Int64)), .second, .val (.long j1), .second, .val (.long j3), .second, .val (.long j22), .second, .val (.ref b23), .val (.int j26), .val (.int j29), .val (.int j32), .val (.int j33), .val (.int j35)] [(.int j26)])) (fun t k => ?_) ?_
    · show Steps p.tables e below (T31.setTop (mkF m 151 #[.val (.long q1), .second, .val (.long q2), .second, .val (.int p3), .val (.long (100000000 : Int64)), .second, .val (.long j1), .second, .val (.long j3), .second, .val (.long j22), .second, .val (.ref b23), .val (.int j26), .val (.int j29), .val (.int j32), .val (.int j33), .unset] [(.int j35)])) _
      refine XS.istore X31.here hx rfl (hb hby at_151) rfl (l' := #[.val (.long q1), .second, .val (.long q2), .second, .val (.int p3), .val (.long (100000000 : Int64)), .second, .val (.long j1), .second, .val (.long j3), .second, .val (.long j22), .second, .val (.ref b23), .val (.int j26), .val (.int j29), .val (.int j32), .val (.int j33), .val (.int j35)]) rfl ?_
      show Steps p.tables e below (T31.setTop (mkF m 153 #[.val (.long q1), .second, .val (.long q2), .second, .val (.int p3), .val (.long (100000000 : Int64)), .second, .val (.long j1), .second, .val (.long j3), .second, .val (.long j22), .second, .val (.ref b23), .val (.int j26), .val (.int j29), .val (.int j32), .val (.int j33), .val (.int j35)] [])) _
      refine XS.iload X31.here hx rfl (hb hby at_153) rfl ?_
      exact k
    obtain ⟨j37, hj37, st38⟩ : ∃ (j37 : Int32), j37 = (if j26 = (0 : Int32) then (if j29 = j33 then (if j32 = j35 then (1 : Int32) else (0 : Int32)) else (0 : Int32)) else (0 : Int32)) ∧ ∀ t, Steps p.tables e below (T31.setTop (mkF m 177 #[.val (.long q1), .second, .val (.long q2), .second, .val (.int p3), .val (.long (100000000 : Int64)), .second, .val (.long j1), .second, .val (.long j3), .second, .val (.long j22), .second, .val (.ref b23), .val (.int j26), .val (.int j29), .val (.int j32), .val (.int j33), .val (.int j35)] [(.int j37)])) t → Steps p.tables e below (T31.setTop (mkF m 155 #[.val (.long q1), .second, .val (.long q2), .second, .val (.int p3), .val (.long (100000000 : Int64)), .second, .val (.long j1), .second, .val (.long j3), .second, .val (.long j22), .second, .val (.ref b23), .val (.int j26), .val (.int j29), .val (.int j32), .val (.int j33), .val (.int j35)] [(.int j26)])) t := by
      by_cases hc155_12 : j26 = (0 : Int32)
      · skip
        by_cases hc162_13 : j29 = j33
        · skip
          by_cases hc169_14 : j32 = j35
          · skip
            refine ⟨(1 : Int32), (by simp only [if_pos hc155_12, if_pos hc162_13, if_pos hc169_14]), fun t k => ?_⟩
            show Steps p.tables e below (T31.setTop (mkF m 155 #[.val (.long q1), .second, .val (.long q2), .second, .val (.int p3), .val (.long (100000000 : Int64)), .second, .val (.long j1), .second, .val (.long j3), .second, .val (.long j22), .second, .val (.ref b23), .val (.int j26), .val (.int j29), .val (.int j32), .val (.int j33), .val (.int j35)] [(.int j26)])) _
            refine XS.ifNo X31.here hx rfl (hb hby at_155) rfl ((if0 _ _).trans (teq hc155_12).2) ?_
            show Steps p.tables e below (T31.setTop (mkF m 158 #[.val (.long q1), .second, .val (.long q2), .second, .val (.int p3), .val (.long (100000000 : Int64)), .second, .val (.long j1), .second, .val (.long j3), .second, .val (.long j22), .second, .val (.ref b23), .val (.int j26), .val (.int j29), .val (.int j32), .val (.int j33), .val (.int j35)] [])) _
            refine XS.iload X31.here hx rfl (hb hby at_158) rfl ?_
            show Steps p.tables e below (T31.setTop (mkF m 160 #[.val (.long q1), .second, .val (.long q2), .second, .val (.int p3), .val (.long (100000000 : Int64)), .second, .val (.long j1), .second, .val (.long j3), .second, .val (.long j22), .second, .val (.ref b23), .val (.int j26), .val (.int j29), .val (.int j32), .val (.int j33), .val (.int j35)] [(.int j29)])) _
            refine XS.iload X31.here hx rfl (hb hby at_160) rfl ?_
            show Steps p.tables e below (T31.setTop (mkF m 162 #[.val (.long q1), .second, .val (.long q2), .second, .val (.int p3), .val (.long (100000000 : Int64)), .second, .val (.long j1), .second, .val (.long j3), .second, .val (.long j22), .second, .val (.ref b23), .val (.int j26), .val (.int j29), .val (.int j32), .val (.int j33), .val (.int j35)] [(.int j33), (.int j29)])) _
            refine XS.icmpNo X31.here hx rfl (hb hby at_162) rfl (teq hc162_13).2 ?_
            show Steps p.tables e below (T31.setTop (mkF m 165 #[.val (.long q1), .second, .val (.long q2), .second, .val (.int p3), .val (.long (100000000 : Int64)), .second, .val (.long j1), .second, .val (.long j3), .second, .val (.long j22), .second, .val (.ref b23), .val (.int j26), .val (.int j29), .val (.int j32), .val (.int j33), .val (.int j35)] [])) _
            refine XS.iload X31.here hx rfl (hb hby at_165) rfl ?_
            show Steps p.tables e below (T31.setTop (mkF m 167 #[.val (.long q1), .second, .val (.long q2), .second, .val (.int p3), .val (.long (100000000 : Int64)), .second, .val (.long j1), .second, .val (.long j3), .second, .val (.long j22), .second, .val (.ref b23), .val (.int j26), .val (.int j29), .val (.int j32), .val (.int j33), .val (.int j35)] [(.int j32)])) _
            refine XS.iload X31.here hx rfl (hb hby at_167) rfl ?_
            show Steps p.tables e below (T31.setTop (mkF m 169 #[.val (.long q1), .second, .val (.long q2), .second, .val (.int p3), .val (.long (100000000 : Int64)), .second, .val (.long j1), .second, .val (.long j3), .second, .val (.long j22), .second, .val (.ref b23), .val (.int j26), .val (.int j29), .val (.int j32), .val (.int j33), .val (.int j35)] [(.int j35), (.int j32)])) _
            refine XS.icmpNo X31.here hx rfl (hb hby at_169) rfl (teq hc169_14).2 ?_
            show Steps p.tables e below (T31.setTop (mkF m 172 #[.val (.long q1), .second, .val (.long q2), .second, .val (.int p3), .val (.long (100000000 : Int64)), .second, .val (.long j1), .second, .val (.long j3), .second, .val (.long j22), .second, .val (.ref b23), .val (.int j26), .val (.int j29), .val (.int j32), .val (.int j33), .val (.int j35)] [])) _
            refine XS.iconst X31.here hx rfl (hb hby at_172) ?_
            show Steps p.tables e below (T31.setTop (mkF m 173 #[.val (.long q1), .second, .val (.long q2), .second, .val (.int p3), .val (.long (100000000 : Int64)), .second, .val (.long j1), .second, .val (.long j3), .second, .val (.long j22), .second, .val (.ref b23), .val (.int j26), .val (.int j29), .val (.int j32), .val (.int j33), .val (.int j35)] [(.int (1 : Int32))])) _
            refine XS.goto X31.here hx rfl (pc0 := 173) (pc' := 177) rfl (hb hby at_173) (by decide) (by decide) ?_
            exact k
          · skip
            refine ⟨(0 : Int32), (by simp only [if_pos hc155_12, if_pos hc162_13, if_neg hc169_14]), fun t k => ?_⟩
            show Steps p.tables e below (T31.setTop (mkF m 155 #[.val (.long q1), .second, .val (.long q2), .second, .val (.int p3), .val (.long (100000000 : Int64)), .second, .val (.long j1), .second, .val (.long j3), .second, .val (.long j22), .second, .val (.ref b23), .val (.int j26), .val (.int j29), .val (.int j32), .val (.int j33), .val (.int j35)] [(.int j26)])) _
            refine XS.ifNo X31.here hx rfl (hb hby at_155) rfl ((if0 _ _).trans (teq hc155_12).2) ?_
            show Steps p.tables e below (T31.setTop (mkF m 158 #[.val (.long q1), .second, .val (.long q2), .second, .val (.int p3), .val (.long (100000000 : Int64)), .second, .val (.long j1), .second, .val (.long j3), .second, .val (.long j22), .second, .val (.ref b23), .val (.int j26), .val (.int j29), .val (.int j32), .val (.int j33), .val (.int j35)] [])) _
            refine XS.iload X31.here hx rfl (hb hby at_158) rfl ?_
            show Steps p.tables e below (T31.setTop (mkF m 160 #[.val (.long q1), .second, .val (.long q2), .second, .val (.int p3), .val (.long (100000000 : Int64)), .second, .val (.long j1), .second, .val (.long j3), .second, .val (.long j22), .second, .val (.ref b23), .val (.int j26), .val (.int j29), .val (.int j32), .val (.int j33), .val (.int j35)] [(.int j29)])) _
            refine XS.iload X31.here hx rfl (hb hby at_160) rfl ?_
            show Steps p.tables e below (T31.setTop (mkF m 162 #[.val (.long q1), .second, .val (.long q2), .second, .val (.int p3), .val (.long (100000000 : Int64)), .second, .val (.long j1), .second, .val (.long j3), .second, .val (.long j22), .second, .val (.ref b23), .val (.int j26), .val (.int j29), .val (.int j32), .val (.int j33), .val (.int j35)] [(.int j33), (.int j29)])) _
            refine XS.icmpNo X31.here hx rfl (hb hby at_162) rfl (teq hc162_13).2 ?_
            show Steps p.tables e below (T31.setTop (mkF m 165 #[.val (.long q1), .second, .val (.long q2), .second, .val (.int p3), .val (.long (100000000 : Int64)), .second, .val (.long j1), .second, .val (.long j3), .second, .val (.long j22), .second, .val (.ref b23), .val (.int j26), .val (.int j29), .val (.int j32), .val (.int j33), .val (.int j35)] [])) _
            refine XS.iload X31.here hx rfl (hb hby at_165) rfl ?_
            show Steps p.tables e below (T31.setTop (mkF m 167 #[.val (.long q1), .second, .val (.long q2), .second, .val (.int p3), .val (.long (100000000 : Int64)), .second, .val (.long j1), .second, .val (.long j3), .second, .val (.long j22), .second, .val (.ref b23), .val (.int j26), .val (.int j29), .val (.int j32), .val (.int j33), .val (.int j35)] [(.int j32)])) _
            refine XS.iload X31.here hx rfl (hb hby at_167) rfl ?_
            show Steps p.tables e below (T31.setTop (mkF m 169 #[.val (.long q1), .second, .val (.long q2), .second, .val (.int p3), .val (.long (100000000 : Int64)), .second, .val (.long j1), .second, .val (.long j3), .second, .val (.long j22), .second, .val (.ref b23), .val (.int j26), .val (.int j29), .val (.int j32), .val (.int j33), .val (.int j35)] [(.int j35), (.int j32)])) _
            refine XS.icmpYes X31.here hx rfl (pc0 := 169) (pc' := 176) rfl (hb hby at_169) rfl (feq hc169_14).2 (by decide) (by decide) ?_
            show Steps p.tables e below (T31.setTop (mkF m 176 #[.val (.long q1), .second, .val (.long q2), .second, .val (.int p3), .val (.long (100000000 : Int64)), .second, .val (.long j1), .second, .val (.long j3), .second, .val (.long j22), .second, .val (.ref b23), .val (.int j26), .val (.int j29), .val (.int j32), .val (.int j33), .val (.int j35)] [])) _
            refine XS.iconst X31.here hx rfl (hb hby at_176) ?_
            exact k
        · skip
          refine ⟨(0 : Int32), (by simp only [if_pos hc155_12, if_neg hc162_13]), fun t k => ?_⟩
          show Steps p.tables e below (T31.setTop (mkF m 155 #[.val (.long q1), .second, .val (.long q2), .second, .val (.int p3), .val (.long (100000000 : Int64)), .second, .val (.long j1), .second, .val (.long j3), .second, .val (.long j22), .second, .val (.ref b23), .val (.int j26), .val (.int j29), .val (.int j32), .val (.int j33), .val (.int j35)] [(.int j26)])) _
          refine XS.ifNo X31.here hx rfl (hb hby at_155) rfl ((if0 _ _).trans (teq hc155_12).2) ?_
          show Steps p.tables e below (T31.setTop (mkF m 158 #[.val (.long q1), .second, .val (.long q2), .second, .val (.int p3), .val (.long (100000000 : Int64)), .second, .val (.long j1), .second, .val (.long j3), .second, .val (.long j22), .second, .val (.ref b23), .val (.int j26), .val (.int j29), .val (.int j32), .val (.int j33), .val (.int j35)] [])) _
          refine XS.iload X31.here hx rfl (hb hby at_158) rfl ?_
          show Steps p.tables e below (T31.setTop (mkF m 160 #[.val (.long q1), .second, .val (.long q2), .second, .val (.int p3), .val (.long (100000000 : Int64)), .second, .val (.long j1), .second, .val (.long j3), .second, .val (.long j22), .second, .val (.ref b23), .val (.int j26), .val (.int j29), .val (.int j32), .val (.int j33), .val (.int j35)] [(.int j29)])) _
          refine XS.iload X31.here hx rfl (hb hby at_160) rfl ?_
          show Steps p.tables e below (T31.setTop (mkF m 162 #[.val (.long q1), .second, .val (.long q2), .second, .val (.int p3), .val (.long (100000000 : Int64)), .second, .val (.long j1), .second, .val (.long j3), .second, .val (.long j22), .second, .val (.ref b23), .val (.int j26), .val (.int j29), .val (.int j32), .val (.int j33), .val (.int j35)] [(.int j33), (.int j29)])) _
          refine XS.icmpYes X31.here hx rfl (pc0 := 162) (pc' := 176) rfl (hb hby at_162) rfl (feq hc162_13).2 (by decide) (by decide) ?_
          show Steps p.tables e below (T31.setTop (mkF m 176 #[.val (.long q1), .second, .val (.long q2), .second, .val (.int p3), .val (.long (100000000 : Int64)), .second, .val (.long j1), .second, .val (.long j3), .second, .val (.long j22), .second, .val (.ref b23), .val (.int j26), .val (.int j29), .val (.int j32), .val (.int j33), .val (.int j35)] [])) _
          refine XS.iconst X31.here hx rfl (hb hby at_176) ?_
          exact k
      · skip
        refine ⟨(0 : Int32), (by simp only [if_neg hc155_12]), fun t k => ?_⟩
        show Steps p.tables e below (T31.setTop (mkF m 155 #[.val (.long q1), .second, .val (.long q2), .second, .val (.int p3), .val (.long (100000000 : Int64)), .second, .val (.long j1), .second, .val (.long j3), .second, .val (.long j22), .second, .val (.ref b23), .val (.int j26), .val (.int j29), .val (.int j32), .val (.int j33), .val (.int j35)] [(.int j26)])) _
        refine XS.ifYes X31.here hx rfl (pc0 := 155) (pc' := 176) rfl (hb hby at_155) rfl ((if0 _ _).trans (feq hc155_12).2) (by decide) (by decide) ?_
        show Steps p.tables e below (T31.setTop (mkF m 176 #[.val (.long q1), .second, .val (.long q2), .second, .val (.int p3), .val (.long (100000000 : Int64)), .second, .val (.long j1), .second, .val (.long j3), .second, .val (.long j22), .second, .val (.ref b23), .val (.int j26), .val (.int j29), .val (.int j32), .val (.int j33), .val (.int j35)] [])) _
        refine XS.iconst X31.here hx rfl (hb hby at_176) ?_
        exact k
    refine own_go st38 ?_
    show own_Go p.tables e below _ T31 (mkF m 177 #[.val (.long q1), .second, .val (.long q2), .second, .val (.int p3), .val (.long (100000000 : Int64)), .second, .val (.long j1), .second, .val (.long j3), .second, .val (.long j22), .second, .val (.ref b23), .val (.int j26), .val (.int j29), .val (.int j32), .val (.int j33), .val (.int j35)] [(.int j37)])
    have hv1 : (nar .boolean j37) = 1 := own_yes_f q1 q2 p3 j1 j3 j22 j26 j29 j32 j33 j35 j37 hj1 hj3 hj22 hj26 hj29 hj32 hj33 hj35 hj37 hc45_2
    obtain ⟨fs, hr, hrun, hended, hW, hsame⟩ := X31.leave (v := some (.int (nar .boolean j37))) (fun h => by rw [Bd.returns] at h; cases h)
    refine ⟨_, _, ?_, hrun, hended, _, _, rfl, ?_, ⟨_, rfl⟩, hW, hsame.mono (by decide) (by decide)⟩
    · exact retN X31 hx (t := .boolean) Bd.returns (by simp) (hb hby at_177) hr
    · show Q0 Z q1 q2 p3 h0 n0 _ _ _
      exact ⟨by rw [hv1], NN⟩
set_option maxRecDepth 65536 in
set_option maxHeartbeats 40000000 in
theorem comes_1 {Post : Tables → Env → Array Value → State → Outcome → State → Prop} (hpost : ∀ tb e args s v u, (limb_1_1.after args s (.returned v) u = true ∧ limb_1_2.after args s (.returned v) u = true ∧ True) → FrameEnd s (.returned v) u (Jvm.fieldLocs frame_1_writes args s ++ Jvm.arrayLocs frame_1_arrays args s ++ Jvm.staticLocs frame_1_statics s) 16 128 → Post tb e args s (.returned v) u) :
    ArmFor flags0 classFile x code maxLocals ret World_1 tables_1 room_1 Calls_1 rest_1 Pre_1 Post := by
  intro l hfl _ _ p e ha hc hk s m args below hf hA hF happ hP
  obtain ⟨hcalls, hrest, hpre⟩ := hP
  obtain ⟨-, -, -, hnamed, -, -, -, hat⟩ := (Spec.applies_iff hf).mp happ
  obtain ⟨hg, hn⟩ := and_e (Cond.before_iff.mp (show (Jvm.Cond.and given_1 narrow_1).before args s = true from hpre))
  obtain ⟨hcount, hg0⟩ := and_e hg
  obtain ⟨ha0, hg1⟩ := and_e hg0
  obtain ⟨ha1, hg2⟩ := and_e hg1
  have ha2 := hg2
  obtain ⟨w0, w1, w2, rfl⟩ : ∃ w0 w1 w2 : Value, args = #[w0, w1, w2] := by
    have hs : args.size = 3 := by simpa [Cond.value, given_1] using hcount
    obtain ⟨L⟩ := args
    match L, hs with
    | [w0, w1, w2], _ => exact ⟨w0, w1, w2, rfl⟩
  have hw := fun d (hd : d ∈ tables_1) => atoms_spec (ws := Jvm.Cond.code x code maxLocals ret :: tables_1) hat d (List.mem_cons_of_mem _ hd)
  obtain ⟨i0, ei0⟩ := isL_v ha0
  obtain rfl : w0 = (.long i0) := Option.some.inj ei0
  obtain ⟨i1, ei1⟩ := isL_v ha1
  obtain rfl : w1 = (.long i1) := Option.some.inj ei1
  obtain ⟨i2, ei2⟩ := is_v ha2
  obtain rfl : w2 = (.int i2) := Option.some.inj ei2
  obtain ⟨n, o, h1, h2, h3, _, L, rfl, ⟨rfl, N⟩, hq⟩ := rm0 l s _ hw tables_1 i0 i1 i2 s.heap s.heap.size (Nat.le_refl _) p e ha hc hk s m _ below hf ((Spec.applies_iff_loose hf).mp happ).1 ⟨rfl, State.Warmed39.refl s, rfl⟩ trivial
  refine ⟨n, _, h1, h2, h3, hpost _ _ _ _ _ _ ⟨Cond.after_iff.mpr rfl, Cond.after_iff.mpr (eq_i res_at (Term.int_eval (1)) rfl), trivial⟩ ⟨hq.1, hq.2.1, (hq.2.2.sift fun y hy => Or.inr (N y hy)).mono (by decide) (by decide)⟩⟩
theorem main_1_1 : Claimed_1_1 := comes_1 fun _ _ _ _ _ _ h hF => ⟨h.1, hF⟩
theorem main_1_2 : Claimed_1_2 := comes_1 fun _ _ _ _ _ _ h hF => ⟨h.2.1, hF⟩
end Jvm.Pilot.@@N@@
namespace Jvm.Pilot.@@N@@
open Jvm Jvm.ClassFile Sem Op Lib Jvm.Free Jvm.Stand Jvm.Pilot.@@N@@.Jvm.D
/-! MADE BY PROGRAM (witnessworld.py) out of the Statement's table words and the real class files: 10 classes; the members and pool entries that the words name. The judged class is class 1, her method 1. -/
namespace start1
open Jvm.ClassFile
def u (s : String) : CpInfo := .utf8 (stringToUtf16 s)
/-- a pool by its gaps: so many unusable entries, then the entry; so many at the end -/
def gap : Nat → List CpInfo → List CpInfo
  | 0, r => r
  | n + 1, r => .unusable :: gap n r
def poolList (es : List (Nat × CpInfo)) (last : Nat) : List CpInfo := es.foldr (fun e r => gap e.1 (e.2 :: r)) (gap last [])
def pool (es : List (Nat × CpInfo)) (last : Nat) : Array CpInfo := ⟨poolList es last⟩
def fileOf (pool : Array CpInfo) (this : Nat) (attrs : Array Attribute := #[]) (ms : Array MethodInfo := #[]) (fl : Nat := 33) (sup : Nat := 0) (ifs : Array Nat := #[]) (fds : Array FieldInfo := #[]) : ClassFile where
  minorVersion := 0
  majorVersion := 65
  constantPool := pool
  accessFlags := fl
  thisClass := this
  superClass := sup
  interfaces := ifs
  fields := fds
  methods := ms
  attributes := attrs
def plain (name : String) (sup : Option ClassId) : Class where
  name := name
  kind := .ordinary
  loader := none
  accessFlags := 33
  super := sup
  interfaces := #[]
  cf := none
  fields := #[]
  methods := #[]
  instanceTypes := #[]
  staticTypes := #[]
  resolved := #[]
  callSites := []
  init := .initialized
  statics := none
  mirror := none

def pool0 : Array CpInfo := pool [(5, u "<init>"), (0, u "()V"), (1, .class_ 10), (1, u "java/lang/Object")] 113

def k0c0 : Code := { maxStack := 0, maxLocals := 1, code := object_method_1_code, exceptionTable := #[], attributes := #[] }
def k0m0 : Method := { name := "<init>", desc := "()V", sig := { parameters := [], returnType := none }, accessFlags := 1, code := some k0c0 }
/-- java/lang/Object -/
def k0 : Class := { plain "java/lang/Object" none with
  accessFlags := 33
  interfaces := #[]
  cf := some (fileOf pool0 8 #[] #[{ accessFlags := 1, nameIndex := 5, descriptorIndex := 6, attributes := #[] }] 33 0 #[] #[])
  fields := #[]
  methods := #[k0m0]
  instanceTypes := #[]
  staticTypes := #[]
  resolved := Array.replicate 124 none
  statics := none }

def pool1 : Array CpInfo := pool [(2, .class_ 4), (0, .nameAndType 5 6), (0, u "java/lang/Object"), (0, u "<init>"), (0, u "()V"), (0, .long 100000000), (1, .long 2), (1, .long 3), (3, .long 9223372036854775807), (1, .methodref 18 19), (0, .class_ 20), (0, .nameAndType 21 22), (0, u "java/lang/Math"), (0, u "max"), (0, u "(JJ)J"), (0, .class_ 24), (0, u "com/example/kirchberg/kirchberg/model/pattern/PatternBudget"), (0, .methodref 23 3), (0, .methodref 23 27), (0, .nameAndType 28 29), (0, u "isSpent"), (0, u "()Z"), (0, .methodref 23 31), (0, .nameAndType 32 33), (0, u "take"), (0, u "(J)Z"), (0, .class_ 35), (0, u "com/example/kirchberg/kirchberg/model/pattern/PatternBudgetIsSpentPinLaw"), (2, u "law"), (0, u "(JJI)Z")] 3

def k1m0 : Method := { name := "<init>", desc := "()V", sig := { parameters := [], returnType := none }, accessFlags := 1, code := none }
def k1c1 : Code := { maxStack := 8, maxLocals := 19, code := code, exceptionTable := #[], attributes := #[] }
def k1m1 : Method := { name := "law", desc := "(JJI)Z", sig := { parameters := [.long, .long, .int], returnType := some .boolean }, accessFlags := 9, code := some k1c1 }
/-- com/example/kirchberg/kirchberg/model/pattern/PatternBudgetIsSpentPinLaw -/
def k1 : Class := { plain "com/example/kirchberg/kirchberg/model/pattern/PatternBudgetIsSpentPinLaw" (some 0) with
  accessFlags := 49
  interfaces := #[]
  cf := some (fileOf pool1 34 #[] #[{ accessFlags := 1, nameIndex := 5, descriptorIndex := 6, attributes := #[] }, { accessFlags := 9, nameIndex := 38, descriptorIndex := 39, attributes := #[] }] 49 2 #[] #[])
  fields := #[]
  methods := #[k1m0, k1m1]
  instanceTypes := #[]
  staticTypes := #[]
  resolved := Array.replicate 43 none
  statics := none }

def pool2 : Array CpInfo := pool [(1, .methodref 2 3), (0, .class_ 4), (0, .nameAndType 5 6), (0, u "java/lang/Object"), (0, u "<init>"), (0, u "()V"), (0, .class_ 8), (0, u "com/example/kirchberg/kirchberg/model/pattern/PatternBudget"), (0, .long 100000000), (1, .fieldref 7 12), (0, .nameAndType 13 14), (0, u "left"), (0, u "J"), (0, u "STEPS_PER_REQUEST"), (3, u "take"), (0, u "(J)Z"), (1, u "isSpent"), (0, u "()Z")] 2

def k2c0 : Code := { maxStack := 3, maxLocals := 1, code := prog_79_method_1_code, exceptionTable := #[], attributes := #[] }
def k2m0 : Method := { name := "<init>", desc := "()V", sig := { parameters := [], returnType := none }, accessFlags := 1, code := some k2c0 }
def k2c1 : Code := { maxStack := 5, maxLocals := 4, code := prog_79_method_2_code, exceptionTable := #[], attributes := #[] }
def k2m1 : Method := { name := "take", desc := "(J)Z", sig := { parameters := [.long], returnType := some .boolean }, accessFlags := 0, code := some k2c1 }
def k2c2 : Code := { maxStack := 4, maxLocals := 1, code := prog_79_method_3_code, exceptionTable := #[], attributes := #[] }
def k2m2 : Method := { name := "isSpent", desc := "()Z", sig := { parameters := [], returnType := some .boolean }, accessFlags := 0, code := some k2c2 }
/-- com/example/kirchberg/kirchberg/model/pattern/PatternBudget -/
def k2 : Class := { plain "com/example/kirchberg/kirchberg/model/pattern/PatternBudget" (some 0) with
  accessFlags := 33
  interfaces := #[]
  cf := some (fileOf pool2 7 #[] #[{ accessFlags := 1, nameIndex := 5, descriptorIndex := 6, attributes := #[] }, { accessFlags := 0, nameIndex := 19, descriptorIndex := 20, attributes := #[] }, { accessFlags := 0, nameIndex := 22, descriptorIndex := 23, attributes := #[] }] 33 2 #[] #[{ accessFlags := 25, nameIndex := 15, descriptorIndex := 14, attributes := #[] }, { accessFlags := 2, nameIndex := 13, descriptorIndex := 14, attributes := #[] }])
  fields := #[{ name := "STEPS_PER_REQUEST", type := .long, accessFlags := 25, slot := 0, constantValue := 0 }, { name := "left", type := .long, accessFlags := 2, slot := 0, constantValue := 0 }]
  methods := #[k2m0, k2m1, k2m2]
  instanceTypes := #[.long]
  staticTypes := #[.long]
  resolved := Array.replicate 26 none
  statics := none }

def pool3 : Array CpInfo := pool [(1, .class_ 2), (0, u "java/lang/Math"), (1, .class_ 6), (1, u "java/lang/Object"), (0, u "<init>"), (0, u "()V"), (89, .class_ 100), (1, u "java/lang/Math$RandomNumberGeneratorHolder"), (20, u "(JJ)J"), (50, u "negativeZeroFloatBits"), (0, u "J"), (2, u "negativeZeroDoubleBits"), (21, u "max"), (46, u "$assertionsDisabled"), (0, u "Z"), (91, u "twoToTheDoubleScaleDown"), (0, u "D"), (4, u "twoToTheDoubleScaleUp"), (9, u "E"), (3, u "PI"), (2, u "TAU"), (2, u "DEGREES_TO_RADIANS"), (0, u "RADIANS_TO_DEGREES")] 94

def k3m0 : Method := { name := "<init>", desc := "()V", sig := { parameters := [], returnType := none }, accessFlags := 2, code := none }
def k3c1 : Code := { maxStack := 4, maxLocals := 4, code := jdk_29_method_66_code, exceptionTable := #[], attributes := #[] }
def k3m1 : Method := { name := "max", desc := "(JJ)J", sig := { parameters := [.long, .long], returnType := some .long }, accessFlags := 9, code := some k3c1 }
/-- java/lang/Math -/
def k3 : Class := { plain "java/lang/Math" (some 0) with
  accessFlags := 49
  interfaces := #[]
  cf := some (fileOf pool3 1 #[.nestMembers #[98]] #[{ accessFlags := 2, nameIndex := 7, descriptorIndex := 8, attributes := #[] }, { accessFlags := 9, nameIndex := 198, descriptorIndex := 121, attributes := #[] }] 49 4 #[] #[{ accessFlags := 25, nameIndex := 354, descriptorIndex := 339, attributes := #[] }, { accessFlags := 25, nameIndex := 358, descriptorIndex := 339, attributes := #[] }, { accessFlags := 25, nameIndex := 361, descriptorIndex := 339, attributes := #[] }, { accessFlags := 26, nameIndex := 364, descriptorIndex := 339, attributes := #[] }, { accessFlags := 26, nameIndex := 365, descriptorIndex := 339, attributes := #[] }, { accessFlags := 26, nameIndex := 172, descriptorIndex := 173, attributes := #[] }, { accessFlags := 26, nameIndex := 176, descriptorIndex := 173, attributes := #[] }, { accessFlags := 8, nameIndex := 344, descriptorIndex := 339, attributes := #[] }, { accessFlags := 8, nameIndex := 338, descriptorIndex := 339, attributes := #[] }, { accessFlags := 4120, nameIndex := 245, descriptorIndex := 246, attributes := #[] }])
  fields := #[{ name := "E", type := .double, accessFlags := 25, slot := 0, constantValue := 0 }, { name := "PI", type := .double, accessFlags := 25, slot := 1, constantValue := 0 }, { name := "TAU", type := .double, accessFlags := 25, slot := 2, constantValue := 0 }, { name := "DEGREES_TO_RADIANS", type := .double, accessFlags := 26, slot := 3, constantValue := 0 }, { name := "RADIANS_TO_DEGREES", type := .double, accessFlags := 26, slot := 4, constantValue := 0 }, { name := "negativeZeroFloatBits", type := .long, accessFlags := 26, slot := 5, constantValue := 0 }, { name := "negativeZeroDoubleBits", type := .long, accessFlags := 26, slot := 6, constantValue := 0 }, { name := "twoToTheDoubleScaleUp", type := .double, accessFlags := 8, slot := 7, constantValue := 0 }, { name := "twoToTheDoubleScaleDown", type := .double, accessFlags := 8, slot := 8, constantValue := 0 }, { name := "$assertionsDisabled", type := .boolean, accessFlags := 4120, slot := 9, constantValue := 0 }]
  methods := #[k3m0, k3m1]
  instanceTypes := #[]
  staticTypes := #[.double, .double, .double, .double, .double, .long, .long, .double, .double, .boolean]
  resolved := Array.replicate 460 none
  statics := none }

def pool4 : Array CpInfo := pool [(1, u "java/lang/Cloneable"), (0, .class_ 1), (0, u "java/lang/Object"), (0, .class_ 3)] 3

/-- java/lang/Cloneable -/
def k4 : Class := { plain "java/lang/Cloneable" (some 0) with
  accessFlags := 1537
  interfaces := #[]
  cf := some (fileOf pool4 2 #[] #[] 1537 4 #[] #[])
  fields := #[]
  methods := #[]
  instanceTypes := #[]
  staticTypes := #[]
  resolved := Array.replicate 8 none
  statics := none }

def pool5 : Array CpInfo := pool [(1, u "java/io/Serializable"), (0, .class_ 1), (0, u "java/lang/Object"), (0, .class_ 3)] 3

/-- java/io/Serializable -/
def k5 : Class := { plain "java/io/Serializable" (some 0) with
  accessFlags := 1537
  interfaces := #[]
  cf := some (fileOf pool5 2 #[] #[] 1537 4 #[] #[])
  fields := #[]
  methods := #[]
  instanceTypes := #[]
  staticTypes := #[]
  resolved := Array.replicate 8 none
  statics := none }

/-- the primitive byte -/
def k6 : Class := { plain "byte" none with kind := .primitive 'B', accessFlags := 0x411 }
/-- [B -/
def k7 : Class := { plain "[B" (some 0) with kind := .array 6 .byte, interfaces := #[4, 5], accessFlags := 1041 }

/-- the primitive int -/
def k8 : Class := { plain "int" none with kind := .primitive 'I', accessFlags := 0x411 }
/-- [I -/
def k9 : Class := { plain "[I" (some 0) with kind := .array 8 .int, interfaces := #[4, 5], accessFlags := 1041 }

def heap : Heap := #[]
def classes : Array Class := #[k0, k1, k2, k3, k4, k5, k6, k7, k8, k9]
def interned : List (Array UInt16 × Addr) := []
def slotsUsed : Nat := 0
def theMethod : MethodId := ⟨1, 1⟩
def args0 : Array Value := #[.long 7, .long 8, .int 7]
def aboutOver (below : List Frame) : State where
  vm := { classes := classes, interned := interned.toArray }
  heap := heap
  slotsUsed := slotsUsed
  threads := #[{ frames := .invoking theMethod args0 :: below }]
def below0 : List Frame := [.native { method := ⟨0, 0⟩, args := #[] }]
def about1 : State := aboutOver below0
def p0 : Program := .bare "" "" ""
def e0 : Env := launch0.env 0 0 0
theorem w_frames : about1.frames = Frame.invoking theMethod args0 :: below0 := rfl
set_option maxRecDepth 65536 in
theorem w_args : argsFit about1.vm theMethod args0 = true := by decide +kernel
set_option maxRecDepth 65536 in
theorem w_heap : heapFits about1 = true := by decide +kernel
set_option maxRecDepth 65536 in
theorem w_runnable : about1.curStatus? = some .runnable := by decide +kernel
set_option maxRecDepth 65536 in
theorem w_alone : about1.alone = true := by decide +kernel
set_option maxRecDepth 65536 in
theorem w_named : about1.methodNamed? x = some theMethod := by decide +kernel
set_option maxRecDepth 65536 in
theorem w_hears : about1.hears theMethod below0 = true := by decide +kernel
set_option maxRecDepth 65536 in
theorem w_ripe : about1.ripe theMethod args0 below0 = true := by decide +kernel
theorem w_running : about1.status = .running := rfl
set_option maxRecDepth 65536 in
theorem w_room : about1.hasRoom e0.platform room_1 = true :=
  launch0.hasRoom_least _ room_1 (by decide +kernel) (by decide +kernel) (by decide +kernel) (by decide +kernel) (by decide +kernel) (by decide +kernel)
theorem allAtoms_all (ts : List Jvm.Cond) (a : Array Jvm.Value) (st : Jvm.State) : (allAtoms ts).before a st = ts.all (fun c => c.before a st) := by
  induction ts with
  | nil => rfl
  | cons c t ih =>
    show (Jvm.Cond.and c (allAtoms t)).before a st = _
    rw [Jvm.Cond.before_and, ih, List.all_cons]
def words1 : List Jvm.Cond := Jvm.Cond.code x code maxLocals ret :: tables_1
/-- a 'code' word, met by the world's own term for the bytes: nothing is compared byte by byte -/
theorem code_word {y : MethodName} {bytes : ByteArray} {mx : Nat} {rt : Option FieldType} {a : Array Value} {s : State} {m : MethodId} {meth : Method} {c : Code} (h1 : s.methodNamed? y = some m) (h2 : s.vm.method? m = some meth) (h3 : meth.code = some c) (h4 : c.code = bytes)
    (h5 : (c.maxLocals == mx && c.exceptionTable.isEmpty && decide (c.maxStack ≤ mostOperands) && decide (meth.sig.returnType = rt) && !meth.locks && decide (parseMethodDescriptor y.desc = some meth.sig)) = true) : (Jvm.Cond.code y bytes mx rt).before a s = true := by
  simp only [Bool.and_eq_true, beq_iff_eq, Bool.not_eq_true', decide_eq_true_eq] at h5
  obtain ⟨⟨⟨⟨⟨g1, g2⟩, g3⟩, g4⟩, g5⟩, g6⟩ := h5
  simp [Cond.before, Cond.holds, Cond.value, h1, h2, h3, h4, g1, g2, g3, g4, g5, g6]
def isCode : Jvm.Cond → Bool
  | .code _ _ _ _ => true
  | _ => false
theorem all_split {L : List Jvm.Cond} {P : Jvm.Cond → Bool} (h1 : L.all (fun c => isCode c || P c) = true) (h2 : ∀ c ∈ L.filter isCode, P c = true) : L.all P = true := by
  refine List.all_eq_true.mpr fun c hc => ?_
  have h := List.all_eq_true.mp h1 c hc
  rcases Bool.eq_false_or_eq_true (isCode c) with hi | hi
  · exact h2 c (List.mem_filter.mpr ⟨hc, hi⟩)
  · simpa [hi] using h
set_option maxRecDepth 65536 in
theorem w_c0 : (Jvm.Cond.code x code maxLocals ret).before args0 about1 = true := code_word (m := ⟨1, 1⟩) (meth := k1m1) (c := k1c1) (by decide +kernel) rfl rfl rfl (by decide +kernel)
set_option maxRecDepth 65536 in
theorem w_c1 : (Jvm.Cond.code ({ cls := "com/example/kirchberg/kirchberg/model/pattern/PatternBudget", name := "<init>", desc := "()V" } : Jvm.MethodName) prog_79_method_1_code (1 : Nat) (Option.none : Option Jvm.ClassFile.FieldType)).before args0 about1 = true := code_word (m := ⟨2, 0⟩) (meth := k2m0) (c := k2c0) (by decide +kernel) rfl rfl rfl (by decide +kernel)
set_option maxRecDepth 65536 in
theorem w_c2 : (Jvm.Cond.code ({ cls := "java/lang/Object", name := "<init>", desc := "()V" } : Jvm.MethodName) object_method_1_code (1 : Nat) (Option.none : Option Jvm.ClassFile.FieldType)).before args0 about1 = true := code_word (m := ⟨0, 0⟩) (meth := k0m0) (c := k0c0) (by decide +kernel) rfl rfl rfl (by decide +kernel)
set_option maxRecDepth 65536 in
theorem w_c3 : (Jvm.Cond.code ({ cls := "com/example/kirchberg/kirchberg/model/pattern/PatternBudget", name := "isSpent", desc := "()Z" } : Jvm.MethodName) prog_79_method_3_code (1 : Nat) (Option.some Jvm.ClassFile.FieldType.boolean)).before args0 about1 = true := code_word (m := ⟨2, 2⟩) (meth := k2m2) (c := k2c2) (by decide +kernel) rfl rfl rfl (by decide +kernel)
set_option maxRecDepth 65536 in
theorem w_c4 : (Jvm.Cond.code ({ cls := "com/example/kirchberg/kirchberg/model/pattern/PatternBudget", name := "take", desc := "(J)Z" } : Jvm.MethodName) prog_79_method_2_code (4 : Nat) (Option.some Jvm.ClassFile.FieldType.boolean)).before args0 about1 = true := code_word (m := ⟨2, 1⟩) (meth := k2m1) (c := k2c1) (by decide +kernel) rfl rfl rfl (by decide +kernel)
set_option maxRecDepth 65536 in
theorem w_c5 : (Jvm.Cond.code ({ cls := "java/lang/Math", name := "max", desc := "(JJ)J" } : Jvm.MethodName) jdk_29_method_66_code (4 : Nat) (Option.some Jvm.ClassFile.FieldType.long)).before args0 about1 = true := code_word (m := ⟨3, 1⟩) (meth := k3m1) (c := k3c1) (by decide +kernel) rfl rfl rfl (by decide +kernel)
def codes1 : List Jvm.Cond := [Jvm.Cond.code x code maxLocals ret, Jvm.Cond.code ({ cls := "com/example/kirchberg/kirchberg/model/pattern/PatternBudget", name := "<init>", desc := "()V" } : Jvm.MethodName) prog_79_method_1_code (1 : Nat) (Option.none : Option Jvm.ClassFile.FieldType), Jvm.Cond.code ({ cls := "java/lang/Object", name := "<init>", desc := "()V" } : Jvm.MethodName) object_method_1_code (1 : Nat) (Option.none : Option Jvm.ClassFile.FieldType), Jvm.Cond.code ({ cls := "com/example/kirchberg/kirchberg/model/pattern/PatternBudget", name := "isSpent", desc := "()Z" } : Jvm.MethodName) prog_79_method_3_code (1 : Nat) (Option.some Jvm.ClassFile.FieldType.boolean), Jvm.Cond.code ({ cls := "com/example/kirchberg/kirchberg/model/pattern/PatternBudget", name := "take", desc := "(J)Z" } : Jvm.MethodName) prog_79_method_2_code (4 : Nat) (Option.some Jvm.ClassFile.FieldType.boolean), Jvm.Cond.code ({ cls := "java/lang/Math", name := "max", desc := "(JJ)J" } : Jvm.MethodName) jdk_29_method_66_code (4 : Nat) (Option.some Jvm.ClassFile.FieldType.long)]
set_option maxRecDepth 65536 in
theorem codes_eq : words1.filter isCode = codes1 := rfl
theorem w_codes : ∀ c ∈ words1.filter isCode, c.before args0 about1 = true := by
  rw [codes_eq]
  intro c hc
  simp only [codes1, List.mem_cons, List.not_mem_nil, or_false] at hc
  rcases hc with rfl | rfl | rfl | rfl | rfl | rfl
  · exact w_c0
  · exact w_c1
  · exact w_c2
  · exact w_c3
  · exact w_c4
  · exact w_c5
set_option maxRecDepth 65536 in
theorem w_t1 : (words1.take 24).all (fun c => isCode c || c.before args0 about1) = true := by decide +kernel
set_option maxRecDepth 65536 in
theorem w_t2 : (words1.drop 24).all (fun c => isCode c || c.before args0 about1) = true := by decide +kernel
theorem w_tables : (allAtoms (Jvm.Cond.code x code maxLocals ret :: tables_1)).before args0 about1 = true := by
  rw [allAtoms_all]
  show words1.all (fun c => c.before args0 about1) = true
  refine all_split ?_ w_codes
  rw [← List.take_append_drop 24 words1, List.all_append, w_t1, w_t2]
  rfl
set_option maxRecDepth 65536 in
theorem w_case : (Jvm.Cond.and given_1 narrow_1).before args0 about1 = true := by decide +kernel
theorem w_applies : (headSpec (Jvm.Cond.code x code maxLocals ret :: tables_1) room_1).applies x e0.platform about1 = true :=
  (Spec.applies_iff w_frames).mpr ⟨w_running, w_runnable, w_alone, w_named, w_hears, w_ripe, w_room, w_tables⟩
theorem atStart : AtStart classFile x code maxLocals ret World_1 tables_1 room_1 Calls_1 rest_1 Pre_1 launch0 p0 e0 about1 theMethod args0 below0 :=
  ⟨lists_1, trivial, launch0.admits_env _ _ _, launch0.least_env, fairChoices_fair.cas, fairChoices_fair.clock, w_frames, w_args, w_heap, w_applies, trivial, trivial, w_case⟩
end start1
theorem witness_1 : WitnessClaimed_1 := ⟨start1.p0, start1.e0, start1.about1, start1.theMethod, start1.args0, start1.below0, start1.atStart⟩
end Jvm.Pilot.@@N@@

import JvmDerived
import JvmDerived.Pilot.@@N@@Statement
import JvmDerived.Pilot.@@N@@Code
set_option linter.unusedVariables false
set_option linter.unusedSimpArgs false
namespace Jvm.RoadKit
open Sem ClassFile Op Lib Jvm.Stand Jvm.Free Jvm.LawKit
section New
variable {p : Program} {l : Launch} {e : Env} {R : Room} {s : State} {m : MethodId} {args : Array Value} {below : List Frame} {meth : Method} {c : Code} {T : State} {locs : List Loc} {cells slots : Nat}
theorem retI (X : Stand p l e R s m args below meth c T locs cells slots) (hx : p.tables.exec = Jvm.exec) {pc : Nat} {Ls : Array Slot} {z : Int32} {rest : List Value} (hret : meth.sig.returnType = some .int) (hd : decode c.code pc = .ok (.ireturn, 1)) {fs : List Frame}
    (hl : ∀ (f : JFrame) (acts : List Action), f.method = m → f.locked = none → f.entered = [] → (doReturn e (T.setTop f) acts (some (.int z))).1 = T.setFrames fs) : Steps p.tables e below (T.setTop (mkF m pc Ls (.int z :: rest))) (T.setFrames fs) := by
  have hm' : T.vm.method? m = some meth := X.method'
  have hn : narrow .int (.int z) = .int z := rfl
  show Steps p.tables e below (T.setTop { method := m, pc := pc, locals := Ls, stack := _ :: rest, locked := none }) _
  jvm_step X.here [X.here.top, hx, hd, hm', hret, hn]
  first | (intro acts; rw [hl _ acts rfl rfl rfl]) | rw [hl _ _ rfl rfl rfl]
  exact Steps.refl _
theorem own_retJ (X : Stand p l e R s m args below meth c T locs cells slots) (hx : p.tables.exec = Jvm.exec) {pc : Nat} {Ls : Array Slot} {z : Int64} {rest : List Value} (hret : meth.sig.returnType = some .long) (hd : decode c.code pc = .ok (.lreturn, 1)) {fs : List Frame}
    (hl : ∀ (f : JFrame) (acts : List Action), f.method = m → f.locked = none → f.entered = [] → (doReturn e (T.setTop f) acts (some (.long z))).1 = T.setFrames fs) : Steps p.tables e below (T.setTop (mkF m pc Ls (.long z :: rest))) (T.setFrames fs) :=
  retOut X hx (t := .long) (i := .lreturn) hret rfl (Or.inr (Or.inl ⟨rfl, rfl, z, rfl⟩)) hd hl
theorem own_retR (X : Stand p l e R s m args below meth c T locs cells slots) (hx : p.tables.exec = Jvm.exec) {pc : Nat} {Ls : Array Slot} {w : Value} {t : FieldType} {rest : List Value} (hret : meth.sig.returnType = some t) (ht : t.isReference = true) (hw : w.isRef = true) (hd : decode c.code pc = .ok (.areturn, 1)) {fs : List Frame}
    (hl : ∀ (f : JFrame) (acts : List Action), f.method = m → f.locked = none → f.entered = [] → (doReturn e (T.setTop f) acts (some w)).1 = T.setFrames fs) : Steps p.tables e below (T.setTop (mkF m pc Ls (w :: rest))) (T.setFrames fs) :=
  retOut X hx (i := .areturn) hret (by cases t <;> simp_all [FieldType.isReference, narrow]) (Or.inr (Or.inr (Or.inr (Or.inr ⟨rfl, ht, hw⟩)))) hd hl
theorem own_narZ (x : Int32) : nar .boolean x = x &&& 1 := rfl
theorem own_narC (x : Int32) : nar .char x = x.toUInt32.toUInt16.toUInt32.toInt32 := rfl
theorem own_narB (x : Int32) : nar .byte x = x.toInt8.toInt32 := rfl
/-- where the run stands, and how it ends -/
abbrev own_Go (tb : Tables) (e : Env) (below : List Frame) (P : State → Outcome → Prop) (T : State) (g : JFrame) : Prop := ∃ s₂ o, Steps tb e below (T.setTop g) s₂ ∧ s₂.status = .running ∧ Ended s₂ below o ∧ P s₂ o
theorem own_go {tb : Tables} {P : State → Outcome → Prop} {T' : State} {g g' : JFrame} (st : ∀ t, Steps tb e below (T'.setTop g') t → Steps tb e below (T.setTop g) t) (k : own_Go tb e below P T' g') : own_Go tb e below P T g := by
  obtain ⟨s₂, o, h1, h2⟩ := k
  exact ⟨s₂, o, st _ h1, h2⟩
theorem own_start {tb : Tables} {P : State → Outcome → Prop} {g g' : JFrame} (q : g = g') (k : own_Go tb e below P T g') : own_Go tb e below P T g := q ▸ k
theorem own_selPriv {z y : MethodName} (hz : z.cls = y.cls) (hs : (Cond.selects y.cls z z).before args s = true) (hp : s.PrivateAt y) (hi : (Cond.instanceMethod y).before args s = true) (hy : y.cls ≠ "java/lang/invoke/MethodHandle" ∧ y.cls ≠ "java/lang/invoke/VarHandle") : (Cond.selects y.cls y y).before args s = true := by
  obtain ⟨c, r, m, h1, -, h3, -, k, h5, h6⟩ := Cond.selects_spec hs
  exact selects_self_of_private (hz ▸ findClass_of_methodNamed h3) h5 h6 hp hi hy
end New
end Jvm.RoadKit
namespace Jvm.Pilot.@@N@@
open Jvm Jvm.ClassFile Sem Op Lib Jvm.Free Jvm.Stand Jvm.LawKit Jvm.RoadKit Bundle Jvm.Pilot.@@N@@.Jvm.D
def own_sel4 (a b c d j : Int32) : Int32 := if j = 0 then a else if j = 1 then b else if j = 2 then c else d
theorem own_idx4 (j : Int32) (h0 : ¬ (j < (0 : Int32))) (h1 : j < (4 : Int32)) : j = 0 ∨ j = 1 ∨ j = 2 ∨ j = 3 := by
  rw [Int32.lt_iff_toInt_lt] at h0 h1
  have k0 : (0 : Int32).toInt = 0 := rfl
  have k1 : (1 : Int32).toInt = 1 := rfl
  have k2 : (2 : Int32).toInt = 2 := rfl
  have k3 : (3 : Int32).toInt = 3 := rfl
  have k4 : (4 : Int32).toInt = 4 := rfl
  simp only [← Int32.toInt_inj]
  omega
theorem own_sel4_at (a b c d j : Int32) (h0 : ¬ (j < (0 : Int32))) (h1 : j < (4 : Int32)) (dv : Value) : [Value.int a, Value.int b, Value.int c, Value.int d].getD j.toNatClampNeg dv = Value.int (own_sel4 a b c d j) := by
  rcases own_idx4 j h0 h1 with rfl | rfl | rfl | rfl <;> rfl
theorem d2_0 : decode jdk_30_method_1_code 0 = .ok (.aload_n 0, 1) := by decide +kernel
theorem d2_1 : decode jdk_30_method_1_code 1 = .ok (.invokespecial 1, 3) := by decide +kernel
theorem d2_4 : decode jdk_30_method_1_code 4 = .ok (.return_, 1) := by decide +kernel
theorem pn_0 : plainName "java/lang/Record" = true := by first | (simp [plainName, overriddenIn]; done) | decide +kernel
theorem ef_2 (m : MethodId) (a1 : Addr) : entryFrame m #[(.ref a1)] 1 = mkF m 0 #[.val (.ref a1)] [] := by first | (simp [entryFrame, mkF, argsToLocals, Value.category]; done) | rfl
def Q2 (Z : State) (a1 : Addr) (h0 : Heap) (n0 : Nat) (v : Option Value) (h : Heap) (L : List Loc) : Prop := v = none ∧ Fr n0 L ∧ h = h0
set_option maxRecDepth 65536 in
set_option maxHeartbeats 40000000 in
theorem rm2 (l : Launch) (Z : State) (a0 : Array Value) (hw : ∀ d ∈ tables_1, d.before a0 Z = true) (ws : List Jvm.Cond) (a1 : Addr) (h0 : Heap) (n0 : Nat) (Z0 : n0 ≤ h0.size) :
    MetFree l (⟨"java/lang/Record", "<init>", "()V"⟩ : MethodName) (head1 (Jvm.Cond.code (⟨"java/lang/Record", "<init>", "()V"⟩ : MethodName) jdk_30_method_1_code 1 none :: ws) ({ frames := 1, cells := 0, slots := 0, locals := 12 } : Room)) (fun a U => a = #[(.ref a1)] ∧ Z.Warmed39 U.vm ∧ U.heap = h0) (fun _ _ _ _ _ => True) (fun _ U o U' => ∃ v L, o = .returned v ∧ Q2 Z a1 h0 n0 v U'.heap L ∧ FrameEnd U o U' L ({ frames := 1, cells := 0, slots := 0, locals := 12 } : Room).cells ({ frames := 1, cells := 0, slots := 0, locals := 12 } : Room).slots) := by
  refine MetFree.of_bodySF (plainFor_of_name pn_0) hisR ?_
  intro p e s m args below meth c s₁ Bd hml0 hP hK
  obtain ⟨rfl, hZ, hh⟩ := hP
  have hx := Bd.exec
  have hby := Bd.bytes
  have hml : c.maxLocals = 1 := hml0
  have hown : s.vm.findClass "java/lang/Record" = some m.cls := findClass_of_methodNamed Bd.named
  have hnm := (name_of_methodNamed Bd.named Bd.method).1
  have X0 : Stand p l e ({ frames := 1, cells := 0, slots := 0, locals := 12 } : Room) s m #[(.ref a1)] below meth c s₁ [] 0 0 := Stand.of_body Bd
  have e0 : s₁.heap = h0 := by rw [← hh, Bd.state]; rfl
  have NN := Fr.nil n0
  have KK : Keep h0 h0 [] := Keep.refl h0 []
  refine own_start (ef_2 m a1) ?_
  refine own_go (T' := s₁) (g' := (mkF m 1 #[.val (.ref a1)] [(.ref a1)])) (fun t k => ?_) ?_
  · show Steps p.tables e below (s₁.setTop (mkF m 0 #[.val (.ref a1)] [])) _
    refine XS.aloadN X0.here hx rfl (hb hby d2_0) rfl rfl ?_
    exact k
  obtain ⟨T1, X1, e1, st1⟩ := initO X0 hx hZ hown (hw _ (List.mem_of_getElem? (i := 12) rfl)) (hw _ (List.mem_of_getElem? (i := 13) rfl)) (hw _ (List.mem_of_getElem? (i := 14) rfl)) e0 (g := (mkF m 1 #[.val (.ref a1)] [(.ref a1)])) rfl (by rw [hml]; rfl) rfl (hb hby d2_1) (by decide) (W := 0) (by show 2 * 0 + _ ≤ _; exact Nat.le_of_eq rfl) (by decide)
  refine own_go st1 ?_
  show own_Go p.tables e below _ T1 (mkF m 4 #[.val (.ref a1)] [])
  obtain ⟨fs, hr, hrun, hended, hW, hsame⟩ := X1.leave (v := none) (fun _ => rfl)
  refine ⟨_, _, ?_, hrun, hended, _, _, rfl, ?_, ⟨_, rfl⟩, hW, hsame.mono (by decide) (by decide)⟩
  · exact X1.returnOut hx Bd.returns (hb hby d2_4) hr
  · show Q2 Z a1 h0 n0 _ T1.heap _
    rw [e1]
    exact ⟨rfl, NN, rfl⟩
theorem d1_0 : decode prog_57_method_1_code 0 = .ok (.aload_n 0, 1) := by decide +kernel
theorem d1_1 : decode prog_57_method_1_code 1 = .ok (.invokespecial 1, 3) := by decide +kernel
theorem d1_4 : decode prog_57_method_1_code 4 = .ok (.aload_n 0, 1) := by decide +kernel
theorem d1_5 : decode prog_57_method_1_code 5 = .ok (.aload_n 1, 1) := by decide +kernel
theorem d1_6 : decode prog_57_method_1_code 6 = .ok (.putfield 7, 3) := by decide +kernel
theorem d1_9 : decode prog_57_method_1_code 9 = .ok (.return_, 1) := by decide +kernel
theorem pn_1 : plainName "com/example/caliper2/caliper2/ScanInput$SameChars" = true := by first | (simp [plainName, overriddenIn]; done) | decide +kernel
theorem pd_1 : parseMethodDescriptor "()V" = some ⟨[], none⟩ := by decide +kernel
theorem ef_1 (m : MethodId) (a1 : Addr) (a2 : Addr) : entryFrame m #[(.ref a1), (.ref a2)] 2 = mkF m 0 #[.val (.ref a1), .val (.ref a2)] [] := by first | (simp [entryFrame, mkF, argsToLocals, Value.category]; done) | rfl
def Q1 (Z : State) (a1 : Addr) (a2 : Addr) (u_pattern_a1 : Value) (h0 : Heap) (n0 : Nat) (v : Option Value) (h : Heap) (L : List Loc) : Prop := v = none ∧ Fr n0 L ∧ Keep h0 h [a1] ∧ Exa Z h a1 "com/example/caliper2/caliper2/ScanInput$SameChars" ∧ Fld Z h a1 "com/example/caliper2/caliper2/ScanInput$SameChars" "pattern" "[C" (.ref a2)
set_option maxRecDepth 65536 in
set_option maxHeartbeats 40000000 in
theorem rm1 (l : Launch) (Z : State) (a0 : Array Value) (hw : ∀ d ∈ tables_1, d.before a0 Z = true) (ws : List Jvm.Cond) (a1 : Addr) (a2 : Addr) (u_pattern_a1 : Value) (h0 : Heap) (n0 : Nat) (Z0 : n0 ≤ h0.size) (E_a1 : Exa Z h0 a1 "com/example/caliper2/caliper2/ScanInput$SameChars") (F_a1_pattern : Fld Z h0 a1 "com/example/caliper2/caliper2/ScanInput$SameChars" "pattern" "[C" u_pattern_a1) (g_a1 : n0 ≤ a1) :
    MetFree l (⟨"com/example/caliper2/caliper2/ScanInput$SameChars", "<init>", "([C)V"⟩ : MethodName) (head1 (Jvm.Cond.code (⟨"com/example/caliper2/caliper2/ScanInput$SameChars", "<init>", "([C)V"⟩ : MethodName) prog_57_method_1_code 2 none :: ws) ({ frames := 2, cells := 0, slots := 0, locals := 24 } : Room)) (fun a U => a = #[(.ref a1), (.ref a2)] ∧ Z.Warmed39 U.vm ∧ U.heap = h0) (fun _ _ _ _ _ => True) (fun _ U o U' => ∃ v L, o = .returned v ∧ Q1 Z a1 a2 u_pattern_a1 h0 n0 v U'.heap L ∧ FrameEnd U o U' L ({ frames := 2, cells := 0, slots := 0, locals := 24 } : Room).cells ({ frames := 2, cells := 0, slots := 0, locals := 24 } : Room).slots) := by
  refine MetFree.of_bodySF (plainFor_of_name pn_1) hisR ?_
  intro p e s m args below meth c s₁ Bd hml0 hP hK
  obtain ⟨rfl, hZ, hh⟩ := hP
  have hx := Bd.exec
  have hby := Bd.bytes
  have hml : c.maxLocals = 2 := hml0
  have hown : s.vm.findClass "com/example/caliper2/caliper2/ScanInput$SameChars" = some m.cls := findClass_of_methodNamed Bd.named
  have hnm := (name_of_methodNamed Bd.named Bd.method).1
  have X0 : Stand p l e ({ frames := 2, cells := 0, slots := 0, locals := 24 } : Room) s m #[(.ref a1), (.ref a2)] below meth c s₁ [] 0 0 := Stand.of_body Bd
  have e0 : s₁.heap = h0 := by rw [← hh, Bd.state]; rfl
  have NN := Fr.nil n0
  have KK : Keep h0 h0 [a1] := Keep.refl h0 [a1]
  refine own_start (ef_1 m a1 a2) ?_
  refine own_go (T' := s₁) (g' := (mkF m 1 #[.val (.ref a1), .val (.ref a2)] [(.ref a1)])) (fun t k => ?_) ?_
  · show Steps p.tables e below (s₁.setTop (mkF m 0 #[.val (.ref a1), .val (.ref a2)] [])) _
    refine XS.aloadN X0.here hx rfl (hb hby d1_0) rfl rfl ?_
    exact k
  obtain ⟨_, _, ⟨T1, L1, k1, n1⟩, -, X1, ⟨Lc1, hQ1, l1, y1, z1⟩, st1⟩ := X0.specialBack hx (y := (⟨"java/lang/Record", "<init>", "()V"⟩ : MethodName)) rfl hown (mvT hZ (hw _ (List.mem_of_getElem? (i := 7) rfl))) (mvT hZ (hw _ (List.mem_of_getElem? (i := 8) rfl))) (mvT hZ (hw _ (List.mem_of_getElem? (i := 11) rfl))) (by decide) (backOf (W := 0) (rm2 l Z a0 hw [] a1 h0 n0 Z0 ) hZ (hw _ (List.mem_of_getElem? (i := 11) rfl)) (hw _ (List.mem_of_getElem? (i := 10) rfl)) (by decide) (by decide)) (g := (mkF m 1 #[.val (.ref a1), .val (.ref a2)] [(.ref a1)])) rfl (by rw [hml]; rfl) (Steps.refl _) (a := a1) (argsL := []) (rest := []) (lenOf pd_1 rfl) rfl (by show 2 * 0 + _ ≤ _; exact Nat.le_of_eq rfl) (hb hby d1_1) (fun _ _ => ⟨rfl, e0, (by decide : 0 + 0 ≤ _), (by decide : 0 + 0 ≤ _)⟩)
  dsimp only [Pt.U, Pt.locs, Pt.cells, Pt.slots] at X1 l1 y1 z1 st1 hQ1
  subst l1 y1 z1
  obtain ⟨rfl, N1q, e1⟩ := hQ1
  have NN := Fr.app NN N1q
  refine own_go (fun t k => st1.trans k) ?_
  show own_Go p.tables e below _ T1 (mkF m 4 #[.val (.ref a1), .val (.ref a2)] [])
  refine own_go (T' := T1) (g' := (mkF m 6 #[.val (.ref a1), .val (.ref a2)] [(.ref a2), (.ref a1)])) (fun t k => ?_) ?_
  · show Steps p.tables e below (T1.setTop (mkF m 4 #[.val (.ref a1), .val (.ref a2)] [])) _
    refine XS.aloadN X1.here hx rfl (hb hby d1_4) rfl rfl ?_
    show Steps p.tables e below (T1.setTop (mkF m 5 #[.val (.ref a1), .val (.ref a2)] [(.ref a1)])) _
    refine XS.aloadN X1.here hx rfl (hb hby d1_5) rfl rfl ?_
    exact k
  obtain ⟨T2, h2, X2, e2, W2, st2⟩ := putF X1 hx hZ hown (host := "") (Or.inl (hw _ (List.mem_of_getElem? (i := 15) rfl))) Via.refl e1 F_a1_pattern E_a1 (Or.inr ⟨(hw _ (List.mem_of_getElem? (i := 16) rfl)), rfl, hnm⟩) (hw _ (List.mem_of_getElem? (i := 2) rfl)) (ty := (.array .char)) (by decide) rfl rfl (g := (mkF m 6 #[.val (.ref a1), .val (.ref a2)] [(.ref a2), (.ref a1)])) rfl rfl (hb hby d1_6)
  refine own_go st2 ?_
  have E_a1 := E_a1.wr W2
  have F_a1_pattern := F_a1_pattern.same W2
  have Z0 := Nat.le_trans Z0 (Keep.of_wr W2).1
  have KK := KK.wr W2 (Or.inl (List.mem_of_getElem? (i := 0) rfl))
  have NN := Fr.snoc X2 NN g_a1
  show own_Go p.tables e below _ T2 (mkF m 9 #[.val (.ref a1), .val (.ref a2)] [])
  obtain ⟨fs, hr, hrun, hended, hW, hsame⟩ := X2.leave (v := none) (fun _ => rfl)
  refine ⟨_, _, ?_, hrun, hended, _, _, rfl, ?_, ⟨_, rfl⟩, hW, hsame.mono (by decide) (by decide)⟩
  · exact X2.returnOut hx Bd.returns (hb hby d1_9) hr
  · show Q1 Z a1 a2 u_pattern_a1 h0 n0 _ T2.heap _
    rw [e2]
    exact ⟨rfl, NN, KK, E_a1, F_a1_pattern⟩
theorem d4_0 : decode prog_57_method_2_code 0 = .ok (.aload_n 0, 1) := by decide +kernel
theorem d4_1 : decode prog_57_method_2_code 1 = .ok (.getfield 7, 3) := by decide +kernel
theorem d4_4 : decode prog_57_method_2_code 4 = .ok (.iload_n 1, 1) := by decide +kernel
theorem d4_5 : decode prog_57_method_2_code 5 = .ok (.caload, 1) := by decide +kernel
theorem d4_6 : decode prog_57_method_2_code 6 = .ok (.aload_n 0, 1) := by decide +kernel
theorem d4_7 : decode prog_57_method_2_code 7 = .ok (.getfield 7, 3) := by decide +kernel
theorem d4_10 : decode prog_57_method_2_code 10 = .ok (.iload_n 2, 1) := by decide +kernel
theorem d4_11 : decode prog_57_method_2_code 11 = .ok (.caload, 1) := by decide +kernel
theorem d4_12 : decode prog_57_method_2_code 12 = .ok (.if_icmp .ne 7, 3) := by decide +kernel
theorem d4_15 : decode prog_57_method_2_code 15 = .ok (.iconst 1, 1) := by decide +kernel
theorem d4_16 : decode prog_57_method_2_code 16 = .ok (.goto 4, 3) := by decide +kernel
theorem d4_19 : decode prog_57_method_2_code 19 = .ok (.iconst 0, 1) := by decide +kernel
theorem d4_20 : decode prog_57_method_2_code 20 = .ok (.ireturn, 1) := by decide +kernel
theorem ef_4 (m : MethodId) (a1 : Addr) (p2 : Int32) (p3 : Int32) : entryFrame m #[(.ref a1), (.int p2), (.int p3)] 3 = mkF m 0 #[.val (.ref a1), .val (.int p2), .val (.int p3)] [] := by first | (simp [entryFrame, mkF, argsToLocals, Value.category]; done) | rfl
def r_4 (p2 : Int32) (p3 : Int32) (v0_w_pattern_a1 : Int32) (v1_w_pattern_a1 : Int32) (v2_w_pattern_a1 : Int32) (v3_w_pattern_a1 : Int32) : Int32 := (((if (own_sel4 v0_w_pattern_a1 v1_w_pattern_a1 v2_w_pattern_a1 v3_w_pattern_a1 p2) = (own_sel4 v0_w_pattern_a1 v1_w_pattern_a1 v2_w_pattern_a1 v3_w_pattern_a1 p3) then (1 : Int32) else (0 : Int32))) &&& 1)
def Q4 (Z : State) (a1 : Addr) (p2 : Int32) (p3 : Int32) (w_pattern_a1 : Addr) (k_w_pattern_a1 : ClassId) (v0_w_pattern_a1 : Int32) (v1_w_pattern_a1 : Int32) (v2_w_pattern_a1 : Int32) (v3_w_pattern_a1 : Int32) (h0 : Heap) (n0 : Nat) (v : Option Value) (h : Heap) (L : List Loc) : Prop := v = some (.int (r_4 p2 p3 v0_w_pattern_a1 v1_w_pattern_a1 v2_w_pattern_a1 v3_w_pattern_a1)) ∧ Fr n0 L ∧ h = h0
set_option maxRecDepth 65536 in
set_option maxHeartbeats 40000000 in
theorem rm4 (l : Launch) (Z : State) (a0 : Array Value) (hw : ∀ d ∈ tables_1, d.before a0 Z = true) (ws : List Jvm.Cond) (a1 : Addr) (p2 : Int32) (p3 : Int32) (w_pattern_a1 : Addr) (k_w_pattern_a1 : ClassId) (v0_w_pattern_a1 : Int32) (v1_w_pattern_a1 : Int32) (v2_w_pattern_a1 : Int32) (v3_w_pattern_a1 : Int32) (h0 : Heap) (n0 : Nat) (Z0 : n0 ≤ h0.size) (F_a1_pattern : Fld Z h0 a1 "com/example/caliper2/caliper2/ScanInput$SameChars" "pattern" "[C" (.ref w_pattern_a1)) (V_w_pattern_a1 : Arv Z h0 w_pattern_a1 k_w_pattern_a1 .char (4 : Int32) [(.int v0_w_pattern_a1), (.int v1_w_pattern_a1), (.int v2_w_pattern_a1), (.int v3_w_pattern_a1)] (.int (0 : Int32))) (hlo5 : ¬ (p2 < (0 : Int32))) (hhi5 : p2 < (4 : Int32)) (hlo11 : ¬ (p3 < (0 : Int32))) (hhi11 : p3 < (4 : Int32)) :
    MetFree l (⟨"com/example/caliper2/caliper2/ScanInput$SameChars", "test", "(II)Z"⟩ : MethodName) (head1 (Jvm.Cond.code (⟨"com/example/caliper2/caliper2/ScanInput$SameChars", "test", "(II)Z"⟩ : MethodName) prog_57_method_2_code 3 (some .boolean) :: ws) ({ frames := 0, cells := 0, slots := 0, locals := 0 } : Room)) (fun a U => a = #[(.ref a1), (.int p2), (.int p3)] ∧ Z.Warmed39 U.vm ∧ U.heap = h0) (fun _ _ _ _ _ => True) (fun _ U o U' => ∃ v L, o = .returned v ∧ Q4 Z a1 p2 p3 w_pattern_a1 k_w_pattern_a1 v0_w_pattern_a1 v1_w_pattern_a1 v2_w_pattern_a1 v3_w_pattern_a1 h0 n0 v U'.heap L ∧ FrameEnd U o U' L ({ frames := 0, cells := 0, slots := 0, locals := 0 } : Room).cells ({ frames := 0, cells := 0, slots := 0, locals := 0 } : Room).slots) := by
  refine MetFree.of_bodySF (plainFor_of_name pn_1) hisR ?_
  intro p e s m args below meth c s₁ Bd hml0 hP hK
  obtain ⟨rfl, hZ, hh⟩ := hP
  have hx := Bd.exec
  have hby := Bd.bytes
  have hml : c.maxLocals = 3 := hml0
  have hown : s.vm.findClass "com/example/caliper2/caliper2/ScanInput$SameChars" = some m.cls := findClass_of_methodNamed Bd.named
  have hnm := (name_of_methodNamed Bd.named Bd.method).1
  have X0 : Stand p l e ({ frames := 0, cells := 0, slots := 0, locals := 0 } : Room) s m #[(.ref a1), (.int p2), (.int p3)] below meth c s₁ [] 0 0 := Stand.of_body Bd
  have e0 : s₁.heap = h0 := by rw [← hh, Bd.state]; rfl
  have NN := Fr.nil n0
  have KK : Keep h0 h0 [] := Keep.refl h0 []
  refine own_start (ef_4 m a1 p2 p3) ?_
  refine own_go (T' := s₁) (g' := (mkF m 1 #[.val (.ref a1), .val (.int p2), .val (.int p3)] [(.ref a1)])) (fun t k => ?_) ?_
  · show Steps p.tables e below (s₁.setTop (mkF m 0 #[.val (.ref a1), .val (.int p2), .val (.int p3)] [])) _
    refine XS.aloadN X0.here hx rfl (hb hby d4_0) rfl rfl ?_
    exact k
  obtain ⟨T1, X1, e1, st1⟩ := getF X0 hx hZ hown (host := "") (Or.inl (hw _ (List.mem_of_getElem? (i := 15) rfl))) Via.refl e0 F_a1_pattern (g := (mkF m 1 #[.val (.ref a1), .val (.int p2), .val (.int p3)] [(.ref a1)])) rfl rfl (hb hby d4_1)
  refine own_go st1 ?_
  show own_Go p.tables e below _ T1 (mkF m 4 #[.val (.ref a1), .val (.int p2), .val (.int p3)] [(.ref w_pattern_a1)])
  refine own_go (T' := T1) (g' := (mkF m 5 #[.val (.ref a1), .val (.int p2), .val (.int p3)] [(.int p2), (.ref w_pattern_a1)])) (fun t k => ?_) ?_
  · show Steps p.tables e below (T1.setTop (mkF m 4 #[.val (.ref a1), .val (.int p2), .val (.int p3)] [(.ref w_pattern_a1)])) _
    refine XS.iloadN X1.here hx rfl (hb hby d4_4) rfl ?_
    exact k
  have Vq := V_w_pattern_a1
  obtain ⟨cl2, Ar2, q2, Sz2, Ng2, Hs2, Gs2⟩ := Vq
  have hin2 : ¬ (p2 < 0 ∨ cl2.slots.size ≤ (p2).toNatClampNeg) := inb_of Sz2 ⟨hlo5, hhi5⟩
  have hat2 : cl2.slots[(p2).toNatClampNeg]? = some (.int (own_sel4 v0_w_pattern_a1 v1_w_pattern_a1 v2_w_pattern_a1 v3_w_pattern_a1 p2)) := Hs2.at hin2 (own_sel4_at _ _ _ _ _ hlo5 hhi5 _)
  refine own_go (fun t k => X1.caload hx (j := p2) (v := (.int (own_sel4 v0_w_pattern_a1 v1_w_pattern_a1 v2_w_pattern_a1 v3_w_pattern_a1 p2))) (by rw [e1]; exact Ar2.1) (State.isArrayOf_alike hZ.alike Ar2.2.1) Ar2.2.2 hin2 hat2 (g := (mkF m 5 #[.val (.ref a1), .val (.int p2), .val (.int p3)] [(.int p2), (.ref w_pattern_a1)])) rfl rfl (hb hby d4_5) t k) ?_
  show own_Go p.tables e below _ T1 (mkF m 6 #[.val (.ref a1), .val (.int p2), .val (.int p3)] [(.int (own_sel4 v0_w_pattern_a1 v1_w_pattern_a1 v2_w_pattern_a1 v3_w_pattern_a1 p2))])
  refine own_go (T' := T1) (g' := (mkF m 7 #[.val (.ref a1), .val (.int p2), .val (.int p3)] [(.ref a1), (.int (own_sel4 v0_w_pattern_a1 v1_w_pattern_a1 v2_w_pattern_a1 v3_w_pattern_a1 p2))])) (fun t k => ?_) ?_
  · show Steps p.tables e below (T1.setTop (mkF m 6 #[.val (.ref a1), .val (.int p2), .val (.int p3)] [(.int (own_sel4 v0_w_pattern_a1 v1_w_pattern_a1 v2_w_pattern_a1 v3_w_pattern_a1 p2))])) _
    refine XS.aloadN X1.here hx rfl (hb hby d4_6) rfl rfl ?_
    exact k
  obtain ⟨T3, X3, e3, st3⟩ := getF X1 hx hZ hown (host := "") (Or.inl (hw _ (List.mem_of_getElem? (i := 15) rfl))) Via.refl e1 F_a1_pattern (g := (mkF m 7 #[.val (.ref a1), .val (.int p2), .val (.int p3)] [(.ref a1), (.int (own_sel4 v0_w_pattern_a1 v1_w_pattern_a1 v2_w_pattern_a1 v3_w_pattern_a1 p2))])) rfl rfl (hb hby d4_7)
  refine own_go st3 ?_
  show own_Go p.tables e below _ T3 (mkF m 10 #[.val (.ref a1), .val (.int p2), .val (.int p3)] [(.ref w_pattern_a1), (.int (own_sel4 v0_w_pattern_a1 v1_w_pattern_a1 v2_w_pattern_a1 v3_w_pattern_a1 p2))])
  refine own_go (T' := T3) (g' := (mkF m 11 #[.val (.ref a1), .val (.int p2), .val (.int p3)] [(.int p3), (.ref w_pattern_a1), (.int (own_sel4 v0_w_pattern_a1 v1_w_pattern_a1 v2_w_pattern_a1 v3_w_pattern_a1 p2))])) (fun t k => ?_) ?_
  · show Steps p.tables e below (T3.setTop (mkF m 10 #[.val (.ref a1), .val (.int p2), .val (.int p3)] [(.ref w_pattern_a1), (.int (own_sel4 v0_w_pattern_a1 v1_w_pattern_a1 v2_w_pattern_a1 v3_w_pattern_a1 p2))])) _
    refine XS.iloadN X3.here hx rfl (hb hby d4_10) rfl ?_
    exact k
  have Vq := V_w_pattern_a1
  obtain ⟨cl4, Ar4, q4, Sz4, Ng4, Hs4, Gs4⟩ := Vq
  have hin4 : ¬ (p3 < 0 ∨ cl4.slots.size ≤ (p3).toNatClampNeg) := inb_of Sz4 ⟨hlo11, hhi11⟩
  have hat4 : cl4.slots[(p3).toNatClampNeg]? = some (.int (own_sel4 v0_w_pattern_a1 v1_w_pattern_a1 v2_w_pattern_a1 v3_w_pattern_a1 p3)) := Hs4.at hin4 (own_sel4_at _ _ _ _ _ hlo11 hhi11 _)
  refine own_go (fun t k => X3.caload hx (j := p3) (v := (.int (own_sel4 v0_w_pattern_a1 v1_w_pattern_a1 v2_w_pattern_a1 v3_w_pattern_a1 p3))) (by rw [e3]; exact Ar4.1) (State.isArrayOf_alike hZ.alike Ar4.2.1) Ar4.2.2 hin4 hat4 (g := (mkF m 11 #[.val (.ref a1), .val (.int p2), .val (.int p3)] [(.int p3), (.ref w_pattern_a1), (.int (own_sel4 v0_w_pattern_a1 v1_w_pattern_a1 v2_w_pattern_a1 v3_w_pattern_a1 p2))])) rfl rfl (hb hby d4_11) t k) ?_
  show own_Go p.tables e below _ T3 (mkF m 12 #[.val (.ref a1), .val (.int p2), .val (.int p3)] [(.int (own_sel4 v0_w_pattern_a1 v1_w_pattern_a1 v2_w_pattern_a1 v3_w_pattern_a1 p3)), (.int (own_sel4 v0_w_pattern_a1 v1_w_pattern_a1 v2_w_pattern_a1 v3_w_pattern_a1 p2))])
  obtain ⟨j5, hj5, st6⟩ : ∃ (j5 : Int32), j5 = (if (own_sel4 v0_w_pattern_a1 v1_w_pattern_a1 v2_w_pattern_a1 v3_w_pattern_a1 p2) = (own_sel4 v0_w_pattern_a1 v1_w_pattern_a1 v2_w_pattern_a1 v3_w_pattern_a1 p3) then (1 : Int32) else (0 : Int32)) ∧ ∀ t, Steps p.tables e below (T3.setTop (mkF m 20 #[.val (.ref a1), .val (.int p2), .val (.int p3)] [(.int j5)])) t → Steps p.tables e below (T3.setTop (mkF m 12 #[.val (.ref a1), .val (.int p2), .val (.int p3)] [(.int (own_sel4 v0_w_pattern_a1 v1_w_pattern_a1 v2_w_pattern_a1 v3_w_pattern_a1 p3)), (.int (own_sel4 v0_w_pattern_a1 v1_w_pattern_a1 v2_w_pattern_a1 v3_w_pattern_a1 p2))])) t := by
    by_cases hc12_1 : (own_sel4 v0_w_pattern_a1 v1_w_pattern_a1 v2_w_pattern_a1 v3_w_pattern_a1 p2) = (own_sel4 v0_w_pattern_a1 v1_w_pattern_a1 v2_w_pattern_a1 v3_w_pattern_a1 p3)
    · skip
      refine ⟨(1 : Int32), (by simp only [if_pos hc12_1]), fun t k => ?_⟩
      show Steps p.tables e below (T3.setTop (mkF m 12 #[.val (.ref a1), .val (.int p2), .val (.int p3)] [(.int (own_sel4 v0_w_pattern_a1 v1_w_pattern_a1 v2_w_pattern_a1 v3_w_pattern_a1 p3)), (.int (own_sel4 v0_w_pattern_a1 v1_w_pattern_a1 v2_w_pattern_a1 v3_w_pattern_a1 p2))])) _
      refine XS.icmpNo X3.here hx rfl (hb hby d4_12) rfl (teq hc12_1).2 ?_
      show Steps p.tables e below (T3.setTop (mkF m 15 #[.val (.ref a1), .val (.int p2), .val (.int p3)] [])) _
      refine XS.iconst X3.here hx rfl (hb hby d4_15) ?_
      show Steps p.tables e below (T3.setTop (mkF m 16 #[.val (.ref a1), .val (.int p2), .val (.int p3)] [(.int (1 : Int32))])) _
      refine XS.goto X3.here hx rfl (pc0 := 16) (pc' := 20) rfl (hb hby d4_16) (by decide) (by decide) ?_
      exact k
    · skip
      refine ⟨(0 : Int32), (by simp only [if_neg hc12_1]), fun t k => ?_⟩
      show Steps p.tables e below (T3.setTop (mkF m 12 #[.val (.ref a1), .val (.int p2), .val (.int p3)] [(.int (own_sel4 v0_w_pattern_a1 v1_w_pattern_a1 v2_w_pattern_a1 v3_w_pattern_a1 p3)), (.int (own_sel4 v0_w_pattern_a1 v1_w_pattern_a1 v2_w_pattern_a1 v3_w_pattern_a1 p2))])) _
      refine XS.icmpYes X3.here hx rfl (pc0 := 12) (pc' := 19) rfl (hb hby d4_12) rfl (feq hc12_1).2 (by decide) (by decide) ?_
      show Steps p.tables e below (T3.setTop (mkF m 19 #[.val (.ref a1), .val (.int p2), .val (.int p3)] [])) _
      refine XS.iconst X3.here hx rfl (hb hby d4_19) ?_
      exact k
  refine own_go st6 ?_
  show own_Go p.tables e below _ T3 (mkF m 20 #[.val (.ref a1), .val (.int p2), .val (.int p3)] [(.int j5)])
  obtain ⟨fs, hr, hrun, hended, hW, hsame⟩ := X3.leave (v := some (.int (nar .boolean j5))) (fun h => by rw [Bd.returns] at h; cases h)
  refine ⟨_, _, ?_, hrun, hended, _, _, rfl, ?_, ⟨_, rfl⟩, hW, hsame.mono (by decide) (by decide)⟩
  · exact retN X3 hx (t := .boolean) Bd.returns (by simp) (hb hby d4_20) hr
  · show Q4 Z a1 p2 p3 w_pattern_a1 k_w_pattern_a1 v0_w_pattern_a1 v1_w_pattern_a1 v2_w_pattern_a1 v3_w_pattern_a1 h0 n0 _ T3.heap _
    rw [e3]
    exact ⟨(by first | (simp only [hj5, r_4, own_narZ, own_narC, own_narB]; done) | (subst hj5; first | (simp only [r_4, own_narZ, own_narC, own_narB]; done) | rfl)), NN, rfl⟩
theorem d5_0 : decode method_2_code 0 = .ok (.iload 4, 2) := by decide +kernel
theorem d5_2 : decode method_2_code 2 = .ok (.ifCond .ne 5, 3) := by decide +kernel
theorem d5_5 : decode method_2_code 5 = .ok (.iload_n 0, 1) := by decide +kernel
theorem d5_6 : decode method_2_code 6 = .ok (.ireturn, 1) := by decide +kernel
theorem d5_7 : decode method_2_code 7 = .ok (.iload 4, 2) := by decide +kernel
theorem d5_9 : decode method_2_code 9 = .ok (.iconst 1, 1) := by decide +kernel
theorem d5_10 : decode method_2_code 10 = .ok (.if_icmp .ne 5, 3) := by decide +kernel
theorem d5_13 : decode method_2_code 13 = .ok (.iload_n 1, 1) := by decide +kernel
theorem d5_14 : decode method_2_code 14 = .ok (.ireturn, 1) := by decide +kernel
theorem d5_15 : decode method_2_code 15 = .ok (.iload 4, 2) := by decide +kernel
theorem d5_17 : decode method_2_code 17 = .ok (.iconst 2, 1) := by decide +kernel
theorem d5_18 : decode method_2_code 18 = .ok (.if_icmp .ne 5, 3) := by decide +kernel
theorem d5_21 : decode method_2_code 21 = .ok (.iload_n 2, 1) := by decide +kernel
theorem d5_22 : decode method_2_code 22 = .ok (.ireturn, 1) := by decide +kernel
theorem d5_23 : decode method_2_code 23 = .ok (.iload_n 3, 1) := by decide +kernel
theorem d5_24 : decode method_2_code 24 = .ok (.ireturn, 1) := by decide +kernel
theorem pn_2 : plainName "com/example/caliper2/caliper2/SameCharsTestPinLaw" = true := by first | (simp [plainName, overriddenIn]; done) | decide +kernel
theorem ef_5 (m : MethodId) (p1 : Int32) (p2 : Int32) (p3 : Int32) (p4 : Int32) (p5 : Int32) : entryFrame m #[(.int p1), (.int p2), (.int p3), (.int p4), (.int p5)] 5 = mkF m 0 #[.val (.int p1), .val (.int p2), .val (.int p3), .val (.int p4), .val (.int p5)] [] := by first | (simp [entryFrame, mkF, argsToLocals, Value.category]; done) | rfl
def r_5 (p1 : Int32) (p2 : Int32) (p3 : Int32) (p4 : Int32) (p5 : Int32) : Int32 := (if p5 = (0 : Int32) then p1.toUInt32.toUInt16.toUInt32.toInt32 else (if p5 = (1 : Int32) then p2.toUInt32.toUInt16.toUInt32.toInt32 else (if p5 = (2 : Int32) then p3.toUInt32.toUInt16.toUInt32.toInt32 else p4.toUInt32.toUInt16.toUInt32.toInt32)))
def Q5 (Z : State) (p1 : Int32) (p2 : Int32) (p3 : Int32) (p4 : Int32) (p5 : Int32) (h0 : Heap) (n0 : Nat) (v : Option Value) (h : Heap) (L : List Loc) : Prop := v = some (.int (r_5 p1 p2 p3 p4 p5)) ∧ Fr n0 L ∧ h = h0
set_option maxRecDepth 65536 in
set_option maxHeartbeats 40000000 in
theorem rm5 (l : Launch) (Z : State) (a0 : Array Value) (hw : ∀ d ∈ tables_1, d.before a0 Z = true) (ws : List Jvm.Cond) (p1 : Int32) (p2 : Int32) (p3 : Int32) (p4 : Int32) (p5 : Int32) (h0 : Heap) (n0 : Nat) (Z0 : n0 ≤ h0.size) :
    MetFree l (⟨"com/example/caliper2/caliper2/SameCharsTestPinLaw", "pick", "(CCCCI)C"⟩ : MethodName) (head1 (Jvm.Cond.code (⟨"com/example/caliper2/caliper2/SameCharsTestPinLaw", "pick", "(CCCCI)C"⟩ : MethodName) method_2_code 5 (some .char) :: ws) ({ frames := 0, cells := 0, slots := 0, locals := 0 } : Room)) (fun a U => a = #[(.int p1), (.int p2), (.int p3), (.int p4), (.int p5)] ∧ Z.Warmed39 U.vm ∧ U.heap = h0) (fun _ _ _ _ _ => True) (fun _ U o U' => ∃ v L, o = .returned v ∧ Q5 Z p1 p2 p3 p4 p5 h0 n0 v U'.heap L ∧ FrameEnd U o U' L ({ frames := 0, cells := 0, slots := 0, locals := 0 } : Room).cells ({ frames := 0, cells := 0, slots := 0, locals := 0 } : Room).slots) := by
  refine MetFree.of_bodySF (plainFor_of_name pn_2) hisR ?_
  intro p e s m args below meth c s₁ Bd hml0 hP hK
  obtain ⟨rfl, hZ, hh⟩ := hP
  have hx := Bd.exec
  have hby := Bd.bytes
  have hml : c.maxLocals = 5 := hml0
  have hown : s.vm.findClass "com/example/caliper2/caliper2/SameCharsTestPinLaw" = some m.cls := findClass_of_methodNamed Bd.named
  have hnm := (name_of_methodNamed Bd.named Bd.method).1
  have X0 : Stand p l e ({ frames := 0, cells := 0, slots := 0, locals := 0 } : Room) s m #[(.int p1), (.int p2), (.int p3), (.int p4), (.int p5)] below meth c s₁ [] 0 0 := Stand.of_body Bd
  have e0 : s₁.heap = h0 := by rw [← hh, Bd.state]; rfl
  have NN := Fr.nil n0
  have KK : Keep h0 h0 [] := Keep.refl h0 []
  refine own_start (ef_5 m p1 p2 p3 p4 p5) ?_
  refine own_go (T' := s₁) (g' := (mkF m 2 #[.val (.int p1), .val (.int p2), .val (.int p3), .val (.int p4), .val (.int p5)] [(.int p5)])) (fun t k => ?_) ?_
  · show Steps p.tables e below (s₁.setTop (mkF m 0 #[.val (.int p1), .val (.int p2), .val (.int p3), .val (.int p4), .val (.int p5)] [])) _
    refine XS.iload X0.here hx rfl (hb hby d5_0) rfl ?_
    exact k
  by_cases hc2_1 : p5 = (0 : Int32)
  · skip
    refine own_go (T' := s₁) (g' := (mkF m 6 #[.val (.int p1), .val (.int p2), .val (.int p3), .val (.int p4), .val (.int p5)] [(.int p1)])) (fun t k => ?_) ?_
    · show Steps p.tables e below (s₁.setTop (mkF m 2 #[.val (.int p1), .val (.int p2), .val (.int p3), .val (.int p4), .val (.int p5)] [(.int p5)])) _
      refine XS.ifNo X0.here hx rfl (hb hby d5_2) rfl ((if0 _ _).trans (teq hc2_1).2) ?_
      show Steps p.tables e below (s₁.setTop (mkF m 5 #[.val (.int p1), .val (.int p2), .val (.int p3), .val (.int p4), .val (.int p5)] [])) _
      refine XS.iloadN X0.here hx rfl (hb hby d5_5) rfl ?_
      exact k
    obtain ⟨fs, hr, hrun, hended, hW, hsame⟩ := X0.leave (v := some (.int (nar .char p1))) (fun h => by rw [Bd.returns] at h; cases h)
    refine ⟨_, _, ?_, hrun, hended, _, _, rfl, ?_, ⟨_, rfl⟩, hW, hsame.mono (by decide) (by decide)⟩
    · exact retN X0 hx (t := .char) Bd.returns (by simp) (hb hby d5_6) hr
    · show Q5 Z p1 p2 p3 p4 p5 h0 n0 _ s₁.heap _
      rw [e0]
      exact ⟨(by simp only [r_5, if_pos hc2_1, own_narZ, own_narC, own_narB]), NN, rfl⟩
  · skip
    refine own_go (T' := s₁) (g' := (mkF m 10 #[.val (.int p1), .val (.int p2), .val (.int p3), .val (.int p4), .val (.int p5)] [(.int (1 : Int32)), (.int p5)])) (fun t k => ?_) ?_
    · show Steps p.tables e below (s₁.setTop (mkF m 2 #[.val (.int p1), .val (.int p2), .val (.int p3), .val (.int p4), .val (.int p5)] [(.int p5)])) _
      refine XS.ifYes X0.here hx rfl (pc0 := 2) (pc' := 7) rfl (hb hby d5_2) rfl ((if0 _ _).trans (feq hc2_1).2) (by decide) (by decide) ?_
      show Steps p.tables e below (s₁.setTop (mkF m 7 #[.val (.int p1), .val (.int p2), .val (.int p3), .val (.int p4), .val (.int p5)] [])) _
      refine XS.iload X0.here hx rfl (hb hby d5_7) rfl ?_
      show Steps p.tables e below (s₁.setTop (mkF m 9 #[.val (.int p1), .val (.int p2), .val (.int p3), .val (.int p4), .val (.int p5)] [(.int p5)])) _
      refine XS.iconst X0.here hx rfl (hb hby d5_9) ?_
      exact k
    by_cases hc10_2 : p5 = (1 : Int32)
    · skip
      refine own_go (T' := s₁) (g' := (mkF m 14 #[.val (.int p1), .val (.int p2), .val (.int p3), .val (.int p4), .val (.int p5)] [(.int p2)])) (fun t k => ?_) ?_
      · show Steps p.tables e below (s₁.setTop (mkF m 10 #[.val (.int p1), .val (.int p2), .val (.int p3), .val (.int p4), .val (.int p5)] [(.int (1 : Int32)), (.int p5)])) _
        refine XS.icmpNo X0.here hx rfl (hb hby d5_10) rfl (teq hc10_2).2 ?_
        show Steps p.tables e below (s₁.setTop (mkF m 13 #[.val (.int p1), .val (.int p2), .val (.int p3), .val (.int p4), .val (.int p5)] [])) _
        refine XS.iloadN X0.here hx rfl (hb hby d5_13) rfl ?_
        exact k
      obtain ⟨fs, hr, hrun, hended, hW, hsame⟩ := X0.leave (v := some (.int (nar .char p2))) (fun h => by rw [Bd.returns] at h; cases h)
      refine ⟨_, _, ?_, hrun, hended, _, _, rfl, ?_, ⟨_, rfl⟩, hW, hsame.mono (by decide) (by decide)⟩
      · exact retN X0 hx (t := .char) Bd.returns (by simp) (hb hby d5_14) hr
      · show Q5 Z p1 p2 p3 p4 p5 h0 n0 _ s₁.heap _
        rw [e0]
        exact ⟨(by simp only [r_5, if_neg hc2_1, if_pos hc10_2, own_narZ, own_narC, own_narB]), NN, rfl⟩
    · skip
      refine own_go (T' := s₁) (g' := (mkF m 18 #[.val (.int p1), .val (.int p2), .val (.int p3), .val (.int p4), .val (.int p5)] [(.int (2 : Int32)), (.int p5)])) (fun t k => ?_) ?_
      · show Steps p.tables e below (s₁.setTop (mkF m 10 #[.val (.int p1), .val (.int p2), .val (.int p3), .val (.int p4), .val (.int p5)] [(.int (1 : Int32)), (.int p5)])) _
        refine XS.icmpYes X0.here hx rfl (pc0 := 10) (pc' := 15) rfl (hb hby d5_10) rfl (feq hc10_2).2 (by decide) (by decide) ?_
        show Steps p.tables e below (s₁.setTop (mkF m 15 #[.val (.int p1), .val (.int p2), .val (.int p3), .val (.int p4), .val (.int p5)] [])) _
        refine XS.iload X0.here hx rfl (hb hby d5_15) rfl ?_
        show Steps p.tables e below (s₁.setTop (mkF m 17 #[.val (.int p1), .val (.int p2), .val (.int p3), .val (.int p4), .val (.int p5)] [(.int p5)])) _
        refine XS.iconst X0.here hx rfl (hb hby d5_17) ?_
        exact k
      by_cases hc18_3 : p5 = (2 : Int32)
      · skip
        refine own_go (T' := s₁) (g' := (mkF m 22 #[.val (.int p1), .val (.int p2), .val (.int p3), .val (.int p4), .val (.int p5)] [(.int p3)])) (fun t k => ?_) ?_
        · show Steps p.tables e below (s₁.setTop (mkF m 18 #[.val (.int p1), .val (.int p2), .val (.int p3), .val (.int p4), .val (.int p5)] [(.int (2 : Int32)), (.int p5)])) _
          refine XS.icmpNo X0.here hx rfl (hb hby d5_18) rfl (teq hc18_3).2 ?_
          show Steps p.tables e below (s₁.setTop (mkF m 21 #[.val (.int p1), .val (.int p2), .val (.int p3), .val (.int p4), .val (.int p5)] [])) _
          refine XS.iloadN X0.here hx rfl (hb hby d5_21) rfl ?_
          exact k
        obtain ⟨fs, hr, hrun, hended, hW, hsame⟩ := X0.leave (v := some (.int (nar .char p3))) (fun h => by rw [Bd.returns] at h; cases h)
        refine ⟨_, _, ?_, hrun, hended, _, _, rfl, ?_, ⟨_, rfl⟩, hW, hsame.mono (by decide) (by decide)⟩
        · exact retN X0 hx (t := .char) Bd.returns (by simp) (hb hby d5_22) hr
        · show Q5 Z p1 p2 p3 p4 p5 h0 n0 _ s₁.heap _
          rw [e0]
          exact ⟨(by simp only [r_5, if_neg hc2_1, if_neg hc10_2, if_pos hc18_3, own_narZ, own_narC, own_narB]), NN, rfl⟩
      · skip
        refine own_go (T' := s₁) (g' := (mkF m 24 #[.val (.int p1), .val (.int p2), .val (.int p3), .val (.int p4), .val (.int p5)] [(.int p4)])) (fun t k => ?_) ?_
        · show Steps p.tables e below (s₁.setTop (mkF m 18 #[.val (.int p1), .val (.int p2), .val (.int p3), .val (.int p4), .val (.int p5)] [(.int (2 : Int32)), (.int p5)])) _
          refine XS.icmpYes X0.here hx rfl (pc0 := 18) (pc' := 23) rfl (hb hby d5_18) rfl (feq hc18_3).2 (by decide) (by decide) ?_
          show Steps p.tables e below (s₁.setTop (mkF m 23 #[.val (.int p1), .val (.int p2), .val (.int p3), .val (.int p4), .val (.int p5)] [])) _
          refine XS.iloadN X0.here hx rfl (hb hby d5_23) rfl ?_
          exact k
        obtain ⟨fs, hr, hrun, hended, hW, hsame⟩ := X0.leave (v := some (.int (nar .char p4))) (fun h => by rw [Bd.returns] at h; cases h)
        refine ⟨_, _, ?_, hrun, hended, _, _, rfl, ?_, ⟨_, rfl⟩, hW, hsame.mono (by decide) (by decide)⟩
        · exact retN X0 hx (t := .char) Bd.returns (by simp) (hb hby d5_24) hr
        · show Q5 Z p1 p2 p3 p4 p5 h0 n0 _ s₁.heap _
          rw [e0]
          exact ⟨(by simp only [r_5, if_neg hc2_1, if_neg hc10_2, if_neg hc18_3, own_narZ, own_narC, own_narB]), NN, rfl⟩
theorem own_pl_mask (x y : Int32) (h : y = (x &&& (3 : Int32))) : ¬ (y < (0 : Int32)) ∧ y < (4 : Int32) := by
  have m := c_mask x (3 : Int32) 2 (by decide) (by decide)
  rw [← h] at m
  have k0 : (0 : Int32).toInt = 0 := rfl
  have k4 : (4 : Int32).toInt = 4 := rfl
  simp only [Int32.lt_iff_toInt_lt]
  omega
theorem own_pl_bit (P : Prop) [Decidable P] : ((if P then (1 : Int32) else (0 : Int32)) &&& 1) = if P then (1 : Int32) else (0 : Int32) := by
  by_cases h : P
  · rw [if_pos h]; rfl
  · rw [if_neg h]; rfl
theorem pd_0 : parseMethodDescriptor "([C)V" = some ⟨[(.array .char)], none⟩ := by decide +kernel
theorem pd_2 : parseMethodDescriptor "(II)Z" = some ⟨[.int, .int], some .boolean⟩ := by decide +kernel
theorem pd_3 : parseMethodDescriptor "(CCCCI)C" = some ⟨[.char, .char, .char, .char, .int], some .char⟩ := by decide +kernel
theorem ef_0 (m : MethodId) (p1 : Int32) (p2 : Int32) (p3 : Int32) (p4 : Int32) : entryFrame m #[(.int p1), (.int p2), (.int p3), (.int p4)] maxLocals = mkF m 0 #[.val (.int p1), .val (.int p2), .val (.int p3), .val (.int p4), .unset, .unset, .unset, .unset, .unset, .unset, .unset, .unset, .unset, .unset, .unset, .unset, .unset] [] := by first | (simp [entryFrame, mkF, argsToLocals, Value.category, maxLocals]; done) | rfl
def Q0 (Z : State) (p1 : Int32) (p2 : Int32) (p3 : Int32) (p4 : Int32) (h0 : Heap) (n0 : Nat) (v : Option Value) (h : Heap) (L : List Loc) : Prop := v = some (.int 1) ∧ Fr n0 L
theorem own_at_hhlo5_102 (p3 : Int32) (j16 : Int32) (hj16 : j16 = (p3 &&& (3 : Int32))) : ¬ (j16 < (0 : Int32)) := by
  exact (own_pl_mask _ _ hj16).1
theorem own_at_hhhi5_102 (p3 : Int32) (j16 : Int32) (hj16 : j16 = (p3 &&& (3 : Int32))) (hhlo5_102 : ¬ (j16 < (0 : Int32))) : j16 < (4 : Int32) := by
  exact (own_pl_mask _ _ hj16).2
theorem own_at_hhlo11_102 (p3 : Int32) (j16 : Int32) (j17 : Int32) (hj16 : j16 = (p3 &&& (3 : Int32))) (hj17 : j17 = (((p3.toUInt32 >>> ((2 : Int32) &&& 31).toUInt32).toInt32) &&& (3 : Int32))) (hhlo5_102 : ¬ (j16 < (0 : Int32))) (hhhi5_102 : j16 < (4 : Int32)) : ¬ (j17 < (0 : Int32)) := by
  exact (own_pl_mask _ _ hj17).1
theorem own_at_hhhi11_102 (p3 : Int32) (j16 : Int32) (j17 : Int32) (hj16 : j16 = (p3 &&& (3 : Int32))) (hj17 : j17 = (((p3.toUInt32 >>> ((2 : Int32) &&& 31).toUInt32).toInt32) &&& (3 : Int32))) (hhlo5_102 : ¬ (j16 < (0 : Int32))) (hhhi5_102 : j16 < (4 : Int32)) (hhlo11_102 : ¬ (j17 < (0 : Int32))) : j17 < (4 : Int32) := by
  exact (own_pl_mask _ _ hj17).2
theorem own_yes_x (p1 : Int32) (p2 : Int32) (p3 : Int32) (p4 : Int32) (j1 : Int32) (j3 : Int32) (j4 : Int32) (j5 : Int32) (j6 : Int32) (j16 : Int32) (j17 : Int32) (j21 : Int32) (j24 : Int32) (j27 : Int32) (j29 : Int32) (j30 : Int32) (hj1 : j1 = (if (p4 &&& (1 : Int32)) = (0 : Int32) then (65535 : Int32) else (3 : Int32))) (hj3 : j3 = (p1 &&& j1).toUInt32.toUInt16.toUInt32.toInt32) (hj4 : j4 = (((p1.toUInt32 >>> ((16 : Int32) &&& 31).toUInt32).toInt32) &&& j1).toUInt32.toUInt16.toUInt32.toInt32) (hj5 : j5 = (p2 &&& j1).toUInt32.toUInt16.toUInt32.toInt32) (hj6 : j6 = (((p2.toUInt32 >>> ((16 : Int32) &&& 31).toUInt32).toInt32) &&& j1).toUInt32.toUInt16.toUInt32.toInt32) (hj16 : j16 = (p3 &&& (3 : Int32))) (hj17 : j17 = (((p3.toUInt32 >>> ((2 : Int32) &&& 31).toUInt32).toInt32) &&& (3 : Int32))) (hj21 : j21 = (r_4 j16 j17 (nar .char j3) (nar .char j4) (nar .char j5) (nar .char j6))) (hj24 : j24 = (if (r_5 j3 j4 j5 j6 j16) = (r_5 j3 j4 j5 j6 j17) then (1 : Int32) else (0 : Int32))) (hj27 : j27 = (r_4 j17 j16 (nar .char j3) (nar .char j4) (nar .char j5) (nar .char j6))) (hj29 : j29 = (r_4 j16 j16 (nar .char j3) (nar .char j4) (nar .char j5) (nar .char j6))) (hj30 : j30 = (if j21 = j24 then (if j27 = j21 then (if j29 = (0 : Int32) then (0 : Int32) else (1 : Int32)) else (0 : Int32)) else (0 : Int32))) (hhlo5_102 : ¬ (j16 < (0 : Int32))) (hhhi5_102 : j16 < (4 : Int32)) (hhlo11_102 : ¬ (j17 < (0 : Int32))) (hhhi11_102 : j17 < (4 : Int32)) : (nar .boolean j30) = 1 := by
  have s (i : Int32) : r_5 j3 j4 j5 j6 i = own_sel4 (nar .char j3) (nar .char j4) (nar .char j5) (nar .char j6) i := rfl
  rw [s, s] at hj24
  simp only [r_4] at hj21 hj27 hj29
  rw [own_pl_bit] at hj21 hj27 hj29
  generalize own_sel4 (nar .char j3) (nar .char j4) (nar .char j5) (nar .char j6) j16 = u at *
  generalize own_sel4 (nar .char j3) (nar .char j4) (nar .char j5) (nar .char j6) j17 = v at *
  have e1 : j21 = j24 := by rw [hj21, hj24]
  have e2 : j27 = j21 := by
    rw [hj27, hj21]
    by_cases z : u = v
    · rw [if_pos z, if_pos z.symm]
    · rw [if_neg z, if_neg (fun y => z y.symm)]
  have e3 : ¬ j29 = 0 := by rw [hj29]; decide
  rw [hj30, if_pos e1, if_pos e2, if_neg e3]
  rfl
set_option maxRecDepth 65536 in
set_option maxHeartbeats 40000000 in
theorem rm0 (l : Launch) (Z : State) (a0 : Array Value) (hw : ∀ d ∈ tables_1, d.before a0 Z = true) (ws : List Jvm.Cond) (p1 : Int32) (p2 : Int32) (p3 : Int32) (p4 : Int32) (h0 : Heap) (n0 : Nat) (Z0 : n0 ≤ h0.size) :
    MetFree l x (head1 (Jvm.Cond.code x code maxLocals ret :: ws) room_1) (fun a U => a = #[(.int p1), (.int p2), (.int p3), (.int p4)] ∧ Z.Warmed39 U.vm ∧ U.heap = h0) (fun _ _ _ _ _ => True) (fun _ U o U' => ∃ v L, o = .returned v ∧ Q0 Z p1 p2 p3 p4 h0 n0 v U'.heap L ∧ FrameEnd U o U' L room_1.cells room_1.slots) := by
  refine MetFree.of_bodySF (plainFor_of_name pn_2) hisR ?_
  intro p e s m args below meth c s₁ Bd hml0 hP hK
  obtain ⟨rfl, hZ, hh⟩ := hP
  have hx := Bd.exec
  have hby := Bd.bytes
  have hml : c.maxLocals = 17 := hml0
  have hown : s.vm.findClass "com/example/caliper2/caliper2/SameCharsTestPinLaw" = some m.cls := findClass_of_methodNamed Bd.named
  have hnm := (name_of_methodNamed Bd.named Bd.method).1
  have X0 : Stand p l e room_1 s m #[(.int p1), (.int p2), (.int p3), (.int p4)] below meth c s₁ [] 0 0 := Stand.of_body Bd
  have e0 : s₁.heap = h0 := by rw [← hh, Bd.state]; rfl
  have NN := Fr.nil n0
  have KK : Keep h0 h0 [] := Keep.refl h0 []
  refine own_start (ef_0 m p1 p2 p3 p4) ?_
  refine own_go (T' := s₁) (g' := (mkF m 3 #[.val (.int p1), .val (.int p2), .val (.int p3), .val (.int p4), .unset, .unset, .unset, .unset, .unset, .unset, .unset, .unset, .unset, .unset, .unset, .unset, .unset] [(.int (p4 &&& (1 : Int32)))])) (fun t k => ?_) ?_
  · show Steps p.tables e below (s₁.setTop (mkF m 0 #[.val (.int p1), .val (.int p2), .val (.int p3), .val (.int p4), .unset, .unset, .unset, .unset, .unset, .unset, .unset, .unset, .unset, .unset, .unset, .unset, .unset] [])) _
    refine XS.iloadN X0.here hx rfl (hb hby at_0) rfl ?_
    show Steps p.tables e below (s₁.setTop (mkF m 1 #[.val (.int p1), .val (.int p2), .val (.int p3), .val (.int p4), .unset, .unset, .unset, .unset, .unset, .unset, .unset, .unset, .unset, .unset, .unset, .unset, .unset] [(.int p4)])) _
    refine XS.iconst X0.here hx rfl (hb hby at_1) ?_
    show Steps p.tables e below (s₁.setTop (mkF m 2 #[.val (.int p1), .val (.int p2), .val (.int p3), .val (.int p4), .unset, .unset, .unset, .unset, .unset, .unset, .unset, .unset, .unset, .unset, .unset, .unset, .unset] [(.int (1 : Int32)), (.int p4)])) _
    refine XS.iand X0.here hx rfl (hb hby at_2) rfl ?_
    exact k
  obtain ⟨j1, hj1, st2⟩ : ∃ (j1 : Int32), j1 = (if (p4 &&& (1 : Int32)) = (0 : Int32) then (65535 : Int32) else (3 : Int32)) ∧ ∀ t, Steps p.tables e below (s₁.setTop (mkF m 12 #[.val (.int p1), .val (.int p2), .val (.int p3), .val (.int p4), .unset, .unset, .unset, .unset, .unset, .unset, .unset, .unset, .unset, .unset, .unset, .unset, .unset] [(.int j1)])) t → Steps p.tables e below (s₁.setTop (mkF m 3 #[.val (.int p1), .val (.int p2), .val (.int p3), .val (.int p4), .unset, .unset, .unset, .unset, .unset, .unset, .unset, .unset, .unset, .unset, .unset, .unset, .unset] [(.int (p4 &&& (1 : Int32)))])) t := by
    by_cases hc3_1 : (p4 &&& (1 : Int32)) = (0 : Int32)
    · skip
      refine ⟨(65535 : Int32), (by simp only [if_pos hc3_1]), fun t k => ?_⟩
      show Steps p.tables e below (s₁.setTop (mkF m 3 #[.val (.int p1), .val (.int p2), .val (.int p3), .val (.int p4), .unset, .unset, .unset, .unset, .unset, .unset, .unset, .unset, .unset, .unset, .unset, .unset, .unset] [(.int (p4 &&& (1 : Int32)))])) _
      refine XS.ifYes X0.here hx rfl (pc0 := 3) (pc' := 10) rfl (hb hby at_3) rfl ((if0 _ _).trans (teq hc3_1).1) (by decide) (by decide) ?_
      show Steps p.tables e below (s₁.setTop (mkF m 10 #[.val (.int p1), .val (.int p2), .val (.int p3), .val (.int p4), .unset, .unset, .unset, .unset, .unset, .unset, .unset, .unset, .unset, .unset, .unset, .unset, .unset] [])) _
      refine X0.ldcInt hx hown (mvT hZ (hw _ (List.mem_of_getElem? (i := 26) rfl))) (g := (mkF m 10 #[.val (.int p1), .val (.int p2), .val (.int p3), .val (.int p4), .unset, .unset, .unset, .unset, .unset, .unset, .unset, .unset, .unset, .unset, .unset, .unset, .unset] [])) rfl (hb hby at_10) _ ?_
      exact k
    · skip
      refine ⟨(3 : Int32), (by simp only [if_neg hc3_1]), fun t k => ?_⟩
      show Steps p.tables e below (s₁.setTop (mkF m 3 #[.val (.int p1), .val (.int p2), .val (.int p3), .val (.int p4), .unset, .unset, .unset, .unset, .unset, .unset, .unset, .unset, .unset, .unset, .unset, .unset, .unset] [(.int (p4 &&& (1 : Int32)))])) _
      refine XS.ifNo X0.here hx rfl (hb hby at_3) rfl ((if0 _ _).trans (feq hc3_1).1) ?_
      show Steps p.tables e below (s₁.setTop (mkF m 6 #[.val (.int p1), .val (.int p2), .val (.int p3), .val (.int p4), .unset, .unset, .unset, .unset, .unset, .unset, .unset, .unset, .unset, .unset, .unset, .unset, .unset] [])) _
      refine XS.iconst X0.here hx rfl (hb hby at_6) ?_
      show Steps p.tables e below (s₁.setTop (mkF m 7 #[.val (.int p1), .val (.int p2), .val (.int p3), .val (.int p4), .unset, .unset, .unset, .unset, .unset, .unset, .unset, .unset, .unset, .unset, .unset, .unset, .unset] [(.int (3 : Int32))])) _
      refine XS.goto X0.here hx rfl (pc0 := 7) (pc' := 12) rfl (hb hby at_7) (by decide) (by decide) ?_
      exact k
  refine own_go st2 ?_
  show own_Go p.tables e below _ s₁ (mkF m 12 #[.val (.int p1), .val (.int p2), .val (.int p3), .val (.int p4), .unset, .unset, .unset, .unset, .unset, .unset, .unset, .unset, .unset, .unset, .unset, .unset, .unset] [(.int j1)])
  refine own_go (T' := s₁) (g' := (mkF m 21 #[.val (.int p1), .val (.int p2), .val (.int p3), .val (.int p4), .val (.int j1), .val (.int (p1 &&& j1).toUInt32.toUInt16.toUInt32.toInt32), .unset, .unset, .unset, .unset, .unset, .unset, .unset, .unset, .unset, .unset, .unset] [])) (fun t k => ?_) ?_
  · show Steps p.tables e below (s₁.setTop (mkF m 12 #[.val (.int p1), .val (.int p2), .val (.int p3), .val (.int p4), .unset, .unset, .unset, .unset, .unset, .unset, .unset, .unset, .unset, .unset, .unset, .unset, .unset] [(.int j1)])) _
    refine XS.istore X0.here hx rfl (hb hby at_12) rfl (l' := #[.val (.int p1), .val (.int p2), .val (.int p3), .val (.int p4), .val (.int j1), .unset, .unset, .unset, .unset, .unset, .unset, .unset, .unset, .unset, .unset, .unset, .unset]) rfl ?_
    show Steps p.tables e below (s₁.setTop (mkF m 14 #[.val (.int p1), .val (.int p2), .val (.int p3), .val (.int p4), .val (.int j1), .unset, .unset, .unset, .unset, .unset, .unset, .unset, .unset, .unset, .unset, .unset, .unset] [])) _
    refine XS.iloadN X0.here hx rfl (hb hby at_14) rfl ?_
    show Steps p.tables e below (s₁.setTop (mkF m 15 #[.val (.int p1), .val (.int p2), .val (.int p3), .val (.int p4), .val (.int j1), .unset, .unset, .unset, .unset, .unset, .unset, .unset, .unset, .unset, .unset, .unset, .unset] [(.int p1)])) _
    refine XS.iload X0.here hx rfl (hb hby at_15) rfl ?_
    show Steps p.tables e below (s₁.setTop (mkF m 17 #[.val (.int p1), .val (.int p2), .val (.int p3), .val (.int p4), .val (.int j1), .unset, .unset, .unset, .unset, .unset, .unset, .unset, .unset, .unset, .unset, .unset, .unset] [(.int j1), (.int p1)])) _
    refine XS.iand X0.here hx rfl (hb hby at_17) rfl ?_
    show Steps p.tables e below (s₁.setTop (mkF m 18 #[.val (.int p1), .val (.int p2), .val (.int p3), .val (.int p4), .val (.int j1), .unset, .unset, .unset, .unset, .unset, .unset, .unset, .unset, .unset, .unset, .unset, .unset] [(.int (p1 &&& j1))])) _
    refine XS.i2c X0.here hx rfl (hb hby at_18) rfl ?_
    show Steps p.tables e below (s₁.setTop (mkF m 19 #[.val (.int p1), .val (.int p2), .val (.int p3), .val (.int p4), .val (.int j1), .unset, .unset, .unset, .unset, .unset, .unset, .unset, .unset, .unset, .unset, .unset, .unset] [(.int (p1 &&& j1).toUInt32.toUInt16.toUInt32.toInt32)])) _
    refine XS.istore X0.here hx rfl (hb hby at_19) rfl (l' := #[.val (.int p1), .val (.int p2), .val (.int p3), .val (.int p4), .val (.int j1), .val (.int (p1 &&& j1).toUInt32.toUInt16.toUInt32.toInt32), .unset, .unset, .unset, .unset, .unset, .unset, .unset, .unset, .unset, .unset, .unset]) rfl ?_
    exact k
  show own_Go p.tables e below _ s₁ (mkF m 21 #[.val (.int p1), .val (.int p2), .val (.int p3), .val (.int p4), .val (.int j1), .val (.int (p1 &&& j1).toUInt32.toUInt16.toUInt32.toInt32), .unset, .unset, .unset, .unset, .unset, .unset, .unset, .unset, .unset, .unset, .unset] [])
  obtain ⟨j3, hj3⟩ : ∃ z : Int32, z = (p1 &&& j1).toUInt32.toUInt16.toUInt32.toInt32 := ⟨_, rfl⟩
  rw [← hj3]
  show own_Go p.tables e below _ s₁ (mkF m 21 #[.val (.int p1), .val (.int p2), .val (.int p3), .val (.int p4), .val (.int j1), .val (.int j3), .unset, .unset, .unset, .unset, .unset, .unset, .unset, .unset, .unset, .unset, .unset] [])
  refine own_go (T' := s₁) (g' := (mkF m 31 #[.val (.int p1), .val (.int p2), .val (.int p3), .val (.int p4), .val (.int j1), .val (.int j3), .val (.int (((p1.toUInt32 >>> ((16 : Int32) &&& 31).toUInt32).toInt32) &&& j1).toUInt32.toUInt16.toUInt32.toInt32), .unset, .unset, .unset, .unset, .unset, .unset, .unset, .unset, .unset, .unset] [])) (fun t k => ?_) ?_
  · show Steps p.tables e below (s₁.setTop (mkF m 21 #[.val (.int p1), .val (.int p2), .val (.int p3), .val (.int p4), .val (.int j1), .val (.int j3), .unset, .unset, .unset, .unset, .unset, .unset, .unset, .unset, .unset, .unset, .unset] [])) _
    refine XS.iloadN X0.here hx rfl (hb hby at_21) rfl ?_
    show Steps p.tables e below (s₁.setTop (mkF m 22 #[.val (.int p1), .val (.int p2), .val (.int p3), .val (.int p4), .val (.int j1), .val (.int j3), .unset, .unset, .unset, .unset, .unset, .unset, .unset, .unset, .unset, .unset, .unset] [(.int p1)])) _
    refine XS.bipush X0.here hx rfl (hb hby at_22) ?_
    show Steps p.tables e below (s₁.setTop (mkF m 24 #[.val (.int p1), .val (.int p2), .val (.int p3), .val (.int p4), .val (.int j1), .val (.int j3), .unset, .unset, .unset, .unset, .unset, .unset, .unset, .unset, .unset, .unset, .unset] [(.int (16 : Int32)), (.int p1)])) _
    refine XS.iushr X0.here hx rfl (hb hby at_24) rfl ?_
    show Steps p.tables e below (s₁.setTop (mkF m 25 #[.val (.int p1), .val (.int p2), .val (.int p3), .val (.int p4), .val (.int j1), .val (.int j3), .unset, .unset, .unset, .unset, .unset, .unset, .unset, .unset, .unset, .unset, .unset] [(.int ((p1.toUInt32 >>> ((16 : Int32) &&& 31).toUInt32).toInt32))])) _
    refine XS.iload X0.here hx rfl (hb hby at_25) rfl ?_
    show Steps p.tables e below (s₁.setTop (mkF m 27 #[.val (.int p1), .val (.int p2), .val (.int p3), .val (.int p4), .val (.int j1), .val (.int j3), .unset, .unset, .unset, .unset, .unset, .unset, .unset, .unset, .unset, .unset, .unset] [(.int j1), (.int ((p1.toUInt32 >>> ((16 : Int32) &&& 31).toUInt32).toInt32))])) _
    refine XS.iand X0.here hx rfl (hb hby at_27) rfl ?_
    show Steps p.tables e below (s₁.setTop (mkF m 28 #[.val (.int p1), .val (.int p2), .val (.int p3), .val (.int p4), .val (.int j1), .val (.int j3), .unset, .unset, .unset, .unset, .unset, .unset, .unset, .unset, .unset, .unset, .unset] [(.int (((p1.toUInt32 >>> ((16 : Int32) &&& 31).toUInt32).toInt32) &&& j1))])) _
    refine XS.i2c X0.here hx rfl (hb hby at_28) rfl ?_
    show Steps p.tables e below (s₁.setTop (mkF m 29 #[.val (.int p1), .val (.int p2), .val (.int p3), .val (.int p4), .val (.int j1), .val (.int j3), .unset, .unset, .unset, .unset, .unset, .unset, .unset, .unset, .unset, .unset, .unset] [(.int (((p1.toUInt32 >>> ((16 : Int32) &&& 31).toUInt32).toInt32) &&& j1).toUInt32.toUInt16.toUInt32.toInt32)])) _
    refine XS.istore X0.here hx rfl (hb hby at_29) rfl (l' := #[.val (.int p1), .val (.int p2), .val (.int p3), .val (.int p4), .val (.int j1), .val (.int j3), .val (.int (((p1.toUInt32 >>> ((16 : Int32) &&& 31).toUInt32).toInt32) &&& j1).toUInt32.toUInt16.toUInt32.toInt32), .unset, .unset, .unset, .unset, .unset, .unset, .unset, .unset, .unset, .unset]) rfl ?_
    exact k
  show own_Go p.tables e below _ s₁ (mkF m 31 #[.val (.int p1), .val (.int p2), .val (.int p3), .val (.int p4), .val (.int j1), .val (.int j3), .val (.int (((p1.toUInt32 >>> ((16 : Int32) &&& 31).toUInt32).toInt32) &&& j1).toUInt32.toUInt16.toUInt32.toInt32), .unset, .unset, .unset, .unset, .unset, .unset, .unset, .unset, .unset, .unset] [])
  obtain ⟨j4, hj4⟩ : ∃ z : Int32, z = (((p1.toUInt32 >>> ((16 : Int32) &&& 31).toUInt32).toInt32) &&& j1).toUInt32.toUInt16.toUInt32.toInt32 := ⟨_, rfl⟩
  rw [← hj4]
  show own_Go p.tables e below _ s₁ (mkF m 31 #[.val (.int p1), .val (.int p2), .val (.int p3), .val (.int p4), .val (.int j1), .val (.int j3), .val (.int j4), .unset, .unset, .unset, .unset, .unset, .unset, .unset, .unset, .unset, .unset] [])
  refine own_go (T' := s₁) (g' := (mkF m 38 #[.val (.int p1), .val (.int p2), .val (.int p3), .val (.int p4), .val (.int j1), .val (.int j3), .val (.int j4), .val (.int (p2 &&& j1).toUInt32.toUInt16.toUInt32.toInt32), .unset, .unset, .unset, .unset, .unset, .unset, .unset, .unset, .unset] [])) (fun t k => ?_) ?_
  · show Steps p.tables e below (s₁.setTop (mkF m 31 #[.val (.int p1), .val (.int p2), .val (.int p3), .val (.int p4), .val (.int j1), .val (.int j3), .val (.int j4), .unset, .unset, .unset, .unset, .unset, .unset, .unset, .unset, .unset, .unset] [])) _
    refine XS.iloadN X0.here hx rfl (hb hby at_31) rfl ?_
    show Steps p.tables e below (s₁.setTop (mkF m 32 #[.val (.int p1), .val (.int p2), .val (.int p3), .val (.int p4), .val (.int j1), .val (.int j3), .val (.int j4), .unset, .unset, .unset, .unset, .unset, .unset, .unset, .unset, .unset, .unset] [(.int p2)])) _
    refine XS.iload X0.here hx rfl (hb hby at_32) rfl ?_
    show Steps p.tables e below (s₁.setTop (mkF m 34 #[.val (.int p1), .val (.int p2), .val (.int p3), .val (.int p4), .val (.int j1), .val (.int j3), .val (.int j4), .unset, .unset, .unset, .unset, .unset, .unset, .unset, .unset, .unset, .unset] [(.int j1), (.int p2)])) _
    refine XS.iand X0.here hx rfl (hb hby at_34) rfl ?_
    show Steps p.tables e below (s₁.setTop (mkF m 35 #[.val (.int p1), .val (.int p2), .val (.int p3), .val (.int p4), .val (.int j1), .val (.int j3), .val (.int j4), .unset, .unset, .unset, .unset, .unset, .unset, .unset, .unset, .unset, .unset] [(.int (p2 &&& j1))])) _
    refine XS.i2c X0.here hx rfl (hb hby at_35) rfl ?_
    show Steps p.tables e below (s₁.setTop (mkF m 36 #[.val (.int p1), .val (.int p2), .val (.int p3), .val (.int p4), .val (.int j1), .val (.int j3), .val (.int j4), .unset, .unset, .unset, .unset, .unset, .unset, .unset, .unset, .unset, .unset] [(.int (p2 &&& j1).toUInt32.toUInt16.toUInt32.toInt32)])) _
    refine XS.istore X0.here hx rfl (hb hby at_36) rfl (l' := #[.val (.int p1), .val (.int p2), .val (.int p3), .val (.int p4), .val (.int j1), .val (.int j3), .val (.int j4), .val (.int (p2 &&& j1).toUInt32.toUInt16.toUInt32.toInt32), .unset, .unset, .unset, .unset, .unset, .unset, .unset, .unset, .unset]) rfl ?_
    exact k
  show own_Go p.tables e below _ s₁ (mkF m 38 #[.val (.int p1), .val (.int p2), .val (.int p3), .val (.int p4), .val (.int j1), .val (.int j3), .val (.int j4), .val (.int (p2 &&& j1).toUInt32.toUInt16.toUInt32.toInt32), .unset, .unset, .unset, .unset, .unset, .unset, .unset, .unset, .unset] [])
  obtain ⟨j5, hj5⟩ : ∃ z : Int32, z = (p2 &&& j1).toUInt32.toUInt16.toUInt32.toInt32 := ⟨_, rfl⟩
  rw [← hj5]
  show own_Go p.tables e below _ s₁ (mkF m 38 #[.val (.int p1), .val (.int p2), .val (.int p3), .val (.int p4), .val (.int j1), .val (.int j3), .val (.int j4), .val (.int j5), .unset, .unset, .unset, .unset, .unset, .unset, .unset, .unset, .unset] [])
  refine own_go (T' := s₁) (g' := (mkF m 48 #[.val (.int p1), .val (.int p2), .val (.int p3), .val (.int p4), .val (.int j1), .val (.int j3), .val (.int j4), .val (.int j5), .val (.int (((p2.toUInt32 >>> ((16 : Int32) &&& 31).toUInt32).toInt32) &&& j1).toUInt32.toUInt16.toUInt32.toInt32), .unset, .unset, .unset, .unset, .unset, .unset, .unset, .unset] [])) (fun t k => ?_) ?_
  · show Steps p.tables e below (s₁.setTop (mkF m 38 #[.val (.int p1), .val (.int p2), .val (.int p3), .val (.int p4), .val (.int j1), .val (.int j3), .val (.int j4), .val (.int j5), .unset, .unset, .unset, .unset, .unset, .unset, .unset, .unset, .unset] [])) _
    refine XS.iloadN X0.here hx rfl (hb hby at_38) rfl ?_
    show Steps p.tables e below (s₁.setTop (mkF m 39 #[.val (.int p1), .val (.int p2), .val (.int p3), .val (.int p4), .val (.int j1), .val (.int j3), .val (.int j4), .val (.int j5), .unset, .unset, .unset, .unset, .unset, .unset, .unset, .unset, .unset] [(.int p2)])) _
    refine XS.bipush X0.here hx rfl (hb hby at_39) ?_
    show Steps p.tables e below (s₁.setTop (mkF m 41 #[.val (.int p1), .val (.int p2), .val (.int p3), .val (.int p4), .val (.int j1), .val (.int j3), .val (.int j4), .val (.int j5), .unset, .unset, .unset, .unset, .unset, .unset, .unset, .unset, .unset] [(.int (16 : Int32)), (.int p2)])) _
    refine XS.iushr X0.here hx rfl (hb hby at_41) rfl ?_
    show Steps p.tables e below (s₁.setTop (mkF m 42 #[.val (.int p1), .val (.int p2), .val (.int p3), .val (.int p4), .val (.int j1), .val (.int j3), .val (.int j4), .val (.int j5), .unset, .unset, .unset, .unset, .unset, .unset, .unset, .unset, .unset] [(.int ((p2.toUInt32 >>> ((16 : Int32) &&& 31).toUInt32).toInt32))])) _
    refine XS.iload X0.here hx rfl (hb hby at_42) rfl ?_
    show Steps p.tables e below (s₁.setTop (mkF m 44 #[.val (.int p1), .val (.int p2), .val (.int p3), .val (.int p4), .val (.int j1), .val (.int j3), .val (.int j4), .val (.int j5), .unset, .unset, .unset, .unset, .unset, .unset, .unset, .unset, .unset] [(.int j1), (.int ((p2.toUInt32 >>> ((16 : Int32) &&& 31).toUInt32).toInt32))])) _
    refine XS.iand X0.here hx rfl (hb hby at_44) rfl ?_
    show Steps p.tables e below (s₁.setTop (mkF m 45 #[.val (.int p1), .val (.int p2), .val (.int p3), .val (.int p4), .val (.int j1), .val (.int j3), .val (.int j4), .val (.int j5), .unset, .unset, .unset, .unset, .unset, .unset, .unset, .unset, .unset] [(.int (((p2.toUInt32 >>> ((16 : Int32) &&& 31).toUInt32).toInt32) &&& j1))])) _
    refine XS.i2c X0.here hx rfl (hb hby at_45) rfl ?_
    show Steps p.tables e below (s₁.setTop (mkF m 46 #[.val (.int p1), .val (.int p2), .val (.int p3), .val (.int p4), .val (.int j1), .val (.int j3), .val (.int j4), .val (.int j5), .unset, .unset, .unset, .unset, .unset, .unset, .unset, .unset, .unset] [(.int (((p2.toUInt32 >>> ((16 : Int32) &&& 31).toUInt32).toInt32) &&& j1).toUInt32.toUInt16.toUInt32.toInt32)])) _
    refine XS.istore X0.here hx rfl (hb hby at_46) rfl (l' := #[.val (.int p1), .val (.int p2), .val (.int p3), .val (.int p4), .val (.int j1), .val (.int j3), .val (.int j4), .val (.int j5), .val (.int (((p2.toUInt32 >>> ((16 : Int32) &&& 31).toUInt32).toInt32) &&& j1).toUInt32.toUInt16.toUInt32.toInt32), .unset, .unset, .unset, .unset, .unset, .unset, .unset, .unset]) rfl ?_
    exact k
  show own_Go p.tables e below _ s₁ (mkF m 48 #[.val (.int p1), .val (.int p2), .val (.int p3), .val (.int p4), .val (.int j1), .val (.int j3), .val (.int j4), .val (.int j5), .val (.int (((p2.toUInt32 >>> ((16 : Int32) &&& 31).toUInt32).toInt32) &&& j1).toUInt32.toUInt16.toUInt32.toInt32), .unset, .unset, .unset, .unset, .unset, .unset, .unset, .unset] [])
  obtain ⟨j6, hj6⟩ : ∃ z : Int32, z = (((p2.toUInt32 >>> ((16 : Int32) &&& 31).toUInt32).toInt32) &&& j1).toUInt32.toUInt16.toUInt32.toInt32 := ⟨_, rfl⟩
  rw [← hj6]
  show own_Go p.tables e below _ s₁ (mkF m 48 #[.val (.int p1), .val (.int p2), .val (.int p3), .val (.int p4), .val (.int j1), .val (.int j3), .val (.int j4), .val (.int j5), .val (.int j6), .unset, .unset, .unset, .unset, .unset, .unset, .unset, .unset] [])
  refine own_go (T' := s₁) (g' := (mkF m 49 #[.val (.int p1), .val (.int p2), .val (.int p3), .val (.int p4), .val (.int j1), .val (.int j3), .val (.int j4), .val (.int j5), .val (.int j6), .unset, .unset, .unset, .unset, .unset, .unset, .unset, .unset] [(.int (4 : Int32))])) (fun t k => ?_) ?_
  · show Steps p.tables e below (s₁.setTop (mkF m 48 #[.val (.int p1), .val (.int p2), .val (.int p3), .val (.int p4), .val (.int j1), .val (.int j3), .val (.int j4), .val (.int j5), .val (.int j6), .unset, .unset, .unset, .unset, .unset, .unset, .unset, .unset] [])) _
    refine XS.iconst X0.here hx rfl (hb hby at_48) ?_
    exact k
  obtain ⟨T7, h7, k7, X7, e7, E7, A7, st7⟩ := newP X0 hx hZ (hw _ (List.mem_of_getElem? (i := 0) rfl)) e0 (g := (mkF m 49 #[.val (.int p1), .val (.int p2), .val (.int p3), .val (.int p4), .val (.int j1), .val (.int j3), .val (.int j4), .val (.int j5), .val (.int j6), .unset, .unset, .unset, .unset, .unset, .unset, .unset, .unset] [(.int (4 : Int32))])) rfl (hb hby at_49) rfl (by decide) (cap := 4) (by decide) (by decide) (by decide) (by decide)
  obtain ⟨b7, g7⟩ : ∃ z, z = h0.size := ⟨_, rfl⟩
  rw [← g7] at A7 st7
  have g_b7 : n0 ≤ b7 := Nat.le_trans Z0 (Nat.le_of_eq g7.symm)
  have sz_b7 : h0.size ≤ b7 := Nat.le_trans KK.1 (Nat.le_of_eq g7.symm)
  have Z0 := Nat.le_trans Z0 E7.1
  have KK := KK.ext E7
  have V_b7 : Arv Z h7 b7 k7 .char (4 : Int32) [(.int (0 : Int32)), (.int (0 : Int32)), (.int (0 : Int32)), (.int (0 : Int32))] (.int (0 : Int32)) := (Arv.new A7 (by decide)).pad (pad_rep [] (.int (0 : Int32)) 4)
  refine own_go st7 ?_
  show own_Go p.tables e below _ T7 (mkF m 51 #[.val (.int p1), .val (.int p2), .val (.int p3), .val (.int p4), .val (.int j1), .val (.int j3), .val (.int j4), .val (.int j5), .val (.int j6), .unset, .unset, .unset, .unset, .unset, .unset, .unset, .unset] [(.ref b7)])
  refine own_go (T' := T7) (g' := (mkF m 55 #[.val (.int p1), .val (.int p2), .val (.int p3), .val (.int p4), .val (.int j1), .val (.int j3), .val (.int j4), .val (.int j5), .val (.int j6), .unset, .unset, .unset, .unset, .unset, .unset, .unset, .unset] [(.int j3), (.int (0 : Int32)), (.ref b7), (.ref b7)])) (fun t k => ?_) ?_
  · show Steps p.tables e below (T7.setTop (mkF m 51 #[.val (.int p1), .val (.int p2), .val (.int p3), .val (.int p4), .val (.int j1), .val (.int j3), .val (.int j4), .val (.int j5), .val (.int j6), .unset, .unset, .unset, .unset, .unset, .unset, .unset, .unset] [(.ref b7)])) _
    refine XS.dup X7.here hx rfl (hb hby at_51) rfl rfl ?_
    show Steps p.tables e below (T7.setTop (mkF m 52 #[.val (.int p1), .val (.int p2), .val (.int p3), .val (.int p4), .val (.int j1), .val (.int j3), .val (.int j4), .val (.int j5), .val (.int j6), .unset, .unset, .unset, .unset, .unset, .unset, .unset, .unset] [(.ref b7), (.ref b7)])) _
    refine XS.iconst X7.here hx rfl (hb hby at_52) ?_
    show Steps p.tables e below (T7.setTop (mkF m 53 #[.val (.int p1), .val (.int p2), .val (.int p3), .val (.int p4), .val (.int j1), .val (.int j3), .val (.int j4), .val (.int j5), .val (.int j6), .unset, .unset, .unset, .unset, .unset, .unset, .unset, .unset] [(.int (0 : Int32)), (.ref b7), (.ref b7)])) _
    refine XS.iload X7.here hx rfl (hb hby at_53) rfl ?_
    exact k
  have Vq := V_b7
  obtain ⟨cl8, Ar8, q8, Sz8, Ng8, Hs8, Gs8⟩ := Vq
  have hin8 : ¬ ((0 : Int32) < 0 ∨ cl8.slots.size ≤ ((0 : Int32)).toNatClampNeg) := inb_of Sz8 ⟨by decide, by decide⟩
  obtain ⟨T9, h9, X9, e9, W9, st9⟩ := stC X7 hx hZ e7 Ar8 (j := (0 : Int32)) hin8 (g := (mkF m 55 #[.val (.int p1), .val (.int p2), .val (.int p3), .val (.int p4), .val (.int j1), .val (.int j3), .val (.int j4), .val (.int j5), .val (.int j6), .unset, .unset, .unset, .unset, .unset, .unset, .unset, .unset] [(.int j3), (.int (0 : Int32)), (.ref b7), (.ref b7)])) rfl rfl (hb hby at_55)
  refine own_go st9 ?_
  have Z0 := Nat.le_trans Z0 (Keep.of_wr W9).1
  have KK := KK.wr W9 (Or.inr sz_b7)
  have NN := Fr.snoc X9 NN g_b7
  have V_b7 : Arv Z h9 b7 k7 .char (4 : Int32) [(.int (nar .char j3)), (.int (0 : Int32)), (.int (0 : Int32)), (.int (0 : Int32))] (.int (0 : Int32)) := Arv.set Ar8 q8 Sz8 Ng8 Hs8 Gs8 (fits_nar_char _) W9 0 rfl (Nat.le_of_ble_eq_true rfl)
  show own_Go p.tables e below _ T9 (mkF m 56 #[.val (.int p1), .val (.int p2), .val (.int p3), .val (.int p4), .val (.int j1), .val (.int j3), .val (.int j4), .val (.int j5), .val (.int j6), .unset, .unset, .unset, .unset, .unset, .unset, .unset, .unset] [(.ref b7)])
  refine own_go (T' := T9) (g' := (mkF m 60 #[.val (.int p1), .val (.int p2), .val (.int p3), .val (.int p4), .val (.int j1), .val (.int j3), .val (.int j4), .val (.int j5), .val (.int j6), .unset, .unset, .unset, .unset, .unset, .unset, .unset, .unset] [(.int j4), (.int (1 : Int32)), (.ref b7), (.ref b7)])) (fun t k => ?_) ?_
  · show Steps p.tables e below (T9.setTop (mkF m 56 #[.val (.int p1), .val (.int p2), .val (.int p3), .val (.int p4), .val (.int j1), .val (.int j3), .val (.int j4), .val (.int j5), .val (.int j6), .unset, .unset, .unset, .unset, .unset, .unset, .unset, .unset] [(.ref b7)])) _
    refine XS.dup X9.here hx rfl (hb hby at_56) rfl rfl ?_
    show Steps p.tables e below (T9.setTop (mkF m 57 #[.val (.int p1), .val (.int p2), .val (.int p3), .val (.int p4), .val (.int j1), .val (.int j3), .val (.int j4), .val (.int j5), .val (.int j6), .unset, .unset, .unset, .unset, .unset, .unset, .unset, .unset] [(.ref b7), (.ref b7)])) _
    refine XS.iconst X9.here hx rfl (hb hby at_57) ?_
    show Steps p.tables e below (T9.setTop (mkF m 58 #[.val (.int p1), .val (.int p2), .val (.int p3), .val (.int p4), .val (.int j1), .val (.int j3), .val (.int j4), .val (.int j5), .val (.int j6), .unset, .unset, .unset, .unset, .unset, .unset, .unset, .unset] [(.int (1 : Int32)), (.ref b7), (.ref b7)])) _
    refine XS.iload X9.here hx rfl (hb hby at_58) rfl ?_
    exact k
  have Vq := V_b7
  obtain ⟨cl10, Ar10, q10, Sz10, Ng10, Hs10, Gs10⟩ := Vq
  have hin10 : ¬ ((1 : Int32) < 0 ∨ cl10.slots.size ≤ ((1 : Int32)).toNatClampNeg) := inb_of Sz10 ⟨by decide, by decide⟩
  obtain ⟨T11, h11, X11, e11, W11, st11⟩ := stC X9 hx hZ e9 Ar10 (j := (1 : Int32)) hin10 (g := (mkF m 60 #[.val (.int p1), .val (.int p2), .val (.int p3), .val (.int p4), .val (.int j1), .val (.int j3), .val (.int j4), .val (.int j5), .val (.int j6), .unset, .unset, .unset, .unset, .unset, .unset, .unset, .unset] [(.int j4), (.int (1 : Int32)), (.ref b7), (.ref b7)])) rfl rfl (hb hby at_60)
  refine own_go st11 ?_
  have Z0 := Nat.le_trans Z0 (Keep.of_wr W11).1
  have KK := KK.wr W11 (Or.inr sz_b7)
  have NN := Fr.snoc X11 NN g_b7
  have V_b7 : Arv Z h11 b7 k7 .char (4 : Int32) [(.int (nar .char j3)), (.int (nar .char j4)), (.int (0 : Int32)), (.int (0 : Int32))] (.int (0 : Int32)) := Arv.set Ar10 q10 Sz10 Ng10 Hs10 Gs10 (fits_nar_char _) W11 1 rfl (Nat.le_of_ble_eq_true rfl)
  show own_Go p.tables e below _ T11 (mkF m 61 #[.val (.int p1), .val (.int p2), .val (.int p3), .val (.int p4), .val (.int j1), .val (.int j3), .val (.int j4), .val (.int j5), .val (.int j6), .unset, .unset, .unset, .unset, .unset, .unset, .unset, .unset] [(.ref b7)])
  refine own_go (T' := T11) (g' := (mkF m 65 #[.val (.int p1), .val (.int p2), .val (.int p3), .val (.int p4), .val (.int j1), .val (.int j3), .val (.int j4), .val (.int j5), .val (.int j6), .unset, .unset, .unset, .unset, .unset, .unset, .unset, .unset] [(.int j5), (.int (2 : Int32)), (.ref b7), (.ref b7)])) (fun t k => ?_) ?_
  · show Steps p.tables e below (T11.setTop (mkF m 61 #[.val (.int p1), .val (.int p2), .val (.int p3), .val (.int p4), .val (.int j1), .val (.int j3), .val (.int j4), .val (.int j5), .val (.int j6), .unset, .unset, .unset, .unset, .unset, .unset, .unset, .unset] [(.ref b7)])) _
    refine XS.dup X11.here hx rfl (hb hby at_61) rfl rfl ?_
    show Steps p.tables e below (T11.setTop (mkF m 62 #[.val (.int p1), .val (.int p2), .val (.int p3), .val (.int p4), .val (.int j1), .val (.int j3), .val (.int j4), .val (.int j5), .val (.int j6), .unset, .unset, .unset, .unset, .unset, .unset, .unset, .unset] [(.ref b7), (.ref b7)])) _
    refine XS.iconst X11.here hx rfl (hb hby at_62) ?_
    show Steps p.tables e below (T11.setTop (mkF m 63 #[.val (.int p1), .val (.int p2), .val (.int p3), .val (.int p4), .val (.int j1), .val (.int j3), .val (.int j4), .val (.int j5), .val (.int j6), .unset, .unset, .unset, .unset, .unset, .unset, .unset, .unset] [(.int (2 : Int32)), (.ref b7), (.ref b7)])) _
    refine XS.iload X11.here hx rfl (hb hby at_63) rfl ?_
    exact k
  have Vq := V_b7
  obtain ⟨cl12, Ar12, q12, Sz12, Ng12, Hs12, Gs12⟩ := Vq
  have hin12 : ¬ ((2 : Int32) < 0 ∨ cl12.slots.size ≤ ((2 : Int32)).toNatClampNeg) := inb_of Sz12 ⟨by decide, by decide⟩
  obtain ⟨T13, h13, X13, e13, W13, st13⟩ := stC X11 hx hZ e11 Ar12 (j := (2 : Int32)) hin12 (g := (mkF m 65 #[.val (.int p1), .val (.int p2), .val (.int p3), .val (.int p4), .val (.int j1), .val (.int j3), .val (.int j4), .val (.int j5), .val (.int j6), .unset, .unset, .unset, .unset, .unset, .unset, .unset, .unset] [(.int j5), (.int (2 : Int32)), (.ref b7), (.ref b7)])) rfl rfl (hb hby at_65)
  refine own_go st13 ?_
  have Z0 := Nat.le_trans Z0 (Keep.of_wr W13).1
  have KK := KK.wr W13 (Or.inr sz_b7)
  have NN := Fr.snoc X13 NN g_b7
  have V_b7 : Arv Z h13 b7 k7 .char (4 : Int32) [(.int (nar .char j3)), (.int (nar .char j4)), (.int (nar .char j5)), (.int (0 : Int32))] (.int (0 : Int32)) := Arv.set Ar12 q12 Sz12 Ng12 Hs12 Gs12 (fits_nar_char _) W13 2 rfl (Nat.le_of_ble_eq_true rfl)
  show own_Go p.tables e below _ T13 (mkF m 66 #[.val (.int p1), .val (.int p2), .val (.int p3), .val (.int p4), .val (.int j1), .val (.int j3), .val (.int j4), .val (.int j5), .val (.int j6), .unset, .unset, .unset, .unset, .unset, .unset, .unset, .unset] [(.ref b7)])
  refine own_go (T' := T13) (g' := (mkF m 70 #[.val (.int p1), .val (.int p2), .val (.int p3), .val (.int p4), .val (.int j1), .val (.int j3), .val (.int j4), .val (.int j5), .val (.int j6), .unset, .unset, .unset, .unset, .unset, .unset, .unset, .unset] [(.int j6), (.int (3 : Int32)), (.ref b7), (.ref b7)])) (fun t k => ?_) ?_
  · show Steps p.tables e below (T13.setTop (mkF m 66 #[.val (.int p1), .val (.int p2), .val (.int p3), .val (.int p4), .val (.int j1), .val (.int j3), .val (.int j4), .val (.int j5), .val (.int j6), .unset, .unset, .unset, .unset, .unset, .unset, .unset, .unset] [(.ref b7)])) _
    refine XS.dup X13.here hx rfl (hb hby at_66) rfl rfl ?_
    show Steps p.tables e below (T13.setTop (mkF m 67 #[.val (.int p1), .val (.int p2), .val (.int p3), .val (.int p4), .val (.int j1), .val (.int j3), .val (.int j4), .val (.int j5), .val (.int j6), .unset, .unset, .unset, .unset, .unset, .unset, .unset, .unset] [(.ref b7), (.ref b7)])) _
    refine XS.iconst X13.here hx rfl (hb hby at_67) ?_
    show Steps p.tables e below (T13.setTop (mkF m 68 #[.val (.int p1), .val (.int p2), .val (.int p3), .val (.int p4), .val (.int j1), .val (.int j3), .val (.int j4), .val (.int j5), .val (.int j6), .unset, .unset, .unset, .unset, .unset, .unset, .unset, .unset] [(.int (3 : Int32)), (.ref b7), (.ref b7)])) _
    refine XS.iload X13.here hx rfl (hb hby at_68) rfl ?_
    exact k
  have Vq := V_b7
  obtain ⟨cl14, Ar14, q14, Sz14, Ng14, Hs14, Gs14⟩ := Vq
  have hin14 : ¬ ((3 : Int32) < 0 ∨ cl14.slots.size ≤ ((3 : Int32)).toNatClampNeg) := inb_of Sz14 ⟨by decide, by decide⟩
  obtain ⟨T15, h15, X15, e15, W15, st15⟩ := stC X13 hx hZ e13 Ar14 (j := (3 : Int32)) hin14 (g := (mkF m 70 #[.val (.int p1), .val (.int p2), .val (.int p3), .val (.int p4), .val (.int j1), .val (.int j3), .val (.int j4), .val (.int j5), .val (.int j6), .unset, .unset, .unset, .unset, .unset, .unset, .unset, .unset] [(.int j6), (.int (3 : Int32)), (.ref b7), (.ref b7)])) rfl rfl (hb hby at_70)
  refine own_go st15 ?_
  have Z0 := Nat.le_trans Z0 (Keep.of_wr W15).1
  have KK := KK.wr W15 (Or.inr sz_b7)
  have NN := Fr.snoc X15 NN g_b7
  have V_b7 : Arv Z h15 b7 k7 .char (4 : Int32) [(.int (nar .char j3)), (.int (nar .char j4)), (.int (nar .char j5)), (.int (nar .char j6))] (.int (0 : Int32)) := Arv.set Ar14 q14 Sz14 Ng14 Hs14 Gs14 (fits_nar_char _) W15 3 rfl (Nat.le_of_ble_eq_true rfl)
  show own_Go p.tables e below _ T15 (mkF m 71 #[.val (.int p1), .val (.int p2), .val (.int p3), .val (.int p4), .val (.int j1), .val (.int j3), .val (.int j4), .val (.int j5), .val (.int j6), .unset, .unset, .unset, .unset, .unset, .unset, .unset, .unset] [(.ref b7)])
  refine own_go (T' := T15) (g' := (mkF m 78 #[.val (.int p1), .val (.int p2), .val (.int p3), .val (.int p4), .val (.int j1), .val (.int j3), .val (.int j4), .val (.int j5), .val (.int j6), .val (.ref b7), .val (.int (p3 &&& (3 : Int32))), .unset, .unset, .unset, .unset, .unset, .unset] [])) (fun t k => ?_) ?_
  · show Steps p.tables e below (T15.setTop (mkF m 71 #[.val (.int p1), .val (.int p2), .val (.int p3), .val (.int p4), .val (.int j1), .val (.int j3), .val (.int j4), .val (.int j5), .val (.int j6), .unset, .unset, .unset, .unset, .unset, .unset, .unset, .unset] [(.ref b7)])) _
    refine XS.astore X15.here hx rfl (hb hby at_71) rfl rfl (l' := #[.val (.int p1), .val (.int p2), .val (.int p3), .val (.int p4), .val (.int j1), .val (.int j3), .val (.int j4), .val (.int j5), .val (.int j6), .val (.ref b7), .unset, .unset, .unset, .unset, .unset, .unset, .unset]) rfl ?_
    show Steps p.tables e below (T15.setTop (mkF m 73 #[.val (.int p1), .val (.int p2), .val (.int p3), .val (.int p4), .val (.int j1), .val (.int j3), .val (.int j4), .val (.int j5), .val (.int j6), .val (.ref b7), .unset, .unset, .unset, .unset, .unset, .unset, .unset] [])) _
    refine XS.iloadN X15.here hx rfl (hb hby at_73) rfl ?_
    show Steps p.tables e below (T15.setTop (mkF m 74 #[.val (.int p1), .val (.int p2), .val (.int p3), .val (.int p4), .val (.int j1), .val (.int j3), .val (.int j4), .val (.int j5), .val (.int j6), .val (.ref b7), .unset, .unset, .unset, .unset, .unset, .unset, .unset] [(.int p3)])) _
    refine XS.iconst X15.here hx rfl (hb hby at_74) ?_
    show Steps p.tables e below (T15.setTop (mkF m 75 #[.val (.int p1), .val (.int p2), .val (.int p3), .val (.int p4), .val (.int j1), .val (.int j3), .val (.int j4), .val (.int j5), .val (.int j6), .val (.ref b7), .unset, .unset, .unset, .unset, .unset, .unset, .unset] [(.int (3 : Int32)), (.int p3)])) _
    refine XS.iand X15.here hx rfl (hb hby at_75) rfl ?_
    show Steps p.tables e below (T15.setTop (mkF m 76 #[.val (.int p1), .val (.int p2), .val (.int p3), .val (.int p4), .val (.int j1), .val (.int j3), .val (.int j4), .val (.int j5), .val (.int j6), .val (.ref b7), .unset, .unset, .unset, .unset, .unset, .unset, .unset] [(.int (p3 &&& (3 : Int32)))])) _
    refine XS.istore X15.here hx rfl (hb hby at_76) rfl (l' := #[.val (.int p1), .val (.int p2), .val (.int p3), .val (.int p4), .val (.int j1), .val (.int j3), .val (.int j4), .val (.int j5), .val (.int j6), .val (.ref b7), .val (.int (p3 &&& (3 : Int32))), .unset, .unset, .unset, .unset, .unset, .unset]) rfl ?_
    exact k
  show own_Go p.tables e below _ T15 (mkF m 78 #[.val (.int p1), .val (.int p2), .val (.int p3), .val (.int p4), .val (.int j1), .val (.int j3), .val (.int j4), .val (.int j5), .val (.int j6), .val (.ref b7), .val (.int (p3 &&& (3 : Int32))), .unset, .unset, .unset, .unset, .unset, .unset] [])
  obtain ⟨j16, hj16⟩ : ∃ z : Int32, z = (p3 &&& (3 : Int32)) := ⟨_, rfl⟩
  rw [← hj16]
  show own_Go p.tables e below _ T15 (mkF m 78 #[.val (.int p1), .val (.int p2), .val (.int p3), .val (.int p4), .val (.int j1), .val (.int j3), .val (.int j4), .val (.int j5), .val (.int j6), .val (.ref b7), .val (.int j16), .unset, .unset, .unset, .unset, .unset, .unset] [])
  refine own_go (T' := T15) (g' := (mkF m 85 #[.val (.int p1), .val (.int p2), .val (.int p3), .val (.int p4), .val (.int j1), .val (.int j3), .val (.int j4), .val (.int j5), .val (.int j6), .val (.ref b7), .val (.int j16), .val (.int (((p3.toUInt32 >>> ((2 : Int32) &&& 31).toUInt32).toInt32) &&& (3 : Int32))), .unset, .unset, .unset, .unset, .unset] [])) (fun t k => ?_) ?_
  · show Steps p.tables e below (T15.setTop (mkF m 78 #[.val (.int p1), .val (.int p2), .val (.int p3), .val (.int p4), .val (.int j1), .val (.int j3), .val (.int j4), .val (.int j5), .val (.int j6), .val (.ref b7), .val (.int j16), .unset, .unset, .unset, .unset, .unset, .unset] [])) _
    refine XS.iloadN X15.here hx rfl (hb hby at_78) rfl ?_
    show Steps p.tables e below (T15.setTop (mkF m 79 #[.val (.int p1), .val (.int p2), .val (.int p3), .val (.int p4), .val (.int j1), .val (.int j3), .val (.int j4), .val (.int j5), .val (.int j6), .val (.ref b7), .val (.int j16), .unset, .unset, .unset, .unset, .unset, .unset] [(.int p3)])) _
    refine XS.iconst X15.here hx rfl (hb hby at_79) ?_
    show Steps p.tables e below (T15.setTop (mkF m 80 #[.val (.int p1), .val (.int p2), .val (.int p3), .val (.int p4), .val (.int j1), .val (.int j3), .val (.int j4), .val (.int j5), .val (.int j6), .val (.ref b7), .val (.int j16), .unset, .unset, .unset, .unset, .unset, .unset] [(.int (2 : Int32)), (.int p3)])) _
    refine XS.iushr X15.here hx rfl (hb hby at_80) rfl ?_
    show Steps p.tables e below (T15.setTop (mkF m 81 #[.val (.int p1), .val (.int p2), .val (.int p3), .val (.int p4), .val (.int j1), .val (.int j3), .val (.int j4), .val (.int j5), .val (.int j6), .val (.ref b7), .val (.int j16), .unset, .unset, .unset, .unset, .unset, .unset] [(.int ((p3.toUInt32 >>> ((2 : Int32) &&& 31).toUInt32).toInt32))])) _
    refine XS.iconst X15.here hx rfl (hb hby at_81) ?_
    show Steps p.tables e below (T15.setTop (mkF m 82 #[.val (.int p1), .val (.int p2), .val (.int p3), .val (.int p4), .val (.int j1), .val (.int j3), .val (.int j4), .val (.int j5), .val (.int j6), .val (.ref b7), .val (.int j16), .unset, .unset, .unset, .unset, .unset, .unset] [(.int (3 : Int32)), (.int ((p3.toUInt32 >>> ((2 : Int32) &&& 31).toUInt32).toInt32))])) _
    refine XS.iand X15.here hx rfl (hb hby at_82) rfl ?_
    show Steps p.tables e below (T15.setTop (mkF m 83 #[.val (.int p1), .val (.int p2), .val (.int p3), .val (.int p4), .val (.int j1), .val (.int j3), .val (.int j4), .val (.int j5), .val (.int j6), .val (.ref b7), .val (.int j16), .unset, .unset, .unset, .unset, .unset, .unset] [(.int (((p3.toUInt32 >>> ((2 : Int32) &&& 31).toUInt32).toInt32) &&& (3 : Int32)))])) _
    refine XS.istore X15.here hx rfl (hb hby at_83) rfl (l' := #[.val (.int p1), .val (.int p2), .val (.int p3), .val (.int p4), .val (.int j1), .val (.int j3), .val (.int j4), .val (.int j5), .val (.int j6), .val (.ref b7), .val (.int j16), .val (.int (((p3.toUInt32 >>> ((2 : Int32) &&& 31).toUInt32).toInt32) &&& (3 : Int32))), .unset, .unset, .unset, .unset, .unset]) rfl ?_
    exact k
  show own_Go p.tables e below _ T15 (mkF m 85 #[.val (.int p1), .val (.int p2), .val (.int p3), .val (.int p4), .val (.int j1), .val (.int j3), .val (.int j4), .val (.int j5), .val (.int j6), .val (.ref b7), .val (.int j16), .val (.int (((p3.toUInt32 >>> ((2 : Int32) &&& 31).toUInt32).toInt32) &&& (3 : Int32))), .unset, .unset, .unset, .unset, .unset] [])
  obtain ⟨j17, hj17⟩ : ∃ z : Int32, z = (((p3.toUInt32 >>> ((2 : Int32) &&& 31).toUInt32).toInt32) &&& (3 : Int32)) := ⟨_, rfl⟩
  rw [← hj17]
  show own_Go p.tables e below _ T15 (mkF m 85 #[.val (.int p1), .val (.int p2), .val (.int p3), .val (.int p4), .val (.int j1), .val (.int j3), .val (.int j4), .val (.int j5), .val (.int j6), .val (.ref b7), .val (.int j16), .val (.int j17), .unset, .unset, .unset, .unset, .unset] [])
  obtain ⟨T18, h18, X18, e18, E18, A18, D18, -, st18⟩ := newO X15 hx hZ hown (hw _ (List.mem_of_getElem? (i := 1) rfl)) (hw _ (List.mem_of_getElem? (i := 2) rfl)) (hw _ (List.mem_of_getElem? (i := 3) rfl)) e15 (g := (mkF m 85 #[.val (.int p1), .val (.int p2), .val (.int p3), .val (.int p4), .val (.int j1), .val (.int j3), .val (.int j4), .val (.int j5), .val (.int j6), .val (.ref b7), .val (.int j16), .val (.int j17), .unset, .unset, .unset, .unset, .unset] [])) rfl (hb hby at_85) (by decide) (by decide)
  obtain ⟨b18, g18⟩ : ∃ z, z = h15.size := ⟨_, rfl⟩
  rw [← g18] at A18 D18 st18
  have g_b18 : n0 ≤ b18 := Nat.le_trans Z0 (Nat.le_of_eq g18.symm)
  have sz_b18 : h0.size ≤ b18 := Nat.le_trans KK.1 (Nat.le_of_eq g18.symm)
  have ne_b7_b18 : b7 ≠ b18 := Nat.ne_of_lt (Nat.lt_of_lt_of_le V_b7.lt (Nat.le_of_eq g18.symm))
  have V_b7 := V_b7.ext E18
  have Z0 := Nat.le_trans Z0 E18.1
  have KK := KK.ext E18
  have E_b18 := A18
  have F_b18_pattern : Fld Z h18 b18 "com/example/caliper2/caliper2/ScanInput$SameChars" "pattern" "[C" .null := D18 (Or.inr (hw _ (List.mem_of_getElem? (i := 16) rfl))) (ty := (.array .char)) (by decide)
  refine own_go st18 ?_
  show own_Go p.tables e below _ T18 (mkF m 88 #[.val (.int p1), .val (.int p2), .val (.int p3), .val (.int p4), .val (.int j1), .val (.int j3), .val (.int j4), .val (.int j5), .val (.int j6), .val (.ref b7), .val (.int j16), .val (.int j17), .unset, .unset, .unset, .unset, .unset] [(.ref b18)])
  refine own_go (T' := T18) (g' := (mkF m 91 #[.val (.int p1), .val (.int p2), .val (.int p3), .val (.int p4), .val (.int j1), .val (.int j3), .val (.int j4), .val (.int j5), .val (.int j6), .val (.ref b7), .val (.int j16), .val (.int j17), .unset, .unset, .unset, .unset, .unset] [(.ref b7), (.ref b18), (.ref b18)])) (fun t k => ?_) ?_
  · show Steps p.tables e below (T18.setTop (mkF m 88 #[.val (.int p1), .val (.int p2), .val (.int p3), .val (.int p4), .val (.int j1), .val (.int j3), .val (.int j4), .val (.int j5), .val (.int j6), .val (.ref b7), .val (.int j16), .val (.int j17), .unset, .unset, .unset, .unset, .unset] [(.ref b18)])) _
    refine XS.dup X18.here hx rfl (hb hby at_88) rfl rfl ?_
    show Steps p.tables e below (T18.setTop (mkF m 89 #[.val (.int p1), .val (.int p2), .val (.int p3), .val (.int p4), .val (.int j1), .val (.int j3), .val (.int j4), .val (.int j5), .val (.int j6), .val (.ref b7), .val (.int j16), .val (.int j17), .unset, .unset, .unset, .unset, .unset] [(.ref b18), (.ref b18)])) _
    refine XS.aload X18.here hx rfl (hb hby at_89) rfl rfl ?_
    exact k
  obtain ⟨_, _, ⟨T19, L19, k19, n19⟩, -, X19, ⟨Lc19, hQ19, l19, y19, z19⟩, st19⟩ := X18.specialBack hx (y := (⟨"com/example/caliper2/caliper2/ScanInput$SameChars", "<init>", "([C)V"⟩ : MethodName)) rfl hown (mvT hZ (hw _ (List.mem_of_getElem? (i := 4) rfl))) (mvT hZ (hw _ (List.mem_of_getElem? (i := 5) rfl))) (mvT hZ (hw _ (List.mem_of_getElem? (i := 6) rfl))) (by decide) (backOf (W := 1) (rm1 l Z a0 hw [] b18 b7 .null h18 n0 Z0 E_b18 F_b18_pattern g_b18) hZ (hw _ (List.mem_of_getElem? (i := 6) rfl)) (hw _ (List.mem_of_getElem? (i := 3) rfl)) (by decide) (by decide)) (g := (mkF m 91 #[.val (.int p1), .val (.int p2), .val (.int p3), .val (.int p4), .val (.int j1), .val (.int j3), .val (.int j4), .val (.int j5), .val (.int j6), .val (.ref b7), .val (.int j16), .val (.int j17), .unset, .unset, .unset, .unset, .unset] [(.ref b7), (.ref b18), (.ref b18)])) rfl (by rw [hml]; rfl) (Steps.refl _) (a := b18) (argsL := [(.ref b7)]) (rest := [(.ref b18)]) (lenOf pd_0 rfl) rfl (by show 2 * 0 + _ ≤ _; exact Nat.le_of_eq rfl) (hb hby at_91) (fun _ _ => ⟨rfl, e18, (by decide : 2 + 0 ≤ _), (by decide : 5 + 0 ≤ _)⟩)
  dsimp only [Pt.U, Pt.locs, Pt.cells, Pt.slots] at X19 l19 y19 z19 st19 hQ19
  subst l19 y19 z19
  obtain ⟨rfl, N19q, K19, Q19_0, Q19_1⟩ := hQ19
  have V_b7 := V_b7.keep K19 (ninS ne_b7_b18 nin0)
  have E_b18 := Q19_0
  have F_b18_pattern := Q19_1
  have Z0 := Nat.le_trans Z0 K19.1
  have KK := KK.trans K19 (allS (Or.inr sz_b18) all0)
  have NN := Fr.app NN N19q
  refine own_go (fun t k => st19.trans k) ?_
  show own_Go p.tables e below _ T19 (mkF m 94 #[.val (.int p1), .val (.int p2), .val (.int p3), .val (.int p4), .val (.int j1), .val (.int j3), .val (.int j4), .val (.int j5), .val (.int j6), .val (.ref b7), .val (.int j16), .val (.int j17), .unset, .unset, .unset, .unset, .unset] [(.ref b18)])
  refine own_go (T' := T19) (g' := (mkF m 102 #[.val (.int p1), .val (.int p2), .val (.int p3), .val (.int p4), .val (.int j1), .val (.int j3), .val (.int j4), .val (.int j5), .val (.int j6), .val (.ref b7), .val (.int j16), .val (.int j17), .val (.ref b18), .unset, .unset, .unset, .unset] [(.int j17), (.int j16), (.ref b18)])) (fun t k => ?_) ?_
  · show Steps p.tables e below (T19.setTop (mkF m 94 #[.val (.int p1), .val (.int p2), .val (.int p3), .val (.int p4), .val (.int j1), .val (.int j3), .val (.int j4), .val (.int j5), .val (.int j6), .val (.ref b7), .val (.int j16), .val (.int j17), .unset, .unset, .unset, .unset, .unset] [(.ref b18)])) _
    refine XS.astore X19.here hx rfl (hb hby at_94) rfl rfl (l' := #[.val (.int p1), .val (.int p2), .val (.int p3), .val (.int p4), .val (.int j1), .val (.int j3), .val (.int j4), .val (.int j5), .val (.int j6), .val (.ref b7), .val (.int j16), .val (.int j17), .val (.ref b18), .unset, .unset, .unset, .unset]) rfl ?_
    show Steps p.tables e below (T19.setTop (mkF m 96 #[.val (.int p1), .val (.int p2), .val (.int p3), .val (.int p4), .val (.int j1), .val (.int j3), .val (.int j4), .val (.int j5), .val (.int j6), .val (.ref b7), .val (.int j16), .val (.int j17), .val (.ref b18), .unset, .unset, .unset, .unset] [])) _
    refine XS.aload X19.here hx rfl (hb hby at_96) rfl rfl ?_
    show Steps p.tables e below (T19.setTop (mkF m 98 #[.val (.int p1), .val (.int p2), .val (.int p3), .val (.int p4), .val (.int j1), .val (.int j3), .val (.int j4), .val (.int j5), .val (.int j6), .val (.ref b7), .val (.int j16), .val (.int j17), .val (.ref b18), .unset, .unset, .unset, .unset] [(.ref b18)])) _
    refine XS.iload X19.here hx rfl (hb hby at_98) rfl ?_
    show Steps p.tables e below (T19.setTop (mkF m 100 #[.val (.int p1), .val (.int p2), .val (.int p3), .val (.int p4), .val (.int j1), .val (.int j3), .val (.int j4), .val (.int j5), .val (.int j6), .val (.ref b7), .val (.int j16), .val (.int j17), .val (.ref b18), .unset, .unset, .unset, .unset] [(.int j16), (.ref b18)])) _
    refine XS.iload X19.here hx rfl (hb hby at_100) rfl ?_
    exact k
  have hhlo5_102 : ¬ (j16 < (0 : Int32)) := own_at_hhlo5_102 p3 j16 hj16
  have hhhi5_102 : j16 < (4 : Int32) := own_at_hhhi5_102 p3 j16 hj16 hhlo5_102
  have hhlo11_102 : ¬ (j17 < (0 : Int32)) := own_at_hhlo11_102 p3 j16 j17 hj16 hj17 hhlo5_102 hhhi5_102
  have hhhi11_102 : j17 < (4 : Int32) := own_at_hhhi11_102 p3 j16 j17 hj16 hj17 hhlo5_102 hhhi5_102 hhlo11_102
  obtain ⟨cq20, kq20, q20a, q20b, q20c⟩ := isOf hZ rfl E_b18
  obtain ⟨_, _, ⟨T20, L20, k20, n20⟩, -, X20, ⟨Lc20, hQ20, l20, y20, z20⟩, st20⟩ := X19.virtualBack hx (y := (⟨"com/example/caliper2/caliper2/ScanInput$SameChars", "test", "(II)Z"⟩ : MethodName)) (z := (⟨"com/example/caliper2/caliper2/ScanInput$SameChars", "test", "(II)Z"⟩ : MethodName)) hown (mvT hZ (hw _ (List.mem_of_getElem? (i := 17) rfl))) (mvT hZ (hw _ (List.mem_of_getElem? (i := 18) rfl))) (notFace_of_selects (args := #[]) (mvT hZ (hw _ (List.mem_of_getElem? (i := 20) rfl)))) (mvT hZ (hw _ (List.mem_of_getElem? (i := 20) rfl))) (mvT hZ (hw _ (List.mem_of_getElem? (i := 19) rfl))) (by decide) (backOf (W := 0) (rm4 l Z a0 hw [] b18 j16 j17 b7 k7 (nar .char j3) (nar .char j4) (nar .char j5) (nar .char j6) T19.heap n0 Z0 F_b18_pattern V_b7 hhlo5_102 hhhi5_102 hhlo11_102 hhhi11_102) hZ (hw _ (List.mem_of_getElem? (i := 21) rfl)) (hw _ (List.mem_of_getElem? (i := 3) rfl)) (by decide) (by decide)) q20a q20c (g := (mkF m 102 #[.val (.int p1), .val (.int p2), .val (.int p3), .val (.int p4), .val (.int j1), .val (.int j3), .val (.int j4), .val (.int j5), .val (.int j6), .val (.ref b7), .val (.int j16), .val (.int j17), .val (.ref b18), .unset, .unset, .unset, .unset] [(.int j17), (.int j16), (.ref b18)])) rfl (by rw [hml]; rfl) (Steps.refl _) (argsL := [(.int j16), (.int j17)]) (rest := []) (lenOf pd_2 rfl) rfl (by show 2 * 0 + _ ≤ _; exact Nat.le_of_eq rfl) (hb hby at_102) (fun _ _ => ⟨rfl, rfl, (by decide : 2 + 0 ≤ _), (by decide : 5 + 0 ≤ _)⟩)
  dsimp only [Pt.U, Pt.locs, Pt.cells, Pt.slots] at X20 l20 y20 z20 st20 hQ20
  subst l20 y20 z20
  obtain ⟨rfl, N20q, e20⟩ := hQ20
  have NN := Fr.app NN N20q
  refine own_go (fun t k => st20.trans k) ?_
  show own_Go p.tables e below _ T20 (mkF m 105 #[.val (.int p1), .val (.int p2), .val (.int p3), .val (.int p4), .val (.int j1), .val (.int j3), .val (.int j4), .val (.int j5), .val (.int j6), .val (.ref b7), .val (.int j16), .val (.int j17), .val (.ref b18), .unset, .unset, .unset, .unset] [(.int (r_4 j16 j17 (nar .char j3) (nar .char j4) (nar .char j5) (nar .char j6)))])
  refine own_go (T' := T20) (g' := (mkF m 107 #[.val (.int p1), .val (.int p2), .val (.int p3), .val (.int p4), .val (.int j1), .val (.int j3), .val (.int j4), .val (.int j5), .val (.int j6), .val (.ref b7), .val (.int j16), .val (.int j17), .val (.ref b18), .val (.int (r_4 j16 j17 (nar .char j3) (nar .char j4) (nar .char j5) (nar .char j6))), .unset, .unset, .unset] [])) (fun t k => ?_) ?_
  · show Steps p.tables e below (T20.setTop (mkF m 105 #[.val (.int p1), .val (.int p2), .val (.int p3), .val (.int p4), .val (.int j1), .val (.int j3), .val (.int j4), .val (.int j5), .val (.int j6), .val (.ref b7), .val (.int j16), .val (.int j17), .val (.ref b18), .unset, .unset, .unset, .unset] [(.int (r_4 j16 j17 (nar .char j3) (nar .char j4) (nar .char j5) (nar .char j6)))])) _
    refine XS.istore X20.here hx rfl (hb hby at_105) rfl (l' := #[.val (.int p1), .val (.int p2), .val (.int p3), .val (.int p4), .val (.int j1), .val (.int j3), .val (.int j4), .val (.int j5), .val (.int j6), .val (.ref b7), .val (.int j16), .val (.int j17), .val (.ref b18), .val (.int (r_4 j16 j17 (nar .char j3) (nar .char j4) (nar .char j5) (nar .char j6))), .unset, .unset, .unset]) rfl ?_
    exact k
  show own_Go p.tables e below _ T20 (mkF m 107 #[.val (.int p1), .val (.int p2), .val (.int p3), .val (.int p4), .val (.int j1), .val (.int j3), .val (.int j4), .val (.int j5), .val (.int j6), .val (.ref b7), .val (.int j16), .val (.int j17), .val (.ref b18), .val (.int (r_4 j16 j17 (nar .char j3) (nar .char j4) (nar .char j5) (nar .char j6))), .unset, .unset, .unset] [])
  obtain ⟨j21, hj21⟩ : ∃ z : Int32, z = (r_4 j16 j17 (nar .char j3) (nar .char j4) (nar .char j5) (nar .char j6)) := ⟨_, rfl⟩
  rw [← hj21]
  show own_Go p.tables e below _ T20 (mkF m 107 #[.val (.int p1), .val (.int p2), .val (.int p3), .val (.int p4), .val (.int j1), .val (.int j3), .val (.int j4), .val (.int j5), .val (.int j6), .val (.ref b7), .val (.int j16), .val (.int j17), .val (.ref b18), .val (.int j21), .unset, .unset, .unset] [])
  refine own_go (T' := T20) (g' := (mkF m 117 #[.val (.int p1), .val (.int p2), .val (.int p3), .val (.int p4), .val (.int j1), .val (.int j3), .val (.int j4), .val (.int j5), .val (.int j6), .val (.ref b7), .val (.int j16), .val (.int j17), .val (.ref b18), .val (.int j21), .unset, .unset, .unset] [(.int j16), (.int j6), (.int j5), (.int j4), (.int j3)])) (fun t k => ?_) ?_
  · show Steps p.tables e below (T20.setTop (mkF m 107 #[.val (.int p1), .val (.int p2), .val (.int p3), .val (.int p4), .val (.int j1), .val (.int j3), .val (.int j4), .val (.int j5), .val (.int j6), .val (.ref b7), .val (.int j16), .val (.int j17), .val (.ref b18), .val (.int j21), .unset, .unset, .unset] [])) _
    refine XS.iload X20.here hx rfl (hb hby at_107) rfl ?_
    show Steps p.tables e below (T20.setTop (mkF m 109 #[.val (.int p1), .val (.int p2), .val (.int p3), .val (.int p4), .val (.int j1), .val (.int j3), .val (.int j4), .val (.int j5), .val (.int j6), .val (.ref b7), .val (.int j16), .val (.int j17), .val (.ref b18), .val (.int j21), .unset, .unset, .unset] [(.int j3)])) _
    refine XS.iload X20.here hx rfl (hb hby at_109) rfl ?_
    show Steps p.tables e below (T20.setTop (mkF m 111 #[.val (.int p1), .val (.int p2), .val (.int p3), .val (.int p4), .val (.int j1), .val (.int j3), .val (.int j4), .val (.int j5), .val (.int j6), .val (.ref b7), .val (.int j16), .val (.int j17), .val (.ref b18), .val (.int j21), .unset, .unset, .unset] [(.int j4), (.int j3)])) _
    refine XS.iload X20.here hx rfl (hb hby at_111) rfl ?_
    show Steps p.tables e below (T20.setTop (mkF m 113 #[.val (.int p1), .val (.int p2), .val (.int p3), .val (.int p4), .val (.int j1), .val (.int j3), .val (.int j4), .val (.int j5), .val (.int j6), .val (.ref b7), .val (.int j16), .val (.int j17), .val (.ref b18), .val (.int j21), .unset, .unset, .unset] [(.int j5), (.int j4), (.int j3)])) _
    refine XS.iload X20.here hx rfl (hb hby at_113) rfl ?_
    show Steps p.tables e below (T20.setTop (mkF m 115 #[.val (.int p1), .val (.int p2), .val (.int p3), .val (.int p4), .val (.int j1), .val (.int j3), .val (.int j4), .val (.int j5), .val (.int j6), .val (.ref b7), .val (.int j16), .val (.int j17), .val (.ref b18), .val (.int j21), .unset, .unset, .unset] [(.int j6), (.int j5), (.int j4), (.int j3)])) _
    refine XS.iload X20.here hx rfl (hb hby at_115) rfl ?_
    exact k
  obtain ⟨_, _, ⟨T22, L22, k22, n22⟩, -, X22, ⟨Lc22, hQ22, l22, y22, z22⟩, st22⟩ := Jvm.LawKit.callS X20 hx (y := (⟨"com/example/caliper2/caliper2/SameCharsTestPinLaw", "pick", "(CCCCI)C"⟩ : MethodName)) hown (mvT hZ (hw _ (List.mem_of_getElem? (i := 22) rfl))) (mvT hZ (hw _ (List.mem_of_getElem? (i := 23) rfl))) (mvT hZ (hw _ (List.mem_of_getElem? (i := 24) rfl))) (mvT hZ (hw _ (List.mem_of_getElem? (i := 25) rfl))) (by decide) (backOf (W := 0) (rm5 l Z a0 hw [] j3 j4 j5 j6 j16 T19.heap n0 Z0 ) hZ (hw _ (List.mem_of_getElem? (i := 25) rfl)) (hw _ (List.mem_of_getElem? (i := 24) rfl)) (by decide) (by decide)) (g := (mkF m 117 #[.val (.int p1), .val (.int p2), .val (.int p3), .val (.int p4), .val (.int j1), .val (.int j3), .val (.int j4), .val (.int j5), .val (.int j6), .val (.ref b7), .val (.int j16), .val (.int j17), .val (.ref b18), .val (.int j21), .unset, .unset, .unset] [(.int j16), (.int j6), (.int j5), (.int j4), (.int j3)])) rfl (by rw [hml]; rfl) (argsL := [(.int j3), (.int j4), (.int j5), (.int j6), (.int j16)]) (rest := []) (lenOf pd_3 rfl) rfl (by show 2 * 0 + _ ≤ _; exact Nat.le_of_eq rfl) (hb hby at_117) (fun _ _ => ⟨rfl, e20, (by decide : 2 + 0 ≤ _), (by decide : 5 + 0 ≤ _)⟩)
  dsimp only [Pt.U, Pt.locs, Pt.cells, Pt.slots] at X22 l22 y22 z22 st22 hQ22
  subst l22 y22 z22
  obtain ⟨rfl, N22q, e22⟩ := hQ22
  have NN := Fr.app NN N22q
  refine own_go st22 ?_
  show own_Go p.tables e below _ T22 (mkF m 120 #[.val (.int p1), .val (.int p2), .val (.int p3), .val (.int p4), .val (.int j1), .val (.int j3), .val (.int j4), .val (.int j5), .val (.int j6), .val (.ref b7), .val (.int j16), .val (.int j17), .val (.ref b18), .val (.int j21), .unset, .unset, .unset] [(.int (r_5 j3 j4 j5 j6 j16))])
  refine own_go (T' := T22) (g' := (mkF m 130 #[.val (.int p1), .val (.int p2), .val (.int p3), .val (.int p4), .val (.int j1), .val (.int j3), .val (.int j4), .val (.int j5), .val (.int j6), .val (.ref b7), .val (.int j16), .val (.int j17), .val (.ref b18), .val (.int j21), .unset, .unset, .unset] [(.int j17), (.int j6), (.int j5), (.int j4), (.int j3), (.int (r_5 j3 j4 j5 j6 j16))])) (fun t k => ?_) ?_
  · show Steps p.tables e below (T22.setTop (mkF m 120 #[.val (.int p1), .val (.int p2), .val (.int p3), .val (.int p4), .val (.int j1), .val (.int j3), .val (.int j4), .val (.int j5), .val (.int j6), .val (.ref b7), .val (.int j16), .val (.int j17), .val (.ref b18), .val (.int j21), .unset, .unset, .unset] [(.int (r_5 j3 j4 j5 j6 j16))])) _
    refine XS.iload X22.here hx rfl (hb hby at_120) rfl ?_
    show Steps p.tables e below (T22.setTop (mkF m 122 #[.val (.int p1), .val (.int p2), .val (.int p3), .val (.int p4), .val (.int j1), .val (.int j3), .val (.int j4), .val (.int j5), .val (.int j6), .val (.ref b7), .val (.int j16), .val (.int j17), .val (.ref b18), .val (.int j21), .unset, .unset, .unset] [(.int j3), (.int (r_5 j3 j4 j5 j6 j16))])) _
    refine XS.iload X22.here hx rfl (hb hby at_122) rfl ?_
    show Steps p.tables e below (T22.setTop (mkF m 124 #[.val (.int p1), .val (.int p2), .val (.int p3), .val (.int p4), .val (.int j1), .val (.int j3), .val (.int j4), .val (.int j5), .val (.int j6), .val (.ref b7), .val (.int j16), .val (.int j17), .val (.ref b18), .val (.int j21), .unset, .unset, .unset] [(.int j4), (.int j3), (.int (r_5 j3 j4 j5 j6 j16))])) _
    refine XS.iload X22.here hx rfl (hb hby at_124) rfl ?_
    show Steps p.tables e below (T22.setTop (mkF m 126 #[.val (.int p1), .val (.int p2), .val (.int p3), .val (.int p4), .val (.int j1), .val (.int j3), .val (.int j4), .val (.int j5), .val (.int j6), .val (.ref b7), .val (.int j16), .val (.int j17), .val (.ref b18), .val (.int j21), .unset, .unset, .unset] [(.int j5), (.int j4), (.int j3), (.int (r_5 j3 j4 j5 j6 j16))])) _
    refine XS.iload X22.here hx rfl (hb hby at_126) rfl ?_
    show Steps p.tables e below (T22.setTop (mkF m 128 #[.val (.int p1), .val (.int p2), .val (.int p3), .val (.int p4), .val (.int j1), .val (.int j3), .val (.int j4), .val (.int j5), .val (.int j6), .val (.ref b7), .val (.int j16), .val (.int j17), .val (.ref b18), .val (.int j21), .unset, .unset, .unset] [(.int j6), (.int j5), (.int j4), (.int j3), (.int (r_5 j3 j4 j5 j6 j16))])) _
    refine XS.iload X22.here hx rfl (hb hby at_128) rfl ?_
    exact k
  obtain ⟨_, _, ⟨T23, L23, k23, n23⟩, -, X23, ⟨Lc23, hQ23, l23, y23, z23⟩, st23⟩ := Jvm.LawKit.callS X22 hx (y := (⟨"com/example/caliper2/caliper2/SameCharsTestPinLaw", "pick", "(CCCCI)C"⟩ : MethodName)) hown (mvT hZ (hw _ (List.mem_of_getElem? (i := 22) rfl))) (mvT hZ (hw _ (List.mem_of_getElem? (i := 23) rfl))) (mvT hZ (hw _ (List.mem_of_getElem? (i := 24) rfl))) (mvT hZ (hw _ (List.mem_of_getElem? (i := 25) rfl))) (by decide) (backOf (W := 1) (rm5 l Z a0 hw [] j3 j4 j5 j6 j17 T19.heap n0 Z0 ) hZ (hw _ (List.mem_of_getElem? (i := 25) rfl)) (hw _ (List.mem_of_getElem? (i := 24) rfl)) (by decide) (by decide)) (g := (mkF m 130 #[.val (.int p1), .val (.int p2), .val (.int p3), .val (.int p4), .val (.int j1), .val (.int j3), .val (.int j4), .val (.int j5), .val (.int j6), .val (.ref b7), .val (.int j16), .val (.int j17), .val (.ref b18), .val (.int j21), .unset, .unset, .unset] [(.int j17), (.int j6), (.int j5), (.int j4), (.int j3), (.int (r_5 j3 j4 j5 j6 j16))])) rfl (by rw [hml]; rfl) (argsL := [(.int j3), (.int j4), (.int j5), (.int j6), (.int j17)]) (rest := [(.int (r_5 j3 j4 j5 j6 j16))]) (lenOf pd_3 rfl) rfl (by show 2 * 0 + _ ≤ _; exact Nat.le_of_eq rfl) (hb hby at_130) (fun _ _ => ⟨rfl, e22, (by decide : 2 + 0 ≤ _), (by decide : 5 + 0 ≤ _)⟩)
  dsimp only [Pt.U, Pt.locs, Pt.cells, Pt.slots] at X23 l23 y23 z23 st23 hQ23
  subst l23 y23 z23
  obtain ⟨rfl, N23q, e23⟩ := hQ23
  have NN := Fr.app NN N23q
  refine own_go st23 ?_
  show own_Go p.tables e below _ T23 (mkF m 133 #[.val (.int p1), .val (.int p2), .val (.int p3), .val (.int p4), .val (.int j1), .val (.int j3), .val (.int j4), .val (.int j5), .val (.int j6), .val (.ref b7), .val (.int j16), .val (.int j17), .val (.ref b18), .val (.int j21), .unset, .unset, .unset] [(.int (r_5 j3 j4 j5 j6 j17)), (.int (r_5 j3 j4 j5 j6 j16))])
  obtain ⟨j24, hj24, st25⟩ : ∃ (j24 : Int32), j24 = (if (r_5 j3 j4 j5 j6 j16) = (r_5 j3 j4 j5 j6 j17) then (1 : Int32) else (0 : Int32)) ∧ ∀ t, Steps p.tables e below (T23.setTop (mkF m 141 #[.val (.int p1), .val (.int p2), .val (.int p3), .val (.int p4), .val (.int j1), .val (.int j3), .val (.int j4), .val (.int j5), .val (.int j6), .val (.ref b7), .val (.int j16), .val (.int j17), .val (.ref b18), .val (.int j21), .unset, .unset, .unset] [(.int j24)])) t → Steps p.tables e below (T23.setTop (mkF m 133 #[.val (.int p1), .val (.int p2), .val (.int p3), .val (.int p4), .val (.int j1), .val (.int j3), .val (.int j4), .val (.int j5), .val (.int j6), .val (.ref b7), .val (.int j16), .val (.int j17), .val (.ref b18), .val (.int j21), .unset, .unset, .unset] [(.int (r_5 j3 j4 j5 j6 j17)), (.int (r_5 j3 j4 j5 j6 j16))])) t := by
    by_cases hc133_2 : (r_5 j3 j4 j5 j6 j16) = (r_5 j3 j4 j5 j6 j17)
    · skip
      refine ⟨(1 : Int32), (by simp only [if_pos hc133_2]), fun t k => ?_⟩
      show Steps p.tables e below (T23.setTop (mkF m 133 #[.val (.int p1), .val (.int p2), .val (.int p3), .val (.int p4), .val (.int j1), .val (.int j3), .val (.int j4), .val (.int j5), .val (.int j6), .val (.ref b7), .val (.int j16), .val (.int j17), .val (.ref b18), .val (.int j21), .unset, .unset, .unset] [(.int (r_5 j3 j4 j5 j6 j17)), (.int (r_5 j3 j4 j5 j6 j16))])) _
      refine XS.icmpNo X23.here hx rfl (hb hby at_133) rfl (teq hc133_2).2 ?_
      show Steps p.tables e below (T23.setTop (mkF m 136 #[.val (.int p1), .val (.int p2), .val (.int p3), .val (.int p4), .val (.int j1), .val (.int j3), .val (.int j4), .val (.int j5), .val (.int j6), .val (.ref b7), .val (.int j16), .val (.int j17), .val (.ref b18), .val (.int j21), .unset, .unset, .unset] [])) _
      refine XS.iconst X23.here hx rfl (hb hby at_136) ?_
      show Steps p.tables e below (T23.setTop (mkF m 137 #[.val (.int p1), .val (.int p2), .val (.int p3), .val (.int p4), .val (.int j1), .val (.int j3), .val (.int j4), .val (.int j5), .val (.int j6), .val (.ref b7), .val (.int j16), .val (.int j17), .val (.ref b18), .val (.int j21), .unset, .unset, .unset] [(.int (1 : Int32))])) _
      refine XS.goto X23.here hx rfl (pc0 := 137) (pc' := 141) rfl (hb hby at_137) (by decide) (by decide) ?_
      exact k
    · skip
      refine ⟨(0 : Int32), (by simp only [if_neg hc133_2]), fun t k => ?_⟩
      show Steps p.tables e below (T23.setTop (mkF m 133 #[.val (.int p1), .val (.int p2), .val (.int p3), .val (.int p4), .val (.int j1), .val (.int j3), .val (.int j4), .val (.int j5), .val (.int j6), .val (.ref b7), .val (.int j16), .val (.int j17), .val (.ref b18), .val (.int j21), .unset, .unset, .unset] [(.int (r_5 j3 j4 j5 j6 j17)), (.int (r_5 j3 j4 j5 j6 j16))])) _
      refine XS.icmpYes X23.here hx rfl (pc0 := 133) (pc' := 140) rfl (hb hby at_133) rfl (feq hc133_2).2 (by decide) (by decide) ?_
      show Steps p.tables e below (T23.setTop (mkF m 140 #[.val (.int p1), .val (.int p2), .val (.int p3), .val (.int p4), .val (.int j1), .val (.int j3), .val (.int j4), .val (.int j5), .val (.int j6), .val (.ref b7), .val (.int j16), .val (.int j17), .val (.ref b18), .val (.int j21), .unset, .unset, .unset] [])) _
      refine XS.iconst X23.here hx rfl (hb hby at_140) ?_
      exact k
  refine own_go st25 ?_
  show own_Go p.tables e below _ T23 (mkF m 141 #[.val (.int p1), .val (.int p2), .val (.int p3), .val (.int p4), .val (.int j1), .val (.int j3), .val (.int j4), .val (.int j5), .val (.int j6), .val (.ref b7), .val (.int j16), .val (.int j17), .val (.ref b18), .val (.int j21), .unset, .unset, .unset] [(.int j24)])
  refine own_go (T' := T23) (g' := (mkF m 149 #[.val (.int p1), .val (.int p2), .val (.int p3), .val (.int p4), .val (.int j1), .val (.int j3), .val (.int j4), .val (.int j5), .val (.int j6), .val (.ref b7), .val (.int j16), .val (.int j17), .val (.ref b18), .val (.int j21), .val (.int j24), .unset, .unset] [(.int j16), (.int j17), (.ref b18)])) (fun t k => ?_) ?_
  · show Steps p.tables e below (T23.setTop (mkF m 141 #[.val (.int p1), .val (.int p2), .val (.int p3), .val (.int p4), .val (.int j1), .val (.int j3), .val (.int j4), .val (.int j5), .val (.int j6), .val (.ref b7), .val (.int j16), .val (.int j17), .val (.ref b18), .val (.int j21), .unset, .unset, .unset] [(.int j24)])) _
    refine XS.istore X23.here hx rfl (hb hby at_141) rfl (l' := #[.val (.int p1), .val (.int p2), .val (.int p3), .val (.int p4), .val (.int j1), .val (.int j3), .val (.int j4), .val (.int j5), .val (.int j6), .val (.ref b7), .val (.int j16), .val (.int j17), .val (.ref b18), .val (.int j21), .val (.int j24), .unset, .unset]) rfl ?_
    show Steps p.tables e below (T23.setTop (mkF m 143 #[.val (.int p1), .val (.int p2), .val (.int p3), .val (.int p4), .val (.int j1), .val (.int j3), .val (.int j4), .val (.int j5), .val (.int j6), .val (.ref b7), .val (.int j16), .val (.int j17), .val (.ref b18), .val (.int j21), .val (.int j24), .unset, .unset] [])) _
    refine XS.aload X23.here hx rfl (hb hby at_143) rfl rfl ?_
    show Steps p.tables e below (T23.setTop (mkF m 145 #[.val (.int p1), .val (.int p2), .val (.int p3), .val (.int p4), .val (.int j1), .val (.int j3), .val (.int j4), .val (.int j5), .val (.int j6), .val (.ref b7), .val (.int j16), .val (.int j17), .val (.ref b18), .val (.int j21), .val (.int j24), .unset, .unset] [(.ref b18)])) _
    refine XS.iload X23.here hx rfl (hb hby at_145) rfl ?_
    show Steps p.tables e below (T23.setTop (mkF m 147 #[.val (.int p1), .val (.int p2), .val (.int p3), .val (.int p4), .val (.int j1), .val (.int j3), .val (.int j4), .val (.int j5), .val (.int j6), .val (.ref b7), .val (.int j16), .val (.int j17), .val (.ref b18), .val (.int j21), .val (.int j24), .unset, .unset] [(.int j17), (.ref b18)])) _
    refine XS.iload X23.here hx rfl (hb hby at_147) rfl ?_
    exact k
  obtain ⟨cq26, kq26, q26a, q26b, q26c⟩ := isOf hZ e23 E_b18
  obtain ⟨_, _, ⟨T26, L26, k26, n26⟩, -, X26, ⟨Lc26, hQ26, l26, y26, z26⟩, st26⟩ := X23.virtualBack hx (y := (⟨"com/example/caliper2/caliper2/ScanInput$SameChars", "test", "(II)Z"⟩ : MethodName)) (z := (⟨"com/example/caliper2/caliper2/ScanInput$SameChars", "test", "(II)Z"⟩ : MethodName)) hown (mvT hZ (hw _ (List.mem_of_getElem? (i := 17) rfl))) (mvT hZ (hw _ (List.mem_of_getElem? (i := 18) rfl))) (notFace_of_selects (args := #[]) (mvT hZ (hw _ (List.mem_of_getElem? (i := 20) rfl)))) (mvT hZ (hw _ (List.mem_of_getElem? (i := 20) rfl))) (mvT hZ (hw _ (List.mem_of_getElem? (i := 19) rfl))) (by decide) (backOf (W := 0) (rm4 l Z a0 hw [] b18 j17 j16 b7 k7 (nar .char j3) (nar .char j4) (nar .char j5) (nar .char j6) T19.heap n0 Z0 F_b18_pattern V_b7 hhlo11_102 hhhi11_102 hhlo5_102 hhhi5_102) hZ (hw _ (List.mem_of_getElem? (i := 21) rfl)) (hw _ (List.mem_of_getElem? (i := 3) rfl)) (by decide) (by decide)) q26a q26c (g := (mkF m 149 #[.val (.int p1), .val (.int p2), .val (.int p3), .val (.int p4), .val (.int j1), .val (.int j3), .val (.int j4), .val (.int j5), .val (.int j6), .val (.ref b7), .val (.int j16), .val (.int j17), .val (.ref b18), .val (.int j21), .val (.int j24), .unset, .unset] [(.int j16), (.int j17), (.ref b18)])) rfl (by rw [hml]; rfl) (Steps.refl _) (argsL := [(.int j17), (.int j16)]) (rest := []) (lenOf pd_2 rfl) rfl (by show 2 * 0 + _ ≤ _; exact Nat.le_of_eq rfl) (hb hby at_149) (fun _ _ => ⟨rfl, e23, (by decide : 2 + 0 ≤ _), (by decide : 5 + 0 ≤ _)⟩)
  dsimp only [Pt.U, Pt.locs, Pt.cells, Pt.slots] at X26 l26 y26 z26 st26 hQ26
  subst l26 y26 z26
  obtain ⟨rfl, N26q, e26⟩ := hQ26
  have NN := Fr.app NN N26q
  refine own_go (fun t k => st26.trans k) ?_
  show own_Go p.tables e below _ T26 (mkF m 152 #[.val (.int p1), .val (.int p2), .val (.int p3), .val (.int p4), .val (.int j1), .val (.int j3), .val (.int j4), .val (.int j5), .val (.int j6), .val (.ref b7), .val (.int j16), .val (.int j17), .val (.ref b18), .val (.int j21), .val (.int j24), .unset, .unset] [(.int (r_4 j17 j16 (nar .char j3) (nar .char j4) (nar .char j5) (nar .char j6)))])
  refine own_go (T' := T26) (g' := (mkF m 154 #[.val (.int p1), .val (.int p2), .val (.int p3), .val (.int p4), .val (.int j1), .val (.int j3), .val (.int j4), .val (.int j5), .val (.int j6), .val (.ref b7), .val (.int j16), .val (.int j17), .val (.ref b18), .val (.int j21), .val (.int j24), .val (.int (r_4 j17 j16 (nar .char j3) (nar .char j4) (nar .char j5) (nar .char j6))), .unset] [])) (fun t k => ?_) ?_
  · show Steps p.tables e below (T26.setTop (mkF m 152 #[.val (.int p1), .val (.int p2), .val (.int p3), .val (.int p4), .val (.int j1), .val (.int j3), .val (.int j4), .val (.int j5), .val (.int j6), .val (.ref b7), .val (.int j16), .val (.int j17), .val (.ref b18), .val (.int j21), .val (.int j24), .unset, .unset] [(.int (r_4 j17 j16 (nar .char j3) (nar .char j4) (nar .char j5) (nar .char j6)))])) _
    refine XS.istore X26.here hx rfl (hb hby at_152) rfl (l' := #[.val (.int p1), .val (.int p2), .val (.int p3), .val (.int p4), .val (.int j1), .val (.int j3), .val (.int j4), .val (.int j5), .val (.int j6), .val (.ref b7), .val (.int j16), .val (.int j17), .val (.ref b18), .val (.int j21), .val (.int j24), .val (.int (r_4 j17 j16 (nar .char j3) (nar .char j4) (nar .char j5) (nar .char j6))), .unset]) rfl ?_
    exact k
  show own_Go p.tables e below _ T26 (mkF m 154 #[.val (.int p1), .val (.int p2), .val (.int p3), .val (.int p4), .val (.int j1), .val (.int j3), .val (.int j4), .val (.int j5), .val (.int j6), .val (.ref b7), .val (.int j16), .val (.int j17), .val (.ref b18), .val (.int j21), .val (.int j24), .val (.int (r_4 j17 j16 (nar .char j3) (nar .char j4) (nar .char j5) (nar .char j6))), .unset] [])
  obtain ⟨j27, hj27⟩ : ∃ z : Int32, z = (r_4 j17 j16 (nar .char j3) (nar .char j4) (nar .char j5) (nar .char j6)) := ⟨_, rfl⟩
  rw [← hj27]
  show own_Go p.tables e below _ T26 (mkF m 154 #[.val (.int p1), .val (.int p2), .val (.int p3), .val (.int p4), .val (.int j1), .val (.int j3), .val (.int j4), .val (.int j5), .val (.int j6), .val (.ref b7), .val (.int j16), .val (.int j17), .val (.ref b18), .val (.int j21), .val (.int j24), .val (.int j27), .unset] [])
  refine own_go (T' := T26) (g' := (mkF m 160 #[.val (.int p1), .val (.int p2), .val (.int p3), .val (.int p4), .val (.int j1), .val (.int j3), .val (.int j4), .val (.int j5), .val (.int j6), .val (.ref b7), .val (.int j16), .val (.int j17), .val (.ref b18), .val (.int j21), .val (.int j24), .val (.int j27), .unset] [(.int j16), (.int j16), (.ref b18)])) (fun t k => ?_) ?_
  · show Steps p.tables e below (T26.setTop (mkF m 154 #[.val (.int p1), .val (.int p2), .val (.int p3), .val (.int p4), .val (.int j1), .val (.int j3), .val (.int j4), .val (.int j5), .val (.int j6), .val (.ref b7), .val (.int j16), .val (.int j17), .val (.ref b18), .val (.int j21), .val (.int j24), .val (.int j27), .unset] [])) _
    refine XS.aload X26.here hx rfl (hb hby at_154) rfl rfl ?_
    show Steps p.tables e below (T26.setTop (mkF m 156 #[.val (.int p1), .val (.int p2), .val (.int p3), .val (.int p4), .val (.int j1), .val (.int j3), .val (.int j4), .val (.int j5), .val (.int j6), .val (.ref b7), .val (.int j16), .val (.int j17), .val (.ref b18), .val (.int j21), .val (.int j24), .val (.int j27), .unset] [(.ref b18)])) _
    refine XS.iload X26.here hx rfl (hb hby at_156) rfl ?_
    show Steps p.tables e below (T26.setTop (mkF m 158 #[.val (.int p1), .val (.int p2), .val (.int p3), .val (.int p4), .val (.int j1), .val (.int j3), .val (.int j4), .val (.int j5), .val (.int j6), .val (.ref b7), .val (.int j16), .val (.int j17), .val (.ref b18), .val (.int j21), .val (.int j24), .val (.int j27), .unset] [(.int j16), (.ref b18)])) _
    refine XS.iload X26.here hx rfl (hb hby at_158) rfl ?_
    exact k
  obtain ⟨cq28, kq28, q28a, q28b, q28c⟩ := isOf hZ e26 E_b18
  obtain ⟨_, _, ⟨T28, L28, k28, n28⟩, -, X28, ⟨Lc28, hQ28, l28, y28, z28⟩, st28⟩ := X26.virtualBack hx (y := (⟨"com/example/caliper2/caliper2/ScanInput$SameChars", "test", "(II)Z"⟩ : MethodName)) (z := (⟨"com/example/caliper2/caliper2/ScanInput$SameChars", "test", "(II)Z"⟩ : MethodName)) hown (mvT hZ (hw _ (List.mem_of_getElem? (i := 17) rfl))) (mvT hZ (hw _ (List.mem_of_getElem? (i := 18) rfl))) (notFace_of_selects (args := #[]) (mvT hZ (hw _ (List.mem_of_getElem? (i := 20) rfl)))) (mvT hZ (hw _ (List.mem_of_getElem? (i := 20) rfl))) (mvT hZ (hw _ (List.mem_of_getElem? (i := 19) rfl))) (by decide) (backOf (W := 0) (rm4 l Z a0 hw [] b18 j16 j16 b7 k7 (nar .char j3) (nar .char j4) (nar .char j5) (nar .char j6) T19.heap n0 Z0 F_b18_pattern V_b7 hhlo5_102 hhhi5_102 hhlo5_102 hhhi5_102) hZ (hw _ (List.mem_of_getElem? (i := 21) rfl)) (hw _ (List.mem_of_getElem? (i := 3) rfl)) (by decide) (by decide)) q28a q28c (g := (mkF m 160 #[.val (.int p1), .val (.int p2), .val (.int p3), .val (.int p4), .val (.int j1), .val (.int j3), .val (.int j4), .val (.int j5), .val (.int j6), .val (.ref b7), .val (.int j16), .val (.int j17), .val (.ref b18), .val (.int j21), .val (.int j24), .val (.int j27), .unset] [(.int j16), (.int j16), (.ref b18)])) rfl (by rw [hml]; rfl) (Steps.refl _) (argsL := [(.int j16), (.int j16)]) (rest := []) (lenOf pd_2 rfl) rfl (by show 2 * 0 + _ ≤ _; exact Nat.le_of_eq rfl) (hb hby at_160) (fun _ _ => ⟨rfl, e26, (by decide : 2 + 0 ≤ _), (by decide : 5 + 0 ≤ _)⟩)
  dsimp only [Pt.U, Pt.locs, Pt.cells, Pt.slots] at X28 l28 y28 z28 st28 hQ28
  subst l28 y28 z28
  obtain ⟨rfl, N28q, e28⟩ := hQ28
  have NN := Fr.app NN N28q
  refine own_go (fun t k => st28.trans k) ?_
  show own_Go p.tables e below _ T28 (mkF m 163 #[.val (.int p1), .val (.int p2), .val (.int p3), .val (.int p4), .val (.int j1), .val (.int j3), .val (.int j4), .val (.int j5), .val (.int j6), .val (.ref b7), .val (.int j16), .val (.int j17), .val (.ref b18), .val (.int j21), .val (.int j24), .val (.int j27), .unset] [(.int (r_4 j16 j16 (nar .char j3) (nar .char j4) (nar .char j5) (nar .char j6)))])
  refine own_go (T' := T28) (g' := (mkF m 165 #[.val (.int p1), .val (.int p2), .val (.int p3), .val (.int p4), .val (.int j1), .val (.int j3), .val (.int j4), .val (.int j5), .val (.int j6), .val (.ref b7), .val (.int j16), .val (.int j17), .val (.ref b18), .val (.int j21), .val (.int j24), .val (.int j27), .val (.int (r_4 j16 j16 (nar .char j3) (nar .char j4) (nar .char j5) (nar .char j6)))] [])) (fun t k => ?_) ?_
  · show Steps p.tables e below (T28.setTop (mkF m 163 #[.val (.int p1), .val (.int p2), .val (.int p3), .val (.int p4), .val (.int j1), .val (.int j3), .val (.int j4), .val (.int j5), .val (.int j6), .val (.ref b7), .val (.int j16), .val (.int j17), .val (.ref b18), .val (.int j21), .val (.int j24), .val (.int j27), .unset] [(.int (r_4 j16 j16 (nar .char j3) (nar .char j4) (nar .char j5) (nar .char j6)))])) _
    refine XS.istore X28.here hx rfl (hb hby at_163) rfl (l' := #[.val (.int p1), .val (.int p2), .val (.int p3), .val (.int p4), .val (.int j1), .val (.int j3), .val (.int j4), .val (.int j5), .val (.int j6), .val (.ref b7), .val (.int j16), .val (.int j17), .val (.ref b18), .val (.int j21), .val (.int j24), .val (.int j27), .val (.int (r_4 j16 j16 (nar .char j3) (nar .char j4) (nar .char j5) (nar .char j6)))]) rfl ?_
    exact k
  show own_Go p.tables e below _ T28 (mkF m 165 #[.val (.int p1), .val (.int p2), .val (.int p3), .val (.int p4), .val (.int j1), .val (.int j3), .val (.int j4), .val (.int j5), .val (.int j6), .val (.ref b7), .val (.int j16), .val (.int j17), .val (.ref b18), .val (.int j21), .val (.int j24), .val (.int j27), .val (.int (r_4 j16 j16 (nar .char j3) (nar .char j4) (nar .char j5) (nar .char j6)))] [])
  obtain ⟨j29, hj29⟩ : ∃ z : Int32, z = (r_4 j16 j16 (nar .char j3) (nar .char j4) (nar .char j5) (nar .char j6)) := ⟨_, rfl⟩
  rw [← hj29]
  show own_Go p.tables e below _ T28 (mkF m 165 #[.val (.int p1), .val (.int p2), .val (.int p3), .val (.int p4), .val (.int j1), .val (.int j3), .val (.int j4), .val (.int j5), .val (.int j6), .val (.ref b7), .val (.int j16), .val (.int j17), .val (.ref b18), .val (.int j21), .val (.int j24), .val (.int j27), .val (.int j29)] [])
  refine own_go (T' := T28) (g' := (mkF m 169 #[.val (.int p1), .val (.int p2), .val (.int p3), .val (.int p4), .val (.int j1), .val (.int j3), .val (.int j4), .val (.int j5), .val (.int j6), .val (.ref b7), .val (.int j16), .val (.int j17), .val (.ref b18), .val (.int j21), .val (.int j24), .val (.int j27), .val (.int j29)] [(.int j24), (.int j21)])) (fun t k => ?_) ?_
  · show Steps p.tables e below (T28.setTop (mkF m 165 #[.val (.int p1), .val (.int p2), .val (.int p3), .val (.int p4), .val (.int j1), .val (.int j3), .val (.int j4), .val (.int j5), .val (.int j6), .val (.ref b7), .val (.int j16), .val (.int j17), .val (.ref b18), .val (.int j21), .val (.int j24), .val (.int j27), .val (.int j29)] [])) _
    refine XS.iload X28.here hx rfl (hb hby at_165) rfl ?_
    show Steps p.tables e below (T28.setTop (mkF m 167 #[.val (.int p1), .val (.int p2), .val (.int p3), .val (.int p4), .val (.int j1), .val (.int j3), .val (.int j4), .val (.int j5), .val (.int j6), .val (.ref b7), .val (.int j16), .val (.int j17), .val (.ref b18), .val (.int j21), .val (.int j24), .val (.int j27), .val (.int j29)] [(.int j21)])) _
    refine XS.iload X28.here hx rfl (hb hby at_167) rfl ?_
    exact k
  obtain ⟨j30, hj30, st31⟩ : ∃ (j30 : Int32), j30 = (if j21 = j24 then (if j27 = j21 then (if j29 = (0 : Int32) then (0 : Int32) else (1 : Int32)) else (0 : Int32)) else (0 : Int32)) ∧ ∀ t, Steps p.tables e below (T28.setTop (mkF m 189 #[.val (.int p1), .val (.int p2), .val (.int p3), .val (.int p4), .val (.int j1), .val (.int j3), .val (.int j4), .val (.int j5), .val (.int j6), .val (.ref b7), .val (.int j16), .val (.int j17), .val (.ref b18), .val (.int j21), .val (.int j24), .val (.int j27), .val (.int j29)] [(.int j30)])) t → Steps p.tables e below (T28.setTop (mkF m 169 #[.val (.int p1), .val (.int p2), .val (.int p3), .val (.int p4), .val (.int j1), .val (.int j3), .val (.int j4), .val (.int j5), .val (.int j6), .val (.ref b7), .val (.int j16), .val (.int j17), .val (.ref b18), .val (.int j21), .val (.int j24), .val (.int j27), .val (.int j29)] [(.int j24), (.int j21)])) t := by
    by_cases hc169_3 : j21 = j24
    · skip
      by_cases hc176_4 : j27 = j21
      · skip
        by_cases hc181_5 : j29 = (0 : Int32)
        · skip
          refine ⟨(0 : Int32), (by simp only [if_pos hc169_3, if_pos hc176_4, if_pos hc181_5]), fun t k => ?_⟩
          show Steps p.tables e below (T28.setTop (mkF m 169 #[.val (.int p1), .val (.int p2), .val (.int p3), .val (.int p4), .val (.int j1), .val (.int j3), .val (.int j4), .val (.int j5), .val (.int j6), .val (.ref b7), .val (.int j16), .val (.int j17), .val (.ref b18), .val (.int j21), .val (.int j24), .val (.int j27), .val (.int j29)] [(.int j24), (.int j21)])) _
          refine XS.icmpNo X28.here hx rfl (hb hby at_169) rfl (teq hc169_3).2 ?_
          show Steps p.tables e below (T28.setTop (mkF m 172 #[.val (.int p1), .val (.int p2), .val (.int p3), .val (.int p4), .val (.int j1), .val (.int j3), .val (.int j4), .val (.int j5), .val (.int j6), .val (.ref b7), .val (.int j16), .val (.int j17), .val (.ref b18), .val (.int j21), .val (.int j24), .val (.int j27), .val (.int j29)] [])) _
          refine XS.iload X28.here hx rfl (hb hby at_172) rfl ?_
          show Steps p.tables e below (T28.setTop (mkF m 174 #[.val (.int p1), .val (.int p2), .val (.int p3), .val (.int p4), .val (.int j1), .val (.int j3), .val (.int j4), .val (.int j5), .val (.int j6), .val (.ref b7), .val (.int j16), .val (.int j17), .val (.ref b18), .val (.int j21), .val (.int j24), .val (.int j27), .val (.int j29)] [(.int j27)])) _
          refine XS.iload X28.here hx rfl (hb hby at_174) rfl ?_
          show Steps p.tables e below (T28.setTop (mkF m 176 #[.val (.int p1), .val (.int p2), .val (.int p3), .val (.int p4), .val (.int j1), .val (.int j3), .val (.int j4), .val (.int j5), .val (.int j6), .val (.ref b7), .val (.int j16), .val (.int j17), .val (.ref b18), .val (.int j21), .val (.int j24), .val (.int j27), .val (.int j29)] [(.int j21), (.int j27)])) _
          refine XS.icmpNo X28.here hx rfl (hb hby at_176) rfl (teq hc176_4).2 ?_
          show Steps p.tables e below (T28.setTop (mkF m 179 #[.val (.int p1), .val (.int p2), .val (.int p3), .val (.int p4), .val (.int j1), .val (.int j3), .val (.int j4), .val (.int j5), .val (.int j6), .val (.ref b7), .val (.int j16), .val (.int j17), .val (.ref b18), .val (.int j21), .val (.int j24), .val (.int j27), .val (.int j29)] [])) _
          refine XS.iload X28.here hx rfl (hb hby at_179) rfl ?_
          show Steps p.tables e below (T28.setTop (mkF m 181 #[.val (.int p1), .val (.int p2), .val (.int p3), .val (.int p4), .val (.int j1), .val (.int j3), .val (.int j4), .val (.int j5), .val (.int j6), .val (.ref b7), .val (.int j16), .val (.int j17), .val (.ref b18), .val (.int j21), .val (.int j24), .val (.int j27), .val (.int j29)] [(.int j29)])) _
          refine XS.ifYes X28.here hx rfl (pc0 := 181) (pc' := 188) rfl (hb hby at_181) rfl ((if0 _ _).trans (teq hc181_5).1) (by decide) (by decide) ?_
          show Steps p.tables e below (T28.setTop (mkF m 188 #[.val (.int p1), .val (.int p2), .val (.int p3), .val (.int p4), .val (.int j1), .val (.int j3), .val (.int j4), .val (.int j5), .val (.int j6), .val (.ref b7), .val (.int j16), .val (.int j17), .val (.ref b18), .val (.int j21), .val (.int j24), .val (.int j27), .val (.int j29)] [])) _
          refine XS.iconst X28.here hx rfl (hb hby at_188) ?_
          exact k
        · skip
          refine ⟨(1 : Int32), (by simp only [if_pos hc169_3, if_pos hc176_4, if_neg hc181_5]), fun t k => ?_⟩
          show Steps p.tables e below (T28.setTop (mkF m 169 #[.val (.int p1), .val (.int p2), .val (.int p3), .val (.int p4), .val (.int j1), .val (.int j3), .val (.int j4), .val (.int j5), .val (.int j6), .val (.ref b7), .val (.int j16), .val (.int j17), .val (.ref b18), .val (.int j21), .val (.int j24), .val (.int j27), .val (.int j29)] [(.int j24), (.int j21)])) _
          refine XS.icmpNo X28.here hx rfl (hb hby at_169) rfl (teq hc169_3).2 ?_
          show Steps p.tables e below (T28.setTop (mkF m 172 #[.val (.int p1), .val (.int p2), .val (.int p3), .val (.int p4), .val (.int j1), .val (.int j3), .val (.int j4), .val (.int j5), .val (.int j6), .val (.ref b7), .val (.int j16), .val (.int j17), .val (.ref b18), .val (.int j21), .val (.int j24), .val (.int j27), .val (.int j29)] [])) _
          refine XS.iload X28.here hx rfl (hb hby at_172) rfl ?_
          show Steps p.tables e below (T28.setTop (mkF m 174 #[.val (.int p1), .val (.int p2), .val (.int p3), .val (.int p4), .val (.int j1), .val (.int j3), .val (.int j4), .val (.int j5), .val (.int j6), .val (.ref b7), .val (.int j16), .val (.int j17), .val (.ref b18), .val (.int j21), .val (.int j24), .val (.int j27), .val (.int j29)] [(.int j27)])) _
          refine XS.iload X28.here hx rfl (hb hby at_174) rfl ?_
          show Steps p.tables e below (T28.setTop (mkF m 176 #[.val (.int p1), .val (.int p2), .val (.int p3), .val (.int p4), .val (.int j1), .val (.int j3), .val (.int j4), .val (.int j5), .val (.int j6), .val (.ref b7), .val (.int j16), .val (.int j17), .val (.ref b18), .val (.int j21), .val (.int j24), .val (.int j27), .val (.int j29)] [(.int j21), (.int j27)])) _
          refine XS.icmpNo X28.here hx rfl (hb hby at_176) rfl (teq hc176_4).2 ?_
          show Steps p.tables e below (T28.setTop (mkF m 179 #[.val (.int p1), .val (.int p2), .val (.int p3), .val (.int p4), .val (.int j1), .val (.int j3), .val (.int j4), .val (.int j5), .val (.int j6), .val (.ref b7), .val (.int j16), .val (.int j17), .val (.ref b18), .val (.int j21), .val (.int j24), .val (.int j27), .val (.int j29)] [])) _
          refine XS.iload X28.here hx rfl (hb hby at_179) rfl ?_
          show Steps p.tables e below (T28.setTop (mkF m 181 #[.val (.int p1), .val (.int p2), .val (.int p3), .val (.int p4), .val (.int j1), .val (.int j3), .val (.int j4), .val (.int j5), .val (.int j6), .val (.ref b7), .val (.int j16), .val (.int j17), .val (.ref b18), .val (.int j21), .val (.int j24), .val (.int j27), .val (.int j29)] [(.int j29)])) _
          refine XS.ifNo X28.here hx rfl (hb hby at_181) rfl ((if0 _ _).trans (feq hc181_5).1) ?_
          show Steps p.tables e below (T28.setTop (mkF m 184 #[.val (.int p1), .val (.int p2), .val (.int p3), .val (.int p4), .val (.int j1), .val (.int j3), .val (.int j4), .val (.int j5), .val (.int j6), .val (.ref b7), .val (.int j16), .val (.int j17), .val (.ref b18), .val (.int j21), .val (.int j24), .val (.int j27), .val (.int j29)] [])) _
          refine XS.iconst X28.here hx rfl (hb hby at_184) ?_
          show Steps p.tables e below (T28.setTop (mkF m 185 #[.val (.int p1), .val (.int p2), .val (.int p3), .val (.int p4), .val (.int j1), .val (.int j3), .val (.int j4), .val (.int j5), .val (.int j6), .val (.ref b7), .val (.int j16), .val (.int j17), .val (.ref b18), .val (.int j21), .val (.int j24), .val (.int j27), .val (.int j29)] [(.int (1 : Int32))])) _
          refine XS.goto X28.here hx rfl (pc0 := 185) (pc' := 189) rfl (hb hby at_185) (by decide) (by decide) ?_
          exact k
      · skip
        refine ⟨(0 : Int32), (by simp only [if_pos hc169_3, if_neg hc176_4]), fun t k => ?_⟩
        show Steps p.tables e below (T28.setTop (mkF m 169 #[.val (.int p1), .val (.int p2), .val (.int p3), .val (.int p4), .val (.int j1), .val (.int j3), .val (.int j4), .val (.int j5), .val (.int j6), .val (.ref b7), .val (.int j16), .val (.int j17), .val (.ref b18), .val (.int j21), .val (.int j24), .val (.int j27), .val (.int j29)] [(.int j24), (.int j21)])) _
        refine XS.icmpNo X28.here hx rfl (hb hby at_169) rfl (teq hc169_3).2 ?_
        show Steps p.tables e below (T28.setTop (mkF m 172 #[.val (.int p1), .val (.int p2), .val (.int p3), .val (.int p4), .val (.int j1), .val (.int j3), .val (.int j4), .val (.int j5), .val (.int j6), .val (.ref b7), .val (.int j16), .val (.int j17), .val (.ref b18), .val (.int j21), .val (.int j24), .val (.int j27), .val (.int j29)] [])) _
        refine XS.iload X28.here hx rfl (hb hby at_172) rfl ?_
        show Steps p.tables e below (T28.setTop (mkF m 174 #[.val (.int p1), .val (.int p2), .val (.int p3), .val (.int p4), .val (.int j1), .val (.int j3), .val (.int j4), .val (.int j5), .val (.int j6), .val (.ref b7), .val (.int j16), .val (.int j17), .val (.ref b18), .val (.int j21), .val (.int j24), .val (.int j27), .val (.int j29)] [(.int j27)])) _
        refine XS.iload X28.here hx rfl (hb hby at_174) rfl ?_
        show Steps p.tables e below (T28.setTop (mkF m 176 #[.val (.int p1), .val (.int p2), .val (.int p3), .val (.int p4), .val (.int j1), .val (.int j3), .val (.int j4), .val (.int j5), .val (.int j6), .val (.ref b7), .val (.int j16), .val (.int j17), .val (.ref b18), .val (.int j21), .val (.int j24), .val (.int j27), .val (.int j29)] [(.int j21), (.int j27)])) _
        refine XS.icmpYes X28.here hx rfl (pc0 := 176) (pc' := 188) rfl (hb hby at_176) rfl (feq hc176_4).2 (by decide) (by decide) ?_
        show Steps p.tables e below (T28.setTop (mkF m 188 #[.val (.int p1), .val (.int p2), .val (.int p3), .val (.int p4), .val (.int j1), .val (.int j3), .val (.int j4), .val (.int j5), .val (.int j6), .val (.ref b7), .val (.int j16), .val (.int j17), .val (.ref b18), .val (.int j21), .val (.int j24), .val (.int j27), .val (.int j29)] [])) _
        refine XS.iconst X28.here hx rfl (hb hby at_188) ?_
        exact k
    · skip
      refine ⟨(0 : Int32), (by simp only [if_neg hc169_3]), fun t k => ?_⟩
      show Steps p.tables e below (T28.setTop (mkF m 169 #[.val (.int p1), .val (.int p2), .val (.int p3), .val (.int p4), .val (.int j1), .val (.int j3), .val (.int j4), .val (.int j5), .val (.int j6), .val (.ref b7), .val (.int j16), .val (.int j17), .val (.ref b18), .val (.int j21), .val (.int j24), .val (.int j27), .val (.int j29)] [(.int j24), (.int j21)])) _
      refine XS.icmpYes X28.here hx rfl (pc0 := 169) (pc' := 188) rfl (hb hby at_169) rfl (feq hc169_3).2 (by decide) (by decide) ?_
      show Steps p.tables e below (T28.setTop (mkF m 188 #[.val (.int p1), .val (.int p2), .val (.int p3), .val (.int p4), .val (.int j1), .val (.int j3), .val (.int j4), .val (.int j5), .val (.int j6), .val (.ref b7), .val (.int j16), .val (.int j17), .val (.ref b18), .val (.int j21), .val (.int j24), .val (.int j27), .val (.int j29)] [])) _
      refine XS.iconst X28.here hx rfl (hb hby at_188) ?_
      exact k
  refine own_go st31 ?_
  show own_Go p.tables e below _ T28 (mkF m 189 #[.val (.int p1), .val (.int p2), .val (.int p3), .val (.int p4), .val (.int j1), .val (.int j3), .val (.int j4), .val (.int j5), .val (.int j6), .val (.ref b7), .val (.int j16), .val (.int j17), .val (.ref b18), .val (.int j21), .val (.int j24), .val (.int j27), .val (.int j29)] [(.int j30)])
  have hv1 : (nar .boolean j30) = 1 := own_yes_x p1 p2 p3 p4 j1 j3 j4 j5 j6 j16 j17 j21 j24 j27 j29 j30 hj1 hj3 hj4 hj5 hj6 hj16 hj17 hj21 hj24 hj27 hj29 hj30 hhlo5_102 hhhi5_102 hhlo11_102 hhhi11_102
  obtain ⟨fs, hr, hrun, hended, hW, hsame⟩ := X28.leave (v := some (.int (nar .boolean j30))) (fun h => by rw [Bd.returns] at h; cases h)
  refine ⟨_, _, ?_, hrun, hended, _, _, rfl, ?_, ⟨_, rfl⟩, hW, hsame.mono (by decide) (by decide)⟩
  · exact retN X28 hx (t := .boolean) Bd.returns (by simp) (hb hby at_189) hr
  · show Q0 Z p1 p2 p3 p4 h0 n0 _ _ _
    exact ⟨by rw [hv1], NN⟩
set_option maxRecDepth 65536 in
set_option maxHeartbeats 40000000 in
theorem comes_1 {Post : Tables → Env → Array Value → State → Outcome → State → Prop} (hpost : ∀ tb e args s v u, (limb_1_1.after args s (.returned v) u = true ∧ limb_1_2.after args s (.returned v) u = true ∧ True) → FrameEnd s (.returned v) u (Jvm.fieldLocs frame_1_writes args s ++ Jvm.arrayLocs frame_1_arrays args s ++ Jvm.staticLocs frame_1_statics s) 16 128 → Post tb e args s (.returned v) u) :
    ArmFor flags0 classFile x code maxLocals ret World_1 tables_1 room_1 Calls_1 rest_1 Pre_1 Post := by
  intro l hfl _ _ p e ha hc hk s m args below hf hA hF happ hP
  obtain ⟨hcalls, hrest, hpre⟩ := hP
  obtain ⟨-, -, -, hnamed, -, -, -, hat⟩ := (Spec.applies_iff hf).mp happ
  obtain ⟨hg, hn⟩ := and_e (Cond.before_iff.mp (show (Jvm.Cond.and given_1 narrow_1).before args s = true from hpre))
  obtain ⟨hcount, hg0⟩ := and_e hg
  obtain ⟨ha0, hg1⟩ := and_e hg0
  obtain ⟨ha1, hg2⟩ := and_e hg1
  obtain ⟨ha2, hg3⟩ := and_e hg2
  have ha3 := hg3
  obtain ⟨w0, w1, w2, w3, rfl⟩ : ∃ w0 w1 w2 w3 : Value, args = #[w0, w1, w2, w3] := by
    have hs : args.size = 4 := by simpa [Cond.value, given_1] using hcount
    obtain ⟨L⟩ := args
    match L, hs with
    | [w0, w1, w2, w3], _ => exact ⟨w0, w1, w2, w3, rfl⟩
  have hw := fun d (hd : d ∈ tables_1) => atoms_spec (ws := Jvm.Cond.code x code maxLocals ret :: tables_1) hat d (List.mem_cons_of_mem _ hd)
  obtain ⟨i0, ei0⟩ := is_v ha0
  obtain rfl : w0 = (.int i0) := Option.some.inj ei0
  obtain ⟨i1, ei1⟩ := is_v ha1
  obtain rfl : w1 = (.int i1) := Option.some.inj ei1
  obtain ⟨i2, ei2⟩ := is_v ha2
  obtain rfl : w2 = (.int i2) := Option.some.inj ei2
  obtain ⟨i3, ei3⟩ := is_v ha3
  obtain rfl : w3 = (.int i3) := Option.some.inj ei3
  obtain ⟨n, o, h1, h2, h3, _, L, rfl, ⟨rfl, N⟩, hq⟩ := rm0 l s _ hw tables_1 i0 i1 i2 i3 s.heap s.heap.size (Nat.le_refl _) p e ha hc hk s m _ below hf ((Spec.applies_iff_loose hf).mp happ).1 ⟨rfl, State.Warmed39.refl s, rfl⟩ trivial
  refine ⟨n, _, h1, h2, h3, hpost _ _ _ _ _ _ ⟨Cond.after_iff.mpr rfl, Cond.after_iff.mpr (eq_i res_at (Term.int_eval (1)) rfl), trivial⟩ ⟨hq.1, hq.2.1, (hq.2.2.sift fun y hy => Or.inr (N y hy)).mono (by decide) (by decide)⟩⟩
theorem main_1_1 : Claimed_1_1 := comes_1 fun _ _ _ _ _ _ h hF => ⟨h.1, hF⟩
theorem main_1_2 : Claimed_1_2 := comes_1 fun _ _ _ _ _ _ h hF => ⟨h.2.1, hF⟩
end Jvm.Pilot.@@N@@
namespace Jvm.Pilot.@@N@@
open Jvm Jvm.ClassFile Sem Op Lib Jvm.Free Jvm.Stand Jvm.Pilot.@@N@@.Jvm.D
/-! MADE BY PROGRAM (witnessworld.py) out of the Statement's table words and the real class files: 13 classes; the members and pool entries that the words name. The judged class is class 1, her method 2. -/
namespace start1
open Jvm.ClassFile
def u (s : String) : CpInfo := .utf8 (stringToUtf16 s)
/-- a pool by its gaps: so many unusable entries, then the entry; so many at the end -/
def gap : Nat → List CpInfo → List CpInfo
  | 0, r => r
  | n + 1, r => .unusable :: gap n r
def poolList (es : List (Nat × CpInfo)) (last : Nat) : List CpInfo := es.foldr (fun e r => gap e.1 (e.2 :: r)) (gap last [])
def pool (es : List (Nat × CpInfo)) (last : Nat) : Array CpInfo := ⟨poolList es last⟩
def fileOf (pool : Array CpInfo) (this : Nat) (attrs : Array Attribute := #[]) (ms : Array MethodInfo := #[]) (fl : Nat := 33) (sup : Nat := 0) (ifs : Array Nat := #[]) (fds : Array FieldInfo := #[]) : ClassFile where
  minorVersion := 0
  majorVersion := 65
  constantPool := pool
  accessFlags := fl
  thisClass := this
  superClass := sup
  interfaces := ifs
  fields := fds
  methods := ms
  attributes := attrs
def plain (name : String) (sup : Option ClassId) : Class where
  name := name
  kind := .ordinary
  loader := none
  accessFlags := 33
  super := sup
  interfaces := #[]
  cf := none
  fields := #[]
  methods := #[]
  instanceTypes := #[]
  staticTypes := #[]
  resolved := #[]
  callSites := []
  init := .initialized
  statics := none
  mirror := none

def pool0 : Array CpInfo := pool [(5, u "<init>"), (0, u "()V"), (1, .class_ 10), (1, u "java/lang/Object")] 113

def k0c0 : Code := { maxStack := 0, maxLocals := 1, code := object_method_1_code, exceptionTable := #[], attributes := #[] }
def k0m0 : Method := { name := "<init>", desc := "()V", sig := { parameters := [], returnType := none }, accessFlags := 1, code := some k0c0 }
/-- java/lang/Object -/
def k0 : Class := { plain "java/lang/Object" none with
  accessFlags := 33
  interfaces := #[]
  cf := some (fileOf pool0 8 #[] #[{ accessFlags := 1, nameIndex := 5, descriptorIndex := 6, attributes := #[] }] 33 0 #[] #[])
  fields := #[]
  methods := #[k0m0]
  instanceTypes := #[]
  staticTypes := #[]
  resolved := Array.replicate 124 none
  statics := none }

def pool1 : Array CpInfo := pool [(2, .class_ 4), (1, u "java/lang/Object"), (0, u "<init>"), (0, u "()V"), (0, .integer 65535), (0, .class_ 9), (0, u "com/example/caliper2/caliper2/ScanInput$SameChars"), (0, .methodref 8 11), (0, .nameAndType 5 12), (0, u "([C)V"), (0, .methodref 8 14), (0, .nameAndType 15 16), (0, u "test"), (0, u "(II)Z"), (0, .methodref 18 19), (0, .class_ 20), (0, .nameAndType 21 22), (0, u "com/example/caliper2/caliper2/SameCharsTestPinLaw"), (0, u "pick"), (0, u "(CCCCI)C"), (3, u "law"), (0, u "(IIII)Z")] 8

def k1m0 : Method := { name := "<init>", desc := "()V", sig := { parameters := [], returnType := none }, accessFlags := 1, code := none }
def k1c1 : Code := { maxStack := 2, maxLocals := 5, code := method_2_code, exceptionTable := #[], attributes := #[] }
def k1m1 : Method := { name := "pick", desc := "(CCCCI)C", sig := { parameters := [.char, .char, .char, .char, .int], returnType := some .char }, accessFlags := 10, code := some k1c1 }
def k1c2 : Code := { maxStack := 6, maxLocals := 17, code := code, exceptionTable := #[], attributes := #[] }
def k1m2 : Method := { name := "law", desc := "(IIII)Z", sig := { parameters := [.int, .int, .int, .int], returnType := some .boolean }, accessFlags := 9, code := some k1c2 }
/-- com/example/caliper2/caliper2/SameCharsTestPinLaw -/
def k1 : Class := { plain "com/example/caliper2/caliper2/SameCharsTestPinLaw" (some 0) with
  accessFlags := 49
  interfaces := #[]
  cf := some (fileOf pool1 18 #[] #[{ accessFlags := 1, nameIndex := 5, descriptorIndex := 6, attributes := #[] }, { accessFlags := 10, nameIndex := 21, descriptorIndex := 22, attributes := #[] }, { accessFlags := 9, nameIndex := 26, descriptorIndex := 27, attributes := #[] }] 49 2 #[] #[])
  fields := #[]
  methods := #[k1m0, k1m1, k1m2]
  instanceTypes := #[]
  staticTypes := #[]
  resolved := Array.replicate 36 none
  statics := none }

def pool2 : Array CpInfo := pool [(1, .methodref 2 3), (0, .class_ 4), (0, .nameAndType 5 6), (0, u "java/lang/Object"), (0, u "<init>"), (0, u "()V"), (0, .class_ 8), (0, u "java/lang/Record")] 13

def k2c0 : Code := { maxStack := 1, maxLocals := 1, code := jdk_30_method_1_code, exceptionTable := #[], attributes := #[] }
def k2m0 : Method := { name := "<init>", desc := "()V", sig := { parameters := [], returnType := none }, accessFlags := 4, code := some k2c0 }
/-- java/lang/Record -/
def k2 : Class := { plain "java/lang/Record" (some 0) with
  accessFlags := 1057
  interfaces := #[]
  cf := some (fileOf pool2 7 #[] #[{ accessFlags := 4, nameIndex := 5, descriptorIndex := 6, attributes := #[] }] 1057 2 #[] #[])
  fields := #[]
  methods := #[k2m0]
  instanceTypes := #[]
  staticTypes := #[]
  resolved := Array.replicate 22 none
  statics := none }

def pool3 : Array CpInfo := pool [(1, .class_ 2), (0, u "com/example/caliper2/caliper2/SameUnit"), (0, .class_ 4), (0, u "java/lang/Object")] 6

/-- com/example/caliper2/caliper2/SameUnit -/
def k3 : Class := { plain "com/example/caliper2/caliper2/SameUnit" (some 0) with
  accessFlags := 1536
  interfaces := #[]
  cf := some (fileOf pool3 1 #[] #[] 1536 3 #[] #[])
  fields := #[]
  methods := #[]
  instanceTypes := #[]
  staticTypes := #[]
  resolved := Array.replicate 11 none
  statics := none }

def pool4 : Array CpInfo := pool [(1, .methodref 2 3), (0, .class_ 4), (0, .nameAndType 5 6), (0, u "java/lang/Record"), (0, u "<init>"), (0, u "()V"), (0, .fieldref 8 9), (0, .class_ 10), (0, .nameAndType 11 12), (0, u "com/example/caliper2/caliper2/ScanInput$SameChars"), (0, u "pattern"), (0, u "[C"), (12, .class_ 26), (0, u "com/example/caliper2/caliper2/SameUnit"), (0, u "([C)V"), (3, u "test"), (0, u "(II)Z"), (8, .class_ 42), (0, u "com/example/caliper2/caliper2/ScanInput")] 18

def k4c0 : Code := { maxStack := 2, maxLocals := 2, code := prog_57_method_1_code, exceptionTable := #[], attributes := #[] }
def k4m0 : Method := { name := "<init>", desc := "([C)V", sig := { parameters := [(.array .char)], returnType := none }, accessFlags := 1, code := some k4c0 }
def k4c1 : Code := { maxStack := 3, maxLocals := 3, code := prog_57_method_2_code, exceptionTable := #[], attributes := #[] }
def k4m1 : Method := { name := "test", desc := "(II)Z", sig := { parameters := [.int, .int], returnType := some .boolean }, accessFlags := 1, code := some k4c1 }
/-- com/example/caliper2/caliper2/ScanInput$SameChars -/
def k4 : Class := { plain "com/example/caliper2/caliper2/ScanInput$SameChars" (some 2) with
  accessFlags := 49
  interfaces := #[3]
  cf := some (fileOf pool4 8 #[.nestHost 41] #[{ accessFlags := 1, nameIndex := 5, descriptorIndex := 27, attributes := #[] }, { accessFlags := 1, nameIndex := 31, descriptorIndex := 32, attributes := #[] }] 49 2 #[25] #[{ accessFlags := 18, nameIndex := 11, descriptorIndex := 12, attributes := #[] }])
  fields := #[{ name := "pattern", type := (.array .char), accessFlags := 18, slot := 0, constantValue := 0 }]
  methods := #[k4m0, k4m1]
  instanceTypes := #[(.array .char)]
  staticTypes := #[]
  resolved := Array.replicate 61 none
  statics := none }

def pool5 : Array CpInfo := pool [(1, u "java/lang/Cloneable"), (0, .class_ 1), (0, u "java/lang/Object"), (0, .class_ 3)] 3

/-- java/lang/Cloneable -/
def k5 : Class := { plain "java/lang/Cloneable" (some 0) with
  accessFlags := 1537
  interfaces := #[]
  cf := some (fileOf pool5 2 #[] #[] 1537 4 #[] #[])
  fields := #[]
  methods := #[]
  instanceTypes := #[]
  staticTypes := #[]
  resolved := Array.replicate 8 none
  statics := none }

def pool6 : Array CpInfo := pool [(1, u "java/io/Serializable"), (0, .class_ 1), (0, u "java/lang/Object"), (0, .class_ 3)] 3

/-- java/io/Serializable -/
def k6 : Class := { plain "java/io/Serializable" (some 0) with
  accessFlags := 1537
  interfaces := #[]
  cf := some (fileOf pool6 2 #[] #[] 1537 4 #[] #[])
  fields := #[]
  methods := #[]
  instanceTypes := #[]
  staticTypes := #[]
  resolved := Array.replicate 8 none
  statics := none }

/-- the primitive byte -/
def k7 : Class := { plain "byte" none with kind := .primitive 'B', accessFlags := 0x411 }
/-- [B -/
def k8 : Class := { plain "[B" (some 0) with kind := .array 7 .byte, interfaces := #[5, 6], accessFlags := 1041 }

/-- the primitive char -/
def k9 : Class := { plain "char" none with kind := .primitive 'C', accessFlags := 0x411 }
/-- [C -/
def k10 : Class := { plain "[C" (some 0) with kind := .array 9 .char, interfaces := #[5, 6], accessFlags := 1041 }

/-- the primitive int -/
def k11 : Class := { plain "int" none with kind := .primitive 'I', accessFlags := 0x411 }
/-- [I -/
def k12 : Class := { plain "[I" (some 0) with kind := .array 11 .int, interfaces := #[5, 6], accessFlags := 1041 }

def heap : Heap := #[]
def classes : Array Class := #[k0, k1, k2, k3, k4, k5, k6, k7, k8, k9, k10, k11, k12]
def interned : List (Array UInt16 × Addr) := []
def slotsUsed : Nat := 0
def theMethod : MethodId := ⟨1, 2⟩
def args0 : Array Value := #[.int 5, .int 6, .int 7, .int 8]
def aboutOver (below : List Frame) : State where
  vm := { classes := classes, interned := interned.toArray }
  heap := heap
  slotsUsed := slotsUsed
  threads := #[{ frames := .invoking theMethod args0 :: below }]
def below0 : List Frame := [.native { method := ⟨0, 0⟩, args := #[] }]
def about1 : State := aboutOver below0
def p0 : Program := .bare "" "" ""
def e0 : Env := launch0.env 0 0 0
theorem w_frames : about1.frames = Frame.invoking theMethod args0 :: below0 := rfl
set_option maxRecDepth 65536 in
theorem w_args : argsFit about1.vm theMethod args0 = true := by decide +kernel
set_option maxRecDepth 65536 in
theorem w_heap : heapFits about1 = true := by decide +kernel
set_option maxRecDepth 65536 in
theorem w_runnable : about1.curStatus? = some .runnable := by decide +kernel
set_option maxRecDepth 65536 in
theorem w_alone : about1.alone = true := by decide +kernel
set_option maxRecDepth 65536 in
theorem w_named : about1.methodNamed? x = some theMethod := by decide +kernel
set_option maxRecDepth 65536 in
theorem w_hears : about1.hears theMethod below0 = true := by decide +kernel
set_option maxRecDepth 65536 in
theorem w_ripe : about1.ripe theMethod args0 below0 = true := by decide +kernel
theorem w_running : about1.status = .running := rfl
set_option maxRecDepth 65536 in
theorem w_room : about1.hasRoom e0.platform room_1 = true :=
  launch0.hasRoom_least _ room_1 (by decide +kernel) (by decide +kernel) (by decide +kernel) (by decide +kernel) (by decide +kernel) (by decide +kernel)
theorem allAtoms_all (ts : List Jvm.Cond) (a : Array Jvm.Value) (st : Jvm.State) : (allAtoms ts).before a st = ts.all (fun c => c.before a st) := by
  induction ts with
  | nil => rfl
  | cons c t ih =>
    show (Jvm.Cond.and c (allAtoms t)).before a st = _
    rw [Jvm.Cond.before_and, ih, List.all_cons]
def words1 : List Jvm.Cond := Jvm.Cond.code x code maxLocals ret :: tables_1
/-- a 'code' word, met by the world's own term for the bytes: nothing is compared byte by byte -/
theorem code_word {y : MethodName} {bytes : ByteArray} {mx : Nat} {rt : Option FieldType} {a : Array Value} {s : State} {m : MethodId} {meth : Method} {c : Code} (h1 : s.methodNamed? y = some m) (h2 : s.vm.method? m = some meth) (h3 : meth.code = some c) (h4 : c.code = bytes)
    (h5 : (c.maxLocals == mx && c.exceptionTable.isEmpty && decide (c.maxStack ≤ mostOperands) && decide (meth.sig.returnType = rt) && !meth.locks && decide (parseMethodDescriptor y.desc = some meth.sig)) = true) : (Jvm.Cond.code y bytes mx rt).before a s = true := by
  simp only [Bool.and_eq_true, beq_iff_eq, Bool.not_eq_true', decide_eq_true_eq] at h5
  obtain ⟨⟨⟨⟨⟨g1, g2⟩, g3⟩, g4⟩, g5⟩, g6⟩ := h5
  simp [Cond.before, Cond.holds, Cond.value, h1, h2, h3, h4, g1, g2, g3, g4, g5, g6]
def isCode : Jvm.Cond → Bool
  | .code _ _ _ _ => true
  | _ => false
theorem all_split {L : List Jvm.Cond} {P : Jvm.Cond → Bool} (h1 : L.all (fun c => isCode c || P c) = true) (h2 : ∀ c ∈ L.filter isCode, P c = true) : L.all P = true := by
  refine List.all_eq_true.mpr fun c hc => ?_
  have h := List.all_eq_true.mp h1 c hc
  rcases Bool.eq_false_or_eq_true (isCode c) with hi | hi
  · exact h2 c (List.mem_filter.mpr ⟨hc, hi⟩)
  · simpa [hi] using h
set_option maxRecDepth 65536 in
theorem w_c0 : (Jvm.Cond.code x code maxLocals ret).before args0 about1 = true := code_word (m := ⟨1, 2⟩) (meth := k1m2) (c := k1c2) (by decide +kernel) rfl rfl rfl (by decide +kernel)
set_option maxRecDepth 65536 in
theorem w_c1 : (Jvm.Cond.code ({ cls := "com/example/caliper2/caliper2/ScanInput$SameChars", name := "<init>", desc := "([C)V" } : Jvm.MethodName) prog_57_method_1_code (2 : Nat) (Option.none : Option Jvm.ClassFile.FieldType)).before args0 about1 = true := code_word (m := ⟨4, 0⟩) (meth := k4m0) (c := k4c0) (by decide +kernel) rfl rfl rfl (by decide +kernel)
set_option maxRecDepth 65536 in
theorem w_c2 : (Jvm.Cond.code ({ cls := "java/lang/Record", name := "<init>", desc := "()V" } : Jvm.MethodName) jdk_30_method_1_code (1 : Nat) (Option.none : Option Jvm.ClassFile.FieldType)).before args0 about1 = true := code_word (m := ⟨2, 0⟩) (meth := k2m0) (c := k2c0) (by decide +kernel) rfl rfl rfl (by decide +kernel)
set_option maxRecDepth 65536 in
theorem w_c3 : (Jvm.Cond.code ({ cls := "java/lang/Object", name := "<init>", desc := "()V" } : Jvm.MethodName) object_method_1_code (1 : Nat) (Option.none : Option Jvm.ClassFile.FieldType)).before args0 about1 = true := code_word (m := ⟨0, 0⟩) (meth := k0m0) (c := k0c0) (by decide +kernel) rfl rfl rfl (by decide +kernel)
set_option maxRecDepth 65536 in
theorem w_c4 : (Jvm.Cond.code ({ cls := "com/example/caliper2/caliper2/ScanInput$SameChars", name := "test", desc := "(II)Z" } : Jvm.MethodName) prog_57_method_2_code (3 : Nat) (Option.some Jvm.ClassFile.FieldType.boolean)).before args0 about1 = true := code_word (m := ⟨4, 1⟩) (meth := k4m1) (c := k4c1) (by decide +kernel) rfl rfl rfl (by decide +kernel)
set_option maxRecDepth 65536 in
theorem w_c5 : (Jvm.Cond.code ({ cls := "com/example/caliper2/caliper2/SameCharsTestPinLaw", name := "pick", desc := "(CCCCI)C" } : Jvm.MethodName) method_2_code (5 : Nat) (Option.some Jvm.ClassFile.FieldType.char)).before args0 about1 = true := code_word (m := ⟨1, 1⟩) (meth := k1m1) (c := k1c1) (by decide +kernel) rfl rfl rfl (by decide +kernel)
def codes1 : List Jvm.Cond := [Jvm.Cond.code x code maxLocals ret, Jvm.Cond.code ({ cls := "com/example/caliper2/caliper2/ScanInput$SameChars", name := "<init>", desc := "([C)V" } : Jvm.MethodName) prog_57_method_1_code (2 : Nat) (Option.none : Option Jvm.ClassFile.FieldType), Jvm.Cond.code ({ cls := "java/lang/Record", name := "<init>", desc := "()V" } : Jvm.MethodName) jdk_30_method_1_code (1 : Nat) (Option.none : Option Jvm.ClassFile.FieldType), Jvm.Cond.code ({ cls := "java/lang/Object", name := "<init>", desc := "()V" } : Jvm.MethodName) object_method_1_code (1 : Nat) (Option.none : Option Jvm.ClassFile.FieldType), Jvm.Cond.code ({ cls := "com/example/caliper2/caliper2/ScanInput$SameChars", name := "test", desc := "(II)Z" } : Jvm.MethodName) prog_57_method_2_code (3 : Nat) (Option.some Jvm.ClassFile.FieldType.boolean), Jvm.Cond.code ({ cls := "com/example/caliper2/caliper2/SameCharsTestPinLaw", name := "pick", desc := "(CCCCI)C" } : Jvm.MethodName) method_2_code (5 : Nat) (Option.some Jvm.ClassFile.FieldType.char)]
set_option maxRecDepth 65536 in
theorem codes_eq : words1.filter isCode = codes1 := rfl
theorem w_codes : ∀ c ∈ words1.filter isCode, c.before args0 about1 = true := by
  rw [codes_eq]
  intro c hc
  simp only [codes1, List.mem_cons, List.not_mem_nil, or_false] at hc
  rcases hc with rfl | rfl | rfl | rfl | rfl | rfl
  · exact w_c0
  · exact w_c1
  · exact w_c2
  · exact w_c3
  · exact w_c4
  · exact w_c5
set_option maxRecDepth 65536 in
theorem w_t1 : (words1.take 24).all (fun c => isCode c || c.before args0 about1) = true := by decide +kernel
set_option maxRecDepth 65536 in
theorem w_t2 : (words1.drop 24).all (fun c => isCode c || c.before args0 about1) = true := by decide +kernel
theorem w_tables : (allAtoms (Jvm.Cond.code x code maxLocals ret :: tables_1)).before args0 about1 = true := by
  rw [allAtoms_all]
  show words1.all (fun c => c.before args0 about1) = true
  refine all_split ?_ w_codes
  rw [← List.take_append_drop 24 words1, List.all_append, w_t1, w_t2]
  rfl
set_option maxRecDepth 65536 in
theorem w_case : (Jvm.Cond.and given_1 narrow_1).before args0 about1 = true := by decide +kernel
theorem w_applies : (headSpec (Jvm.Cond.code x code maxLocals ret :: tables_1) room_1).applies x e0.platform about1 = true :=
  (Spec.applies_iff w_frames).mpr ⟨w_running, w_runnable, w_alone, w_named, w_hears, w_ripe, w_room, w_tables⟩
theorem atStart : AtStart classFile x code maxLocals ret World_1 tables_1 room_1 Calls_1 rest_1 Pre_1 launch0 p0 e0 about1 theMethod args0 below0 :=
  ⟨lists_1, trivial, launch0.admits_env _ _ _, launch0.least_env, fairChoices_fair.cas, fairChoices_fair.clock, w_frames, w_args, w_heap, w_applies, trivial, trivial, w_case⟩
end start1
theorem witness_1 : WitnessClaimed_1 := ⟨start1.p0, start1.e0, start1.about1, start1.theMethod, start1.args0, start1.below0, start1.atStart⟩
end Jvm.Pilot.@@N@@

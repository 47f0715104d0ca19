import JvmDerived
import JvmDerived.Pilot.@@N@@Statement
import JvmDerived.Pilot.@@N@@Code
set_option linter.unusedVariables false
set_option linter.unusedSimpArgs false
namespace Jvm.RoadKit
open Sem ClassFile Op Lib Jvm.Stand Jvm.Free Jvm.LawKit
section New
variable {p : Program} {l : Launch} {e : Env} {R : Room} {s : State} {m : MethodId} {args : Array Value} {below : List Frame} {meth : Method} {c : Code} {T : State} {locs : List Loc} {cells slots : Nat}
theorem retI (X : Stand p l e R s m args below meth c T locs cells slots) (hx : p.tables.exec = Jvm.exec) {pc : Nat} {Ls : Array Slot} {z : Int32} {rest : List Value} (hret : meth.sig.returnType = some .int) (hd : decode c.code pc = .ok (.ireturn, 1)) {fs : List Frame}
    (hl : ∀ (f : JFrame) (acts : List Action), f.method = m → f.locked = none → f.entered = [] → (doReturn e (T.setTop f) acts (some (.int z))).1 = T.setFrames fs) : Steps p.tables e below (T.setTop (mkF m pc Ls (.int z :: rest))) (T.setFrames fs) := by
  have hm' : T.vm.method? m = some meth := X.method'
  have hn : narrow .int (.int z) = .int z := rfl
  show Steps p.tables e below (T.setTop { method := m, pc := pc, locals := Ls, stack := _ :: rest, locked := none }) _
  jvm_step X.here [X.here.top, hx, hd, hm', hret, hn]
  first | (intro acts; rw [hl _ acts rfl rfl rfl]) | rw [hl _ _ rfl rfl rfl]
  exact Steps.refl _
theorem own_retJ (X : Stand p l e R s m args below meth c T locs cells slots) (hx : p.tables.exec = Jvm.exec) {pc : Nat} {Ls : Array Slot} {z : Int64} {rest : List Value} (hret : meth.sig.returnType = some .long) (hd : decode c.code pc = .ok (.lreturn, 1)) {fs : List Frame}
    (hl : ∀ (f : JFrame) (acts : List Action), f.method = m → f.locked = none → f.entered = [] → (doReturn e (T.setTop f) acts (some (.long z))).1 = T.setFrames fs) : Steps p.tables e below (T.setTop (mkF m pc Ls (.long z :: rest))) (T.setFrames fs) :=
  retOut X hx (t := .long) (i := .lreturn) hret rfl (Or.inr (Or.inl ⟨rfl, rfl, z, rfl⟩)) hd hl
theorem own_retR (X : Stand p l e R s m args below meth c T locs cells slots) (hx : p.tables.exec = Jvm.exec) {pc : Nat} {Ls : Array Slot} {w : Value} {t : FieldType} {rest : List Value} (hret : meth.sig.returnType = some t) (ht : t.isReference = true) (hw : w.isRef = true) (hd : decode c.code pc = .ok (.areturn, 1)) {fs : List Frame}
    (hl : ∀ (f : JFrame) (acts : List Action), f.method = m → f.locked = none → f.entered = [] → (doReturn e (T.setTop f) acts (some w)).1 = T.setFrames fs) : Steps p.tables e below (T.setTop (mkF m pc Ls (w :: rest))) (T.setFrames fs) :=
  retOut X hx (i := .areturn) hret (by cases t <;> simp_all [FieldType.isReference, narrow]) (Or.inr (Or.inr (Or.inr (Or.inr ⟨rfl, ht, hw⟩)))) hd hl
theorem own_narZ (x : Int32) : nar .boolean x = x &&& 1 := rfl
theorem own_narC (x : Int32) : nar .char x = x.toUInt32.toUInt16.toUInt32.toInt32 := rfl
theorem own_narB (x : Int32) : nar .byte x = x.toInt8.toInt32 := rfl
/-- where the run stands, and how it ends -/
abbrev own_Go (tb : Tables) (e : Env) (below : List Frame) (P : State → Outcome → Prop) (T : State) (g : JFrame) : Prop := ∃ s₂ o, Steps tb e below (T.setTop g) s₂ ∧ s₂.status = .running ∧ Ended s₂ below o ∧ P s₂ o
theorem own_go {tb : Tables} {P : State → Outcome → Prop} {T' : State} {g g' : JFrame} (st : ∀ t, Steps tb e below (T'.setTop g') t → Steps tb e below (T.setTop g) t) (k : own_Go tb e below P T' g') : own_Go tb e below P T g := by
  obtain ⟨s₂, o, h1, h2⟩ := k
  exact ⟨s₂, o, st _ h1, h2⟩
theorem own_start {tb : Tables} {P : State → Outcome → Prop} {g g' : JFrame} (q : g = g') (k : own_Go tb e below P T g') : own_Go tb e below P T g := q ▸ k
theorem own_selPriv {z y : MethodName} (hz : z.cls = y.cls) (hs : (Cond.selects y.cls z z).before args s = true) (hp : s.PrivateAt y) (hi : (Cond.instanceMethod y).before args s = true) (hy : y.cls ≠ "java/lang/invoke/MethodHandle" ∧ y.cls ≠ "java/lang/invoke/VarHandle") : (Cond.selects y.cls y y).before args s = true := by
  obtain ⟨c, r, m, h1, -, h3, -, k, h5, h6⟩ := Cond.selects_spec hs
  exact selects_self_of_private (hz ▸ findClass_of_methodNamed h3) h5 h6 hp hi hy
end New
end Jvm.RoadKit
namespace Jvm.Pilot.@@N@@
open Jvm Jvm.ClassFile Sem Op Lib Jvm.Free Jvm.Stand Jvm.LawKit Jvm.RoadKit Bundle Jvm.Pilot.@@N@@.Jvm.D
def own_sel4 (a b c d j : Int32) : Int32 := if j = 0 then a else if j = 1 then b else if j = 2 then c else d
theorem own_idx4 (j : Int32) (h0 : ¬ (j < (0 : Int32))) (h1 : j < (4 : Int32)) : j = 0 ∨ j = 1 ∨ j = 2 ∨ j = 3 := by
  rw [Int32.lt_iff_toInt_lt] at h0 h1
  have k0 : (0 : Int32).toInt = 0 := rfl
  have k1 : (1 : Int32).toInt = 1 := rfl
  have k2 : (2 : Int32).toInt = 2 := rfl
  have k3 : (3 : Int32).toInt = 3 := rfl
  have k4 : (4 : Int32).toInt = 4 := rfl
  simp only [← Int32.toInt_inj]
  omega
theorem own_sel4_at (a b c d j : Int32) (h0 : ¬ (j < (0 : Int32))) (h1 : j < (4 : Int32)) (dv : Value) : [Value.int a, Value.int b, Value.int c, Value.int d].getD j.toNatClampNeg dv = Value.int (own_sel4 a b c d j) := by
  rcases own_idx4 j h0 h1 with rfl | rfl | rfl | rfl <;> rfl
theorem d2_0 : decode jdk_30_method_1_code 0 = .ok (.aload_n 0, 1) := by decide +kernel
theorem d2_1 : decode jdk_30_method_1_code 1 = .ok (.invokespecial 1, 3) := by decide +kernel
theorem d2_4 : decode jdk_30_method_1_code 4 = .ok (.return_, 1) := by decide +kernel
theorem pn_0 : plainName "java/lang/Record" = true := by first | (simp [plainName, overriddenIn]; done) | decide +kernel
theorem ef_2 (m : MethodId) (a1 : Addr) : entryFrame m #[(.ref a1)] 1 = mkF m 0 #[.val (.ref a1)] [] := by first | (simp [entryFrame, mkF, argsToLocals, Value.category]; done) | rfl
def Q2 (Z : State) (a1 : Addr) (h0 : Heap) (n0 : Nat) (v : Option Value) (h : Heap) (L : List Loc) : Prop := v = none ∧ Fr n0 L ∧ h = h0
set_option maxRecDepth 65536 in
set_option maxHeartbeats 40000000 in
theorem rm2 (l : Launch) (Z : State) (a0 : Array Value) (hw : ∀ d ∈ tables_1, d.before a0 Z = true) (ws : List Jvm.Cond) (a1 : Addr) (h0 : Heap) (n0 : Nat) (Z0 : n0 ≤ h0.size) :
    MetFree l (⟨"java/lang/Record", "<init>", "()V"⟩ : MethodName) (head1 (Jvm.Cond.code (⟨"java/lang/Record", "<init>", "()V"⟩ : MethodName) jdk_30_method_1_code 1 none :: ws) ({ frames := 1, cells := 0, slots := 0, locals := 12 } : Room)) (fun a U => a = #[(.ref a1)] ∧ Z.Warmed39 U.vm ∧ U.heap = h0) (fun _ _ _ _ _ => True) (fun _ U o U' => ∃ v L, o = .returned v ∧ Q2 Z a1 h0 n0 v U'.heap L ∧ FrameEnd U o U' L ({ frames := 1, cells := 0, slots := 0, locals := 12 } : Room).cells ({ frames := 1, cells := 0, slots := 0, locals := 12 } : Room).slots) := by
  refine MetFree.of_bodySF (plainFor_of_name pn_0) hisR ?_
  intro p e s m args below meth c s₁ Bd hml0 hP hK
  obtain ⟨rfl, hZ, hh⟩ := hP
  have hx := Bd.exec
  have hby := Bd.bytes
  have hml : c.maxLocals = 1 := hml0
  have hown : s.vm.findClass "java/lang/Record" = some m.cls := findClass_of_methodNamed Bd.named
  have hnm := (name_of_methodNamed Bd.named Bd.method).1
  have X0 : Stand p l e ({ frames := 1, cells := 0, slots := 0, locals := 12 } : Room) s m #[(.ref a1)] below meth c s₁ [] 0 0 := Stand.of_body Bd
  have e0 : s₁.heap = h0 := by rw [← hh, Bd.state]; rfl
  have NN := Fr.nil n0
  have KK : Keep h0 h0 [] := Keep.refl h0 []
  refine own_start (ef_2 m a1) ?_
  refine own_go (T' := s₁) (g' := (mkF m 1 #[.val (.ref a1)] [(.ref a1)])) (fun t k => ?_) ?_
  · show Steps p.tables e below (s₁.setTop (mkF m 0 #[.val (.ref a1)] [])) _
    refine XS.aloadN X0.here hx rfl (hb hby d2_0) rfl rfl ?_
    exact k
  obtain ⟨T1, X1, e1, st1⟩ := initO X0 hx hZ hown (hw _ (List.mem_of_getElem? (i := 12) rfl)) (hw _ (List.mem_of_getElem? (i := 13) rfl)) (hw _ (List.mem_of_getElem? (i := 14) rfl)) e0 (g := (mkF m 1 #[.val (.ref a1)] [(.ref a1)])) rfl (by rw [hml]; rfl) rfl (hb hby d2_1) (by decide) (W := 0) (by show 2 * 0 + _ ≤ _; exact Nat.le_of_eq rfl) (by decide)
  refine own_go st1 ?_
  show own_Go p.tables e below _ T1 (mkF m 4 #[.val (.ref a1)] [])
  obtain ⟨fs, hr, hrun, hended, hW, hsame⟩ := X1.leave (v := none) (fun _ => rfl)
  refine ⟨_, _, ?_, hrun, hended, _, _, rfl, ?_, ⟨_, rfl⟩, hW, hsame.mono (by decide) (by decide)⟩
  · exact X1.returnOut hx Bd.returns (hb hby d2_4) hr
  · show Q2 Z a1 h0 n0 _ T1.heap _
    rw [e1]
    exact ⟨rfl, NN, rfl⟩
theorem d1_0 : decode prog_56_method_1_code 0 = .ok (.aload_n 0, 1) := by decide +kernel
theorem d1_1 : decode prog_56_method_1_code 1 = .ok (.invokespecial 1, 3) := by decide +kernel
theorem d1_4 : decode prog_56_method_1_code 4 = .ok (.aload_n 0, 1) := by decide +kernel
theorem d1_5 : decode prog_56_method_1_code 5 = .ok (.aload_n 1, 1) := by decide +kernel
theorem d1_6 : decode prog_56_method_1_code 6 = .ok (.putfield 7, 3) := by decide +kernel
theorem d1_9 : decode prog_56_method_1_code 9 = .ok (.return_, 1) := by decide +kernel
theorem pn_1 : plainName "com/example/caliper2/caliper2/ScanInput$SameBytes" = true := by first | (simp [plainName, overriddenIn]; done) | decide +kernel
theorem pd_1 : parseMethodDescriptor "()V" = some ⟨[], none⟩ := by decide +kernel
theorem ef_1 (m : MethodId) (a1 : Addr) (a2 : Addr) : entryFrame m #[(.ref a1), (.ref a2)] 2 = mkF m 0 #[.val (.ref a1), .val (.ref a2)] [] := by first | (simp [entryFrame, mkF, argsToLocals, Value.category]; done) | rfl
def Q1 (Z : State) (a1 : Addr) (a2 : Addr) (u_pattern_a1 : Value) (h0 : Heap) (n0 : Nat) (v : Option Value) (h : Heap) (L : List Loc) : Prop := v = none ∧ Fr n0 L ∧ Keep h0 h [a1] ∧ Exa Z h a1 "com/example/caliper2/caliper2/ScanInput$SameBytes" ∧ Fld Z h a1 "com/example/caliper2/caliper2/ScanInput$SameBytes" "pattern" "[B" (.ref a2)
set_option maxRecDepth 65536 in
set_option maxHeartbeats 40000000 in
theorem rm1 (l : Launch) (Z : State) (a0 : Array Value) (hw : ∀ d ∈ tables_1, d.before a0 Z = true) (ws : List Jvm.Cond) (a1 : Addr) (a2 : Addr) (u_pattern_a1 : Value) (h0 : Heap) (n0 : Nat) (Z0 : n0 ≤ h0.size) (E_a1 : Exa Z h0 a1 "com/example/caliper2/caliper2/ScanInput$SameBytes") (F_a1_pattern : Fld Z h0 a1 "com/example/caliper2/caliper2/ScanInput$SameBytes" "pattern" "[B" u_pattern_a1) (g_a1 : n0 ≤ a1) :
    MetFree l (⟨"com/example/caliper2/caliper2/ScanInput$SameBytes", "<init>", "([B)V"⟩ : MethodName) (head1 (Jvm.Cond.code (⟨"com/example/caliper2/caliper2/ScanInput$SameBytes", "<init>", "([B)V"⟩ : MethodName) prog_56_method_1_code 2 none :: ws) ({ frames := 2, cells := 0, slots := 0, locals := 24 } : Room)) (fun a U => a = #[(.ref a1), (.ref a2)] ∧ Z.Warmed39 U.vm ∧ U.heap = h0) (fun _ _ _ _ _ => True) (fun _ U o U' => ∃ v L, o = .returned v ∧ Q1 Z a1 a2 u_pattern_a1 h0 n0 v U'.heap L ∧ FrameEnd U o U' L ({ frames := 2, cells := 0, slots := 0, locals := 24 } : Room).cells ({ frames := 2, cells := 0, slots := 0, locals := 24 } : Room).slots) := by
  refine MetFree.of_bodySF (plainFor_of_name pn_1) hisR ?_
  intro p e s m args below meth c s₁ Bd hml0 hP hK
  obtain ⟨rfl, hZ, hh⟩ := hP
  have hx := Bd.exec
  have hby := Bd.bytes
  have hml : c.maxLocals = 2 := hml0
  have hown : s.vm.findClass "com/example/caliper2/caliper2/ScanInput$SameBytes" = some m.cls := findClass_of_methodNamed Bd.named
  have hnm := (name_of_methodNamed Bd.named Bd.method).1
  have X0 : Stand p l e ({ frames := 2, cells := 0, slots := 0, locals := 24 } : Room) s m #[(.ref a1), (.ref a2)] below meth c s₁ [] 0 0 := Stand.of_body Bd
  have e0 : s₁.heap = h0 := by rw [← hh, Bd.state]; rfl
  have NN := Fr.nil n0
  have KK : Keep h0 h0 [a1] := Keep.refl h0 [a1]
  refine own_start (ef_1 m a1 a2) ?_
  refine own_go (T' := s₁) (g' := (mkF m 1 #[.val (.ref a1), .val (.ref a2)] [(.ref a1)])) (fun t k => ?_) ?_
  · show Steps p.tables e below (s₁.setTop (mkF m 0 #[.val (.ref a1), .val (.ref a2)] [])) _
    refine XS.aloadN X0.here hx rfl (hb hby d1_0) rfl rfl ?_
    exact k
  obtain ⟨_, _, ⟨T1, L1, k1, n1⟩, -, X1, ⟨Lc1, hQ1, l1, y1, z1⟩, st1⟩ := X0.specialBack hx (y := (⟨"java/lang/Record", "<init>", "()V"⟩ : MethodName)) rfl hown (mvT hZ (hw _ (List.mem_of_getElem? (i := 7) rfl))) (mvT hZ (hw _ (List.mem_of_getElem? (i := 8) rfl))) (mvT hZ (hw _ (List.mem_of_getElem? (i := 11) rfl))) (by decide) (backOf (W := 0) (rm2 l Z a0 hw [] a1 h0 n0 Z0 ) hZ (hw _ (List.mem_of_getElem? (i := 11) rfl)) (hw _ (List.mem_of_getElem? (i := 10) rfl)) (by decide) (by decide)) (g := (mkF m 1 #[.val (.ref a1), .val (.ref a2)] [(.ref a1)])) rfl (by rw [hml]; rfl) (Steps.refl _) (a := a1) (argsL := []) (rest := []) (lenOf pd_1 rfl) rfl (by show 2 * 0 + _ ≤ _; exact Nat.le_of_eq rfl) (hb hby d1_1) (fun _ _ => ⟨rfl, e0, (by decide : 0 + 0 ≤ _), (by decide : 0 + 0 ≤ _)⟩)
  dsimp only [Pt.U, Pt.locs, Pt.cells, Pt.slots] at X1 l1 y1 z1 st1 hQ1
  subst l1 y1 z1
  obtain ⟨rfl, N1q, e1⟩ := hQ1
  have NN := Fr.app NN N1q
  refine own_go (fun t k => st1.trans k) ?_
  show own_Go p.tables e below _ T1 (mkF m 4 #[.val (.ref a1), .val (.ref a2)] [])
  refine own_go (T' := T1) (g' := (mkF m 6 #[.val (.ref a1), .val (.ref a2)] [(.ref a2), (.ref a1)])) (fun t k => ?_) ?_
  · show Steps p.tables e below (T1.setTop (mkF m 4 #[.val (.ref a1), .val (.ref a2)] [])) _
    refine XS.aloadN X1.here hx rfl (hb hby d1_4) rfl rfl ?_
    show Steps p.tables e below (T1.setTop (mkF m 5 #[.val (.ref a1), .val (.ref a2)] [(.ref a1)])) _
    refine XS.aloadN X1.here hx rfl (hb hby d1_5) rfl rfl ?_
    exact k
  obtain ⟨T2, h2, X2, e2, W2, st2⟩ := putF X1 hx hZ hown (host := "") (Or.inl (hw _ (List.mem_of_getElem? (i := 15) rfl))) Via.refl e1 F_a1_pattern E_a1 (Or.inr ⟨(hw _ (List.mem_of_getElem? (i := 16) rfl)), rfl, hnm⟩) (hw _ (List.mem_of_getElem? (i := 2) rfl)) (ty := (.array .byte)) (by decide) rfl rfl (g := (mkF m 6 #[.val (.ref a1), .val (.ref a2)] [(.ref a2), (.ref a1)])) rfl rfl (hb hby d1_6)
  refine own_go st2 ?_
  have E_a1 := E_a1.wr W2
  have F_a1_pattern := F_a1_pattern.same W2
  have Z0 := Nat.le_trans Z0 (Keep.of_wr W2).1
  have KK := KK.wr W2 (Or.inl (List.mem_of_getElem? (i := 0) rfl))
  have NN := Fr.snoc X2 NN g_a1
  show own_Go p.tables e below _ T2 (mkF m 9 #[.val (.ref a1), .val (.ref a2)] [])
  obtain ⟨fs, hr, hrun, hended, hW, hsame⟩ := X2.leave (v := none) (fun _ => rfl)
  refine ⟨_, _, ?_, hrun, hended, _, _, rfl, ?_, ⟨_, rfl⟩, hW, hsame.mono (by decide) (by decide)⟩
  · exact X2.returnOut hx Bd.returns (hb hby d1_9) hr
  · show Q1 Z a1 a2 u_pattern_a1 h0 n0 _ T2.heap _
    rw [e2]
    exact ⟨rfl, NN, KK, E_a1, F_a1_pattern⟩
theorem d4_0 : decode prog_56_method_2_code 0 = .ok (.aload_n 0, 1) := by decide +kernel
theorem d4_1 : decode prog_56_method_2_code 1 = .ok (.getfield 7, 3) := by decide +kernel
theorem d4_4 : decode prog_56_method_2_code 4 = .ok (.iload_n 1, 1) := by decide +kernel
theorem d4_5 : decode prog_56_method_2_code 5 = .ok (.baload, 1) := by decide +kernel
theorem d4_6 : decode prog_56_method_2_code 6 = .ok (.aload_n 0, 1) := by decide +kernel
theorem d4_7 : decode prog_56_method_2_code 7 = .ok (.getfield 7, 3) := by decide +kernel
theorem d4_10 : decode prog_56_method_2_code 10 = .ok (.iload_n 2, 1) := by decide +kernel
theorem d4_11 : decode prog_56_method_2_code 11 = .ok (.baload, 1) := by decide +kernel
theorem d4_12 : decode prog_56_method_2_code 12 = .ok (.if_icmp .ne 7, 3) := by decide +kernel
theorem d4_15 : decode prog_56_method_2_code 15 = .ok (.iconst 1, 1) := by decide +kernel
theorem d4_16 : decode prog_56_method_2_code 16 = .ok (.goto 4, 3) := by decide +kernel
theorem d4_19 : decode prog_56_method_2_code 19 = .ok (.iconst 0, 1) := by decide +kernel
theorem d4_20 : decode prog_56_method_2_code 20 = .ok (.ireturn, 1) := by decide +kernel
theorem ef_4 (m : MethodId) (a1 : Addr) (p2 : Int32) (p3 : Int32) : entryFrame m #[(.ref a1), (.int p2), (.int p3)] 3 = mkF m 0 #[.val (.ref a1), .val (.int p2), .val (.int p3)] [] := by first | (simp [entryFrame, mkF, argsToLocals, Value.category]; done) | rfl
def r_4 (p2 : Int32) (p3 : Int32) (v0_w_pattern_a1 : Int32) (v1_w_pattern_a1 : Int32) (v2_w_pattern_a1 : Int32) (v3_w_pattern_a1 : Int32) : Int32 := (((if (own_sel4 v0_w_pattern_a1 v1_w_pattern_a1 v2_w_pattern_a1 v3_w_pattern_a1 p2) = (own_sel4 v0_w_pattern_a1 v1_w_pattern_a1 v2_w_pattern_a1 v3_w_pattern_a1 p3) then (1 : Int32) else (0 : Int32))) &&& 1)
def Q4 (Z : State) (a1 : Addr) (p2 : Int32) (p3 : Int32) (w_pattern_a1 : Addr) (k_w_pattern_a1 : ClassId) (v0_w_pattern_a1 : Int32) (v1_w_pattern_a1 : Int32) (v2_w_pattern_a1 : Int32) (v3_w_pattern_a1 : Int32) (h0 : Heap) (n0 : Nat) (v : Option Value) (h : Heap) (L : List Loc) : Prop := v = some (.int (r_4 p2 p3 v0_w_pattern_a1 v1_w_pattern_a1 v2_w_pattern_a1 v3_w_pattern_a1)) ∧ Fr n0 L ∧ h = h0
set_option maxRecDepth 65536 in
set_option maxHeartbeats 40000000 in
theorem rm4 (l : Launch) (Z : State) (a0 : Array Value) (hw : ∀ d ∈ tables_1, d.before a0 Z = true) (ws : List Jvm.Cond) (a1 : Addr) (p2 : Int32) (p3 : Int32) (w_pattern_a1 : Addr) (k_w_pattern_a1 : ClassId) (v0_w_pattern_a1 : Int32) (v1_w_pattern_a1 : Int32) (v2_w_pattern_a1 : Int32) (v3_w_pattern_a1 : Int32) (h0 : Heap) (n0 : Nat) (Z0 : n0 ≤ h0.size) (F_a1_pattern : Fld Z h0 a1 "com/example/caliper2/caliper2/ScanInput$SameBytes" "pattern" "[B" (.ref w_pattern_a1)) (V_w_pattern_a1 : Arv Z h0 w_pattern_a1 k_w_pattern_a1 .byte (4 : Int32) [(.int v0_w_pattern_a1), (.int v1_w_pattern_a1), (.int v2_w_pattern_a1), (.int v3_w_pattern_a1)] (.int (0 : Int32))) (hlo5 : ¬ (p2 < (0 : Int32))) (hhi5 : p2 < (4 : Int32)) (hlo11 : ¬ (p3 < (0 : Int32))) (hhi11 : p3 < (4 : Int32)) :
    MetFree l (⟨"com/example/caliper2/caliper2/ScanInput$SameBytes", "test", "(II)Z"⟩ : MethodName) (head1 (Jvm.Cond.code (⟨"com/example/caliper2/caliper2/ScanInput$SameBytes", "test", "(II)Z"⟩ : MethodName) prog_56_method_2_code 3 (some .boolean) :: ws) ({ frames := 0, cells := 0, slots := 0, locals := 0 } : Room)) (fun a U => a = #[(.ref a1), (.int p2), (.int p3)] ∧ Z.Warmed39 U.vm ∧ U.heap = h0) (fun _ _ _ _ _ => True) (fun _ U o U' => ∃ v L, o = .returned v ∧ Q4 Z a1 p2 p3 w_pattern_a1 k_w_pattern_a1 v0_w_pattern_a1 v1_w_pattern_a1 v2_w_pattern_a1 v3_w_pattern_a1 h0 n0 v U'.heap L ∧ FrameEnd U o U' L ({ frames := 0, cells := 0, slots := 0, locals := 0 } : Room).cells ({ frames := 0, cells := 0, slots := 0, locals := 0 } : Room).slots) := by
  refine MetFree.of_bodySF (plainFor_of_name pn_1) hisR ?_
  intro p e s m args below meth c s₁ Bd hml0 hP hK
  obtain ⟨rfl, hZ, hh⟩ := hP
  have hx := Bd.exec
  have hby := Bd.bytes
  have hml : c.maxLocals = 3 := hml0
  have hown : s.vm.findClass "com/example/caliper2/caliper2/ScanInput$SameBytes" = some m.cls := findClass_of_methodNamed Bd.named
  have hnm := (name_of_methodNamed Bd.named Bd.method).1
  have X0 : Stand p l e ({ frames := 0, cells := 0, slots := 0, locals := 0 } : Room) s m #[(.ref a1), (.int p2), (.int p3)] below meth c s₁ [] 0 0 := Stand.of_body Bd
  have e0 : s₁.heap = h0 := by rw [← hh, Bd.state]; rfl
  have NN := Fr.nil n0
  have KK : Keep h0 h0 [] := Keep.refl h0 []
  refine own_start (ef_4 m a1 p2 p3) ?_
  refine own_go (T' := s₁) (g' := (mkF m 1 #[.val (.ref a1), .val (.int p2), .val (.int p3)] [(.ref a1)])) (fun t k => ?_) ?_
  · show Steps p.tables e below (s₁.setTop (mkF m 0 #[.val (.ref a1), .val (.int p2), .val (.int p3)] [])) _
    refine XS.aloadN X0.here hx rfl (hb hby d4_0) rfl rfl ?_
    exact k
  obtain ⟨T1, X1, e1, st1⟩ := getF X0 hx hZ hown (host := "") (Or.inl (hw _ (List.mem_of_getElem? (i := 15) rfl))) Via.refl e0 F_a1_pattern (g := (mkF m 1 #[.val (.ref a1), .val (.int p2), .val (.int p3)] [(.ref a1)])) rfl rfl (hb hby d4_1)
  refine own_go st1 ?_
  show own_Go p.tables e below _ T1 (mkF m 4 #[.val (.ref a1), .val (.int p2), .val (.int p3)] [(.ref w_pattern_a1)])
  refine own_go (T' := T1) (g' := (mkF m 5 #[.val (.ref a1), .val (.int p2), .val (.int p3)] [(.int p2), (.ref w_pattern_a1)])) (fun t k => ?_) ?_
  · show Steps p.tables e below (T1.setTop (mkF m 4 #[.val (.ref a1), .val (.int p2), .val (.int p3)] [(.ref w_pattern_a1)])) _
    refine XS.iloadN X1.here hx rfl (hb hby d4_4) rfl ?_
    exact k
  have Vq := V_w_pattern_a1
  obtain ⟨cl2, Ar2, q2, Sz2, Ng2, Hs2, Gs2⟩ := Vq
  have hin2 : ¬ (p2 < 0 ∨ cl2.slots.size ≤ (p2).toNatClampNeg) := inb_of Sz2 ⟨hlo5, hhi5⟩
  have hat2 : cl2.slots[(p2).toNatClampNeg]? = some (.int (own_sel4 v0_w_pattern_a1 v1_w_pattern_a1 v2_w_pattern_a1 v3_w_pattern_a1 p2)) := Hs2.at hin2 (own_sel4_at _ _ _ _ _ hlo5 hhi5 _)
  refine own_go (fun t k => X1.baloadBytes hx (j := p2) (v := (.int (own_sel4 v0_w_pattern_a1 v1_w_pattern_a1 v2_w_pattern_a1 v3_w_pattern_a1 p2))) (by rw [e1]; exact Ar2.1) (State.isArrayOf_alike hZ.alike Ar2.2.1) Ar2.2.2 hin2 hat2 (g := (mkF m 5 #[.val (.ref a1), .val (.int p2), .val (.int p3)] [(.int p2), (.ref w_pattern_a1)])) rfl rfl (hb hby d4_5) t k) ?_
  show own_Go p.tables e below _ T1 (mkF m 6 #[.val (.ref a1), .val (.int p2), .val (.int p3)] [(.int (own_sel4 v0_w_pattern_a1 v1_w_pattern_a1 v2_w_pattern_a1 v3_w_pattern_a1 p2))])
  refine own_go (T' := T1) (g' := (mkF m 7 #[.val (.ref a1), .val (.int p2), .val (.int p3)] [(.ref a1), (.int (own_sel4 v0_w_pattern_a1 v1_w_pattern_a1 v2_w_pattern_a1 v3_w_pattern_a1 p2))])) (fun t k => ?_) ?_
  · show Steps p.tables e below (T1.setTop (mkF m 6 #[.val (.ref a1), .val (.int p2), .val (.int p3)] [(.int (own_sel4 v0_w_pattern_a1 v1_w_pattern_a1 v2_w_pattern_a1 v3_w_pattern_a1 p2))])) _
    refine XS.aloadN X1.here hx rfl (hb hby d4_6) rfl rfl ?_
    exact k
  obtain ⟨T3, X3, e3, st3⟩ := getF X1 hx hZ hown (host := "") (Or.inl (hw _ (List.mem_of_getElem? (i := 15) rfl))) Via.refl e1 F_a1_pattern (g := (mkF m 7 #[.val (.ref a1), .val (.int p2), .val (.int p3)] [(.ref a1), (.int (own_sel4 v0_w_pattern_a1 v1_w_pattern_a1 v2_w_pattern_a1 v3_w_pattern_a1 p2))])) rfl rfl (hb hby d4_7)
  refine own_go st3 ?_
  show own_Go p.tables e below _ T3 (mkF m 10 #[.val (.ref a1), .val (.int p2), .val (.int p3)] [(.ref w_pattern_a1), (.int (own_sel4 v0_w_pattern_a1 v1_w_pattern_a1 v2_w_pattern_a1 v3_w_pattern_a1 p2))])
  refine own_go (T' := T3) (g' := (mkF m 11 #[.val (.ref a1), .val (.int p2), .val (.int p3)] [(.int p3), (.ref w_pattern_a1), (.int (own_sel4 v0_w_pattern_a1 v1_w_pattern_a1 v2_w_pattern_a1 v3_w_pattern_a1 p2))])) (fun t k => ?_) ?_
  · show Steps p.tables e below (T3.setTop (mkF m 10 #[.val (.ref a1), .val (.int p2), .val (.int p3)] [(.ref w_pattern_a1), (.int (own_sel4 v0_w_pattern_a1 v1_w_pattern_a1 v2_w_pattern_a1 v3_w_pattern_a1 p2))])) _
    refine XS.iloadN X3.here hx rfl (hb hby d4_10) rfl ?_
    exact k
  have Vq := V_w_pattern_a1
  obtain ⟨cl4, Ar4, q4, Sz4, Ng4, Hs4, Gs4⟩ := Vq
  have hin4 : ¬ (p3 < 0 ∨ cl4.slots.size ≤ (p3).toNatClampNeg) := inb_of Sz4 ⟨hlo11, hhi11⟩
  have hat4 : cl4.slots[(p3).toNatClampNeg]? = some (.int (own_sel4 v0_w_pattern_a1 v1_w_pattern_a1 v2_w_pattern_a1 v3_w_pattern_a1 p3)) := Hs4.at hin4 (own_sel4_at _ _ _ _ _ hlo11 hhi11 _)
  refine own_go (fun t k => X3.baloadBytes hx (j := p3) (v := (.int (own_sel4 v0_w_pattern_a1 v1_w_pattern_a1 v2_w_pattern_a1 v3_w_pattern_a1 p3))) (by rw [e3]; exact Ar4.1) (State.isArrayOf_alike hZ.alike Ar4.2.1) Ar4.2.2 hin4 hat4 (g := (mkF m 11 #[.val (.ref a1), .val (.int p2), .val (.int p3)] [(.int p3), (.ref w_pattern_a1), (.int (own_sel4 v0_w_pattern_a1 v1_w_pattern_a1 v2_w_pattern_a1 v3_w_pattern_a1 p2))])) rfl rfl (hb hby d4_11) t k) ?_
  show own_Go p.tables e below _ T3 (mkF m 12 #[.val (.ref a1), .val (.int p2), .val (.int p3)] [(.int (own_sel4 v0_w_pattern_a1 v1_w_pattern_a1 v2_w_pattern_a1 v3_w_pattern_a1 p3)), (.int (own_sel4 v0_w_pattern_a1 v1_w_pattern_a1 v2_w_pattern_a1 v3_w_pattern_a1 p2))])
  obtain ⟨j5, hj5, st6⟩ : ∃ (j5 : Int32), j5 = (if (own_sel4 v0_w_pattern_a1 v1_w_pattern_a1 v2_w_pattern_a1 v3_w_pattern_a1 p2) = (own_sel4 v0_w_pattern_a1 v1_w_pattern_a1 v2_w_pattern_a1 v3_w_pattern_a1 p3) then (1 : Int32) else (0 : Int32)) ∧ ∀ t, Steps p.tables e below (T3.setTop (mkF m 20 #[.val (.ref a1), .val (.int p2), .val (.int p3)] [(.int j5)])) t → Steps p.tables e below (T3.setTop (mkF m 12 #[.val (.ref a1), .val (.int p2), .val (.int p3)] [(.int (own_sel4 v0_w_pattern_a1 v1_w_pattern_a1 v2_w_pattern_a1 v3_w_pattern_a1 p3)), (.int (own_sel4 v0_w_pattern_a1 v1_w_pattern_a1 v2_w_pattern_a1 v3_w_pattern_a1 p2))])) t := by
    by_cases hc12_1 : (own_sel4 v0_w_pattern_a1 v1_w_pattern_a1 v2_w_pattern_a1 v3_w_pattern_a1 p2) = (own_sel4 v0_w_pattern_a1 v1_w_pattern_a1 v2_w_pattern_a1 v3_w_pattern_a1 p3)
    · skip
      refine ⟨(1 : Int32), (by simp only [if_pos hc12_1]), fun t k => ?_⟩
      show Steps p.tables e below (T3.setTop (mkF m 12 #[.val (.ref a1), .val (.int p2), .val (.int p3)] [(.int (own_sel4 v0_w_pattern_a1 v1_w_pattern_a1 v2_w_pattern_a1 v3_w_pattern_a1 p3)), (.int (own_sel4 v0_w_pattern_a1 v1_w_pattern_a1 v2_w_pattern_a1 v3_w_pattern_a1 p2))])) _
      refine XS.icmpNo X3.here hx rfl (hb hby d4_12) rfl (teq hc12_1).2 ?_
      show Steps p.tables e below (T3.setTop (mkF m 15 #[.val (.ref a1), .val (.int p2), .val (.int p3)] [])) _
      refine XS.iconst X3.here hx rfl (hb hby d4_15) ?_
      show Steps p.tables e below (T3.setTop (mkF m 16 #[.val (.ref a1), .val (.int p2), .val (.int p3)] [(.int (1 : Int32))])) _
      refine XS.goto X3.here hx rfl (pc0 := 16) (pc' := 20) rfl (hb hby d4_16) (by decide) (by decide) ?_
      exact k
    · skip
      refine ⟨(0 : Int32), (by simp only [if_neg hc12_1]), fun t k => ?_⟩
      show Steps p.tables e below (T3.setTop (mkF m 12 #[.val (.ref a1), .val (.int p2), .val (.int p3)] [(.int (own_sel4 v0_w_pattern_a1 v1_w_pattern_a1 v2_w_pattern_a1 v3_w_pattern_a1 p3)), (.int (own_sel4 v0_w_pattern_a1 v1_w_pattern_a1 v2_w_pattern_a1 v3_w_pattern_a1 p2))])) _
      refine XS.icmpYes X3.here hx rfl (pc0 := 12) (pc' := 19) rfl (hb hby d4_12) rfl (feq hc12_1).2 (by decide) (by decide) ?_
      show Steps p.tables e below (T3.setTop (mkF m 19 #[.val (.ref a1), .val (.int p2), .val (.int p3)] [])) _
      refine XS.iconst X3.here hx rfl (hb hby d4_19) ?_
      exact k
  refine own_go st6 ?_
  show own_Go p.tables e below _ T3 (mkF m 20 #[.val (.ref a1), .val (.int p2), .val (.int p3)] [(.int j5)])
  obtain ⟨fs, hr, hrun, hended, hW, hsame⟩ := X3.leave (v := some (.int (nar .boolean j5))) (fun h => by rw [Bd.returns] at h; cases h)
  refine ⟨_, _, ?_, hrun, hended, _, _, rfl, ?_, ⟨_, rfl⟩, hW, hsame.mono (by decide) (by decide)⟩
  · exact retN X3 hx (t := .boolean) Bd.returns (by simp) (hb hby d4_20) hr
  · show Q4 Z a1 p2 p3 w_pattern_a1 k_w_pattern_a1 v0_w_pattern_a1 v1_w_pattern_a1 v2_w_pattern_a1 v3_w_pattern_a1 h0 n0 _ T3.heap _
    rw [e3]
    exact ⟨(by first | (simp only [hj5, r_4, own_narZ, own_narC, own_narB]; done) | (subst hj5; first | (simp only [r_4, own_narZ, own_narC, own_narB]; done) | rfl)), NN, rfl⟩
theorem own_pl_u (p i : Int32) (k : Nat) (hk : ((8 : Int32) * i).toBitVec.toNat % 32 = k) (h0 : 0 < k) : (((p.toUInt32 >>> (((8 : Int32) * i) &&& 31).toUInt32).toInt32) &&& (255 : Int32)).toInt = (p.toInt % 4294967296) / (2 ^ k : Nat) % 256 := by
  have h := c_iushr p ((8 : Int32) * i) k hk h0
  have m := c_mask (((p.toUInt32 >>> (((8 : Int32) * i) &&& 31).toUInt32).toInt32)) (255 : Int32) 8 (by decide) (by decide)
  rw [m, h]; rfl
theorem own_pl_u0 (p : Int32) : (((p.toUInt32 >>> (((8 : Int32) * 0) &&& 31).toUInt32).toInt32) &&& (255 : Int32)).toInt = p.toInt % 256 := by
  have e : ((p.toUInt32 >>> (((8 : Int32) * 0) &&& 31).toUInt32).toInt32) = p := by
    apply Int32.toBitVec_inj.mp
    apply BitVec.eq_of_toNat_eq
    show (p.toUInt32 >>> (((8 : Int32) * 0) &&& 31).toUInt32).toNat = p.toUInt32.toNat
    rw [UInt32.toNat_shiftRight]
    exact Nat.shiftRight_zero
  rw [e, c_mask p (255 : Int32) 8 (by decide) (by decide)]; rfl
theorem own_pl_n (x : Int32) : ((nar .byte x.toInt8.toInt32).toInt - x.toInt) % 256 = 0 ∧ -128 ≤ (nar .byte x.toInt8.toInt32).toInt ∧ (nar .byte x.toInt8.toInt32).toInt < 128 := by
  have a := c_i2b x
  have b := c_i2b x.toInt8.toInt32
  refine ⟨?_, b.2⟩
  show (x.toInt8.toInt32.toInt8.toInt32.toInt - x.toInt) % 256 = 0
  omega
def own_pl_b (p i : Int32) : Int32 := own_sel4 (nar .byte p.toInt8.toInt32) (nar .byte (p >>> ((8 : Int32) &&& 31)).toInt8.toInt32) (nar .byte (p >>> ((16 : Int32) &&& 31)).toInt8.toInt32) (nar .byte (p >>> ((24 : Int32) &&& 31)).toInt8.toInt32) i
theorem own_pl_all (p i : Int32) (h : i = 0 ∨ i = 1 ∨ i = 2 ∨ i = 3) : ((own_pl_b p i).toInt - (((p.toUInt32 >>> (((8 : Int32) * i) &&& 31).toUInt32).toInt32) &&& (255 : Int32)).toInt) % 256 = 0 ∧ -128 ≤ (own_pl_b p i).toInt ∧ (own_pl_b p i).toInt < 128 ∧ 0 ≤ (((p.toUInt32 >>> (((8 : Int32) * i) &&& 31).toUInt32).toInt32) &&& (255 : Int32)).toInt ∧ (((p.toUInt32 >>> (((8 : Int32) * i) &&& 31).toUInt32).toInt32) &&& (255 : Int32)).toInt < 256 := by
  rcases h with rfl | rfl | rfl | rfl
  · have a := own_pl_n p
    have b := own_pl_u0 p
    have e : own_pl_b p 0 = nar .byte p.toInt8.toInt32 := rfl
    rw [e, b]
    omega
  · have a := own_pl_n (p >>> ((8 : Int32) &&& 31))
    have b := own_pl_u p 1 8 (by decide) (by decide)
    have c := c_ishr p (8 : Int32) 8 (by decide)
    have e : own_pl_b p 1 = nar .byte (p >>> ((8 : Int32) &&& 31)).toInt8.toInt32 := rfl
    rw [e, b]
    omega
  · have a := own_pl_n (p >>> ((16 : Int32) &&& 31))
    have b := own_pl_u p 2 16 (by decide) (by decide)
    have c := c_ishr p (16 : Int32) 16 (by decide)
    have e : own_pl_b p 2 = nar .byte (p >>> ((16 : Int32) &&& 31)).toInt8.toInt32 := rfl
    rw [e, b]
    omega
  · have a := own_pl_n (p >>> ((24 : Int32) &&& 31))
    have b := own_pl_u p 3 24 (by decide) (by decide)
    have c := c_ishr p (24 : Int32) 24 (by decide)
    have e : own_pl_b p 3 = nar .byte (p >>> ((24 : Int32) &&& 31)).toInt8.toInt32 := rfl
    rw [e, b]
    omega
theorem own_pl_mask (x y : Int32) (h : y = (x &&& (3 : Int32))) : ¬ (y < (0 : Int32)) ∧ y < (4 : Int32) := by
  have m := c_mask x (3 : Int32) 2 (by decide) (by decide)
  rw [← h] at m
  have k0 : (0 : Int32).toInt = 0 := rfl
  have k4 : (4 : Int32).toInt = 4 := rfl
  simp only [Int32.lt_iff_toInt_lt]
  omega
theorem pn_2 : plainName "com/example/caliper2/caliper2/SameBytesTestPinLaw" = true := by first | (simp [plainName, overriddenIn]; done) | decide +kernel
theorem pd_0 : parseMethodDescriptor "([B)V" = some ⟨[(.array .byte)], none⟩ := by decide +kernel
theorem pd_2 : parseMethodDescriptor "(II)Z" = some ⟨[.int, .int], some .boolean⟩ := by decide +kernel
theorem ef_0 (m : MethodId) (p1 : Int32) (p2 : Int32) (p3 : Int32) : entryFrame m #[(.int p1), (.int p2), (.int p3)] maxLocals = mkF m 0 #[.val (.int p1), .val (.int p2), .val (.int p3), .unset, .unset, .unset, .unset, .unset, .unset, .unset] [] := by first | (simp [entryFrame, mkF, argsToLocals, Value.category, maxLocals]; done) | rfl
def Q0 (Z : State) (p1 : Int32) (p2 : Int32) (p3 : Int32) (h0 : Heap) (n0 : Nat) (v : Option Value) (h : Heap) (L : List Loc) : Prop := v = some (.int 1) ∧ Fr n0 L
theorem own_at_hhlo5_99 (p2 : Int32) (j10 : Int32) (hj10 : j10 = (p2 &&& (3 : Int32))) : ¬ (j10 < (0 : Int32)) := by
  exact (own_pl_mask _ _ hj10).1
theorem own_at_hhhi5_99 (p2 : Int32) (j10 : Int32) (hj10 : j10 = (p2 &&& (3 : Int32))) (hhlo5_99 : ¬ (j10 < (0 : Int32))) : j10 < (4 : Int32) := by
  exact (own_pl_mask _ _ hj10).2
theorem own_at_hhlo11_99 (p2 : Int32) (p3 : Int32) (j10 : Int32) (j11 : Int32) (hj10 : j10 = (p2 &&& (3 : Int32))) (hj11 : j11 = (p3 &&& (3 : Int32))) (hhlo5_99 : ¬ (j10 < (0 : Int32))) (hhhi5_99 : j10 < (4 : Int32)) : ¬ (j11 < (0 : Int32)) := by
  exact (own_pl_mask _ _ hj11).1
theorem own_at_hhhi11_99 (p2 : Int32) (p3 : Int32) (j10 : Int32) (j11 : Int32) (hj10 : j10 = (p2 &&& (3 : Int32))) (hj11 : j11 = (p3 &&& (3 : Int32))) (hhlo5_99 : ¬ (j10 < (0 : Int32))) (hhhi5_99 : j10 < (4 : Int32)) (hhlo11_99 : ¬ (j11 < (0 : Int32))) : j11 < (4 : Int32) := by
  exact (own_pl_mask _ _ hj11).2
theorem own_yes_x (p1 : Int32) (p2 : Int32) (p3 : Int32) (j10 : Int32) (j11 : Int32) (j12 : Int32) (j13 : Int32) (j14 : Int32) (j19 : Int32) (hj10 : j10 = (p2 &&& (3 : Int32))) (hj11 : j11 = (p3 &&& (3 : Int32))) (hj12 : j12 = (((p1.toUInt32 >>> (((8 : Int32) * j10) &&& 31).toUInt32).toInt32) &&& (255 : Int32))) (hj13 : j13 = (((p1.toUInt32 >>> (((8 : Int32) * j11) &&& 31).toUInt32).toInt32) &&& (255 : Int32))) (hj14 : j14 = (if j12 = j13 then (1 : Int32) else (0 : Int32))) (hj19 : j19 = (if (r_4 j10 j11 (nar .byte p1.toInt8.toInt32) (nar .byte (p1 >>> ((8 : Int32) &&& 31)).toInt8.toInt32) (nar .byte (p1 >>> ((16 : Int32) &&& 31)).toInt8.toInt32) (nar .byte (p1 >>> ((24 : Int32) &&& 31)).toInt8.toInt32)) = j14 then (1 : Int32) else (0 : Int32))) (hhlo5_99 : ¬ (j10 < (0 : Int32))) (hhhi5_99 : j10 < (4 : Int32)) (hhlo11_99 : ¬ (j11 < (0 : Int32))) (hhhi11_99 : j11 < (4 : Int32)) : (nar .boolean j19) = 1 := by
  have a := own_pl_all p1 j10 (own_idx4 _ hhlo5_99 hhhi5_99)
  have b := own_pl_all p1 j11 (own_idx4 _ hhlo11_99 hhhi11_99)
  rw [← hj12] at a
  rw [← hj13] at b
  have q : (own_pl_b p1 j10 = own_pl_b p1 j11) ↔ j12 = j13 := by
    rw [← Int32.toInt_inj, ← Int32.toInt_inj]
    omega
  have e : r_4 j10 j11 (nar .byte p1.toInt8.toInt32) (nar .byte (p1 >>> ((8 : Int32) &&& 31)).toInt8.toInt32) (nar .byte (p1 >>> ((16 : Int32) &&& 31)).toInt8.toInt32) (nar .byte (p1 >>> ((24 : Int32) &&& 31)).toInt8.toInt32) = j14 := by
    show ((if own_pl_b p1 j10 = own_pl_b p1 j11 then (1 : Int32) else (0 : Int32)) &&& 1) = j14
    rw [hj14]
    by_cases z : j12 = j13
    · rw [if_pos z, if_pos (q.mpr z)]; rfl
    · rw [if_neg z, if_neg (fun y => z (q.mp y))]; rfl
  rw [hj19, if_pos e]
  rfl
set_option maxRecDepth 65536 in
set_option maxHeartbeats 40000000 in
theorem rm0 (l : Launch) (Z : State) (a0 : Array Value) (hw : ∀ d ∈ tables_1, d.before a0 Z = true) (ws : List Jvm.Cond) (p1 : Int32) (p2 : Int32) (p3 : Int32) (h0 : Heap) (n0 : Nat) (Z0 : n0 ≤ h0.size) :
    MetFree l x (head1 (Jvm.Cond.code x code maxLocals ret :: ws) room_1) (fun a U => a = #[(.int p1), (.int p2), (.int p3)] ∧ Z.Warmed39 U.vm ∧ U.heap = h0) (fun _ _ _ _ _ => True) (fun _ U o U' => ∃ v L, o = .returned v ∧ Q0 Z p1 p2 p3 h0 n0 v U'.heap L ∧ FrameEnd U o U' L room_1.cells room_1.slots) := by
  refine MetFree.of_bodySF (plainFor_of_name pn_2) hisR ?_
  intro p e s m args below meth c s₁ Bd hml0 hP hK
  obtain ⟨rfl, hZ, hh⟩ := hP
  have hx := Bd.exec
  have hby := Bd.bytes
  have hml : c.maxLocals = 10 := hml0
  have hown : s.vm.findClass "com/example/caliper2/caliper2/SameBytesTestPinLaw" = some m.cls := findClass_of_methodNamed Bd.named
  have hnm := (name_of_methodNamed Bd.named Bd.method).1
  have X0 : Stand p l e room_1 s m #[(.int p1), (.int p2), (.int p3)] below meth c s₁ [] 0 0 := Stand.of_body Bd
  have e0 : s₁.heap = h0 := by rw [← hh, Bd.state]; rfl
  have NN := Fr.nil n0
  have KK : Keep h0 h0 [] := Keep.refl h0 []
  refine own_start (ef_0 m p1 p2 p3) ?_
  refine own_go (T' := s₁) (g' := (mkF m 1 #[.val (.int p1), .val (.int p2), .val (.int p3), .unset, .unset, .unset, .unset, .unset, .unset, .unset] [(.int (4 : Int32))])) (fun t k => ?_) ?_
  · show Steps p.tables e below (s₁.setTop (mkF m 0 #[.val (.int p1), .val (.int p2), .val (.int p3), .unset, .unset, .unset, .unset, .unset, .unset, .unset] [])) _
    refine XS.iconst X0.here hx rfl (hb hby at_0) ?_
    exact k
  obtain ⟨T1, h1, k1, X1, e1, E1, A1, st1⟩ := newP X0 hx hZ (hw _ (List.mem_of_getElem? (i := 0) rfl)) e0 (g := (mkF m 1 #[.val (.int p1), .val (.int p2), .val (.int p3), .unset, .unset, .unset, .unset, .unset, .unset, .unset] [(.int (4 : Int32))])) rfl (hb hby at_1) rfl (by decide) (cap := 4) (by decide) (by decide) (by decide) (by decide)
  obtain ⟨b1, g1⟩ : ∃ z, z = h0.size := ⟨_, rfl⟩
  rw [← g1] at A1 st1
  have g_b1 : n0 ≤ b1 := Nat.le_trans Z0 (Nat.le_of_eq g1.symm)
  have sz_b1 : h0.size ≤ b1 := Nat.le_trans KK.1 (Nat.le_of_eq g1.symm)
  have Z0 := Nat.le_trans Z0 E1.1
  have KK := KK.ext E1
  have V_b1 : Arv Z h1 b1 k1 .byte (4 : Int32) [(.int (0 : Int32)), (.int (0 : Int32)), (.int (0 : Int32)), (.int (0 : Int32))] (.int (0 : Int32)) := (Arv.new A1 (by decide)).pad (pad_rep [] (.int (0 : Int32)) 4)
  refine own_go st1 ?_
  show own_Go p.tables e below _ T1 (mkF m 3 #[.val (.int p1), .val (.int p2), .val (.int p3), .unset, .unset, .unset, .unset, .unset, .unset, .unset] [(.ref b1)])
  refine own_go (T' := T1) (g' := (mkF m 8 #[.val (.int p1), .val (.int p2), .val (.int p3), .val (.ref b1), .unset, .unset, .unset, .unset, .unset, .unset] [(.int p1.toInt8.toInt32), (.int (0 : Int32)), (.ref b1)])) (fun t k => ?_) ?_
  · show Steps p.tables e below (T1.setTop (mkF m 3 #[.val (.int p1), .val (.int p2), .val (.int p3), .unset, .unset, .unset, .unset, .unset, .unset, .unset] [(.ref b1)])) _
    refine XS.astoreN X1.here hx rfl (hb hby at_3) rfl rfl (l' := #[.val (.int p1), .val (.int p2), .val (.int p3), .val (.ref b1), .unset, .unset, .unset, .unset, .unset, .unset]) rfl ?_
    show Steps p.tables e below (T1.setTop (mkF m 4 #[.val (.int p1), .val (.int p2), .val (.int p3), .val (.ref b1), .unset, .unset, .unset, .unset, .unset, .unset] [])) _
    refine XS.aloadN X1.here hx rfl (hb hby at_4) rfl rfl ?_
    show Steps p.tables e below (T1.setTop (mkF m 5 #[.val (.int p1), .val (.int p2), .val (.int p3), .val (.ref b1), .unset, .unset, .unset, .unset, .unset, .unset] [(.ref b1)])) _
    refine XS.iconst X1.here hx rfl (hb hby at_5) ?_
    show Steps p.tables e below (T1.setTop (mkF m 6 #[.val (.int p1), .val (.int p2), .val (.int p3), .val (.ref b1), .unset, .unset, .unset, .unset, .unset, .unset] [(.int (0 : Int32)), (.ref b1)])) _
    refine XS.iloadN X1.here hx rfl (hb hby at_6) rfl ?_
    show Steps p.tables e below (T1.setTop (mkF m 7 #[.val (.int p1), .val (.int p2), .val (.int p3), .val (.ref b1), .unset, .unset, .unset, .unset, .unset, .unset] [(.int p1), (.int (0 : Int32)), (.ref b1)])) _
    refine XS.i2b X1.here hx rfl (hb hby at_7) rfl ?_
    exact k
  have Vq := V_b1
  obtain ⟨cl2, Ar2, q2, Sz2, Ng2, Hs2, Gs2⟩ := Vq
  have hin2 : ¬ ((0 : Int32) < 0 ∨ cl2.slots.size ≤ ((0 : Int32)).toNatClampNeg) := inb_of Sz2 ⟨by decide, by decide⟩
  obtain ⟨T3, h3, X3, e3, W3, st3⟩ := stB X1 hx hZ e1 Ar2 (j := (0 : Int32)) hin2 (g := (mkF m 8 #[.val (.int p1), .val (.int p2), .val (.int p3), .val (.ref b1), .unset, .unset, .unset, .unset, .unset, .unset] [(.int p1.toInt8.toInt32), (.int (0 : Int32)), (.ref b1)])) rfl rfl (hb hby at_8)
  refine own_go st3 ?_
  have Z0 := Nat.le_trans Z0 (Keep.of_wr W3).1
  have KK := KK.wr W3 (Or.inr sz_b1)
  have NN := Fr.snoc X3 NN g_b1
  have V_b1 : Arv Z h3 b1 k1 .byte (4 : Int32) [(.int (nar .byte p1.toInt8.toInt32)), (.int (0 : Int32)), (.int (0 : Int32)), (.int (0 : Int32))] (.int (0 : Int32)) := Arv.set Ar2 q2 Sz2 Ng2 Hs2 Gs2 (fits_nar_byte _) W3 0 rfl (Nat.le_of_ble_eq_true rfl)
  show own_Go p.tables e below _ T3 (mkF m 9 #[.val (.int p1), .val (.int p2), .val (.int p3), .val (.ref b1), .unset, .unset, .unset, .unset, .unset, .unset] [])
  refine own_go (T' := T3) (g' := (mkF m 16 #[.val (.int p1), .val (.int p2), .val (.int p3), .val (.ref b1), .unset, .unset, .unset, .unset, .unset, .unset] [(.int (p1 >>> ((8 : Int32) &&& 31)).toInt8.toInt32), (.int (1 : Int32)), (.ref b1)])) (fun t k => ?_) ?_
  · show Steps p.tables e below (T3.setTop (mkF m 9 #[.val (.int p1), .val (.int p2), .val (.int p3), .val (.ref b1), .unset, .unset, .unset, .unset, .unset, .unset] [])) _
    refine XS.aloadN X3.here hx rfl (hb hby at_9) rfl rfl ?_
    show Steps p.tables e below (T3.setTop (mkF m 10 #[.val (.int p1), .val (.int p2), .val (.int p3), .val (.ref b1), .unset, .unset, .unset, .unset, .unset, .unset] [(.ref b1)])) _
    refine XS.iconst X3.here hx rfl (hb hby at_10) ?_
    show Steps p.tables e below (T3.setTop (mkF m 11 #[.val (.int p1), .val (.int p2), .val (.int p3), .val (.ref b1), .unset, .unset, .unset, .unset, .unset, .unset] [(.int (1 : Int32)), (.ref b1)])) _
    refine XS.iloadN X3.here hx rfl (hb hby at_11) rfl ?_
    show Steps p.tables e below (T3.setTop (mkF m 12 #[.val (.int p1), .val (.int p2), .val (.int p3), .val (.ref b1), .unset, .unset, .unset, .unset, .unset, .unset] [(.int p1), (.int (1 : Int32)), (.ref b1)])) _
    refine XS.bipush X3.here hx rfl (hb hby at_12) ?_
    show Steps p.tables e below (T3.setTop (mkF m 14 #[.val (.int p1), .val (.int p2), .val (.int p3), .val (.ref b1), .unset, .unset, .unset, .unset, .unset, .unset] [(.int (8 : Int32)), (.int p1), (.int (1 : Int32)), (.ref b1)])) _
    refine XS.ishr X3.here hx rfl (hb hby at_14) rfl ?_
    show Steps p.tables e below (T3.setTop (mkF m 15 #[.val (.int p1), .val (.int p2), .val (.int p3), .val (.ref b1), .unset, .unset, .unset, .unset, .unset, .unset] [(.int (p1 >>> ((8 : Int32) &&& 31))), (.int (1 : Int32)), (.ref b1)])) _
    refine XS.i2b X3.here hx rfl (hb hby at_15) rfl ?_
    exact k
  have Vq := V_b1
  obtain ⟨cl4, Ar4, q4, Sz4, Ng4, Hs4, Gs4⟩ := Vq
  have hin4 : ¬ ((1 : Int32) < 0 ∨ cl4.slots.size ≤ ((1 : Int32)).toNatClampNeg) := inb_of Sz4 ⟨by decide, by decide⟩
  obtain ⟨T5, h5, X5, e5, W5, st5⟩ := stB X3 hx hZ e3 Ar4 (j := (1 : Int32)) hin4 (g := (mkF m 16 #[.val (.int p1), .val (.int p2), .val (.int p3), .val (.ref b1), .unset, .unset, .unset, .unset, .unset, .unset] [(.int (p1 >>> ((8 : Int32) &&& 31)).toInt8.toInt32), (.int (1 : Int32)), (.ref b1)])) rfl rfl (hb hby at_16)
  refine own_go st5 ?_
  have Z0 := Nat.le_trans Z0 (Keep.of_wr W5).1
  have KK := KK.wr W5 (Or.inr sz_b1)
  have NN := Fr.snoc X5 NN g_b1
  have V_b1 : Arv Z h5 b1 k1 .byte (4 : Int32) [(.int (nar .byte p1.toInt8.toInt32)), (.int (nar .byte (p1 >>> ((8 : Int32) &&& 31)).toInt8.toInt32)), (.int (0 : Int32)), (.int (0 : Int32))] (.int (0 : Int32)) := Arv.set Ar4 q4 Sz4 Ng4 Hs4 Gs4 (fits_nar_byte _) W5 1 rfl (Nat.le_of_ble_eq_true rfl)
  show own_Go p.tables e below _ T5 (mkF m 17 #[.val (.int p1), .val (.int p2), .val (.int p3), .val (.ref b1), .unset, .unset, .unset, .unset, .unset, .unset] [])
  refine own_go (T' := T5) (g' := (mkF m 24 #[.val (.int p1), .val (.int p2), .val (.int p3), .val (.ref b1), .unset, .unset, .unset, .unset, .unset, .unset] [(.int (p1 >>> ((16 : Int32) &&& 31)).toInt8.toInt32), (.int (2 : Int32)), (.ref b1)])) (fun t k => ?_) ?_
  · show Steps p.tables e below (T5.setTop (mkF m 17 #[.val (.int p1), .val (.int p2), .val (.int p3), .val (.ref b1), .unset, .unset, .unset, .unset, .unset, .unset] [])) _
    refine XS.aloadN X5.here hx rfl (hb hby at_17) rfl rfl ?_
    show Steps p.tables e below (T5.setTop (mkF m 18 #[.val (.int p1), .val (.int p2), .val (.int p3), .val (.ref b1), .unset, .unset, .unset, .unset, .unset, .unset] [(.ref b1)])) _
    refine XS.iconst X5.here hx rfl (hb hby at_18) ?_
    show Steps p.tables e below (T5.setTop (mkF m 19 #[.val (.int p1), .val (.int p2), .val (.int p3), .val (.ref b1), .unset, .unset, .unset, .unset, .unset, .unset] [(.int (2 : Int32)), (.ref b1)])) _
    refine XS.iloadN X5.here hx rfl (hb hby at_19) rfl ?_
    show Steps p.tables e below (T5.setTop (mkF m 20 #[.val (.int p1), .val (.int p2), .val (.int p3), .val (.ref b1), .unset, .unset, .unset, .unset, .unset, .unset] [(.int p1), (.int (2 : Int32)), (.ref b1)])) _
    refine XS.bipush X5.here hx rfl (hb hby at_20) ?_
    show Steps p.tables e below (T5.setTop (mkF m 22 #[.val (.int p1), .val (.int p2), .val (.int p3), .val (.ref b1), .unset, .unset, .unset, .unset, .unset, .unset] [(.int (16 : Int32)), (.int p1), (.int (2 : Int32)), (.ref b1)])) _
    refine XS.ishr X5.here hx rfl (hb hby at_22) rfl ?_
    show Steps p.tables e below (T5.setTop (mkF m 23 #[.val (.int p1), .val (.int p2), .val (.int p3), .val (.ref b1), .unset, .unset, .unset, .unset, .unset, .unset] [(.int (p1 >>> ((16 : Int32) &&& 31))), (.int (2 : Int32)), (.ref b1)])) _
    refine XS.i2b X5.here hx rfl (hb hby at_23) rfl ?_
    exact k
  have Vq := V_b1
  obtain ⟨cl6, Ar6, q6, Sz6, Ng6, Hs6, Gs6⟩ := Vq
  have hin6 : ¬ ((2 : Int32) < 0 ∨ cl6.slots.size ≤ ((2 : Int32)).toNatClampNeg) := inb_of Sz6 ⟨by decide, by decide⟩
  obtain ⟨T7, h7, X7, e7, W7, st7⟩ := stB X5 hx hZ e5 Ar6 (j := (2 : Int32)) hin6 (g := (mkF m 24 #[.val (.int p1), .val (.int p2), .val (.int p3), .val (.ref b1), .unset, .unset, .unset, .unset, .unset, .unset] [(.int (p1 >>> ((16 : Int32) &&& 31)).toInt8.toInt32), (.int (2 : Int32)), (.ref b1)])) rfl rfl (hb hby at_24)
  refine own_go st7 ?_
  have Z0 := Nat.le_trans Z0 (Keep.of_wr W7).1
  have KK := KK.wr W7 (Or.inr sz_b1)
  have NN := Fr.snoc X7 NN g_b1
  have V_b1 : Arv Z h7 b1 k1 .byte (4 : Int32) [(.int (nar .byte p1.toInt8.toInt32)), (.int (nar .byte (p1 >>> ((8 : Int32) &&& 31)).toInt8.toInt32)), (.int (nar .byte (p1 >>> ((16 : Int32) &&& 31)).toInt8.toInt32)), (.int (0 : Int32))] (.int (0 : Int32)) := Arv.set Ar6 q6 Sz6 Ng6 Hs6 Gs6 (fits_nar_byte _) W7 2 rfl (Nat.le_of_ble_eq_true rfl)
  show own_Go p.tables e below _ T7 (mkF m 25 #[.val (.int p1), .val (.int p2), .val (.int p3), .val (.ref b1), .unset, .unset, .unset, .unset, .unset, .unset] [])
  refine own_go (T' := T7) (g' := (mkF m 32 #[.val (.int p1), .val (.int p2), .val (.int p3), .val (.ref b1), .unset, .unset, .unset, .unset, .unset, .unset] [(.int (p1 >>> ((24 : Int32) &&& 31)).toInt8.toInt32), (.int (3 : Int32)), (.ref b1)])) (fun t k => ?_) ?_
  · show Steps p.tables e below (T7.setTop (mkF m 25 #[.val (.int p1), .val (.int p2), .val (.int p3), .val (.ref b1), .unset, .unset, .unset, .unset, .unset, .unset] [])) _
    refine XS.aloadN X7.here hx rfl (hb hby at_25) rfl rfl ?_
    show Steps p.tables e below (T7.setTop (mkF m 26 #[.val (.int p1), .val (.int p2), .val (.int p3), .val (.ref b1), .unset, .unset, .unset, .unset, .unset, .unset] [(.ref b1)])) _
    refine XS.iconst X7.here hx rfl (hb hby at_26) ?_
    show Steps p.tables e below (T7.setTop (mkF m 27 #[.val (.int p1), .val (.int p2), .val (.int p3), .val (.ref b1), .unset, .unset, .unset, .unset, .unset, .unset] [(.int (3 : Int32)), (.ref b1)])) _
    refine XS.iloadN X7.here hx rfl (hb hby at_27) rfl ?_
    show Steps p.tables e below (T7.setTop (mkF m 28 #[.val (.int p1), .val (.int p2), .val (.int p3), .val (.ref b1), .unset, .unset, .unset, .unset, .unset, .unset] [(.int p1), (.int (3 : Int32)), (.ref b1)])) _
    refine XS.bipush X7.here hx rfl (hb hby at_28) ?_
    show Steps p.tables e below (T7.setTop (mkF m 30 #[.val (.int p1), .val (.int p2), .val (.int p3), .val (.ref b1), .unset, .unset, .unset, .unset, .unset, .unset] [(.int (24 : Int32)), (.int p1), (.int (3 : Int32)), (.ref b1)])) _
    refine XS.ishr X7.here hx rfl (hb hby at_30) rfl ?_
    show Steps p.tables e below (T7.setTop (mkF m 31 #[.val (.int p1), .val (.int p2), .val (.int p3), .val (.ref b1), .unset, .unset, .unset, .unset, .unset, .unset] [(.int (p1 >>> ((24 : Int32) &&& 31))), (.int (3 : Int32)), (.ref b1)])) _
    refine XS.i2b X7.here hx rfl (hb hby at_31) rfl ?_
    exact k
  have Vq := V_b1
  obtain ⟨cl8, Ar8, q8, Sz8, Ng8, Hs8, Gs8⟩ := Vq
  have hin8 : ¬ ((3 : Int32) < 0 ∨ cl8.slots.size ≤ ((3 : Int32)).toNatClampNeg) := inb_of Sz8 ⟨by decide, by decide⟩
  obtain ⟨T9, h9, X9, e9, W9, st9⟩ := stB X7 hx hZ e7 Ar8 (j := (3 : Int32)) hin8 (g := (mkF m 32 #[.val (.int p1), .val (.int p2), .val (.int p3), .val (.ref b1), .unset, .unset, .unset, .unset, .unset, .unset] [(.int (p1 >>> ((24 : Int32) &&& 31)).toInt8.toInt32), (.int (3 : Int32)), (.ref b1)])) rfl rfl (hb hby at_32)
  refine own_go st9 ?_
  have Z0 := Nat.le_trans Z0 (Keep.of_wr W9).1
  have KK := KK.wr W9 (Or.inr sz_b1)
  have NN := Fr.snoc X9 NN g_b1
  have V_b1 : Arv Z h9 b1 k1 .byte (4 : Int32) [(.int (nar .byte p1.toInt8.toInt32)), (.int (nar .byte (p1 >>> ((8 : Int32) &&& 31)).toInt8.toInt32)), (.int (nar .byte (p1 >>> ((16 : Int32) &&& 31)).toInt8.toInt32)), (.int (nar .byte (p1 >>> ((24 : Int32) &&& 31)).toInt8.toInt32))] (.int (0 : Int32)) := Arv.set Ar8 q8 Sz8 Ng8 Hs8 Gs8 (fits_nar_byte _) W9 3 rfl (Nat.le_of_ble_eq_true rfl)
  show own_Go p.tables e below _ T9 (mkF m 33 #[.val (.int p1), .val (.int p2), .val (.int p3), .val (.ref b1), .unset, .unset, .unset, .unset, .unset, .unset] [])
  refine own_go (T' := T9) (g' := (mkF m 38 #[.val (.int p1), .val (.int p2), .val (.int p3), .val (.ref b1), .val (.int (p2 &&& (3 : Int32))), .unset, .unset, .unset, .unset, .unset] [])) (fun t k => ?_) ?_
  · show Steps p.tables e below (T9.setTop (mkF m 33 #[.val (.int p1), .val (.int p2), .val (.int p3), .val (.ref b1), .unset, .unset, .unset, .unset, .unset, .unset] [])) _
    refine XS.iloadN X9.here hx rfl (hb hby at_33) rfl ?_
    show Steps p.tables e below (T9.setTop (mkF m 34 #[.val (.int p1), .val (.int p2), .val (.int p3), .val (.ref b1), .unset, .unset, .unset, .unset, .unset, .unset] [(.int p2)])) _
    refine XS.iconst X9.here hx rfl (hb hby at_34) ?_
    show Steps p.tables e below (T9.setTop (mkF m 35 #[.val (.int p1), .val (.int p2), .val (.int p3), .val (.ref b1), .unset, .unset, .unset, .unset, .unset, .unset] [(.int (3 : Int32)), (.int p2)])) _
    refine XS.iand X9.here hx rfl (hb hby at_35) rfl ?_
    show Steps p.tables e below (T9.setTop (mkF m 36 #[.val (.int p1), .val (.int p2), .val (.int p3), .val (.ref b1), .unset, .unset, .unset, .unset, .unset, .unset] [(.int (p2 &&& (3 : Int32)))])) _
    refine XS.istore X9.here hx rfl (hb hby at_36) rfl (l' := #[.val (.int p1), .val (.int p2), .val (.int p3), .val (.ref b1), .val (.int (p2 &&& (3 : Int32))), .unset, .unset, .unset, .unset, .unset]) rfl ?_
    exact k
  show own_Go p.tables e below _ T9 (mkF m 38 #[.val (.int p1), .val (.int p2), .val (.int p3), .val (.ref b1), .val (.int (p2 &&& (3 : Int32))), .unset, .unset, .unset, .unset, .unset] [])
  obtain ⟨j10, hj10⟩ : ∃ z : Int32, z = (p2 &&& (3 : Int32)) := ⟨_, rfl⟩
  rw [← hj10]
  show own_Go p.tables e below _ T9 (mkF m 38 #[.val (.int p1), .val (.int p2), .val (.int p3), .val (.ref b1), .val (.int j10), .unset, .unset, .unset, .unset, .unset] [])
  refine own_go (T' := T9) (g' := (mkF m 43 #[.val (.int p1), .val (.int p2), .val (.int p3), .val (.ref b1), .val (.int j10), .val (.int (p3 &&& (3 : Int32))), .unset, .unset, .unset, .unset] [])) (fun t k => ?_) ?_
  · show Steps p.tables e below (T9.setTop (mkF m 38 #[.val (.int p1), .val (.int p2), .val (.int p3), .val (.ref b1), .val (.int j10), .unset, .unset, .unset, .unset, .unset] [])) _
    refine XS.iloadN X9.here hx rfl (hb hby at_38) rfl ?_
    show Steps p.tables e below (T9.setTop (mkF m 39 #[.val (.int p1), .val (.int p2), .val (.int p3), .val (.ref b1), .val (.int j10), .unset, .unset, .unset, .unset, .unset] [(.int p3)])) _
    refine XS.iconst X9.here hx rfl (hb hby at_39) ?_
    show Steps p.tables e below (T9.setTop (mkF m 40 #[.val (.int p1), .val (.int p2), .val (.int p3), .val (.ref b1), .val (.int j10), .unset, .unset, .unset, .unset, .unset] [(.int (3 : Int32)), (.int p3)])) _
    refine XS.iand X9.here hx rfl (hb hby at_40) rfl ?_
    show Steps p.tables e below (T9.setTop (mkF m 41 #[.val (.int p1), .val (.int p2), .val (.int p3), .val (.ref b1), .val (.int j10), .unset, .unset, .unset, .unset, .unset] [(.int (p3 &&& (3 : Int32)))])) _
    refine XS.istore X9.here hx rfl (hb hby at_41) rfl (l' := #[.val (.int p1), .val (.int p2), .val (.int p3), .val (.ref b1), .val (.int j10), .val (.int (p3 &&& (3 : Int32))), .unset, .unset, .unset, .unset]) rfl ?_
    exact k
  show own_Go p.tables e below _ T9 (mkF m 43 #[.val (.int p1), .val (.int p2), .val (.int p3), .val (.ref b1), .val (.int j10), .val (.int (p3 &&& (3 : Int32))), .unset, .unset, .unset, .unset] [])
  obtain ⟨j11, hj11⟩ : ∃ z : Int32, z = (p3 &&& (3 : Int32)) := ⟨_, rfl⟩
  rw [← hj11]
  show own_Go p.tables e below _ T9 (mkF m 43 #[.val (.int p1), .val (.int p2), .val (.int p3), .val (.ref b1), .val (.int j10), .val (.int j11), .unset, .unset, .unset, .unset] [])
  refine own_go (T' := T9) (g' := (mkF m 56 #[.val (.int p1), .val (.int p2), .val (.int p3), .val (.ref b1), .val (.int j10), .val (.int j11), .val (.int (((p1.toUInt32 >>> (((8 : Int32) * j10) &&& 31).toUInt32).toInt32) &&& (255 : Int32))), .unset, .unset, .unset] [])) (fun t k => ?_) ?_
  · show Steps p.tables e below (T9.setTop (mkF m 43 #[.val (.int p1), .val (.int p2), .val (.int p3), .val (.ref b1), .val (.int j10), .val (.int j11), .unset, .unset, .unset, .unset] [])) _
    refine XS.iloadN X9.here hx rfl (hb hby at_43) rfl ?_
    show Steps p.tables e below (T9.setTop (mkF m 44 #[.val (.int p1), .val (.int p2), .val (.int p3), .val (.ref b1), .val (.int j10), .val (.int j11), .unset, .unset, .unset, .unset] [(.int p1)])) _
    refine XS.bipush X9.here hx rfl (hb hby at_44) ?_
    show Steps p.tables e below (T9.setTop (mkF m 46 #[.val (.int p1), .val (.int p2), .val (.int p3), .val (.ref b1), .val (.int j10), .val (.int j11), .unset, .unset, .unset, .unset] [(.int (8 : Int32)), (.int p1)])) _
    refine XS.iload X9.here hx rfl (hb hby at_46) rfl ?_
    show Steps p.tables e below (T9.setTop (mkF m 48 #[.val (.int p1), .val (.int p2), .val (.int p3), .val (.ref b1), .val (.int j10), .val (.int j11), .unset, .unset, .unset, .unset] [(.int j10), (.int (8 : Int32)), (.int p1)])) _
    refine XS.imul X9.here hx rfl (hb hby at_48) rfl ?_
    show Steps p.tables e below (T9.setTop (mkF m 49 #[.val (.int p1), .val (.int p2), .val (.int p3), .val (.ref b1), .val (.int j10), .val (.int j11), .unset, .unset, .unset, .unset] [(.int ((8 : Int32) * j10)), (.int p1)])) _
    refine XS.iushr X9.here hx rfl (hb hby at_49) rfl ?_
    show Steps p.tables e below (T9.setTop (mkF m 50 #[.val (.int p1), .val (.int p2), .val (.int p3), .val (.ref b1), .val (.int j10), .val (.int j11), .unset, .unset, .unset, .unset] [(.int ((p1.toUInt32 >>> (((8 : Int32) * j10) &&& 31).toUInt32).toInt32))])) _
    refine XS.sipush X9.here hx rfl (hb hby at_50) ?_
    show Steps p.tables e below (T9.setTop (mkF m 53 #[.val (.int p1), .val (.int p2), .val (.int p3), .val (.ref b1), .val (.int j10), .val (.int j11), .unset, .unset, .unset, .unset] [(.int (255 : Int32)), (.int ((p1.toUInt32 >>> (((8 : Int32) * j10) &&& 31).toUInt32).toInt32))])) _
    refine XS.iand X9.here hx rfl (hb hby at_53) rfl ?_
    show Steps p.tables e below (T9.setTop (mkF m 54 #[.val (.int p1), .val (.int p2), .val (.int p3), .val (.ref b1), .val (.int j10), .val (.int j11), .unset, .unset, .unset, .unset] [(.int (((p1.toUInt32 >>> (((8 : Int32) * j10) &&& 31).toUInt32).toInt32) &&& (255 : Int32)))])) _
    refine XS.istore X9.here hx rfl (hb hby at_54) rfl (l' := #[.val (.int p1), .val (.int p2), .val (.int p3), .val (.ref b1), .val (.int j10), .val (.int j11), .val (.int (((p1.toUInt32 >>> (((8 : Int32) * j10) &&& 31).toUInt32).toInt32) &&& (255 : Int32))), .unset, .unset, .unset]) rfl ?_
    exact k
  show own_Go p.tables e below _ T9 (mkF m 56 #[.val (.int p1), .val (.int p2), .val (.int p3), .val (.ref b1), .val (.int j10), .val (.int j11), .val (.int (((p1.toUInt32 >>> (((8 : Int32) * j10) &&& 31).toUInt32).toInt32) &&& (255 : Int32))), .unset, .unset, .unset] [])
  obtain ⟨j12, hj12⟩ : ∃ z : Int32, z = (((p1.toUInt32 >>> (((8 : Int32) * j10) &&& 31).toUInt32).toInt32) &&& (255 : Int32)) := ⟨_, rfl⟩
  rw [← hj12]
  show own_Go p.tables e below _ T9 (mkF m 56 #[.val (.int p1), .val (.int p2), .val (.int p3), .val (.ref b1), .val (.int j10), .val (.int j11), .val (.int j12), .unset, .unset, .unset] [])
  refine own_go (T' := T9) (g' := (mkF m 69 #[.val (.int p1), .val (.int p2), .val (.int p3), .val (.ref b1), .val (.int j10), .val (.int j11), .val (.int j12), .val (.int (((p1.toUInt32 >>> (((8 : Int32) * j11) &&& 31).toUInt32).toInt32) &&& (255 : Int32))), .unset, .unset] [])) (fun t k => ?_) ?_
  · show Steps p.tables e below (T9.setTop (mkF m 56 #[.val (.int p1), .val (.int p2), .val (.int p3), .val (.ref b1), .val (.int j10), .val (.int j11), .val (.int j12), .unset, .unset, .unset] [])) _
    refine XS.iloadN X9.here hx rfl (hb hby at_56) rfl ?_
    show Steps p.tables e below (T9.setTop (mkF m 57 #[.val (.int p1), .val (.int p2), .val (.int p3), .val (.ref b1), .val (.int j10), .val (.int j11), .val (.int j12), .unset, .unset, .unset] [(.int p1)])) _
    refine XS.bipush X9.here hx rfl (hb hby at_57) ?_
    show Steps p.tables e below (T9.setTop (mkF m 59 #[.val (.int p1), .val (.int p2), .val (.int p3), .val (.ref b1), .val (.int j10), .val (.int j11), .val (.int j12), .unset, .unset, .unset] [(.int (8 : Int32)), (.int p1)])) _
    refine XS.iload X9.here hx rfl (hb hby at_59) rfl ?_
    show Steps p.tables e below (T9.setTop (mkF m 61 #[.val (.int p1), .val (.int p2), .val (.int p3), .val (.ref b1), .val (.int j10), .val (.int j11), .val (.int j12), .unset, .unset, .unset] [(.int j11), (.int (8 : Int32)), (.int p1)])) _
    refine XS.imul X9.here hx rfl (hb hby at_61) rfl ?_
    show Steps p.tables e below (T9.setTop (mkF m 62 #[.val (.int p1), .val (.int p2), .val (.int p3), .val (.ref b1), .val (.int j10), .val (.int j11), .val (.int j12), .unset, .unset, .unset] [(.int ((8 : Int32) * j11)), (.int p1)])) _
    refine XS.iushr X9.here hx rfl (hb hby at_62) rfl ?_
    show Steps p.tables e below (T9.setTop (mkF m 63 #[.val (.int p1), .val (.int p2), .val (.int p3), .val (.ref b1), .val (.int j10), .val (.int j11), .val (.int j12), .unset, .unset, .unset] [(.int ((p1.toUInt32 >>> (((8 : Int32) * j11) &&& 31).toUInt32).toInt32))])) _
    refine XS.sipush X9.here hx rfl (hb hby at_63) ?_
    show Steps p.tables e below (T9.setTop (mkF m 66 #[.val (.int p1), .val (.int p2), .val (.int p3), .val (.ref b1), .val (.int j10), .val (.int j11), .val (.int j12), .unset, .unset, .unset] [(.int (255 : Int32)), (.int ((p1.toUInt32 >>> (((8 : Int32) * j11) &&& 31).toUInt32).toInt32))])) _
    refine XS.iand X9.here hx rfl (hb hby at_66) rfl ?_
    show Steps p.tables e below (T9.setTop (mkF m 67 #[.val (.int p1), .val (.int p2), .val (.int p3), .val (.ref b1), .val (.int j10), .val (.int j11), .val (.int j12), .unset, .unset, .unset] [(.int (((p1.toUInt32 >>> (((8 : Int32) * j11) &&& 31).toUInt32).toInt32) &&& (255 : Int32)))])) _
    refine XS.istore X9.here hx rfl (hb hby at_67) rfl (l' := #[.val (.int p1), .val (.int p2), .val (.int p3), .val (.ref b1), .val (.int j10), .val (.int j11), .val (.int j12), .val (.int (((p1.toUInt32 >>> (((8 : Int32) * j11) &&& 31).toUInt32).toInt32) &&& (255 : Int32))), .unset, .unset]) rfl ?_
    exact k
  show own_Go p.tables e below _ T9 (mkF m 69 #[.val (.int p1), .val (.int p2), .val (.int p3), .val (.ref b1), .val (.int j10), .val (.int j11), .val (.int j12), .val (.int (((p1.toUInt32 >>> (((8 : Int32) * j11) &&& 31).toUInt32).toInt32) &&& (255 : Int32))), .unset, .unset] [])
  obtain ⟨j13, hj13⟩ : ∃ z : Int32, z = (((p1.toUInt32 >>> (((8 : Int32) * j11) &&& 31).toUInt32).toInt32) &&& (255 : Int32)) := ⟨_, rfl⟩
  rw [← hj13]
  show own_Go p.tables e below _ T9 (mkF m 69 #[.val (.int p1), .val (.int p2), .val (.int p3), .val (.ref b1), .val (.int j10), .val (.int j11), .val (.int j12), .val (.int j13), .unset, .unset] [])
  refine own_go (T' := T9) (g' := (mkF m 73 #[.val (.int p1), .val (.int p2), .val (.int p3), .val (.ref b1), .val (.int j10), .val (.int j11), .val (.int j12), .val (.int j13), .unset, .unset] [(.int j13), (.int j12)])) (fun t k => ?_) ?_
  · show Steps p.tables e below (T9.setTop (mkF m 69 #[.val (.int p1), .val (.int p2), .val (.int p3), .val (.ref b1), .val (.int j10), .val (.int j11), .val (.int j12), .val (.int j13), .unset, .unset] [])) _
    refine XS.iload X9.here hx rfl (hb hby at_69) rfl ?_
    show Steps p.tables e below (T9.setTop (mkF m 71 #[.val (.int p1), .val (.int p2), .val (.int p3), .val (.ref b1), .val (.int j10), .val (.int j11), .val (.int j12), .val (.int j13), .unset, .unset] [(.int j12)])) _
    refine XS.iload X9.here hx rfl (hb hby at_71) rfl ?_
    exact k
  obtain ⟨j14, hj14, st15⟩ : ∃ (j14 : Int32), j14 = (if j12 = j13 then (1 : Int32) else (0 : Int32)) ∧ ∀ t, Steps p.tables e below (T9.setTop (mkF m 81 #[.val (.int p1), .val (.int p2), .val (.int p3), .val (.ref b1), .val (.int j10), .val (.int j11), .val (.int j12), .val (.int j13), .unset, .unset] [(.int j14)])) t → Steps p.tables e below (T9.setTop (mkF m 73 #[.val (.int p1), .val (.int p2), .val (.int p3), .val (.ref b1), .val (.int j10), .val (.int j11), .val (.int j12), .val (.int j13), .unset, .unset] [(.int j13), (.int j12)])) t := by
    by_cases hc73_1 : j12 = j13
    · skip
      refine ⟨(1 : Int32), (by simp only [if_pos hc73_1]), fun t k => ?_⟩
      show Steps p.tables e below (T9.setTop (mkF m 73 #[.val (.int p1), .val (.int p2), .val (.int p3), .val (.ref b1), .val (.int j10), .val (.int j11), .val (.int j12), .val (.int j13), .unset, .unset] [(.int j13), (.int j12)])) _
      refine XS.icmpNo X9.here hx rfl (hb hby at_73) rfl (teq hc73_1).2 ?_
      show Steps p.tables e below (T9.setTop (mkF m 76 #[.val (.int p1), .val (.int p2), .val (.int p3), .val (.ref b1), .val (.int j10), .val (.int j11), .val (.int j12), .val (.int j13), .unset, .unset] [])) _
      refine XS.iconst X9.here hx rfl (hb hby at_76) ?_
      show Steps p.tables e below (T9.setTop (mkF m 77 #[.val (.int p1), .val (.int p2), .val (.int p3), .val (.ref b1), .val (.int j10), .val (.int j11), .val (.int j12), .val (.int j13), .unset, .unset] [(.int (1 : Int32))])) _
      refine XS.goto X9.here hx rfl (pc0 := 77) (pc' := 81) rfl (hb hby at_77) (by decide) (by decide) ?_
      exact k
    · skip
      refine ⟨(0 : Int32), (by simp only [if_neg hc73_1]), fun t k => ?_⟩
      show Steps p.tables e below (T9.setTop (mkF m 73 #[.val (.int p1), .val (.int p2), .val (.int p3), .val (.ref b1), .val (.int j10), .val (.int j11), .val (.int j12), .val (.int j13), .unset, .unset] [(.int j13), (.int j12)])) _
      refine XS.icmpYes X9.here hx rfl (pc0 := 73) (pc' := 80) rfl (hb hby at_73) rfl (feq hc73_1).2 (by decide) (by decide) ?_
      show Steps p.tables e below (T9.setTop (mkF m 80 #[.val (.int p1), .val (.int p2), .val (.int p3), .val (.ref b1), .val (.int j10), .val (.int j11), .val (.int j12), .val (.int j13), .unset, .unset] [])) _
      refine XS.iconst X9.here hx rfl (hb hby at_80) ?_
      exact k
  refine own_go st15 ?_
  show own_Go p.tables e below _ T9 (mkF m 81 #[.val (.int p1), .val (.int p2), .val (.int p3), .val (.ref b1), .val (.int j10), .val (.int j11), .val (.int j12), .val (.int j13), .unset, .unset] [(.int j14)])
  refine own_go (T' := T9) (g' := (mkF m 83 #[.val (.int p1), .val (.int p2), .val (.int p3), .val (.ref b1), .val (.int j10), .val (.int j11), .val (.int j12), .val (.int j13), .val (.int j14), .unset] [])) (fun t k => ?_) ?_
  · show Steps p.tables e below (T9.setTop (mkF m 81 #[.val (.int p1), .val (.int p2), .val (.int p3), .val (.ref b1), .val (.int j10), .val (.int j11), .val (.int j12), .val (.int j13), .unset, .unset] [(.int j14)])) _
    refine XS.istore X9.here hx rfl (hb hby at_81) rfl (l' := #[.val (.int p1), .val (.int p2), .val (.int p3), .val (.ref b1), .val (.int j10), .val (.int j11), .val (.int j12), .val (.int j13), .val (.int j14), .unset]) rfl ?_
    exact k
  obtain ⟨T16, h16, X16, e16, E16, A16, D16, -, st16⟩ := newO X9 hx hZ hown (hw _ (List.mem_of_getElem? (i := 1) rfl)) (hw _ (List.mem_of_getElem? (i := 2) rfl)) (hw _ (List.mem_of_getElem? (i := 3) rfl)) e9 (g := (mkF m 83 #[.val (.int p1), .val (.int p2), .val (.int p3), .val (.ref b1), .val (.int j10), .val (.int j11), .val (.int j12), .val (.int j13), .val (.int j14), .unset] [])) rfl (hb hby at_83) (by decide) (by decide)
  obtain ⟨b16, g16⟩ : ∃ z, z = h9.size := ⟨_, rfl⟩
  rw [← g16] at A16 D16 st16
  have g_b16 : n0 ≤ b16 := Nat.le_trans Z0 (Nat.le_of_eq g16.symm)
  have sz_b16 : h0.size ≤ b16 := Nat.le_trans KK.1 (Nat.le_of_eq g16.symm)
  have ne_b1_b16 : b1 ≠ b16 := Nat.ne_of_lt (Nat.lt_of_lt_of_le V_b1.lt (Nat.le_of_eq g16.symm))
  have V_b1 := V_b1.ext E16
  have Z0 := Nat.le_trans Z0 E16.1
  have KK := KK.ext E16
  have E_b16 := A16
  have F_b16_pattern : Fld Z h16 b16 "com/example/caliper2/caliper2/ScanInput$SameBytes" "pattern" "[B" .null := D16 (Or.inr (hw _ (List.mem_of_getElem? (i := 16) rfl))) (ty := (.array .byte)) (by decide)
  refine own_go st16 ?_
  show own_Go p.tables e below _ T16 (mkF m 86 #[.val (.int p1), .val (.int p2), .val (.int p3), .val (.ref b1), .val (.int j10), .val (.int j11), .val (.int j12), .val (.int j13), .val (.int j14), .unset] [(.ref b16)])
  refine own_go (T' := T16) (g' := (mkF m 88 #[.val (.int p1), .val (.int p2), .val (.int p3), .val (.ref b1), .val (.int j10), .val (.int j11), .val (.int j12), .val (.int j13), .val (.int j14), .unset] [(.ref b1), (.ref b16), (.ref b16)])) (fun t k => ?_) ?_
  · show Steps p.tables e below (T16.setTop (mkF m 86 #[.val (.int p1), .val (.int p2), .val (.int p3), .val (.ref b1), .val (.int j10), .val (.int j11), .val (.int j12), .val (.int j13), .val (.int j14), .unset] [(.ref b16)])) _
    refine XS.dup X16.here hx rfl (hb hby at_86) rfl rfl ?_
    show Steps p.tables e below (T16.setTop (mkF m 87 #[.val (.int p1), .val (.int p2), .val (.int p3), .val (.ref b1), .val (.int j10), .val (.int j11), .val (.int j12), .val (.int j13), .val (.int j14), .unset] [(.ref b16), (.ref b16)])) _
    refine XS.aloadN X16.here hx rfl (hb hby at_87) rfl rfl ?_
    exact k
  obtain ⟨_, _, ⟨T17, L17, k17, n17⟩, -, X17, ⟨Lc17, hQ17, l17, y17, z17⟩, st17⟩ := X16.specialBack hx (y := (⟨"com/example/caliper2/caliper2/ScanInput$SameBytes", "<init>", "([B)V"⟩ : MethodName)) rfl hown (mvT hZ (hw _ (List.mem_of_getElem? (i := 4) rfl))) (mvT hZ (hw _ (List.mem_of_getElem? (i := 5) rfl))) (mvT hZ (hw _ (List.mem_of_getElem? (i := 6) rfl))) (by decide) (backOf (W := 1) (rm1 l Z a0 hw [] b16 b1 .null h16 n0 Z0 E_b16 F_b16_pattern g_b16) hZ (hw _ (List.mem_of_getElem? (i := 6) rfl)) (hw _ (List.mem_of_getElem? (i := 3) rfl)) (by decide) (by decide)) (g := (mkF m 88 #[.val (.int p1), .val (.int p2), .val (.int p3), .val (.ref b1), .val (.int j10), .val (.int j11), .val (.int j12), .val (.int j13), .val (.int j14), .unset] [(.ref b1), (.ref b16), (.ref b16)])) rfl (by rw [hml]; rfl) (Steps.refl _) (a := b16) (argsL := [(.ref b1)]) (rest := [(.ref b16)]) (lenOf pd_0 rfl) rfl (by show 2 * 0 + _ ≤ _; exact Nat.le_of_eq rfl) (hb hby at_88) (fun _ _ => ⟨rfl, e16, (by decide : 2 + 0 ≤ _), (by decide : 5 + 0 ≤ _)⟩)
  dsimp only [Pt.U, Pt.locs, Pt.cells, Pt.slots] at X17 l17 y17 z17 st17 hQ17
  subst l17 y17 z17
  obtain ⟨rfl, N17q, K17, Q17_0, Q17_1⟩ := hQ17
  have V_b1 := V_b1.keep K17 (ninS ne_b1_b16 nin0)
  have E_b16 := Q17_0
  have F_b16_pattern := Q17_1
  have Z0 := Nat.le_trans Z0 K17.1
  have KK := KK.trans K17 (allS (Or.inr sz_b16) all0)
  have NN := Fr.app NN N17q
  refine own_go (fun t k => st17.trans k) ?_
  show own_Go p.tables e below _ T17 (mkF m 91 #[.val (.int p1), .val (.int p2), .val (.int p3), .val (.ref b1), .val (.int j10), .val (.int j11), .val (.int j12), .val (.int j13), .val (.int j14), .unset] [(.ref b16)])
  refine own_go (T' := T17) (g' := (mkF m 99 #[.val (.int p1), .val (.int p2), .val (.int p3), .val (.ref b1), .val (.int j10), .val (.int j11), .val (.int j12), .val (.int j13), .val (.int j14), .val (.ref b16)] [(.int j11), (.int j10), (.ref b16)])) (fun t k => ?_) ?_
  · show Steps p.tables e below (T17.setTop (mkF m 91 #[.val (.int p1), .val (.int p2), .val (.int p3), .val (.ref b1), .val (.int j10), .val (.int j11), .val (.int j12), .val (.int j13), .val (.int j14), .unset] [(.ref b16)])) _
    refine XS.astore X17.here hx rfl (hb hby at_91) rfl rfl (l' := #[.val (.int p1), .val (.int p2), .val (.int p3), .val (.ref b1), .val (.int j10), .val (.int j11), .val (.int j12), .val (.int j13), .val (.int j14), .val (.ref b16)]) rfl ?_
    show Steps p.tables e below (T17.setTop (mkF m 93 #[.val (.int p1), .val (.int p2), .val (.int p3), .val (.ref b1), .val (.int j10), .val (.int j11), .val (.int j12), .val (.int j13), .val (.int j14), .val (.ref b16)] [])) _
    refine XS.aload X17.here hx rfl (hb hby at_93) rfl rfl ?_
    show Steps p.tables e below (T17.setTop (mkF m 95 #[.val (.int p1), .val (.int p2), .val (.int p3), .val (.ref b1), .val (.int j10), .val (.int j11), .val (.int j12), .val (.int j13), .val (.int j14), .val (.ref b16)] [(.ref b16)])) _
    refine XS.iload X17.here hx rfl (hb hby at_95) rfl ?_
    show Steps p.tables e below (T17.setTop (mkF m 97 #[.val (.int p1), .val (.int p2), .val (.int p3), .val (.ref b1), .val (.int j10), .val (.int j11), .val (.int j12), .val (.int j13), .val (.int j14), .val (.ref b16)] [(.int j10), (.ref b16)])) _
    refine XS.iload X17.here hx rfl (hb hby at_97) rfl ?_
    exact k
  have hhlo5_99 : ¬ (j10 < (0 : Int32)) := own_at_hhlo5_99 p2 j10 hj10
  have hhhi5_99 : j10 < (4 : Int32) := own_at_hhhi5_99 p2 j10 hj10 hhlo5_99
  have hhlo11_99 : ¬ (j11 < (0 : Int32)) := own_at_hhlo11_99 p2 p3 j10 j11 hj10 hj11 hhlo5_99 hhhi5_99
  have hhhi11_99 : j11 < (4 : Int32) := own_at_hhhi11_99 p2 p3 j10 j11 hj10 hj11 hhlo5_99 hhhi5_99 hhlo11_99
  obtain ⟨cq18, kq18, q18a, q18b, q18c⟩ := isOf hZ rfl E_b16
  obtain ⟨_, _, ⟨T18, L18, k18, n18⟩, -, X18, ⟨Lc18, hQ18, l18, y18, z18⟩, st18⟩ := X17.virtualBack hx (y := (⟨"com/example/caliper2/caliper2/ScanInput$SameBytes", "test", "(II)Z"⟩ : MethodName)) (z := (⟨"com/example/caliper2/caliper2/ScanInput$SameBytes", "test", "(II)Z"⟩ : MethodName)) hown (mvT hZ (hw _ (List.mem_of_getElem? (i := 17) rfl))) (mvT hZ (hw _ (List.mem_of_getElem? (i := 18) rfl))) (notFace_of_selects (args := #[]) (mvT hZ (hw _ (List.mem_of_getElem? (i := 20) rfl)))) (mvT hZ (hw _ (List.mem_of_getElem? (i := 20) rfl))) (mvT hZ (hw _ (List.mem_of_getElem? (i := 19) rfl))) (by decide) (backOf (W := 0) (rm4 l Z a0 hw [] b16 j10 j11 b1 k1 (nar .byte p1.toInt8.toInt32) (nar .byte (p1 >>> ((8 : Int32) &&& 31)).toInt8.toInt32) (nar .byte (p1 >>> ((16 : Int32) &&& 31)).toInt8.toInt32) (nar .byte (p1 >>> ((24 : Int32) &&& 31)).toInt8.toInt32) T17.heap n0 Z0 F_b16_pattern V_b1 hhlo5_99 hhhi5_99 hhlo11_99 hhhi11_99) hZ (hw _ (List.mem_of_getElem? (i := 21) rfl)) (hw _ (List.mem_of_getElem? (i := 3) rfl)) (by decide) (by decide)) q18a q18c (g := (mkF m 99 #[.val (.int p1), .val (.int p2), .val (.int p3), .val (.ref b1), .val (.int j10), .val (.int j11), .val (.int j12), .val (.int j13), .val (.int j14), .val (.ref b16)] [(.int j11), (.int j10), (.ref b16)])) rfl (by rw [hml]; rfl) (Steps.refl _) (argsL := [(.int j10), (.int j11)]) (rest := []) (lenOf pd_2 rfl) rfl (by show 2 * 0 + _ ≤ _; exact Nat.le_of_eq rfl) (hb hby at_99) (fun _ _ => ⟨rfl, rfl, (by decide : 2 + 0 ≤ _), (by decide : 5 + 0 ≤ _)⟩)
  dsimp only [Pt.U, Pt.locs, Pt.cells, Pt.slots] at X18 l18 y18 z18 st18 hQ18
  subst l18 y18 z18
  obtain ⟨rfl, N18q, e18⟩ := hQ18
  have NN := Fr.app NN N18q
  refine own_go (fun t k => st18.trans k) ?_
  show own_Go p.tables e below _ T18 (mkF m 102 #[.val (.int p1), .val (.int p2), .val (.int p3), .val (.ref b1), .val (.int j10), .val (.int j11), .val (.int j12), .val (.int j13), .val (.int j14), .val (.ref b16)] [(.int (r_4 j10 j11 (nar .byte p1.toInt8.toInt32) (nar .byte (p1 >>> ((8 : Int32) &&& 31)).toInt8.toInt32) (nar .byte (p1 >>> ((16 : Int32) &&& 31)).toInt8.toInt32) (nar .byte (p1 >>> ((24 : Int32) &&& 31)).toInt8.toInt32)))])
  refine own_go (T' := T18) (g' := (mkF m 104 #[.val (.int p1), .val (.int p2), .val (.int p3), .val (.ref b1), .val (.int j10), .val (.int j11), .val (.int j12), .val (.int j13), .val (.int j14), .val (.ref b16)] [(.int j14), (.int (r_4 j10 j11 (nar .byte p1.toInt8.toInt32) (nar .byte (p1 >>> ((8 : Int32) &&& 31)).toInt8.toInt32) (nar .byte (p1 >>> ((16 : Int32) &&& 31)).toInt8.toInt32) (nar .byte (p1 >>> ((24 : Int32) &&& 31)).toInt8.toInt32)))])) (fun t k => ?_) ?_
  · show Steps p.tables e below (T18.setTop (mkF m 102 #[.val (.int p1), .val (.int p2), .val (.int p3), .val (.ref b1), .val (.int j10), .val (.int j11), .val (.int j12), .val (.int j13), .val (.int j14), .val (.ref b16)] [(.int (r_4 j10 j11 (nar .byte p1.toInt8.toInt32) (nar .byte (p1 >>> ((8 : Int32) &&& 31)).toInt8.toInt32) (nar .byte (p1 >>> ((16 : Int32) &&& 31)).toInt8.toInt32) (nar .byte (p1 >>> ((24 : Int32) &&& 31)).toInt8.toInt32)))])) _
    refine XS.iload X18.here hx rfl (hb hby at_102) rfl ?_
    exact k
  obtain ⟨j19, hj19, st20⟩ : ∃ (j19 : Int32), j19 = (if (r_4 j10 j11 (nar .byte p1.toInt8.toInt32) (nar .byte (p1 >>> ((8 : Int32) &&& 31)).toInt8.toInt32) (nar .byte (p1 >>> ((16 : Int32) &&& 31)).toInt8.toInt32) (nar .byte (p1 >>> ((24 : Int32) &&& 31)).toInt8.toInt32)) = j14 then (1 : Int32) else (0 : Int32)) ∧ ∀ t, Steps p.tables e below (T18.setTop (mkF m 112 #[.val (.int p1), .val (.int p2), .val (.int p3), .val (.ref b1), .val (.int j10), .val (.int j11), .val (.int j12), .val (.int j13), .val (.int j14), .val (.ref b16)] [(.int j19)])) t → Steps p.tables e below (T18.setTop (mkF m 104 #[.val (.int p1), .val (.int p2), .val (.int p3), .val (.ref b1), .val (.int j10), .val (.int j11), .val (.int j12), .val (.int j13), .val (.int j14), .val (.ref b16)] [(.int j14), (.int (r_4 j10 j11 (nar .byte p1.toInt8.toInt32) (nar .byte (p1 >>> ((8 : Int32) &&& 31)).toInt8.toInt32) (nar .byte (p1 >>> ((16 : Int32) &&& 31)).toInt8.toInt32) (nar .byte (p1 >>> ((24 : Int32) &&& 31)).toInt8.toInt32)))])) t := by
    by_cases hc104_2 : (r_4 j10 j11 (nar .byte p1.toInt8.toInt32) (nar .byte (p1 >>> ((8 : Int32) &&& 31)).toInt8.toInt32) (nar .byte (p1 >>> ((16 : Int32) &&& 31)).toInt8.toInt32) (nar .byte (p1 >>> ((24 : Int32) &&& 31)).toInt8.toInt32)) = j14
    · skip
      refine ⟨(1 : Int32), (by simp only [if_pos hc104_2]), fun t k => ?_⟩
      show Steps p.tables e below (T18.setTop (mkF m 104 #[.val (.int p1), .val (.int p2), .val (.int p3), .val (.ref b1), .val (.int j10), .val (.int j11), .val (.int j12), .val (.int j13), .val (.int j14), .val (.ref b16)] [(.int j14), (.int (r_4 j10 j11 (nar .byte p1.toInt8.toInt32) (nar .byte (p1 >>> ((8 : Int32) &&& 31)).toInt8.toInt32) (nar .byte (p1 >>> ((16 : Int32) &&& 31)).toInt8.toInt32) (nar .byte (p1 >>> ((24 : Int32) &&& 31)).toInt8.toInt32)))])) _
      refine XS.icmpNo X18.here hx rfl (hb hby at_104) rfl (teq hc104_2).2 ?_
      show Steps p.tables e below (T18.setTop (mkF m 107 #[.val (.int p1), .val (.int p2), .val (.int p3), .val (.ref b1), .val (.int j10), .val (.int j11), .val (.int j12), .val (.int j13), .val (.int j14), .val (.ref b16)] [])) _
      refine XS.iconst X18.here hx rfl (hb hby at_107) ?_
      show Steps p.tables e below (T18.setTop (mkF m 108 #[.val (.int p1), .val (.int p2), .val (.int p3), .val (.ref b1), .val (.int j10), .val (.int j11), .val (.int j12), .val (.int j13), .val (.int j14), .val (.ref b16)] [(.int (1 : Int32))])) _
      refine XS.goto X18.here hx rfl (pc0 := 108) (pc' := 112) rfl (hb hby at_108) (by decide) (by decide) ?_
      exact k
    · skip
      refine ⟨(0 : Int32), (by simp only [if_neg hc104_2]), fun t k => ?_⟩
      show Steps p.tables e below (T18.setTop (mkF m 104 #[.val (.int p1), .val (.int p2), .val (.int p3), .val (.ref b1), .val (.int j10), .val (.int j11), .val (.int j12), .val (.int j13), .val (.int j14), .val (.ref b16)] [(.int j14), (.int (r_4 j10 j11 (nar .byte p1.toInt8.toInt32) (nar .byte (p1 >>> ((8 : Int32) &&& 31)).toInt8.toInt32) (nar .byte (p1 >>> ((16 : Int32) &&& 31)).toInt8.toInt32) (nar .byte (p1 >>> ((24 : Int32) &&& 31)).toInt8.toInt32)))])) _
      refine XS.icmpYes X18.here hx rfl (pc0 := 104) (pc' := 111) rfl (hb hby at_104) rfl (feq hc104_2).2 (by decide) (by decide) ?_
      show Steps p.tables e below (T18.setTop (mkF m 111 #[.val (.int p1), .val (.int p2), .val (.int p3), .val (.ref b1), .val (.int j10), .val (.int j11), .val (.int j12), .val (.int j13), .val (.int j14), .val (.ref b16)] [])) _
      refine XS.iconst X18.here hx rfl (hb hby at_111) ?_
      exact k
  refine own_go st20 ?_
  show own_Go p.tables e below _ T18 (mkF m 112 #[.val (.int p1), .val (.int p2), .val (.int p3), .val (.ref b1), .val (.int j10), .val (.int j11), .val (.int j12), .val (.int j13), .val (.int j14), .val (.ref b16)] [(.int j19)])
  have hv1 : (nar .boolean j19) = 1 := own_yes_x p1 p2 p3 j10 j11 j12 j13 j14 j19 hj10 hj11 hj12 hj13 hj14 hj19 hhlo5_99 hhhi5_99 hhlo11_99 hhhi11_99
  obtain ⟨fs, hr, hrun, hended, hW, hsame⟩ := X18.leave (v := some (.int (nar .boolean j19))) (fun h => by rw [Bd.returns] at h; cases h)
  refine ⟨_, _, ?_, hrun, hended, _, _, rfl, ?_, ⟨_, rfl⟩, hW, hsame.mono (by decide) (by decide)⟩
  · exact retN X18 hx (t := .boolean) Bd.returns (by simp) (hb hby at_112) hr
  · show Q0 Z p1 p2 p3 h0 n0 _ _ _
    exact ⟨by rw [hv1], NN⟩
set_option maxRecDepth 65536 in
set_option maxHeartbeats 40000000 in
theorem comes_1 {Post : Tables → Env → Array Value → State → Outcome → State → Prop} (hpost : ∀ tb e args s v u, (limb_1_1.after args s (.returned v) u = true ∧ limb_1_2.after args s (.returned v) u = true ∧ True) → FrameEnd s (.returned v) u (Jvm.fieldLocs frame_1_writes args s ++ Jvm.arrayLocs frame_1_arrays args s ++ Jvm.staticLocs frame_1_statics s) 16 128 → Post tb e args s (.returned v) u) :
    ArmFor flags0 classFile x code maxLocals ret World_1 tables_1 room_1 Calls_1 rest_1 Pre_1 Post := by
  intro l hfl _ _ p e ha hc hk s m args below hf hA hF happ hP
  obtain ⟨hcalls, hrest, hpre⟩ := hP
  obtain ⟨-, -, -, hnamed, -, -, -, hat⟩ := (Spec.applies_iff hf).mp happ
  obtain ⟨hg, hn⟩ := and_e (Cond.before_iff.mp (show (Jvm.Cond.and given_1 narrow_1).before args s = true from hpre))
  obtain ⟨hcount, hg0⟩ := and_e hg
  obtain ⟨ha0, hg1⟩ := and_e hg0
  obtain ⟨ha1, hg2⟩ := and_e hg1
  have ha2 := hg2
  obtain ⟨w0, w1, w2, rfl⟩ : ∃ w0 w1 w2 : Value, args = #[w0, w1, w2] := by
    have hs : args.size = 3 := by simpa [Cond.value, given_1] using hcount
    obtain ⟨L⟩ := args
    match L, hs with
    | [w0, w1, w2], _ => exact ⟨w0, w1, w2, rfl⟩
  have hw := fun d (hd : d ∈ tables_1) => atoms_spec (ws := Jvm.Cond.code x code maxLocals ret :: tables_1) hat d (List.mem_cons_of_mem _ hd)
  obtain ⟨i0, ei0⟩ := is_v ha0
  obtain rfl : w0 = (.int i0) := Option.some.inj ei0
  obtain ⟨i1, ei1⟩ := is_v ha1
  obtain rfl : w1 = (.int i1) := Option.some.inj ei1
  obtain ⟨i2, ei2⟩ := is_v ha2
  obtain rfl : w2 = (.int i2) := Option.some.inj ei2
  obtain ⟨n, o, h1, h2, h3, _, L, rfl, ⟨rfl, N⟩, hq⟩ := rm0 l s _ hw tables_1 i0 i1 i2 s.heap s.heap.size (Nat.le_refl _) p e ha hc hk s m _ below hf ((Spec.applies_iff_loose hf).mp happ).1 ⟨rfl, State.Warmed39.refl s, rfl⟩ trivial
  refine ⟨n, _, h1, h2, h3, hpost _ _ _ _ _ _ ⟨Cond.after_iff.mpr rfl, Cond.after_iff.mpr (eq_i res_at (Term.int_eval (1)) rfl), trivial⟩ ⟨hq.1, hq.2.1, (hq.2.2.sift fun y hy => Or.inr (N y hy)).mono (by decide) (by decide)⟩⟩
theorem main_1_1 : Claimed_1_1 := comes_1 fun _ _ _ _ _ _ h hF => ⟨h.1, hF⟩
theorem main_1_2 : Claimed_1_2 := comes_1 fun _ _ _ _ _ _ h hF => ⟨h.2.1, hF⟩
end Jvm.Pilot.@@N@@
namespace Jvm.Pilot.@@N@@
open Jvm Jvm.ClassFile Sem Op Lib Jvm.Free Jvm.Stand Jvm.Pilot.@@N@@.Jvm.D
/-! MADE BY PROGRAM (witnessworld.py) out of the Statement's table words and the real class files: 11 classes; the members and pool entries that the words name. The judged class is class 1, her method 1. -/
namespace start1
open Jvm.ClassFile
def u (s : String) : CpInfo := .utf8 (stringToUtf16 s)
/-- a pool by its gaps: so many unusable entries, then the entry; so many at the end -/
def gap : Nat → List CpInfo → List CpInfo
  | 0, r => r
  | n + 1, r => .unusable :: gap n r
def poolList (es : List (Nat × CpInfo)) (last : Nat) : List CpInfo := es.foldr (fun e r => gap e.1 (e.2 :: r)) (gap last [])
def pool (es : List (Nat × CpInfo)) (last : Nat) : Array CpInfo := ⟨poolList es last⟩
def fileOf (pool : Array CpInfo) (this : Nat) (attrs : Array Attribute := #[]) (ms : Array MethodInfo := #[]) (fl : Nat := 33) (sup : Nat := 0) (ifs : Array Nat := #[]) (fds : Array FieldInfo := #[]) : ClassFile where
  minorVersion := 0
  majorVersion := 65
  constantPool := pool
  accessFlags := fl
  thisClass := this
  superClass := sup
  interfaces := ifs
  fields := fds
  methods := ms
  attributes := attrs
def plain (name : String) (sup : Option ClassId) : Class where
  name := name
  kind := .ordinary
  loader := none
  accessFlags := 33
  super := sup
  interfaces := #[]
  cf := none
  fields := #[]
  methods := #[]
  instanceTypes := #[]
  staticTypes := #[]
  resolved := #[]
  callSites := []
  init := .initialized
  statics := none
  mirror := none

def pool0 : Array CpInfo := pool [(5, u "<init>"), (0, u "()V"), (1, .class_ 10), (1, u "java/lang/Object")] 113

def k0c0 : Code := { maxStack := 0, maxLocals := 1, code := object_method_1_code, exceptionTable := #[], attributes := #[] }
def k0m0 : Method := { name := "<init>", desc := "()V", sig := { parameters := [], returnType := none }, accessFlags := 1, code := some k0c0 }
/-- java/lang/Object -/
def k0 : Class := { plain "java/lang/Object" none with
  accessFlags := 33
  interfaces := #[]
  cf := some (fileOf pool0 8 #[] #[{ accessFlags := 1, nameIndex := 5, descriptorIndex := 6, attributes := #[] }] 33 0 #[] #[])
  fields := #[]
  methods := #[k0m0]
  instanceTypes := #[]
  staticTypes := #[]
  resolved := Array.replicate 124 none
  statics := none }

def pool1 : Array CpInfo := pool [(2, .class_ 4), (1, u "java/lang/Object"), (0, u "<init>"), (0, u "()V"), (0, .class_ 8), (0, u "com/example/caliper2/caliper2/ScanInput$SameBytes"), (0, .methodref 7 10), (0, .nameAndType 5 11), (0, u "([B)V"), (0, .methodref 7 13), (0, .nameAndType 14 15), (0, u "test"), (0, u "(II)Z"), (0, .class_ 17), (0, u "com/example/caliper2/caliper2/SameBytesTestPinLaw"), (2, u "law"), (0, u "(III)Z")] 9

def k1m0 : Method := { name := "<init>", desc := "()V", sig := { parameters := [], returnType := none }, accessFlags := 1, code := none }
def k1c1 : Code := { maxStack := 4, maxLocals := 10, code := code, exceptionTable := #[], attributes := #[] }
def k1m1 : Method := { name := "law", desc := "(III)Z", sig := { parameters := [.int, .int, .int], returnType := some .boolean }, accessFlags := 9, code := some k1c1 }
/-- com/example/caliper2/caliper2/SameBytesTestPinLaw -/
def k1 : Class := { plain "com/example/caliper2/caliper2/SameBytesTestPinLaw" (some 0) with
  accessFlags := 49
  interfaces := #[]
  cf := some (fileOf pool1 16 #[] #[{ accessFlags := 1, nameIndex := 5, descriptorIndex := 6, attributes := #[] }, { accessFlags := 9, nameIndex := 20, descriptorIndex := 21, attributes := #[] }] 49 2 #[] #[])
  fields := #[]
  methods := #[k1m0, k1m1]
  instanceTypes := #[]
  staticTypes := #[]
  resolved := Array.replicate 31 none
  statics := none }

def pool2 : Array CpInfo := pool [(1, .methodref 2 3), (0, .class_ 4), (0, .nameAndType 5 6), (0, u "java/lang/Object"), (0, u "<init>"), (0, u "()V"), (0, .class_ 8), (0, u "java/lang/Record")] 13

def k2c0 : Code := { maxStack := 1, maxLocals := 1, code := jdk_30_method_1_code, exceptionTable := #[], attributes := #[] }
def k2m0 : Method := { name := "<init>", desc := "()V", sig := { parameters := [], returnType := none }, accessFlags := 4, code := some k2c0 }
/-- java/lang/Record -/
def k2 : Class := { plain "java/lang/Record" (some 0) with
  accessFlags := 1057
  interfaces := #[]
  cf := some (fileOf pool2 7 #[] #[{ accessFlags := 4, nameIndex := 5, descriptorIndex := 6, attributes := #[] }] 1057 2 #[] #[])
  fields := #[]
  methods := #[k2m0]
  instanceTypes := #[]
  staticTypes := #[]
  resolved := Array.replicate 22 none
  statics := none }

def pool3 : Array CpInfo := pool [(1, .class_ 2), (0, u "com/example/caliper2/caliper2/SameUnit"), (0, .class_ 4), (0, u "java/lang/Object")] 6

/-- com/example/caliper2/caliper2/SameUnit -/
def k3 : Class := { plain "com/example/caliper2/caliper2/SameUnit" (some 0) with
  accessFlags := 1536
  interfaces := #[]
  cf := some (fileOf pool3 1 #[] #[] 1536 3 #[] #[])
  fields := #[]
  methods := #[]
  instanceTypes := #[]
  staticTypes := #[]
  resolved := Array.replicate 11 none
  statics := none }

def pool4 : Array CpInfo := pool [(1, .methodref 2 3), (0, .class_ 4), (0, .nameAndType 5 6), (0, u "java/lang/Record"), (0, u "<init>"), (0, u "()V"), (0, .fieldref 8 9), (0, .class_ 10), (0, .nameAndType 11 12), (0, u "com/example/caliper2/caliper2/ScanInput$SameBytes"), (0, u "pattern"), (0, u "[B"), (12, .class_ 26), (0, u "com/example/caliper2/caliper2/SameUnit"), (0, u "([B)V"), (3, u "test"), (0, u "(II)Z"), (8, .class_ 42), (0, u "com/example/caliper2/caliper2/ScanInput")] 18

def k4c0 : Code := { maxStack := 2, maxLocals := 2, code := prog_56_method_1_code, exceptionTable := #[], attributes := #[] }
def k4m0 : Method := { name := "<init>", desc := "([B)V", sig := { parameters := [(.array .byte)], returnType := none }, accessFlags := 1, code := some k4c0 }
def k4c1 : Code := { maxStack := 3, maxLocals := 3, code := prog_56_method_2_code, exceptionTable := #[], attributes := #[] }
def k4m1 : Method := { name := "test", desc := "(II)Z", sig := { parameters := [.int, .int], returnType := some .boolean }, accessFlags := 1, code := some k4c1 }
/-- com/example/caliper2/caliper2/ScanInput$SameBytes -/
def k4 : Class := { plain "com/example/caliper2/caliper2/ScanInput$SameBytes" (some 2) with
  accessFlags := 49
  interfaces := #[3]
  cf := some (fileOf pool4 8 #[.nestHost 41] #[{ accessFlags := 1, nameIndex := 5, descriptorIndex := 27, attributes := #[] }, { accessFlags := 1, nameIndex := 31, descriptorIndex := 32, attributes := #[] }] 49 2 #[25] #[{ accessFlags := 18, nameIndex := 11, descriptorIndex := 12, attributes := #[] }])
  fields := #[{ name := "pattern", type := (.array .byte), accessFlags := 18, slot := 0, constantValue := 0 }]
  methods := #[k4m0, k4m1]
  instanceTypes := #[(.array .byte)]
  staticTypes := #[]
  resolved := Array.replicate 61 none
  statics := none }

def pool5 : Array CpInfo := pool [(1, u "java/lang/Cloneable"), (0, .class_ 1), (0, u "java/lang/Object"), (0, .class_ 3)] 3

/-- java/lang/Cloneable -/
def k5 : Class := { plain "java/lang/Cloneable" (some 0) with
  accessFlags := 1537
  interfaces := #[]
  cf := some (fileOf pool5 2 #[] #[] 1537 4 #[] #[])
  fields := #[]
  methods := #[]
  instanceTypes := #[]
  staticTypes := #[]
  resolved := Array.replicate 8 none
  statics := none }

def pool6 : Array CpInfo := pool [(1, u "java/io/Serializable"), (0, .class_ 1), (0, u "java/lang/Object"), (0, .class_ 3)] 3

/-- java/io/Serializable -/
def k6 : Class := { plain "java/io/Serializable" (some 0) with
  accessFlags := 1537
  interfaces := #[]
  cf := some (fileOf pool6 2 #[] #[] 1537 4 #[] #[])
  fields := #[]
  methods := #[]
  instanceTypes := #[]
  staticTypes := #[]
  resolved := Array.replicate 8 none
  statics := none }

/-- the primitive byte -/
def k7 : Class := { plain "byte" none with kind := .primitive 'B', accessFlags := 0x411 }
/-- [B -/
def k8 : Class := { plain "[B" (some 0) with kind := .array 7 .byte, interfaces := #[5, 6], accessFlags := 1041 }

/-- the primitive int -/
def k9 : Class := { plain "int" none with kind := .primitive 'I', accessFlags := 0x411 }
/-- [I -/
def k10 : Class := { plain "[I" (some 0) with kind := .array 9 .int, interfaces := #[5, 6], accessFlags := 1041 }

def heap : Heap := #[]
def classes : Array Class := #[k0, k1, k2, k3, k4, k5, k6, k7, k8, k9, k10]
def interned : List (Array UInt16 × Addr) := []
def slotsUsed : Nat := 0
def theMethod : MethodId := ⟨1, 1⟩
def args0 : Array Value := #[.int 5, .int 6, .int 7]
def aboutOver (below : List Frame) : State where
  vm := { classes := classes, interned := interned.toArray }
  heap := heap
  slotsUsed := slotsUsed
  threads := #[{ frames := .invoking theMethod args0 :: below }]
def below0 : List Frame := [.native { method := ⟨0, 0⟩, args := #[] }]
def about1 : State := aboutOver below0
def p0 : Program := .bare "" "" ""
def e0 : Env := launch0.env 0 0 0
theorem w_frames : about1.frames = Frame.invoking theMethod args0 :: below0 := rfl
set_option maxRecDepth 65536 in
theorem w_args : argsFit about1.vm theMethod args0 = true := by decide +kernel
set_option maxRecDepth 65536 in
theorem w_heap : heapFits about1 = true := by decide +kernel
set_option maxRecDepth 65536 in
theorem w_runnable : about1.curStatus? = some .runnable := by decide +kernel
set_option maxRecDepth 65536 in
theorem w_alone : about1.alone = true := by decide +kernel
set_option maxRecDepth 65536 in
theorem w_named : about1.methodNamed? x = some theMethod := by decide +kernel
set_option maxRecDepth 65536 in
theorem w_hears : about1.hears theMethod below0 = true := by decide +kernel
set_option maxRecDepth 65536 in
theorem w_ripe : about1.ripe theMethod args0 below0 = true := by decide +kernel
theorem w_running : about1.status = .running := rfl
set_option maxRecDepth 65536 in
theorem w_room : about1.hasRoom e0.platform room_1 = true :=
  launch0.hasRoom_least _ room_1 (by decide +kernel) (by decide +kernel) (by decide +kernel) (by decide +kernel) (by decide +kernel) (by decide +kernel)
theorem allAtoms_all (ts : List Jvm.Cond) (a : Array Jvm.Value) (st : Jvm.State) : (allAtoms ts).before a st = ts.all (fun c => c.before a st) := by
  induction ts with
  | nil => rfl
  | cons c t ih =>
    show (Jvm.Cond.and c (allAtoms t)).before a st = _
    rw [Jvm.Cond.before_and, ih, List.all_cons]
def words1 : List Jvm.Cond := Jvm.Cond.code x code maxLocals ret :: tables_1
/-- a 'code' word, met by the world's own term for the bytes: nothing is compared byte by byte -/
theorem code_word {y : MethodName} {bytes : ByteArray} {mx : Nat} {rt : Option FieldType} {a : Array Value} {s : State} {m : MethodId} {meth : Method} {c : Code} (h1 : s.methodNamed? y = some m) (h2 : s.vm.method? m = some meth) (h3 : meth.code = some c) (h4 : c.code = bytes)
    (h5 : (c.maxLocals == mx && c.exceptionTable.isEmpty && decide (c.maxStack ≤ mostOperands) && decide (meth.sig.returnType = rt) && !meth.locks && decide (parseMethodDescriptor y.desc = some meth.sig)) = true) : (Jvm.Cond.code y bytes mx rt).before a s = true := by
  simp only [Bool.and_eq_true, beq_iff_eq, Bool.not_eq_true', decide_eq_true_eq] at h5
  obtain ⟨⟨⟨⟨⟨g1, g2⟩, g3⟩, g4⟩, g5⟩, g6⟩ := h5
  simp [Cond.before, Cond.holds, Cond.value, h1, h2, h3, h4, g1, g2, g3, g4, g5, g6]
def isCode : Jvm.Cond → Bool
  | .code _ _ _ _ => true
  | _ => false
theorem all_split {L : List Jvm.Cond} {P : Jvm.Cond → Bool} (h1 : L.all (fun c => isCode c || P c) = true) (h2 : ∀ c ∈ L.filter isCode, P c = true) : L.all P = true := by
  refine List.all_eq_true.mpr fun c hc => ?_
  have h := List.all_eq_true.mp h1 c hc
  rcases Bool.eq_false_or_eq_true (isCode c) with hi | hi
  · exact h2 c (List.mem_filter.mpr ⟨hc, hi⟩)
  · simpa [hi] using h
set_option maxRecDepth 65536 in
theorem w_c0 : (Jvm.Cond.code x code maxLocals ret).before args0 about1 = true := code_word (m := ⟨1, 1⟩) (meth := k1m1) (c := k1c1) (by decide +kernel) rfl rfl rfl (by decide +kernel)
set_option maxRecDepth 65536 in
theorem w_c1 : (Jvm.Cond.code ({ cls := "com/example/caliper2/caliper2/ScanInput$SameBytes", name := "<init>", desc := "([B)V" } : Jvm.MethodName) prog_56_method_1_code (2 : Nat) (Option.none : Option Jvm.ClassFile.FieldType)).before args0 about1 = true := code_word (m := ⟨4, 0⟩) (meth := k4m0) (c := k4c0) (by decide +kernel) rfl rfl rfl (by decide +kernel)
set_option maxRecDepth 65536 in
theorem w_c2 : (Jvm.Cond.code ({ cls := "java/lang/Record", name := "<init>", desc := "()V" } : Jvm.MethodName) jdk_30_method_1_code (1 : Nat) (Option.none : Option Jvm.ClassFile.FieldType)).before args0 about1 = true := code_word (m := ⟨2, 0⟩) (meth := k2m0) (c := k2c0) (by decide +kernel) rfl rfl rfl (by decide +kernel)
set_option maxRecDepth 65536 in
theorem w_c3 : (Jvm.Cond.code ({ cls := "java/lang/Object", name := "<init>", desc := "()V" } : Jvm.MethodName) object_method_1_code (1 : Nat) (Option.none : Option Jvm.ClassFile.FieldType)).before args0 about1 = true := code_word (m := ⟨0, 0⟩) (meth := k0m0) (c := k0c0) (by decide +kernel) rfl rfl rfl (by decide +kernel)
set_option maxRecDepth 65536 in
theorem w_c4 : (Jvm.Cond.code ({ cls := "com/example/caliper2/caliper2/ScanInput$SameBytes", name := "test", desc := "(II)Z" } : Jvm.MethodName) prog_56_method_2_code (3 : Nat) (Option.some Jvm.ClassFile.FieldType.boolean)).before args0 about1 = true := code_word (m := ⟨4, 1⟩) (meth := k4m1) (c := k4c1) (by decide +kernel) rfl rfl rfl (by decide +kernel)
def codes1 : List Jvm.Cond := [Jvm.Cond.code x code maxLocals ret, Jvm.Cond.code ({ cls := "com/example/caliper2/caliper2/ScanInput$SameBytes", name := "<init>", desc := "([B)V" } : Jvm.MethodName) prog_56_method_1_code (2 : Nat) (Option.none : Option Jvm.ClassFile.FieldType), Jvm.Cond.code ({ cls := "java/lang/Record", name := "<init>", desc := "()V" } : Jvm.MethodName) jdk_30_method_1_code (1 : Nat) (Option.none : Option Jvm.ClassFile.FieldType), Jvm.Cond.code ({ cls := "java/lang/Object", name := "<init>", desc := "()V" } : Jvm.MethodName) object_method_1_code (1 : Nat) (Option.none : Option Jvm.ClassFile.FieldType), Jvm.Cond.code ({ cls := "com/example/caliper2/caliper2/ScanInput$SameBytes", name := "test", desc := "(II)Z" } : Jvm.MethodName) prog_56_method_2_code (3 : Nat) (Option.some Jvm.ClassFile.FieldType.boolean)]
set_option maxRecDepth 65536 in
theorem codes_eq : words1.filter isCode = codes1 := rfl
theorem w_codes : ∀ c ∈ words1.filter isCode, c.before args0 about1 = true := by
  rw [codes_eq]
  intro c hc
  simp only [codes1, List.mem_cons, List.not_mem_nil, or_false] at hc
  rcases hc with rfl | rfl | rfl | rfl | rfl
  · exact w_c0
  · exact w_c1
  · exact w_c2
  · exact w_c3
  · exact w_c4
set_option maxRecDepth 65536 in
theorem w_t1 : words1.all (fun c => isCode c || c.before args0 about1) = true := by decide +kernel
theorem w_tables : (allAtoms (Jvm.Cond.code x code maxLocals ret :: tables_1)).before args0 about1 = true := by
  rw [allAtoms_all]
  show words1.all (fun c => c.before args0 about1) = true
  refine all_split ?_ w_codes
  rw [w_t1]
set_option maxRecDepth 65536 in
theorem w_case : (Jvm.Cond.and given_1 narrow_1).before args0 about1 = true := by decide +kernel
theorem w_applies : (headSpec (Jvm.Cond.code x code maxLocals ret :: tables_1) room_1).applies x e0.platform about1 = true :=
  (Spec.applies_iff w_frames).mpr ⟨w_running, w_runnable, w_alone, w_named, w_hears, w_ripe, w_room, w_tables⟩
theorem atStart : AtStart classFile x code maxLocals ret World_1 tables_1 room_1 Calls_1 rest_1 Pre_1 launch0 p0 e0 about1 theMethod args0 below0 :=
  ⟨lists_1, trivial, launch0.admits_env _ _ _, launch0.least_env, fairChoices_fair.cas, fairChoices_fair.clock, w_frames, w_args, w_heap, w_applies, trivial, trivial, w_case⟩
end start1
theorem witness_1 : WitnessClaimed_1 := ⟨start1.p0, start1.e0, start1.about1, start1.theMethod, start1.args0, start1.below0, start1.atStart⟩
end Jvm.Pilot.@@N@@

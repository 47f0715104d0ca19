import JvmDerived
import JvmDerived.Pilot.@@N@@Statement
import JvmDerived.Pilot.@@N@@Code
set_option linter.unusedVariables false
set_option linter.unusedSimpArgs false
namespace Jvm.RoadKit
open Sem ClassFile Op Lib Jvm.Stand Jvm.Free Jvm.LawKit
section New
variable {p : Program} {l : Launch} {e : Env} {R : Room} {s : State} {m : MethodId} {args : Array Value} {below : List Frame} {meth : Method} {c : Code} {T : State} {locs : List Loc} {cells slots : Nat}
theorem retI (X : Stand p l e R s m args below meth c T locs cells slots) (hx : p.tables.exec = Jvm.exec) {pc : Nat} {Ls : Array Slot} {z : Int32} {rest : List Value} (hret : meth.sig.returnType = some .int) (hd : decode c.code pc = .ok (.ireturn, 1)) {fs : List Frame}
    (hl : ∀ (f : JFrame) (acts : List Action), f.method = m → f.locked = none → f.entered = [] → (doReturn e (T.setTop f) acts (some (.int z))).1 = T.setFrames fs) : Steps p.tables e below (T.setTop (mkF m pc Ls (.int z :: rest))) (T.setFrames fs) := by
  have hm' : T.vm.method? m = some meth := X.method'
  have hn : narrow .int (.int z) = .int z := rfl
  show Steps p.tables e below (T.setTop { method := m, pc := pc, locals := Ls, stack := _ :: rest, locked := none }) _
  jvm_step X.here [X.here.top, hx, hd, hm', hret, hn]
  first | (intro acts; rw [hl _ acts rfl rfl rfl]) | rw [hl _ _ rfl rfl rfl]
  exact Steps.refl _
theorem own_retJ (X : Stand p l e R s m args below meth c T locs cells slots) (hx : p.tables.exec = Jvm.exec) {pc : Nat} {Ls : Array Slot} {z : Int64} {rest : List Value} (hret : meth.sig.returnType = some .long) (hd : decode c.code pc = .ok (.lreturn, 1)) {fs : List Frame}
    (hl : ∀ (f : JFrame) (acts : List Action), f.method = m → f.locked = none → f.entered = [] → (doReturn e (T.setTop f) acts (some (.long z))).1 = T.setFrames fs) : Steps p.tables e below (T.setTop (mkF m pc Ls (.long z :: rest))) (T.setFrames fs) :=
  retOut X hx (t := .long) (i := .lreturn) hret rfl (Or.inr (Or.inl ⟨rfl, rfl, z, rfl⟩)) hd hl
theorem own_retR (X : Stand p l e R s m args below meth c T locs cells slots) (hx : p.tables.exec = Jvm.exec) {pc : Nat} {Ls : Array Slot} {w : Value} {t : FieldType} {rest : List Value} (hret : meth.sig.returnType = some t) (ht : t.isReference = true) (hw : w.isRef = true) (hd : decode c.code pc = .ok (.areturn, 1)) {fs : List Frame}
    (hl : ∀ (f : JFrame) (acts : List Action), f.method = m → f.locked = none → f.entered = [] → (doReturn e (T.setTop f) acts (some w)).1 = T.setFrames fs) : Steps p.tables e below (T.setTop (mkF m pc Ls (w :: rest))) (T.setFrames fs) :=
  retOut X hx (i := .areturn) hret (by cases t <;> simp_all [FieldType.isReference, narrow]) (Or.inr (Or.inr (Or.inr (Or.inr ⟨rfl, ht, hw⟩)))) hd hl
theorem own_narZ (x : Int32) : nar .boolean x = x &&& 1 := rfl
theorem own_narC (x : Int32) : nar .char x = x.toUInt32.toUInt16.toUInt32.toInt32 := rfl
theorem own_narB (x : Int32) : nar .byte x = x.toInt8.toInt32 := rfl
/-- where the run stands, and how it ends -/
abbrev own_Go (tb : Tables) (e : Env) (below : List Frame) (P : State → Outcome → Prop) (T : State) (g : JFrame) : Prop := ∃ s₂ o, Steps tb e below (T.setTop g) s₂ ∧ s₂.status = .running ∧ Ended s₂ below o ∧ P s₂ o
theorem own_go {tb : Tables} {P : State → Outcome → Prop} {T' : State} {g g' : JFrame} (st : ∀ t, Steps tb e below (T'.setTop g') t → Steps tb e below (T.setTop g) t) (k : own_Go tb e below P T' g') : own_Go tb e below P T g := by
  obtain ⟨s₂, o, h1, h2⟩ := k
  exact ⟨s₂, o, st _ h1, h2⟩
theorem own_start {tb : Tables} {P : State → Outcome → Prop} {g g' : JFrame} (q : g = g') (k : own_Go tb e below P T g') : own_Go tb e below P T g := q ▸ k
theorem own_selPriv {z y : MethodName} (hz : z.cls = y.cls) (hs : (Cond.selects y.cls z z).before args s = true) (hp : s.PrivateAt y) (hi : (Cond.instanceMethod y).before args s = true) (hy : y.cls ≠ "java/lang/invoke/MethodHandle" ∧ y.cls ≠ "java/lang/invoke/VarHandle") : (Cond.selects y.cls y y).before args s = true := by
  obtain ⟨c, r, m, h1, -, h3, -, k, h5, h6⟩ := Cond.selects_spec hs
  exact selects_self_of_private (hz ▸ findClass_of_methodNamed h3) h5 h6 hp hi hy
end New
end Jvm.RoadKit
namespace Jvm.Pilot.@@N@@
open Jvm Jvm.ClassFile Sem Op Lib Jvm.Free Jvm.Stand Jvm.LawKit Jvm.RoadKit Bundle Jvm.Pilot.@@N@@.Jvm.D
theorem d2_0 : decode jdk_30_method_1_code 0 = .ok (.aload_n 0, 1) := by decide +kernel
theorem d2_1 : decode jdk_30_method_1_code 1 = .ok (.invokespecial 1, 3) := by decide +kernel
theorem d2_4 : decode jdk_30_method_1_code 4 = .ok (.return_, 1) := by decide +kernel
theorem pn_0 : plainName "java/lang/Record" = true := by first | (simp [plainName, overriddenIn]; done) | decide +kernel
theorem ef_2 (m : MethodId) (a1 : Addr) : entryFrame m #[(.ref a1)] 1 = mkF m 0 #[.val (.ref a1)] [] := by first | (simp [entryFrame, mkF, argsToLocals, Value.category]; done) | rfl
def Q2 (Z : State) (a1 : Addr) (h0 : Heap) (n0 : Nat) (v : Option Value) (h : Heap) (L : List Loc) : Prop := v = none ∧ Fr n0 L ∧ h = h0
set_option maxRecDepth 65536 in
set_option maxHeartbeats 40000000 in
theorem rm2 (l : Launch) (Z : State) (a0 : Array Value) (hw : ∀ d ∈ tables_1, d.before a0 Z = true) (ws : List Jvm.Cond) (a1 : Addr) (h0 : Heap) (n0 : Nat) (Z0 : n0 ≤ h0.size) :
    MetFree l (⟨"java/lang/Record", "<init>", "()V"⟩ : MethodName) (head1 (Jvm.Cond.code (⟨"java/lang/Record", "<init>", "()V"⟩ : MethodName) jdk_30_method_1_code 1 none :: ws) ({ frames := 1, cells := 0, slots := 0, locals := 12 } : Room)) (fun a U => a = #[(.ref a1)] ∧ Z.Warmed39 U.vm ∧ U.heap = h0) (fun _ _ _ _ _ => True) (fun _ U o U' => ∃ v L, o = .returned v ∧ Q2 Z a1 h0 n0 v U'.heap L ∧ FrameEnd U o U' L ({ frames := 1, cells := 0, slots := 0, locals := 12 } : Room).cells ({ frames := 1, cells := 0, slots := 0, locals := 12 } : Room).slots) := by
  refine MetFree.of_bodySF (plainFor_of_name pn_0) hisR ?_
  intro p e s m args below meth c s₁ Bd hml0 hP hK
  obtain ⟨rfl, hZ, hh⟩ := hP
  have hx := Bd.exec
  have hby := Bd.bytes
  have hml : c.maxLocals = 1 := hml0
  have hown : s.vm.findClass "java/lang/Record" = some m.cls := findClass_of_methodNamed Bd.named
  have hnm := (name_of_methodNamed Bd.named Bd.method).1
  have X0 : Stand p l e ({ frames := 1, cells := 0, slots := 0, locals := 12 } : Room) s m #[(.ref a1)] below meth c s₁ [] 0 0 := Stand.of_body Bd
  have e0 : s₁.heap = h0 := by rw [← hh, Bd.state]; rfl
  have NN := Fr.nil n0
  have KK : Keep h0 h0 [] := Keep.refl h0 []
  refine own_start (ef_2 m a1) ?_
  refine own_go (T' := s₁) (g' := (mkF m 1 #[.val (.ref a1)] [(.ref a1)])) (fun t k => ?_) ?_
  · show Steps p.tables e below (s₁.setTop (mkF m 0 #[.val (.ref a1)] [])) _
    refine XS.aloadN X0.here hx rfl (hb hby d2_0) rfl rfl ?_
    exact k
  obtain ⟨T1, X1, e1, st1⟩ := initO X0 hx hZ hown (hw _ (List.mem_of_getElem? (i := 12) rfl)) (hw _ (List.mem_of_getElem? (i := 13) rfl)) (hw _ (List.mem_of_getElem? (i := 14) rfl)) e0 (g := (mkF m 1 #[.val (.ref a1)] [(.ref a1)])) rfl (by rw [hml]; rfl) rfl (hb hby d2_1) (by decide) (W := 0) (by show 2 * 0 + _ ≤ _; exact Nat.le_of_eq rfl) (by decide)
  refine own_go st1 ?_
  show own_Go p.tables e below _ T1 (mkF m 4 #[.val (.ref a1)] [])
  obtain ⟨fs, hr, hrun, hended, hW, hsame⟩ := X1.leave (v := none) (fun _ => rfl)
  refine ⟨_, _, ?_, hrun, hended, _, _, rfl, ?_, ⟨_, rfl⟩, hW, hsame.mono (by decide) (by decide)⟩
  · exact X1.returnOut hx Bd.returns (hb hby d2_4) hr
  · show Q2 Z a1 h0 n0 _ T1.heap _
    rw [e1]
    exact ⟨rfl, NN, rfl⟩
theorem d1_0 : decode prog_30_method_1_code 0 = .ok (.aload_n 0, 1) := by decide +kernel
theorem d1_1 : decode prog_30_method_1_code 1 = .ok (.invokespecial 3, 3) := by decide +kernel
theorem d1_4 : decode prog_30_method_1_code 4 = .ok (.aload_n 0, 1) := by decide +kernel
theorem d1_5 : decode prog_30_method_1_code 5 = .ok (.aload_n 1, 1) := by decide +kernel
theorem d1_6 : decode prog_30_method_1_code 6 = .ok (.putfield 9, 3) := by decide +kernel
theorem d1_9 : decode prog_30_method_1_code 9 = .ok (.aload_n 0, 1) := by decide +kernel
theorem d1_10 : decode prog_30_method_1_code 10 = .ok (.iload_n 2, 1) := by decide +kernel
theorem d1_11 : decode prog_30_method_1_code 11 = .ok (.putfield 15, 3) := by decide +kernel
theorem d1_14 : decode prog_30_method_1_code 14 = .ok (.aload_n 0, 1) := by decide +kernel
theorem d1_15 : decode prog_30_method_1_code 15 = .ok (.iload_n 3, 1) := by decide +kernel
theorem d1_16 : decode prog_30_method_1_code 16 = .ok (.putfield 19, 3) := by decide +kernel
theorem d1_19 : decode prog_30_method_1_code 19 = .ok (.return_, 1) := by decide +kernel
theorem pn_1 : plainName "com/example/hopline/hopline/core/IndexPage$Entry" = true := by first | (simp [plainName, overriddenIn]; done) | decide +kernel
theorem pd_1 : parseMethodDescriptor "()V" = some ⟨[], none⟩ := by decide +kernel
theorem ef_1 (m : MethodId) (a1 : Addr) (a2 : Addr) (p3 : Int32) (p4 : Int32) : entryFrame m #[(.ref a1), (.ref a2), (.int p3), (.int p4)] 4 = mkF m 0 #[.val (.ref a1), .val (.ref a2), .val (.int p3), .val (.int p4)] [] := by first | (simp [entryFrame, mkF, argsToLocals, Value.category]; done) | rfl
def Q1 (Z : State) (a1 : Addr) (a2 : Addr) (p3 : Int32) (p4 : Int32) (u_key_a1 : Value) (u_node_a1 : Value) (u_child_a1 : Value) (h0 : Heap) (n0 : Nat) (v : Option Value) (h : Heap) (L : List Loc) : Prop := v = none ∧ Fr n0 L ∧ Keep h0 h [a1] ∧ Exa Z h a1 "com/example/hopline/hopline/core/IndexPage$Entry" ∧ Fld Z h a1 "com/example/hopline/hopline/core/IndexPage$Entry" "key" "[B" (.ref a2) ∧ Fld Z h a1 "com/example/hopline/hopline/core/IndexPage$Entry" "node" "I" (.int p3) ∧ Fld Z h a1 "com/example/hopline/hopline/core/IndexPage$Entry" "child" "I" (.int p4)
set_option maxRecDepth 65536 in
set_option maxHeartbeats 40000000 in
theorem rm1 (l : Launch) (Z : State) (a0 : Array Value) (hw : ∀ d ∈ tables_1, d.before a0 Z = true) (ws : List Jvm.Cond) (a1 : Addr) (a2 : Addr) (p3 : Int32) (p4 : Int32) (u_key_a1 : Value) (u_node_a1 : Value) (u_child_a1 : Value) (h0 : Heap) (n0 : Nat) (Z0 : n0 ≤ h0.size) (E_a1 : Exa Z h0 a1 "com/example/hopline/hopline/core/IndexPage$Entry") (F_a1_key : Fld Z h0 a1 "com/example/hopline/hopline/core/IndexPage$Entry" "key" "[B" u_key_a1) (g_a1 : n0 ≤ a1) (F_a1_node : Fld Z h0 a1 "com/example/hopline/hopline/core/IndexPage$Entry" "node" "I" u_node_a1) (F_a1_child : Fld Z h0 a1 "com/example/hopline/hopline/core/IndexPage$Entry" "child" "I" u_child_a1) :
    MetFree l (⟨"com/example/hopline/hopline/core/IndexPage$Entry", "<init>", "([BII)V"⟩ : MethodName) (head1 (Jvm.Cond.code (⟨"com/example/hopline/hopline/core/IndexPage$Entry", "<init>", "([BII)V"⟩ : MethodName) prog_30_method_1_code 4 none :: ws) ({ frames := 2, cells := 0, slots := 0, locals := 24 } : Room)) (fun a U => a = #[(.ref a1), (.ref a2), (.int p3), (.int p4)] ∧ Z.Warmed39 U.vm ∧ U.heap = h0) (fun _ _ _ _ _ => True) (fun _ U o U' => ∃ v L, o = .returned v ∧ Q1 Z a1 a2 p3 p4 u_key_a1 u_node_a1 u_child_a1 h0 n0 v U'.heap L ∧ FrameEnd U o U' L ({ frames := 2, cells := 0, slots := 0, locals := 24 } : Room).cells ({ frames := 2, cells := 0, slots := 0, locals := 24 } : Room).slots) := by
  refine MetFree.of_bodySF (plainFor_of_name pn_1) hisR ?_
  intro p e s m args below meth c s₁ Bd hml0 hP hK
  obtain ⟨rfl, hZ, hh⟩ := hP
  have hx := Bd.exec
  have hby := Bd.bytes
  have hml : c.maxLocals = 4 := hml0
  have hown : s.vm.findClass "com/example/hopline/hopline/core/IndexPage$Entry" = some m.cls := findClass_of_methodNamed Bd.named
  have hnm := (name_of_methodNamed Bd.named Bd.method).1
  have X0 : Stand p l e ({ frames := 2, cells := 0, slots := 0, locals := 24 } : Room) s m #[(.ref a1), (.ref a2), (.int p3), (.int p4)] below meth c s₁ [] 0 0 := Stand.of_body Bd
  have e0 : s₁.heap = h0 := by rw [← hh, Bd.state]; rfl
  have NN := Fr.nil n0
  have KK : Keep h0 h0 [a1] := Keep.refl h0 [a1]
  refine own_start (ef_1 m a1 a2 p3 p4) ?_
  refine own_go (T' := s₁) (g' := (mkF m 1 #[.val (.ref a1), .val (.ref a2), .val (.int p3), .val (.int p4)] [(.ref a1)])) (fun t k => ?_) ?_
  · show Steps p.tables e below (s₁.setTop (mkF m 0 #[.val (.ref a1), .val (.ref a2), .val (.int p3), .val (.int p4)] [])) _
    refine XS.aloadN X0.here hx rfl (hb hby d1_0) rfl rfl ?_
    exact k
  obtain ⟨_, _, ⟨T1, L1, k1, n1⟩, -, X1, ⟨Lc1, hQ1, l1, y1, z1⟩, st1⟩ := X0.specialBack hx (y := (⟨"java/lang/Record", "<init>", "()V"⟩ : MethodName)) rfl hown (mvT hZ (hw _ (List.mem_of_getElem? (i := 7) rfl))) (mvT hZ (hw _ (List.mem_of_getElem? (i := 8) rfl))) (mvT hZ (hw _ (List.mem_of_getElem? (i := 11) rfl))) (by decide) (backOf (W := 0) (rm2 l Z a0 hw [] a1 h0 n0 Z0 ) hZ (hw _ (List.mem_of_getElem? (i := 11) rfl)) (hw _ (List.mem_of_getElem? (i := 10) rfl)) (by decide) (by decide)) (g := (mkF m 1 #[.val (.ref a1), .val (.ref a2), .val (.int p3), .val (.int p4)] [(.ref a1)])) rfl (by rw [hml]; rfl) (Steps.refl _) (a := a1) (argsL := []) (rest := []) (lenOf pd_1 rfl) rfl (by show 2 * 0 + _ ≤ _; exact Nat.le_of_eq rfl) (hb hby d1_1) (fun _ _ => ⟨rfl, e0, (by decide : 0 + 0 ≤ _), (by decide : 0 + 0 ≤ _)⟩)
  dsimp only [Pt.U, Pt.locs, Pt.cells, Pt.slots] at X1 l1 y1 z1 st1 hQ1
  subst l1 y1 z1
  obtain ⟨rfl, N1q, e1⟩ := hQ1
  have NN := Fr.app NN N1q
  refine own_go (fun t k => st1.trans k) ?_
  show own_Go p.tables e below _ T1 (mkF m 4 #[.val (.ref a1), .val (.ref a2), .val (.int p3), .val (.int p4)] [])
  refine own_go (T' := T1) (g' := (mkF m 6 #[.val (.ref a1), .val (.ref a2), .val (.int p3), .val (.int p4)] [(.ref a2), (.ref a1)])) (fun t k => ?_) ?_
  · show Steps p.tables e below (T1.setTop (mkF m 4 #[.val (.ref a1), .val (.ref a2), .val (.int p3), .val (.int p4)] [])) _
    refine XS.aloadN X1.here hx rfl (hb hby d1_4) rfl rfl ?_
    show Steps p.tables e below (T1.setTop (mkF m 5 #[.val (.ref a1), .val (.ref a2), .val (.int p3), .val (.int p4)] [(.ref a1)])) _
    refine XS.aloadN X1.here hx rfl (hb hby d1_5) rfl rfl ?_
    exact k
  obtain ⟨T2, h2, X2, e2, W2, st2⟩ := putF X1 hx hZ hown (host := "") (Or.inl (hw _ (List.mem_of_getElem? (i := 15) rfl))) Via.refl e1 F_a1_key E_a1 (Or.inr ⟨(hw _ (List.mem_of_getElem? (i := 16) rfl)), rfl, hnm⟩) (hw _ (List.mem_of_getElem? (i := 2) rfl)) (ty := (.array .byte)) (by decide) rfl rfl (g := (mkF m 6 #[.val (.ref a1), .val (.ref a2), .val (.int p3), .val (.int p4)] [(.ref a2), (.ref a1)])) rfl rfl (hb hby d1_6)
  refine own_go st2 ?_
  have E_a1 := E_a1.wr W2
  have F_a1_key := F_a1_key.same W2
  have F_a1_node := F_a1_node.other W2 (Or.inr (slot_ne (Or.inr (hw _ (List.mem_of_getElem? (i := 18) rfl))) (Or.inr (hw _ (List.mem_of_getElem? (i := 16) rfl))) (by decide) (t := .int) (t' := (.array .byte)) (by decide) (by decide)))
  have F_a1_child := F_a1_child.other W2 (Or.inr (slot_ne (Or.inr (hw _ (List.mem_of_getElem? (i := 20) rfl))) (Or.inr (hw _ (List.mem_of_getElem? (i := 16) rfl))) (by decide) (t := .int) (t' := (.array .byte)) (by decide) (by decide)))
  have Z0 := Nat.le_trans Z0 (Keep.of_wr W2).1
  have KK := KK.wr W2 (Or.inl (List.mem_of_getElem? (i := 0) rfl))
  have NN := Fr.snoc X2 NN g_a1
  show own_Go p.tables e below _ T2 (mkF m 9 #[.val (.ref a1), .val (.ref a2), .val (.int p3), .val (.int p4)] [])
  refine own_go (T' := T2) (g' := (mkF m 11 #[.val (.ref a1), .val (.ref a2), .val (.int p3), .val (.int p4)] [(.int p3), (.ref a1)])) (fun t k => ?_) ?_
  · show Steps p.tables e below (T2.setTop (mkF m 9 #[.val (.ref a1), .val (.ref a2), .val (.int p3), .val (.int p4)] [])) _
    refine XS.aloadN X2.here hx rfl (hb hby d1_9) rfl rfl ?_
    show Steps p.tables e below (T2.setTop (mkF m 10 #[.val (.ref a1), .val (.ref a2), .val (.int p3), .val (.int p4)] [(.ref a1)])) _
    refine XS.iloadN X2.here hx rfl (hb hby d1_10) rfl ?_
    exact k
  obtain ⟨T3, h3, X3, e3, W3, st3⟩ := putF X2 hx hZ hown (host := "") (Or.inl (hw _ (List.mem_of_getElem? (i := 17) rfl))) Via.refl e2 F_a1_node E_a1 (Or.inr ⟨(hw _ (List.mem_of_getElem? (i := 18) rfl)), rfl, hnm⟩) (hw _ (List.mem_of_getElem? (i := 2) rfl)) (ty := .int) (by decide) rfl rfl (g := (mkF m 11 #[.val (.ref a1), .val (.ref a2), .val (.int p3), .val (.int p4)] [(.int p3), (.ref a1)])) rfl rfl (hb hby d1_11)
  refine own_go st3 ?_
  have E_a1 := E_a1.wr W3
  have F_a1_key := F_a1_key.other W3 (Or.inr (slot_ne (Or.inr (hw _ (List.mem_of_getElem? (i := 16) rfl))) (Or.inr (hw _ (List.mem_of_getElem? (i := 18) rfl))) (by decide) (t := (.array .byte)) (t' := .int) (by decide) (by decide)))
  have F_a1_node := F_a1_node.same W3
  have F_a1_child := F_a1_child.other W3 (Or.inr (slot_ne (Or.inr (hw _ (List.mem_of_getElem? (i := 20) rfl))) (Or.inr (hw _ (List.mem_of_getElem? (i := 18) rfl))) (by decide) (t := .int) (t' := .int) (by decide) (by decide)))
  have Z0 := Nat.le_trans Z0 (Keep.of_wr W3).1
  have KK := KK.wr W3 (Or.inl (List.mem_of_getElem? (i := 0) rfl))
  have NN := Fr.snoc X3 NN g_a1
  show own_Go p.tables e below _ T3 (mkF m 14 #[.val (.ref a1), .val (.ref a2), .val (.int p3), .val (.int p4)] [])
  refine own_go (T' := T3) (g' := (mkF m 16 #[.val (.ref a1), .val (.ref a2), .val (.int p3), .val (.int p4)] [(.int p4), (.ref a1)])) (fun t k => ?_) ?_
  · show Steps p.tables e below (T3.setTop (mkF m 14 #[.val (.ref a1), .val (.ref a2), .val (.int p3), .val (.int p4)] [])) _
    refine XS.aloadN X3.here hx rfl (hb hby d1_14) rfl rfl ?_
    show Steps p.tables e below (T3.setTop (mkF m 15 #[.val (.ref a1), .val (.ref a2), .val (.int p3), .val (.int p4)] [(.ref a1)])) _
    refine XS.iloadN X3.here hx rfl (hb hby d1_15) rfl ?_
    exact k
  obtain ⟨T4, h4, X4, e4, W4, st4⟩ := putF X3 hx hZ hown (host := "") (Or.inl (hw _ (List.mem_of_getElem? (i := 19) rfl))) Via.refl e3 F_a1_child E_a1 (Or.inr ⟨(hw _ (List.mem_of_getElem? (i := 20) rfl)), rfl, hnm⟩) (hw _ (List.mem_of_getElem? (i := 2) rfl)) (ty := .int) (by decide) rfl rfl (g := (mkF m 16 #[.val (.ref a1), .val (.ref a2), .val (.int p3), .val (.int p4)] [(.int p4), (.ref a1)])) rfl rfl (hb hby d1_16)
  refine own_go st4 ?_
  have E_a1 := E_a1.wr W4
  have F_a1_key := F_a1_key.other W4 (Or.inr (slot_ne (Or.inr (hw _ (List.mem_of_getElem? (i := 16) rfl))) (Or.inr (hw _ (List.mem_of_getElem? (i := 20) rfl))) (by decide) (t := (.array .byte)) (t' := .int) (by decide) (by decide)))
  have F_a1_node := F_a1_node.other W4 (Or.inr (slot_ne (Or.inr (hw _ (List.mem_of_getElem? (i := 18) rfl))) (Or.inr (hw _ (List.mem_of_getElem? (i := 20) rfl))) (by decide) (t := .int) (t' := .int) (by decide) (by decide)))
  have F_a1_child := F_a1_child.same W4
  have Z0 := Nat.le_trans Z0 (Keep.of_wr W4).1
  have KK := KK.wr W4 (Or.inl (List.mem_of_getElem? (i := 0) rfl))
  have NN := Fr.snoc X4 NN g_a1
  show own_Go p.tables e below _ T4 (mkF m 19 #[.val (.ref a1), .val (.ref a2), .val (.int p3), .val (.int p4)] [])
  obtain ⟨fs, hr, hrun, hended, hW, hsame⟩ := X4.leave (v := none) (fun _ => rfl)
  refine ⟨_, _, ?_, hrun, hended, _, _, rfl, ?_, ⟨_, rfl⟩, hW, hsame.mono (by decide) (by decide)⟩
  · exact X4.returnOut hx Bd.returns (hb hby d1_19) hr
  · show Q1 Z a1 a2 p3 p4 u_key_a1 u_node_a1 u_child_a1 h0 n0 _ T4.heap _
    rw [e4]
    exact ⟨rfl, NN, KK, E_a1, F_a1_key, F_a1_node, F_a1_child⟩
theorem d4_0 : decode prog_30_method_3_code 0 = .ok (.iconst 4, 1) := by decide +kernel
theorem d4_1 : decode prog_30_method_3_code 1 = .ok (.aload_n 0, 1) := by decide +kernel
theorem d4_2 : decode prog_30_method_3_code 2 = .ok (.getfield 9, 3) := by decide +kernel
theorem d4_5 : decode prog_30_method_3_code 5 = .ok (.arraylength, 1) := by decide +kernel
theorem d4_6 : decode prog_30_method_3_code 6 = .ok (.iadd, 1) := by decide +kernel
theorem d4_7 : decode prog_30_method_3_code 7 = .ok (.iload_n 1, 1) := by decide +kernel
theorem d4_8 : decode prog_30_method_3_code 8 = .ok (.iconst 3, 1) := by decide +kernel
theorem d4_9 : decode prog_30_method_3_code 9 = .ok (.if_icmp .ne 7, 3) := by decide +kernel
theorem d4_12 : decode prog_30_method_3_code 12 = .ok (.iconst 2, 1) := by decide +kernel
theorem d4_13 : decode prog_30_method_3_code 13 = .ok (.goto 4, 3) := by decide +kernel
theorem d4_16 : decode prog_30_method_3_code 16 = .ok (.iconst 1, 1) := by decide +kernel
theorem d4_17 : decode prog_30_method_3_code 17 = .ok (.iconst 4, 1) := by decide +kernel
theorem d4_18 : decode prog_30_method_3_code 18 = .ok (.imul, 1) := by decide +kernel
theorem d4_19 : decode prog_30_method_3_code 19 = .ok (.iadd, 1) := by decide +kernel
theorem d4_20 : decode prog_30_method_3_code 20 = .ok (.ireturn, 1) := by decide +kernel
theorem ef_4 (m : MethodId) (a1 : Addr) (p2 : Int32) : entryFrame m #[(.ref a1), (.int p2)] 2 = mkF m 0 #[.val (.ref a1), .val (.int p2)] [] := by first | (simp [entryFrame, mkF, argsToLocals, Value.category]; done) | rfl
def r_4 (p2 : Int32) (z_w_key_a1 : Int32) : Int32 := (((4 : Int32) + z_w_key_a1) + (((if p2 = (3 : Int32) then (2 : Int32) else (1 : Int32))) * (4 : Int32)))
def Q4 (Z : State) (a1 : Addr) (p2 : Int32) (w_key_a1 : Addr) (k_w_key_a1 : ClassId) (z_w_key_a1 : Int32) (vs_w_key_a1 : List Value) (dv_w_key_a1 : Value) (h0 : Heap) (n0 : Nat) (v : Option Value) (h : Heap) (L : List Loc) : Prop := v = some (.int (r_4 p2 z_w_key_a1)) ∧ Fr n0 L ∧ h = h0
set_option maxRecDepth 65536 in
set_option maxHeartbeats 40000000 in
theorem rm4 (l : Launch) (Z : State) (a0 : Array Value) (hw : ∀ d ∈ tables_1, d.before a0 Z = true) (ws : List Jvm.Cond) (a1 : Addr) (p2 : Int32) (w_key_a1 : Addr) (k_w_key_a1 : ClassId) (z_w_key_a1 : Int32) (vs_w_key_a1 : List Value) (dv_w_key_a1 : Value) (h0 : Heap) (n0 : Nat) (Z0 : n0 ≤ h0.size) (F_a1_key : Fld Z h0 a1 "com/example/hopline/hopline/core/IndexPage$Entry" "key" "[B" (.ref w_key_a1)) (V_w_key_a1 : Arv Z h0 w_key_a1 k_w_key_a1 .byte z_w_key_a1 vs_w_key_a1 dv_w_key_a1) :
    MetFree l (⟨"com/example/hopline/hopline/core/IndexPage$Entry", "size", "(B)I"⟩ : MethodName) (head1 (Jvm.Cond.code (⟨"com/example/hopline/hopline/core/IndexPage$Entry", "size", "(B)I"⟩ : MethodName) prog_30_method_3_code 2 (some .int) :: ws) ({ frames := 0, cells := 0, slots := 0, locals := 0 } : Room)) (fun a U => a = #[(.ref a1), (.int p2)] ∧ Z.Warmed39 U.vm ∧ U.heap = h0) (fun _ _ _ _ _ => True) (fun _ U o U' => ∃ v L, o = .returned v ∧ Q4 Z a1 p2 w_key_a1 k_w_key_a1 z_w_key_a1 vs_w_key_a1 dv_w_key_a1 h0 n0 v U'.heap L ∧ FrameEnd U o U' L ({ frames := 0, cells := 0, slots := 0, locals := 0 } : Room).cells ({ frames := 0, cells := 0, slots := 0, locals := 0 } : Room).slots) := by
  refine MetFree.of_bodySF (plainFor_of_name pn_1) hisR ?_
  intro p e s m args below meth c s₁ Bd hml0 hP hK
  obtain ⟨rfl, hZ, hh⟩ := hP
  have hx := Bd.exec
  have hby := Bd.bytes
  have hml : c.maxLocals = 2 := hml0
  have hown : s.vm.findClass "com/example/hopline/hopline/core/IndexPage$Entry" = some m.cls := findClass_of_methodNamed Bd.named
  have hnm := (name_of_methodNamed Bd.named Bd.method).1
  have X0 : Stand p l e ({ frames := 0, cells := 0, slots := 0, locals := 0 } : Room) s m #[(.ref a1), (.int p2)] below meth c s₁ [] 0 0 := Stand.of_body Bd
  have e0 : s₁.heap = h0 := by rw [← hh, Bd.state]; rfl
  have NN := Fr.nil n0
  have KK : Keep h0 h0 [] := Keep.refl h0 []
  refine own_start (ef_4 m a1 p2) ?_
  refine own_go (T' := s₁) (g' := (mkF m 2 #[.val (.ref a1), .val (.int p2)] [(.ref a1), (.int (4 : Int32))])) (fun t k => ?_) ?_
  · show Steps p.tables e below (s₁.setTop (mkF m 0 #[.val (.ref a1), .val (.int p2)] [])) _
    refine XS.iconst X0.here hx rfl (hb hby d4_0) ?_
    show Steps p.tables e below (s₁.setTop (mkF m 1 #[.val (.ref a1), .val (.int p2)] [(.int (4 : Int32))])) _
    refine XS.aloadN X0.here hx rfl (hb hby d4_1) rfl rfl ?_
    exact k
  obtain ⟨T1, X1, e1, st1⟩ := getF X0 hx hZ hown (host := "") (Or.inl (hw _ (List.mem_of_getElem? (i := 15) rfl))) Via.refl e0 F_a1_key (g := (mkF m 2 #[.val (.ref a1), .val (.int p2)] [(.ref a1), (.int (4 : Int32))])) rfl rfl (hb hby d4_2)
  refine own_go st1 ?_
  show own_Go p.tables e below _ T1 (mkF m 5 #[.val (.ref a1), .val (.int p2)] [(.ref w_key_a1), (.int (4 : Int32))])
  obtain ⟨cl5, Ar5, -, Sz5, Ng5, -, -⟩ := V_w_key_a1
  refine own_go (fun t k => X1.arraylength hx (by rw [e1]; exact Ar5.1) (State.isArrayOf_alike hZ.alike Ar5.2.1) (g := (mkF m 5 #[.val (.ref a1), .val (.int p2)] [(.ref w_key_a1), (.int (4 : Int32))])) rfl rfl (hb hby d4_5) t k) ?_
  rw [len_of Sz5 Ng5]
  show own_Go p.tables e below _ T1 (mkF m 6 #[.val (.ref a1), .val (.int p2)] [(.int z_w_key_a1), (.int (4 : Int32))])
  refine own_go (T' := T1) (g' := (mkF m 9 #[.val (.ref a1), .val (.int p2)] [(.int (3 : Int32)), (.int p2), (.int ((4 : Int32) + z_w_key_a1))])) (fun t k => ?_) ?_
  · show Steps p.tables e below (T1.setTop (mkF m 6 #[.val (.ref a1), .val (.int p2)] [(.int z_w_key_a1), (.int (4 : Int32))])) _
    refine XS.iadd X1.here hx rfl (hb hby d4_6) rfl ?_
    show Steps p.tables e below (T1.setTop (mkF m 7 #[.val (.ref a1), .val (.int p2)] [(.int ((4 : Int32) + z_w_key_a1))])) _
    refine XS.iloadN X1.here hx rfl (hb hby d4_7) rfl ?_
    show Steps p.tables e below (T1.setTop (mkF m 8 #[.val (.ref a1), .val (.int p2)] [(.int p2), (.int ((4 : Int32) + z_w_key_a1))])) _
    refine XS.iconst X1.here hx rfl (hb hby d4_8) ?_
    exact k
  obtain ⟨j2, hj2, st3⟩ : ∃ (j2 : Int32), j2 = (if p2 = (3 : Int32) then (2 : Int32) else (1 : Int32)) ∧ ∀ t, Steps p.tables e below (T1.setTop (mkF m 17 #[.val (.ref a1), .val (.int p2)] [(.int j2), (.int ((4 : Int32) + z_w_key_a1))])) t → Steps p.tables e below (T1.setTop (mkF m 9 #[.val (.ref a1), .val (.int p2)] [(.int (3 : Int32)), (.int p2), (.int ((4 : Int32) + z_w_key_a1))])) t := by
    by_cases hc9_1 : p2 = (3 : Int32)
    · skip
      refine ⟨(2 : Int32), (by simp only [if_pos hc9_1]), fun t k => ?_⟩
      show Steps p.tables e below (T1.setTop (mkF m 9 #[.val (.ref a1), .val (.int p2)] [(.int (3 : Int32)), (.int p2), (.int ((4 : Int32) + z_w_key_a1))])) _
      refine XS.icmpNo X1.here hx rfl (hb hby d4_9) rfl (teq hc9_1).2 ?_
      show Steps p.tables e below (T1.setTop (mkF m 12 #[.val (.ref a1), .val (.int p2)] [(.int ((4 : Int32) + z_w_key_a1))])) _
      refine XS.iconst X1.here hx rfl (hb hby d4_12) ?_
      show Steps p.tables e below (T1.setTop (mkF m 13 #[.val (.ref a1), .val (.int p2)] [(.int (2 : Int32)), (.int ((4 : Int32) + z_w_key_a1))])) _
      refine XS.goto X1.here hx rfl (pc0 := 13) (pc' := 17) rfl (hb hby d4_13) (by decide) (by decide) ?_
      exact k
    · skip
      refine ⟨(1 : Int32), (by simp only [if_neg hc9_1]), fun t k => ?_⟩
      show Steps p.tables e below (T1.setTop (mkF m 9 #[.val (.ref a1), .val (.int p2)] [(.int (3 : Int32)), (.int p2), (.int ((4 : Int32) + z_w_key_a1))])) _
      refine XS.icmpYes X1.here hx rfl (pc0 := 9) (pc' := 16) rfl (hb hby d4_9) rfl (feq hc9_1).2 (by decide) (by decide) ?_
      show Steps p.tables e below (T1.setTop (mkF m 16 #[.val (.ref a1), .val (.int p2)] [(.int ((4 : Int32) + z_w_key_a1))])) _
      refine XS.iconst X1.here hx rfl (hb hby d4_16) ?_
      exact k
  refine own_go st3 ?_
  show own_Go p.tables e below _ T1 (mkF m 17 #[.val (.ref a1), .val (.int p2)] [(.int j2), (.int ((4 : Int32) + z_w_key_a1))])
  refine own_go (T' := T1) (g' := (mkF m 20 #[.val (.ref a1), .val (.int p2)] [(.int (((4 : Int32) + z_w_key_a1) + (j2 * (4 : Int32))))])) (fun t k => ?_) ?_
  · show Steps p.tables e below (T1.setTop (mkF m 17 #[.val (.ref a1), .val (.int p2)] [(.int j2), (.int ((4 : Int32) + z_w_key_a1))])) _
    refine XS.iconst X1.here hx rfl (hb hby d4_17) ?_
    show Steps p.tables e below (T1.setTop (mkF m 18 #[.val (.ref a1), .val (.int p2)] [(.int (4 : Int32)), (.int j2), (.int ((4 : Int32) + z_w_key_a1))])) _
    refine XS.imul X1.here hx rfl (hb hby d4_18) rfl ?_
    show Steps p.tables e below (T1.setTop (mkF m 19 #[.val (.ref a1), .val (.int p2)] [(.int (j2 * (4 : Int32))), (.int ((4 : Int32) + z_w_key_a1))])) _
    refine XS.iadd X1.here hx rfl (hb hby d4_19) rfl ?_
    exact k
  obtain ⟨fs, hr, hrun, hended, hW, hsame⟩ := X1.leave (v := some (.int (((4 : Int32) + z_w_key_a1) + (j2 * (4 : Int32))))) (fun h => by rw [Bd.returns] at h; cases h)
  refine ⟨_, _, ?_, hrun, hended, _, _, rfl, ?_, ⟨_, rfl⟩, hW, hsame.mono (by decide) (by decide)⟩
  · exact retI X1 hx Bd.returns (hb hby d4_20) hr
  · show Q4 Z a1 p2 w_key_a1 k_w_key_a1 z_w_key_a1 vs_w_key_a1 dv_w_key_a1 h0 n0 _ T1.heap _
    rw [e1]
    exact ⟨(by subst hj2; first | (simp only [r_4]; done) | rfl), NN, rfl⟩
theorem pn_2 : plainName "com/example/hopline/hopline/core/EntrySizePinLaw" = true := by first | (simp [plainName, overriddenIn]; done) | decide +kernel
theorem pd_0 : parseMethodDescriptor "([BII)V" = some ⟨[(.array .byte), .int, .int], none⟩ := by decide +kernel
theorem pd_2 : parseMethodDescriptor "(B)I" = some ⟨[.byte], some .int⟩ := by decide +kernel
theorem ef_0 (m : MethodId) (p1 : Int32) (p2 : Int32) (p3 : Int32) (p4 : Int32) (p5 : Int32) : entryFrame m #[(.int p1), (.int p2), (.int p3), (.int p4), (.int p5)] maxLocals = mkF m 0 #[.val (.int p1), .val (.int p2), .val (.int p3), .val (.int p4), .val (.int p5), .unset, .unset, .unset, .unset, .unset, .unset, .unset, .unset, .unset] [] := by first | (simp [entryFrame, mkF, argsToLocals, Value.category, maxLocals]; done) | rfl
def Q0 (Z : State) (p1 : Int32) (p2 : Int32) (p3 : Int32) (p4 : Int32) (p5 : Int32) (h0 : Heap) (n0 : Nat) (v : Option Value) (h : Heap) (L : List Loc) : Prop := v = some (.int 1) ∧ Fr n0 L
theorem own_at_hneg9 (p1 : Int32) (j1 : Int32) (hj1 : j1 = (p1 &&& (1023 : Int32))) : ¬ (j1 < (0 : Int32)) := by
  have h := c_mask p1 (1023 : Int32) 10 (by decide) (by decide)
  rw [← hj1] at h
  have k0 : (0 : Int32).toInt = 0 := rfl
  rw [Int32.lt_iff_toInt_lt]
  omega
theorem own_at_hcap9 (p1 : Int32) (j1 : Int32) (hj1 : j1 = (p1 &&& (1023 : Int32))) (hneg9 : ¬ (j1 < (0 : Int32))) : (j1).toNatClampNeg ≤ 1023 := by
  have h := c_mask p1 (1023 : Int32) 10 (by decide) (by decide)
  rw [← hj1] at h
  show j1.toInt.toNat ≤ 1023
  omega
theorem own_yes_x (p1 : Int32) (p4 : Int32) (p5 : Int32) (j1 : Int32) (j3 : Int32) (j7 : Int32) (j9 : Int32) (j11 : Int32) (hj1 : j1 = (p1 &&& (1023 : Int32))) (hj3 : j3 = (if (p5 &&& (1 : Int32)) = (0 : Int32) then p4.toInt8.toInt32 else (3 : Int32))) (hj7 : j7 = (if j3 = (3 : Int32) then (4 : Int32) else (0 : Int32))) (hj9 : j9 = (((((2 : Int32) + (2 : Int32)) + j1) + (4 : Int32)) + j7)) (hj11 : j11 = (if (r_4 j3 j1) = j9 then (1 : Int32) else (0 : Int32))) (hneg9 : ¬ (j1 < (0 : Int32))) (hcap9 : (j1).toNatClampNeg ≤ 1023) : (nar .boolean j11) = 1 := by
  have q : r_4 j3 j1 = j9 := by
    rw [hj9, hj7, r_4]
    by_cases z : j3 = (3 : Int32)
    · rw [if_pos z, if_pos z, Int32.add_assoc (2 + 2 + j1) 4 4]; rfl
    · rw [if_neg z, if_neg z, Int32.add_zero]; rfl
  rw [hj11, if_pos q]
  rfl
set_option maxRecDepth 65536 in
set_option maxHeartbeats 40000000 in
theorem rm0 (l : Launch) (Z : State) (a0 : Array Value) (hw : ∀ d ∈ tables_1, d.before a0 Z = true) (ws : List Jvm.Cond) (p1 : Int32) (p2 : Int32) (p3 : Int32) (p4 : Int32) (p5 : Int32) (h0 : Heap) (n0 : Nat) (Z0 : n0 ≤ h0.size) :
    MetFree l x (head1 (Jvm.Cond.code x code maxLocals ret :: ws) room_1) (fun a U => a = #[(.int p1), (.int p2), (.int p3), (.int p4), (.int p5)] ∧ Z.Warmed39 U.vm ∧ U.heap = h0) (fun _ _ _ _ _ => True) (fun _ U o U' => ∃ v L, o = .returned v ∧ Q0 Z p1 p2 p3 p4 p5 h0 n0 v U'.heap L ∧ FrameEnd U o U' L room_1.cells room_1.slots) := by
  refine MetFree.of_bodySF (plainFor_of_name pn_2) hisR ?_
  intro p e s m args below meth c s₁ Bd hml0 hP hK
  obtain ⟨rfl, hZ, hh⟩ := hP
  have hx := Bd.exec
  have hby := Bd.bytes
  have hml : c.maxLocals = 14 := hml0
  have hown : s.vm.findClass "com/example/hopline/hopline/core/EntrySizePinLaw" = some m.cls := findClass_of_methodNamed Bd.named
  have hnm := (name_of_methodNamed Bd.named Bd.method).1
  have X0 : Stand p l e room_1 s m #[(.int p1), (.int p2), (.int p3), (.int p4), (.int p5)] below meth c s₁ [] 0 0 := Stand.of_body Bd
  have e0 : s₁.heap = h0 := by rw [← hh, Bd.state]; rfl
  have NN := Fr.nil n0
  have KK : Keep h0 h0 [] := Keep.refl h0 []
  refine own_start (ef_0 m p1 p2 p3 p4 p5) ?_
  refine own_go (T' := s₁) (g' := (mkF m 7 #[.val (.int p1), .val (.int p2), .val (.int p3), .val (.int p4), .val (.int p5), .val (.int (p1 &&& (1023 : Int32))), .unset, .unset, .unset, .unset, .unset, .unset, .unset, .unset] [])) (fun t k => ?_) ?_
  · show Steps p.tables e below (s₁.setTop (mkF m 0 #[.val (.int p1), .val (.int p2), .val (.int p3), .val (.int p4), .val (.int p5), .unset, .unset, .unset, .unset, .unset, .unset, .unset, .unset, .unset] [])) _
    refine XS.iloadN X0.here hx rfl (hb hby at_0) rfl ?_
    show Steps p.tables e below (s₁.setTop (mkF m 1 #[.val (.int p1), .val (.int p2), .val (.int p3), .val (.int p4), .val (.int p5), .unset, .unset, .unset, .unset, .unset, .unset, .unset, .unset, .unset] [(.int p1)])) _
    refine XS.sipush X0.here hx rfl (hb hby at_1) ?_
    show Steps p.tables e below (s₁.setTop (mkF m 4 #[.val (.int p1), .val (.int p2), .val (.int p3), .val (.int p4), .val (.int p5), .unset, .unset, .unset, .unset, .unset, .unset, .unset, .unset, .unset] [(.int (1023 : Int32)), (.int p1)])) _
    refine XS.iand X0.here hx rfl (hb hby at_4) rfl ?_
    show Steps p.tables e below (s₁.setTop (mkF m 5 #[.val (.int p1), .val (.int p2), .val (.int p3), .val (.int p4), .val (.int p5), .unset, .unset, .unset, .unset, .unset, .unset, .unset, .unset, .unset] [(.int (p1 &&& (1023 : Int32)))])) _
    refine XS.istore X0.here hx rfl (hb hby at_5) rfl (l' := #[.val (.int p1), .val (.int p2), .val (.int p3), .val (.int p4), .val (.int p5), .val (.int (p1 &&& (1023 : Int32))), .unset, .unset, .unset, .unset, .unset, .unset, .unset, .unset]) rfl ?_
    exact k
  show own_Go p.tables e below _ s₁ (mkF m 7 #[.val (.int p1), .val (.int p2), .val (.int p3), .val (.int p4), .val (.int p5), .val (.int (p1 &&& (1023 : Int32))), .unset, .unset, .unset, .unset, .unset, .unset, .unset, .unset] [])
  obtain ⟨j1, hj1⟩ : ∃ z : Int32, z = (p1 &&& (1023 : Int32)) := ⟨_, rfl⟩
  rw [← hj1]
  show own_Go p.tables e below _ s₁ (mkF m 7 #[.val (.int p1), .val (.int p2), .val (.int p3), .val (.int p4), .val (.int p5), .val (.int j1), .unset, .unset, .unset, .unset, .unset, .unset, .unset, .unset] [])
  refine own_go (T' := s₁) (g' := (mkF m 9 #[.val (.int p1), .val (.int p2), .val (.int p3), .val (.int p4), .val (.int p5), .val (.int j1), .unset, .unset, .unset, .unset, .unset, .unset, .unset, .unset] [(.int j1)])) (fun t k => ?_) ?_
  · show Steps p.tables e below (s₁.setTop (mkF m 7 #[.val (.int p1), .val (.int p2), .val (.int p3), .val (.int p4), .val (.int p5), .val (.int j1), .unset, .unset, .unset, .unset, .unset, .unset, .unset, .unset] [])) _
    refine XS.iload X0.here hx rfl (hb hby at_7) rfl ?_
    exact k
  have hneg9 : ¬ (j1 < (0 : Int32)) := own_at_hneg9 p1 j1 hj1
  have hcap9 : (j1).toNatClampNeg ≤ 1023 := own_at_hcap9 p1 j1 hj1 hneg9
  obtain ⟨T2, h2, k2, X2, e2, E2, A2, st2⟩ := newP X0 hx hZ (hw _ (List.mem_of_getElem? (i := 0) rfl)) e0 (g := (mkF m 9 #[.val (.int p1), .val (.int p2), .val (.int p3), .val (.int p4), .val (.int p5), .val (.int j1), .unset, .unset, .unset, .unset, .unset, .unset, .unset, .unset] [(.int j1)])) rfl (hb hby at_9) rfl hneg9 (cap := 1023) hcap9 (by decide) (by decide) (by decide)
  obtain ⟨b2, g2⟩ : ∃ z, z = h0.size := ⟨_, rfl⟩
  rw [← g2] at A2 st2
  have g_b2 : n0 ≤ b2 := Nat.le_trans Z0 (Nat.le_of_eq g2.symm)
  have sz_b2 : h0.size ≤ b2 := Nat.le_trans KK.1 (Nat.le_of_eq g2.symm)
  have Z0 := Nat.le_trans Z0 E2.1
  have KK := KK.ext E2
  have V_b2 : Arv Z h2 b2 k2 .byte j1 [] (.int (0 : Int32)) := Arv.new A2 hneg9
  refine own_go st2 ?_
  show own_Go p.tables e below _ T2 (mkF m 11 #[.val (.int p1), .val (.int p2), .val (.int p3), .val (.int p4), .val (.int p5), .val (.int j1), .unset, .unset, .unset, .unset, .unset, .unset, .unset, .unset] [(.ref b2)])
  refine own_go (T' := T2) (g' := (mkF m 17 #[.val (.int p1), .val (.int p2), .val (.int p3), .val (.int p4), .val (.int p5), .val (.int j1), .val (.ref b2), .unset, .unset, .unset, .unset, .unset, .unset, .unset] [(.int (p5 &&& (1 : Int32)))])) (fun t k => ?_) ?_
  · show Steps p.tables e below (T2.setTop (mkF m 11 #[.val (.int p1), .val (.int p2), .val (.int p3), .val (.int p4), .val (.int p5), .val (.int j1), .unset, .unset, .unset, .unset, .unset, .unset, .unset, .unset] [(.ref b2)])) _
    refine XS.astore X2.here hx rfl (hb hby at_11) rfl rfl (l' := #[.val (.int p1), .val (.int p2), .val (.int p3), .val (.int p4), .val (.int p5), .val (.int j1), .val (.ref b2), .unset, .unset, .unset, .unset, .unset, .unset, .unset]) rfl ?_
    show Steps p.tables e below (T2.setTop (mkF m 13 #[.val (.int p1), .val (.int p2), .val (.int p3), .val (.int p4), .val (.int p5), .val (.int j1), .val (.ref b2), .unset, .unset, .unset, .unset, .unset, .unset, .unset] [])) _
    refine XS.iload X2.here hx rfl (hb hby at_13) rfl ?_
    show Steps p.tables e below (T2.setTop (mkF m 15 #[.val (.int p1), .val (.int p2), .val (.int p3), .val (.int p4), .val (.int p5), .val (.int j1), .val (.ref b2), .unset, .unset, .unset, .unset, .unset, .unset, .unset] [(.int p5)])) _
    refine XS.iconst X2.here hx rfl (hb hby at_15) ?_
    show Steps p.tables e below (T2.setTop (mkF m 16 #[.val (.int p1), .val (.int p2), .val (.int p3), .val (.int p4), .val (.int p5), .val (.int j1), .val (.ref b2), .unset, .unset, .unset, .unset, .unset, .unset, .unset] [(.int (1 : Int32)), (.int p5)])) _
    refine XS.iand X2.here hx rfl (hb hby at_16) rfl ?_
    exact k
  obtain ⟨j3, hj3, st4⟩ : ∃ (j3 : Int32), j3 = (if (p5 &&& (1 : Int32)) = (0 : Int32) then p4.toInt8.toInt32 else (3 : Int32)) ∧ ∀ t, Steps p.tables e below (T2.setTop (mkF m 26 #[.val (.int p1), .val (.int p2), .val (.int p3), .val (.int p4), .val (.int p5), .val (.int j1), .val (.ref b2), .unset, .unset, .unset, .unset, .unset, .unset, .unset] [(.int j3)])) t → Steps p.tables e below (T2.setTop (mkF m 17 #[.val (.int p1), .val (.int p2), .val (.int p3), .val (.int p4), .val (.int p5), .val (.int j1), .val (.ref b2), .unset, .unset, .unset, .unset, .unset, .unset, .unset] [(.int (p5 &&& (1 : Int32)))])) t := by
    by_cases hc17_1 : (p5 &&& (1 : Int32)) = (0 : Int32)
    · skip
      refine ⟨p4.toInt8.toInt32, (by simp only [if_pos hc17_1]), fun t k => ?_⟩
      show Steps p.tables e below (T2.setTop (mkF m 17 #[.val (.int p1), .val (.int p2), .val (.int p3), .val (.int p4), .val (.int p5), .val (.int j1), .val (.ref b2), .unset, .unset, .unset, .unset, .unset, .unset, .unset] [(.int (p5 &&& (1 : Int32)))])) _
      refine XS.ifYes X2.here hx rfl (pc0 := 17) (pc' := 24) rfl (hb hby at_17) rfl ((if0 _ _).trans (teq hc17_1).1) (by decide) (by decide) ?_
      show Steps p.tables e below (T2.setTop (mkF m 24 #[.val (.int p1), .val (.int p2), .val (.int p3), .val (.int p4), .val (.int p5), .val (.int j1), .val (.ref b2), .unset, .unset, .unset, .unset, .unset, .unset, .unset] [])) _
      refine XS.iloadN X2.here hx rfl (hb hby at_24) rfl ?_
      show Steps p.tables e below (T2.setTop (mkF m 25 #[.val (.int p1), .val (.int p2), .val (.int p3), .val (.int p4), .val (.int p5), .val (.int j1), .val (.ref b2), .unset, .unset, .unset, .unset, .unset, .unset, .unset] [(.int p4)])) _
      refine XS.i2b X2.here hx rfl (hb hby at_25) rfl ?_
      exact k
    · skip
      refine ⟨(3 : Int32), (by simp only [if_neg hc17_1]), fun t k => ?_⟩
      show Steps p.tables e below (T2.setTop (mkF m 17 #[.val (.int p1), .val (.int p2), .val (.int p3), .val (.int p4), .val (.int p5), .val (.int j1), .val (.ref b2), .unset, .unset, .unset, .unset, .unset, .unset, .unset] [(.int (p5 &&& (1 : Int32)))])) _
      refine XS.ifNo X2.here hx rfl (hb hby at_17) rfl ((if0 _ _).trans (feq hc17_1).1) ?_
      show Steps p.tables e below (T2.setTop (mkF m 20 #[.val (.int p1), .val (.int p2), .val (.int p3), .val (.int p4), .val (.int p5), .val (.int j1), .val (.ref b2), .unset, .unset, .unset, .unset, .unset, .unset, .unset] [])) _
      refine XS.iconst X2.here hx rfl (hb hby at_20) ?_
      show Steps p.tables e below (T2.setTop (mkF m 21 #[.val (.int p1), .val (.int p2), .val (.int p3), .val (.int p4), .val (.int p5), .val (.int j1), .val (.ref b2), .unset, .unset, .unset, .unset, .unset, .unset, .unset] [(.int (3 : Int32))])) _
      refine XS.goto X2.here hx rfl (pc0 := 21) (pc' := 26) rfl (hb hby at_21) (by decide) (by decide) ?_
      exact k
  refine own_go st4 ?_
  show own_Go p.tables e below _ T2 (mkF m 26 #[.val (.int p1), .val (.int p2), .val (.int p3), .val (.int p4), .val (.int p5), .val (.int j1), .val (.ref b2), .unset, .unset, .unset, .unset, .unset, .unset, .unset] [(.int j3)])
  refine own_go (T' := T2) (g' := (mkF m 28 #[.val (.int p1), .val (.int p2), .val (.int p3), .val (.int p4), .val (.int p5), .val (.int j1), .val (.ref b2), .val (.int j3), .unset, .unset, .unset, .unset, .unset, .unset] [])) (fun t k => ?_) ?_
  · show Steps p.tables e below (T2.setTop (mkF m 26 #[.val (.int p1), .val (.int p2), .val (.int p3), .val (.int p4), .val (.int p5), .val (.int j1), .val (.ref b2), .unset, .unset, .unset, .unset, .unset, .unset, .unset] [(.int j3)])) _
    refine XS.istore X2.here hx rfl (hb hby at_26) rfl (l' := #[.val (.int p1), .val (.int p2), .val (.int p3), .val (.int p4), .val (.int p5), .val (.int j1), .val (.ref b2), .val (.int j3), .unset, .unset, .unset, .unset, .unset, .unset]) rfl ?_
    exact k
  obtain ⟨T5, h5, X5, e5, E5, A5, D5, -, st5⟩ := newO X2 hx hZ hown (hw _ (List.mem_of_getElem? (i := 1) rfl)) (hw _ (List.mem_of_getElem? (i := 2) rfl)) (hw _ (List.mem_of_getElem? (i := 3) rfl)) e2 (g := (mkF m 28 #[.val (.int p1), .val (.int p2), .val (.int p3), .val (.int p4), .val (.int p5), .val (.int j1), .val (.ref b2), .val (.int j3), .unset, .unset, .unset, .unset, .unset, .unset] [])) rfl (hb hby at_28) (by decide) (by decide)
  obtain ⟨b5, g5⟩ : ∃ z, z = h2.size := ⟨_, rfl⟩
  rw [← g5] at A5 D5 st5
  have g_b5 : n0 ≤ b5 := Nat.le_trans Z0 (Nat.le_of_eq g5.symm)
  have sz_b5 : h0.size ≤ b5 := Nat.le_trans KK.1 (Nat.le_of_eq g5.symm)
  have ne_b2_b5 : b2 ≠ b5 := Nat.ne_of_lt (Nat.lt_of_lt_of_le V_b2.lt (Nat.le_of_eq g5.symm))
  have V_b2 := V_b2.ext E5
  have Z0 := Nat.le_trans Z0 E5.1
  have KK := KK.ext E5
  have E_b5 := A5
  have F_b5_key : Fld Z h5 b5 "com/example/hopline/hopline/core/IndexPage$Entry" "key" "[B" .null := D5 (Or.inr (hw _ (List.mem_of_getElem? (i := 16) rfl))) (ty := (.array .byte)) (by decide)
  have F_b5_node : Fld Z h5 b5 "com/example/hopline/hopline/core/IndexPage$Entry" "node" "I" (.int (0 : Int32)) := D5 (Or.inr (hw _ (List.mem_of_getElem? (i := 18) rfl))) (ty := .int) (by decide)
  have F_b5_child : Fld Z h5 b5 "com/example/hopline/hopline/core/IndexPage$Entry" "child" "I" (.int (0 : Int32)) := D5 (Or.inr (hw _ (List.mem_of_getElem? (i := 20) rfl))) (ty := .int) (by decide)
  refine own_go st5 ?_
  show own_Go p.tables e below _ T5 (mkF m 31 #[.val (.int p1), .val (.int p2), .val (.int p3), .val (.int p4), .val (.int p5), .val (.int j1), .val (.ref b2), .val (.int j3), .unset, .unset, .unset, .unset, .unset, .unset] [(.ref b5)])
  refine own_go (T' := T5) (g' := (mkF m 36 #[.val (.int p1), .val (.int p2), .val (.int p3), .val (.int p4), .val (.int p5), .val (.int j1), .val (.ref b2), .val (.int j3), .unset, .unset, .unset, .unset, .unset, .unset] [(.int p3), (.int p2), (.ref b2), (.ref b5), (.ref b5)])) (fun t k => ?_) ?_
  · show Steps p.tables e below (T5.setTop (mkF m 31 #[.val (.int p1), .val (.int p2), .val (.int p3), .val (.int p4), .val (.int p5), .val (.int j1), .val (.ref b2), .val (.int j3), .unset, .unset, .unset, .unset, .unset, .unset] [(.ref b5)])) _
    refine XS.dup X5.here hx rfl (hb hby at_31) rfl rfl ?_
    show Steps p.tables e below (T5.setTop (mkF m 32 #[.val (.int p1), .val (.int p2), .val (.int p3), .val (.int p4), .val (.int p5), .val (.int j1), .val (.ref b2), .val (.int j3), .unset, .unset, .unset, .unset, .unset, .unset] [(.ref b5), (.ref b5)])) _
    refine XS.aload X5.here hx rfl (hb hby at_32) rfl rfl ?_
    show Steps p.tables e below (T5.setTop (mkF m 34 #[.val (.int p1), .val (.int p2), .val (.int p3), .val (.int p4), .val (.int p5), .val (.int j1), .val (.ref b2), .val (.int j3), .unset, .unset, .unset, .unset, .unset, .unset] [(.ref b2), (.ref b5), (.ref b5)])) _
    refine XS.iloadN X5.here hx rfl (hb hby at_34) rfl ?_
    show Steps p.tables e below (T5.setTop (mkF m 35 #[.val (.int p1), .val (.int p2), .val (.int p3), .val (.int p4), .val (.int p5), .val (.int j1), .val (.ref b2), .val (.int j3), .unset, .unset, .unset, .unset, .unset, .unset] [(.int p2), (.ref b2), (.ref b5), (.ref b5)])) _
    refine XS.iloadN X5.here hx rfl (hb hby at_35) rfl ?_
    exact k
  obtain ⟨_, _, ⟨T6, L6, k6, n6⟩, -, X6, ⟨Lc6, hQ6, l6, y6, z6⟩, st6⟩ := X5.specialBack hx (y := (⟨"com/example/hopline/hopline/core/IndexPage$Entry", "<init>", "([BII)V"⟩ : MethodName)) rfl hown (mvT hZ (hw _ (List.mem_of_getElem? (i := 4) rfl))) (mvT hZ (hw _ (List.mem_of_getElem? (i := 5) rfl))) (mvT hZ (hw _ (List.mem_of_getElem? (i := 6) rfl))) (by decide) (backOf (W := 1) (rm1 l Z a0 hw [] b5 b2 p2 p3 .null (.int (0 : Int32)) (.int (0 : Int32)) h5 n0 Z0 E_b5 F_b5_key g_b5 F_b5_node F_b5_child) hZ (hw _ (List.mem_of_getElem? (i := 6) rfl)) (hw _ (List.mem_of_getElem? (i := 3) rfl)) (by decide) (by decide)) (g := (mkF m 36 #[.val (.int p1), .val (.int p2), .val (.int p3), .val (.int p4), .val (.int p5), .val (.int j1), .val (.ref b2), .val (.int j3), .unset, .unset, .unset, .unset, .unset, .unset] [(.int p3), (.int p2), (.ref b2), (.ref b5), (.ref b5)])) rfl (by rw [hml]; rfl) (Steps.refl _) (a := b5) (argsL := [(.ref b2), (.int p2), (.int p3)]) (rest := [(.ref b5)]) (lenOf pd_0 rfl) rfl (by show 2 * 0 + _ ≤ _; exact Nat.le_of_eq rfl) (hb hby at_36) (fun _ _ => ⟨rfl, e5, (by decide : 2 + 0 ≤ _), (by decide : 1026 + 0 ≤ _)⟩)
  dsimp only [Pt.U, Pt.locs, Pt.cells, Pt.slots] at X6 l6 y6 z6 st6 hQ6
  subst l6 y6 z6
  obtain ⟨rfl, N6q, K6, Q6_0, Q6_1, Q6_2, Q6_3⟩ := hQ6
  have V_b2 := V_b2.keep K6 (ninS ne_b2_b5 nin0)
  have E_b5 := Q6_0
  have F_b5_key := Q6_1
  have F_b5_node := Q6_2
  have F_b5_child := Q6_3
  have Z0 := Nat.le_trans Z0 K6.1
  have KK := KK.trans K6 (allS (Or.inr sz_b5) all0)
  have NN := Fr.app NN N6q
  refine own_go (fun t k => st6.trans k) ?_
  show own_Go p.tables e below _ T6 (mkF m 39 #[.val (.int p1), .val (.int p2), .val (.int p3), .val (.int p4), .val (.int p5), .val (.int j1), .val (.ref b2), .val (.int j3), .unset, .unset, .unset, .unset, .unset, .unset] [(.ref b5)])
  refine own_go (T' := T6) (g' := (mkF m 53 #[.val (.int p1), .val (.int p2), .val (.int p3), .val (.int p4), .val (.int p5), .val (.int j1), .val (.ref b2), .val (.int j3), .val (.ref b5), .val (.int (2 : Int32)), .val (.int (2 : Int32)), .val (.int (4 : Int32)), .unset, .unset] [(.int (3 : Int32)), (.int j3)])) (fun t k => ?_) ?_
  · show Steps p.tables e below (T6.setTop (mkF m 39 #[.val (.int p1), .val (.int p2), .val (.int p3), .val (.int p4), .val (.int p5), .val (.int j1), .val (.ref b2), .val (.int j3), .unset, .unset, .unset, .unset, .unset, .unset] [(.ref b5)])) _
    refine XS.astore X6.here hx rfl (hb hby at_39) rfl rfl (l' := #[.val (.int p1), .val (.int p2), .val (.int p3), .val (.int p4), .val (.int p5), .val (.int j1), .val (.ref b2), .val (.int j3), .val (.ref b5), .unset, .unset, .unset, .unset, .unset]) rfl ?_
    show Steps p.tables e below (T6.setTop (mkF m 41 #[.val (.int p1), .val (.int p2), .val (.int p3), .val (.int p4), .val (.int p5), .val (.int j1), .val (.ref b2), .val (.int j3), .val (.ref b5), .unset, .unset, .unset, .unset, .unset] [])) _
    refine XS.iconst X6.here hx rfl (hb hby at_41) ?_
    show Steps p.tables e below (T6.setTop (mkF m 42 #[.val (.int p1), .val (.int p2), .val (.int p3), .val (.int p4), .val (.int p5), .val (.int j1), .val (.ref b2), .val (.int j3), .val (.ref b5), .unset, .unset, .unset, .unset, .unset] [(.int (2 : Int32))])) _
    refine XS.istore X6.here hx rfl (hb hby at_42) rfl (l' := #[.val (.int p1), .val (.int p2), .val (.int p3), .val (.int p4), .val (.int p5), .val (.int j1), .val (.ref b2), .val (.int j3), .val (.ref b5), .val (.int (2 : Int32)), .unset, .unset, .unset, .unset]) rfl ?_
    show Steps p.tables e below (T6.setTop (mkF m 44 #[.val (.int p1), .val (.int p2), .val (.int p3), .val (.int p4), .val (.int p5), .val (.int j1), .val (.ref b2), .val (.int j3), .val (.ref b5), .val (.int (2 : Int32)), .unset, .unset, .unset, .unset] [])) _
    refine XS.iconst X6.here hx rfl (hb hby at_44) ?_
    show Steps p.tables e below (T6.setTop (mkF m 45 #[.val (.int p1), .val (.int p2), .val (.int p3), .val (.int p4), .val (.int p5), .val (.int j1), .val (.ref b2), .val (.int j3), .val (.ref b5), .val (.int (2 : Int32)), .unset, .unset, .unset, .unset] [(.int (2 : Int32))])) _
    refine XS.istore X6.here hx rfl (hb hby at_45) rfl (l' := #[.val (.int p1), .val (.int p2), .val (.int p3), .val (.int p4), .val (.int p5), .val (.int j1), .val (.ref b2), .val (.int j3), .val (.ref b5), .val (.int (2 : Int32)), .val (.int (2 : Int32)), .unset, .unset, .unset]) rfl ?_
    show Steps p.tables e below (T6.setTop (mkF m 47 #[.val (.int p1), .val (.int p2), .val (.int p3), .val (.int p4), .val (.int p5), .val (.int j1), .val (.ref b2), .val (.int j3), .val (.ref b5), .val (.int (2 : Int32)), .val (.int (2 : Int32)), .unset, .unset, .unset] [])) _
    refine XS.iconst X6.here hx rfl (hb hby at_47) ?_
    show Steps p.tables e below (T6.setTop (mkF m 48 #[.val (.int p1), .val (.int p2), .val (.int p3), .val (.int p4), .val (.int p5), .val (.int j1), .val (.ref b2), .val (.int j3), .val (.ref b5), .val (.int (2 : Int32)), .val (.int (2 : Int32)), .unset, .unset, .unset] [(.int (4 : Int32))])) _
    refine XS.istore X6.here hx rfl (hb hby at_48) rfl (l' := #[.val (.int p1), .val (.int p2), .val (.int p3), .val (.int p4), .val (.int p5), .val (.int j1), .val (.ref b2), .val (.int j3), .val (.ref b5), .val (.int (2 : Int32)), .val (.int (2 : Int32)), .val (.int (4 : Int32)), .unset, .unset]) rfl ?_
    show Steps p.tables e below (T6.setTop (mkF m 50 #[.val (.int p1), .val (.int p2), .val (.int p3), .val (.int p4), .val (.int p5), .val (.int j1), .val (.ref b2), .val (.int j3), .val (.ref b5), .val (.int (2 : Int32)), .val (.int (2 : Int32)), .val (.int (4 : Int32)), .unset, .unset] [])) _
    refine XS.iload X6.here hx rfl (hb hby at_50) rfl ?_
    show Steps p.tables e below (T6.setTop (mkF m 52 #[.val (.int p1), .val (.int p2), .val (.int p3), .val (.int p4), .val (.int p5), .val (.int j1), .val (.ref b2), .val (.int j3), .val (.ref b5), .val (.int (2 : Int32)), .val (.int (2 : Int32)), .val (.int (4 : Int32)), .unset, .unset] [(.int j3)])) _
    refine XS.iconst X6.here hx rfl (hb hby at_52) ?_
    exact k
  obtain ⟨j7, hj7, st8⟩ : ∃ (j7 : Int32), j7 = (if j3 = (3 : Int32) then (4 : Int32) else (0 : Int32)) ∧ ∀ t, Steps p.tables e below (T6.setTop (mkF m 61 #[.val (.int p1), .val (.int p2), .val (.int p3), .val (.int p4), .val (.int p5), .val (.int j1), .val (.ref b2), .val (.int j3), .val (.ref b5), .val (.int (2 : Int32)), .val (.int (2 : Int32)), .val (.int (4 : Int32)), .unset, .unset] [(.int j7)])) t → Steps p.tables e below (T6.setTop (mkF m 53 #[.val (.int p1), .val (.int p2), .val (.int p3), .val (.int p4), .val (.int p5), .val (.int j1), .val (.ref b2), .val (.int j3), .val (.ref b5), .val (.int (2 : Int32)), .val (.int (2 : Int32)), .val (.int (4 : Int32)), .unset, .unset] [(.int (3 : Int32)), (.int j3)])) t := by
    by_cases hc53_2 : j3 = (3 : Int32)
    · skip
      refine ⟨(4 : Int32), (by simp only [if_pos hc53_2]), fun t k => ?_⟩
      show Steps p.tables e below (T6.setTop (mkF m 53 #[.val (.int p1), .val (.int p2), .val (.int p3), .val (.int p4), .val (.int p5), .val (.int j1), .val (.ref b2), .val (.int j3), .val (.ref b5), .val (.int (2 : Int32)), .val (.int (2 : Int32)), .val (.int (4 : Int32)), .unset, .unset] [(.int (3 : Int32)), (.int j3)])) _
      refine XS.icmpNo X6.here hx rfl (hb hby at_53) rfl (teq hc53_2).2 ?_
      show Steps p.tables e below (T6.setTop (mkF m 56 #[.val (.int p1), .val (.int p2), .val (.int p3), .val (.int p4), .val (.int p5), .val (.int j1), .val (.ref b2), .val (.int j3), .val (.ref b5), .val (.int (2 : Int32)), .val (.int (2 : Int32)), .val (.int (4 : Int32)), .unset, .unset] [])) _
      refine XS.iconst X6.here hx rfl (hb hby at_56) ?_
      show Steps p.tables e below (T6.setTop (mkF m 57 #[.val (.int p1), .val (.int p2), .val (.int p3), .val (.int p4), .val (.int p5), .val (.int j1), .val (.ref b2), .val (.int j3), .val (.ref b5), .val (.int (2 : Int32)), .val (.int (2 : Int32)), .val (.int (4 : Int32)), .unset, .unset] [(.int (4 : Int32))])) _
      refine XS.goto X6.here hx rfl (pc0 := 57) (pc' := 61) rfl (hb hby at_57) (by decide) (by decide) ?_
      exact k
    · skip
      refine ⟨(0 : Int32), (by simp only [if_neg hc53_2]), fun t k => ?_⟩
      show Steps p.tables e below (T6.setTop (mkF m 53 #[.val (.int p1), .val (.int p2), .val (.int p3), .val (.int p4), .val (.int p5), .val (.int j1), .val (.ref b2), .val (.int j3), .val (.ref b5), .val (.int (2 : Int32)), .val (.int (2 : Int32)), .val (.int (4 : Int32)), .unset, .unset] [(.int (3 : Int32)), (.int j3)])) _
      refine XS.icmpYes X6.here hx rfl (pc0 := 53) (pc' := 60) rfl (hb hby at_53) rfl (feq hc53_2).2 (by decide) (by decide) ?_
      show Steps p.tables e below (T6.setTop (mkF m 60 #[.val (.int p1), .val (.int p2), .val (.int p3), .val (.int p4), .val (.int p5), .val (.int j1), .val (.ref b2), .val (.int j3), .val (.ref b5), .val (.int (2 : Int32)), .val (.int (2 : Int32)), .val (.int (4 : Int32)), .unset, .unset] [])) _
      refine XS.iconst X6.here hx rfl (hb hby at_60) ?_
      exact k
  refine own_go st8 ?_
  show own_Go p.tables e below _ T6 (mkF m 61 #[.val (.int p1), .val (.int p2), .val (.int p3), .val (.int p4), .val (.int p5), .val (.int j1), .val (.ref b2), .val (.int j3), .val (.ref b5), .val (.int (2 : Int32)), .val (.int (2 : Int32)), .val (.int (4 : Int32)), .unset, .unset] [(.int j7)])
  refine own_go (T' := T6) (g' := (mkF m 79 #[.val (.int p1), .val (.int p2), .val (.int p3), .val (.int p4), .val (.int p5), .val (.int j1), .val (.ref b2), .val (.int j3), .val (.ref b5), .val (.int (2 : Int32)), .val (.int (2 : Int32)), .val (.int (4 : Int32)), .val (.int j7), .val (.int (((((2 : Int32) + (2 : Int32)) + j1) + (4 : Int32)) + j7))] [])) (fun t k => ?_) ?_
  · show Steps p.tables e below (T6.setTop (mkF m 61 #[.val (.int p1), .val (.int p2), .val (.int p3), .val (.int p4), .val (.int p5), .val (.int j1), .val (.ref b2), .val (.int j3), .val (.ref b5), .val (.int (2 : Int32)), .val (.int (2 : Int32)), .val (.int (4 : Int32)), .unset, .unset] [(.int j7)])) _
    refine XS.istore X6.here hx rfl (hb hby at_61) rfl (l' := #[.val (.int p1), .val (.int p2), .val (.int p3), .val (.int p4), .val (.int p5), .val (.int j1), .val (.ref b2), .val (.int j3), .val (.ref b5), .val (.int (2 : Int32)), .val (.int (2 : Int32)), .val (.int (4 : Int32)), .val (.int j7), .unset]) rfl ?_
    show Steps p.tables e below (T6.setTop (mkF m 63 #[.val (.int p1), .val (.int p2), .val (.int p3), .val (.int p4), .val (.int p5), .val (.int j1), .val (.ref b2), .val (.int j3), .val (.ref b5), .val (.int (2 : Int32)), .val (.int (2 : Int32)), .val (.int (4 : Int32)), .val (.int j7), .unset] [])) _
    refine XS.iload X6.here hx rfl (hb hby at_63) rfl ?_
    show Steps p.tables e below (T6.setTop (mkF m 65 #[.val (.int p1), .val (.int p2), .val (.int p3), .val (.int p4), .val (.int p5), .val (.int j1), .val (.ref b2), .val (.int j3), .val (.ref b5), .val (.int (2 : Int32)), .val (.int (2 : Int32)), .val (.int (4 : Int32)), .val (.int j7), .unset] [(.int (2 : Int32))])) _
    refine XS.iload X6.here hx rfl (hb hby at_65) rfl ?_
    show Steps p.tables e below (T6.setTop (mkF m 67 #[.val (.int p1), .val (.int p2), .val (.int p3), .val (.int p4), .val (.int p5), .val (.int j1), .val (.ref b2), .val (.int j3), .val (.ref b5), .val (.int (2 : Int32)), .val (.int (2 : Int32)), .val (.int (4 : Int32)), .val (.int j7), .unset] [(.int (2 : Int32)), (.int (2 : Int32))])) _
    refine XS.iadd X6.here hx rfl (hb hby at_67) rfl ?_
    show Steps p.tables e below (T6.setTop (mkF m 68 #[.val (.int p1), .val (.int p2), .val (.int p3), .val (.int p4), .val (.int p5), .val (.int j1), .val (.ref b2), .val (.int j3), .val (.ref b5), .val (.int (2 : Int32)), .val (.int (2 : Int32)), .val (.int (4 : Int32)), .val (.int j7), .unset] [(.int ((2 : Int32) + (2 : Int32)))])) _
    refine XS.iload X6.here hx rfl (hb hby at_68) rfl ?_
    show Steps p.tables e below (T6.setTop (mkF m 70 #[.val (.int p1), .val (.int p2), .val (.int p3), .val (.int p4), .val (.int p5), .val (.int j1), .val (.ref b2), .val (.int j3), .val (.ref b5), .val (.int (2 : Int32)), .val (.int (2 : Int32)), .val (.int (4 : Int32)), .val (.int j7), .unset] [(.int j1), (.int ((2 : Int32) + (2 : Int32)))])) _
    refine XS.iadd X6.here hx rfl (hb hby at_70) rfl ?_
    show Steps p.tables e below (T6.setTop (mkF m 71 #[.val (.int p1), .val (.int p2), .val (.int p3), .val (.int p4), .val (.int p5), .val (.int j1), .val (.ref b2), .val (.int j3), .val (.ref b5), .val (.int (2 : Int32)), .val (.int (2 : Int32)), .val (.int (4 : Int32)), .val (.int j7), .unset] [(.int (((2 : Int32) + (2 : Int32)) + j1))])) _
    refine XS.iload X6.here hx rfl (hb hby at_71) rfl ?_
    show Steps p.tables e below (T6.setTop (mkF m 73 #[.val (.int p1), .val (.int p2), .val (.int p3), .val (.int p4), .val (.int p5), .val (.int j1), .val (.ref b2), .val (.int j3), .val (.ref b5), .val (.int (2 : Int32)), .val (.int (2 : Int32)), .val (.int (4 : Int32)), .val (.int j7), .unset] [(.int (4 : Int32)), (.int (((2 : Int32) + (2 : Int32)) + j1))])) _
    refine XS.iadd X6.here hx rfl (hb hby at_73) rfl ?_
    show Steps p.tables e below (T6.setTop (mkF m 74 #[.val (.int p1), .val (.int p2), .val (.int p3), .val (.int p4), .val (.int p5), .val (.int j1), .val (.ref b2), .val (.int j3), .val (.ref b5), .val (.int (2 : Int32)), .val (.int (2 : Int32)), .val (.int (4 : Int32)), .val (.int j7), .unset] [(.int ((((2 : Int32) + (2 : Int32)) + j1) + (4 : Int32)))])) _
    refine XS.iload X6.here hx rfl (hb hby at_74) rfl ?_
    show Steps p.tables e below (T6.setTop (mkF m 76 #[.val (.int p1), .val (.int p2), .val (.int p3), .val (.int p4), .val (.int p5), .val (.int j1), .val (.ref b2), .val (.int j3), .val (.ref b5), .val (.int (2 : Int32)), .val (.int (2 : Int32)), .val (.int (4 : Int32)), .val (.int j7), .unset] [(.int j7), (.int ((((2 : Int32) + (2 : Int32)) + j1) + (4 : Int32)))])) _
    refine XS.iadd X6.here hx rfl (hb hby at_76) rfl ?_
    show Steps p.tables e below (T6.setTop (mkF m 77 #[.val (.int p1), .val (.int p2), .val (.int p3), .val (.int p4), .val (.int p5), .val (.int j1), .val (.ref b2), .val (.int j3), .val (.ref b5), .val (.int (2 : Int32)), .val (.int (2 : Int32)), .val (.int (4 : Int32)), .val (.int j7), .unset] [(.int (((((2 : Int32) + (2 : Int32)) + j1) + (4 : Int32)) + j7))])) _
    refine XS.istore X6.here hx rfl (hb hby at_77) rfl (l' := #[.val (.int p1), .val (.int p2), .val (.int p3), .val (.int p4), .val (.int p5), .val (.int j1), .val (.ref b2), .val (.int j3), .val (.ref b5), .val (.int (2 : Int32)), .val (.int (2 : Int32)), .val (.int (4 : Int32)), .val (.int j7), .val (.int (((((2 : Int32) + (2 : Int32)) + j1) + (4 : Int32)) + j7))]) rfl ?_
    exact k
  show own_Go p.tables e below _ T6 (mkF m 79 #[.val (.int p1), .val (.int p2), .val (.int p3), .val (.int p4), .val (.int p5), .val (.int j1), .val (.ref b2), .val (.int j3), .val (.ref b5), .val (.int (2 : Int32)), .val (.int (2 : Int32)), .val (.int (4 : Int32)), .val (.int j7), .val (.int (((((2 : Int32) + (2 : Int32)) + j1) + (4 : Int32)) + j7))] [])
  obtain ⟨j9, hj9⟩ : ∃ z : Int32, z = (((((2 : Int32) + (2 : Int32)) + j1) + (4 : Int32)) + j7) := ⟨_, rfl⟩
  rw [← hj9]
  show own_Go p.tables e below _ T6 (mkF m 79 #[.val (.int p1), .val (.int p2), .val (.int p3), .val (.int p4), .val (.int p5), .val (.int j1), .val (.ref b2), .val (.int j3), .val (.ref b5), .val (.int (2 : Int32)), .val (.int (2 : Int32)), .val (.int (4 : Int32)), .val (.int j7), .val (.int j9)] [])
  refine own_go (T' := T6) (g' := (mkF m 83 #[.val (.int p1), .val (.int p2), .val (.int p3), .val (.int p4), .val (.int p5), .val (.int j1), .val (.ref b2), .val (.int j3), .val (.ref b5), .val (.int (2 : Int32)), .val (.int (2 : Int32)), .val (.int (4 : Int32)), .val (.int j7), .val (.int j9)] [(.int j3), (.ref b5)])) (fun t k => ?_) ?_
  · show Steps p.tables e below (T6.setTop (mkF m 79 #[.val (.int p1), .val (.int p2), .val (.int p3), .val (.int p4), .val (.int p5), .val (.int j1), .val (.ref b2), .val (.int j3), .val (.ref b5), .val (.int (2 : Int32)), .val (.int (2 : Int32)), .val (.int (4 : Int32)), .val (.int j7), .val (.int j9)] [])) _
    refine XS.aload X6.here hx rfl (hb hby at_79) rfl rfl ?_
    show Steps p.tables e below (T6.setTop (mkF m 81 #[.val (.int p1), .val (.int p2), .val (.int p3), .val (.int p4), .val (.int p5), .val (.int j1), .val (.ref b2), .val (.int j3), .val (.ref b5), .val (.int (2 : Int32)), .val (.int (2 : Int32)), .val (.int (4 : Int32)), .val (.int j7), .val (.int j9)] [(.ref b5)])) _
    refine XS.iload X6.here hx rfl (hb hby at_81) rfl ?_
    exact k
  obtain ⟨cq10, kq10, q10a, q10b, q10c⟩ := isOf hZ rfl E_b5
  obtain ⟨_, _, ⟨T10, L10, k10, n10⟩, -, X10, ⟨Lc10, hQ10, l10, y10, z10⟩, st10⟩ := X6.virtualBack hx (y := (⟨"com/example/hopline/hopline/core/IndexPage$Entry", "size", "(B)I"⟩ : MethodName)) (z := (⟨"com/example/hopline/hopline/core/IndexPage$Entry", "size", "(B)I"⟩ : MethodName)) hown (mvT hZ (hw _ (List.mem_of_getElem? (i := 21) rfl))) (mvT hZ (hw _ (List.mem_of_getElem? (i := 22) rfl))) (notFace_of_selects (args := #[]) (mvT hZ (hw _ (List.mem_of_getElem? (i := 24) rfl)))) (mvT hZ (hw _ (List.mem_of_getElem? (i := 24) rfl))) (mvT hZ (hw _ (List.mem_of_getElem? (i := 23) rfl))) (by decide) (backOf (W := 0) (rm4 l Z a0 hw [] b5 j3 b2 k2 j1 ([]) (.int (0 : Int32)) T6.heap n0 Z0 F_b5_key V_b2) hZ (hw _ (List.mem_of_getElem? (i := 25) rfl)) (hw _ (List.mem_of_getElem? (i := 3) rfl)) (by decide) (by decide)) q10a q10c (g := (mkF m 83 #[.val (.int p1), .val (.int p2), .val (.int p3), .val (.int p4), .val (.int p5), .val (.int j1), .val (.ref b2), .val (.int j3), .val (.ref b5), .val (.int (2 : Int32)), .val (.int (2 : Int32)), .val (.int (4 : Int32)), .val (.int j7), .val (.int j9)] [(.int j3), (.ref b5)])) rfl (by rw [hml]; rfl) (Steps.refl _) (argsL := [(.int j3)]) (rest := []) (lenOf pd_2 rfl) rfl (by show 2 * 0 + _ ≤ _; exact Nat.le_of_eq rfl) (hb hby at_83) (fun _ _ => ⟨rfl, rfl, (by decide : 2 + 0 ≤ _), (by decide : 1026 + 0 ≤ _)⟩)
  dsimp only [Pt.U, Pt.locs, Pt.cells, Pt.slots] at X10 l10 y10 z10 st10 hQ10
  subst l10 y10 z10
  obtain ⟨rfl, N10q, e10⟩ := hQ10
  have NN := Fr.app NN N10q
  refine own_go (fun t k => st10.trans k) ?_
  show own_Go p.tables e below _ T10 (mkF m 86 #[.val (.int p1), .val (.int p2), .val (.int p3), .val (.int p4), .val (.int p5), .val (.int j1), .val (.ref b2), .val (.int j3), .val (.ref b5), .val (.int (2 : Int32)), .val (.int (2 : Int32)), .val (.int (4 : Int32)), .val (.int j7), .val (.int j9)] [(.int (r_4 j3 j1))])
  refine own_go (T' := T10) (g' := (mkF m 88 #[.val (.int p1), .val (.int p2), .val (.int p3), .val (.int p4), .val (.int p5), .val (.int j1), .val (.ref b2), .val (.int j3), .val (.ref b5), .val (.int (2 : Int32)), .val (.int (2 : Int32)), .val (.int (4 : Int32)), .val (.int j7), .val (.int j9)] [(.int j9), (.int (r_4 j3 j1))])) (fun t k => ?_) ?_
  · show Steps p.tables e below (T10.setTop (mkF m 86 #[.val (.int p1), .val (.int p2), .val (.int p3), .val (.int p4), .val (.int p5), .val (.int j1), .val (.ref b2), .val (.int j3), .val (.ref b5), .val (.int (2 : Int32)), .val (.int (2 : Int32)), .val (.int (4 : Int32)), .val (.int j7), .val (.int j9)] [(.int (r_4 j3 j1))])) _
    refine XS.iload X10.here hx rfl (hb hby at_86) rfl ?_
    exact k
  obtain ⟨j11, hj11, st12⟩ : ∃ (j11 : Int32), j11 = (if (r_4 j3 j1) = j9 then (1 : Int32) else (0 : Int32)) ∧ ∀ t, Steps p.tables e below (T10.setTop (mkF m 96 #[.val (.int p1), .val (.int p2), .val (.int p3), .val (.int p4), .val (.int p5), .val (.int j1), .val (.ref b2), .val (.int j3), .val (.ref b5), .val (.int (2 : Int32)), .val (.int (2 : Int32)), .val (.int (4 : Int32)), .val (.int j7), .val (.int j9)] [(.int j11)])) t → Steps p.tables e below (T10.setTop (mkF m 88 #[.val (.int p1), .val (.int p2), .val (.int p3), .val (.int p4), .val (.int p5), .val (.int j1), .val (.ref b2), .val (.int j3), .val (.ref b5), .val (.int (2 : Int32)), .val (.int (2 : Int32)), .val (.int (4 : Int32)), .val (.int j7), .val (.int j9)] [(.int j9), (.int (r_4 j3 j1))])) t := by
    by_cases hc88_3 : (r_4 j3 j1) = j9
    · skip
      refine ⟨(1 : Int32), (by simp only [if_pos hc88_3]), fun t k => ?_⟩
      show Steps p.tables e below (T10.setTop (mkF m 88 #[.val (.int p1), .val (.int p2), .val (.int p3), .val (.int p4), .val (.int p5), .val (.int j1), .val (.ref b2), .val (.int j3), .val (.ref b5), .val (.int (2 : Int32)), .val (.int (2 : Int32)), .val (.int (4 : Int32)), .val (.int j7), .val (.int j9)] [(.int j9), (.int (r_4 j3 j1))])) _
      refine XS.icmpNo X10.here hx rfl (hb hby at_88) rfl (teq hc88_3).2 ?_
      show Steps p.tables e below (T10.setTop (mkF m 91 #[.val (.int p1), .val (.int p2), .val (.int p3), .val (.int p4), .val (.int p5), .val (.int j1), .val (.ref b2), .val (.int j3), .val (.ref b5), .val (.int (2 : Int32)), .val (.int (2 : Int32)), .val (.int (4 : Int32)), .val (.int j7), .val (.int j9)] [])) _
      refine XS.iconst X10.here hx rfl (hb hby at_91) ?_
      show Steps p.tables e below (T10.setTop (mkF m 92 #[.val (.int p1), .val (.int p2), .val (.int p3), .val (.int p4), .val (.int p5), .val (.int j1), .val (.ref b2), .val (.int j3), .val (.ref b5), .val (.int (2 : Int32)), .val (.int (2 : Int32)), .val (.int (4 : Int32)), .val (.int j7), .val (.int j9)] [(.int (1 : Int32))])) _
      refine XS.goto X10.here hx rfl (pc0 := 92) (pc' := 96) rfl (hb hby at_92) (by decide) (by decide) ?_
      exact k
    · skip
      refine ⟨(0 : Int32), (by simp only [if_neg hc88_3]), fun t k => ?_⟩
      show Steps p.tables e below (T10.setTop (mkF m 88 #[.val (.int p1), .val (.int p2), .val (.int p3), .val (.int p4), .val (.int p5), .val (.int j1), .val (.ref b2), .val (.int j3), .val (.ref b5), .val (.int (2 : Int32)), .val (.int (2 : Int32)), .val (.int (4 : Int32)), .val (.int j7), .val (.int j9)] [(.int j9), (.int (r_4 j3 j1))])) _
      refine XS.icmpYes X10.here hx rfl (pc0 := 88) (pc' := 95) rfl (hb hby at_88) rfl (feq hc88_3).2 (by decide) (by decide) ?_
      show Steps p.tables e below (T10.setTop (mkF m 95 #[.val (.int p1), .val (.int p2), .val (.int p3), .val (.int p4), .val (.int p5), .val (.int j1), .val (.ref b2), .val (.int j3), .val (.ref b5), .val (.int (2 : Int32)), .val (.int (2 : Int32)), .val (.int (4 : Int32)), .val (.int j7), .val (.int j9)] [])) _
      refine XS.iconst X10.here hx rfl (hb hby at_95) ?_
      exact k
  refine own_go st12 ?_
  show own_Go p.tables e below _ T10 (mkF m 96 #[.val (.int p1), .val (.int p2), .val (.int p3), .val (.int p4), .val (.int p5), .val (.int j1), .val (.ref b2), .val (.int j3), .val (.ref b5), .val (.int (2 : Int32)), .val (.int (2 : Int32)), .val (.int (4 : Int32)), .val (.int j7), .val (.int j9)] [(.int j11)])
  have hv1 : (nar .boolean j11) = 1 := own_yes_x p1 p4 p5 j1 j3 j7 j9 j11 hj1 hj3 hj7 hj9 hj11 hneg9 hcap9
  obtain ⟨fs, hr, hrun, hended, hW, hsame⟩ := X10.leave (v := some (.int (nar .boolean j11))) (fun h => by rw [Bd.returns] at h; cases h)
  refine ⟨_, _, ?_, hrun, hended, _, _, rfl, ?_, ⟨_, rfl⟩, hW, hsame.mono (by decide) (by decide)⟩
  · exact retN X10 hx (t := .boolean) Bd.returns (by simp) (hb hby at_96) hr
  · show Q0 Z p1 p2 p3 p4 p5 h0 n0 _ _ _
    exact ⟨by rw [hv1], NN⟩
set_option maxRecDepth 65536 in
set_option maxHeartbeats 40000000 in
theorem comes_1 {Post : Tables → Env → Array Value → State → Outcome → State → Prop} (hpost : ∀ tb e args s v u, (limb_1_1.after args s (.returned v) u = true ∧ limb_1_2.after args s (.returned v) u = true ∧ True) → FrameEnd s (.returned v) u (Jvm.fieldLocs frame_1_writes args s ++ Jvm.arrayLocs frame_1_arrays args s ++ Jvm.staticLocs frame_1_statics s) 16 2176 → Post tb e args s (.returned v) u) :
    ArmFor flags0 classFile x code maxLocals ret World_1 tables_1 room_1 Calls_1 rest_1 Pre_1 Post := by
  intro l hfl _ _ p e ha hc hk s m args below hf hA hF happ hP
  obtain ⟨hcalls, hrest, hpre⟩ := hP
  obtain ⟨-, -, -, hnamed, -, -, -, hat⟩ := (Spec.applies_iff hf).mp happ
  obtain ⟨hg, hn⟩ := and_e (Cond.before_iff.mp (show (Jvm.Cond.and given_1 narrow_1).before args s = true from hpre))
  obtain ⟨hcount, hg0⟩ := and_e hg
  obtain ⟨ha0, hg1⟩ := and_e hg0
  obtain ⟨ha1, hg2⟩ := and_e hg1
  obtain ⟨ha2, hg3⟩ := and_e hg2
  obtain ⟨ha3, hg4⟩ := and_e hg3
  have ha4 := hg4
  obtain ⟨w0, w1, w2, w3, w4, rfl⟩ : ∃ w0 w1 w2 w3 w4 : Value, args = #[w0, w1, w2, w3, w4] := by
    have hs : args.size = 5 := by simpa [Cond.value, given_1] using hcount
    obtain ⟨L⟩ := args
    match L, hs with
    | [w0, w1, w2, w3, w4], _ => exact ⟨w0, w1, w2, w3, w4, rfl⟩
  have hw := fun d (hd : d ∈ tables_1) => atoms_spec (ws := Jvm.Cond.code x code maxLocals ret :: tables_1) hat d (List.mem_cons_of_mem _ hd)
  obtain ⟨i0, ei0⟩ := is_v ha0
  obtain rfl : w0 = (.int i0) := Option.some.inj ei0
  obtain ⟨i1, ei1⟩ := is_v ha1
  obtain rfl : w1 = (.int i1) := Option.some.inj ei1
  obtain ⟨i2, ei2⟩ := is_v ha2
  obtain rfl : w2 = (.int i2) := Option.some.inj ei2
  obtain ⟨i3, ei3⟩ := is_v ha3
  obtain rfl : w3 = (.int i3) := Option.some.inj ei3
  obtain ⟨i4, ei4⟩ := is_v ha4
  obtain rfl : w4 = (.int i4) := Option.some.inj ei4
  obtain ⟨n, o, h1, h2, h3, _, L, rfl, ⟨rfl, N⟩, hq⟩ := rm0 l s _ hw tables_1 i0 i1 i2 i3 i4 s.heap s.heap.size (Nat.le_refl _) p e ha hc hk s m _ below hf ((Spec.applies_iff_loose hf).mp happ).1 ⟨rfl, State.Warmed39.refl s, rfl⟩ trivial
  refine ⟨n, _, h1, h2, h3, hpost _ _ _ _ _ _ ⟨Cond.after_iff.mpr rfl, Cond.after_iff.mpr (eq_i res_at (Term.int_eval (1)) rfl), trivial⟩ ⟨hq.1, hq.2.1, (hq.2.2.sift fun y hy => Or.inr (N y hy)).mono (by decide) (by decide)⟩⟩
theorem main_1_1 : Claimed_1_1 := comes_1 fun _ _ _ _ _ _ h hF => ⟨h.1, hF⟩
theorem main_1_2 : Claimed_1_2 := comes_1 fun _ _ _ _ _ _ h hF => ⟨h.2.1, hF⟩
end Jvm.Pilot.@@N@@
namespace Jvm.Pilot.@@N@@
open Jvm Jvm.ClassFile Sem Op Lib Jvm.Free Jvm.Stand Jvm.Pilot.@@N@@.Jvm.D
/-! MADE BY PROGRAM (witnessworld.py) out of the Statement's table words and the real class files: 10 classes; the members and pool entries that the words name. The judged class is class 1, her method 1. -/
namespace start1
open Jvm.ClassFile
def u (s : String) : CpInfo := .utf8 (stringToUtf16 s)
/-- a pool by its gaps: so many unusable entries, then the entry; so many at the end -/
def gap : Nat → List CpInfo → List CpInfo
  | 0, r => r
  | n + 1, r => .unusable :: gap n r
def poolList (es : List (Nat × CpInfo)) (last : Nat) : List CpInfo := es.foldr (fun e r => gap e.1 (e.2 :: r)) (gap last [])
def pool (es : List (Nat × CpInfo)) (last : Nat) : Array CpInfo := ⟨poolList es last⟩
def fileOf (pool : Array CpInfo) (this : Nat) (attrs : Array Attribute := #[]) (ms : Array MethodInfo := #[]) (fl : Nat := 33) (sup : Nat := 0) (ifs : Array Nat := #[]) (fds : Array FieldInfo := #[]) : ClassFile where
  minorVersion := 0
  majorVersion := 65
  constantPool := pool
  accessFlags := fl
  thisClass := this
  superClass := sup
  interfaces := ifs
  fields := fds
  methods := ms
  attributes := attrs
def plain (name : String) (sup : Option ClassId) : Class where
  name := name
  kind := .ordinary
  loader := none
  accessFlags := 33
  super := sup
  interfaces := #[]
  cf := none
  fields := #[]
  methods := #[]
  instanceTypes := #[]
  staticTypes := #[]
  resolved := #[]
  callSites := []
  init := .initialized
  statics := none
  mirror := none

def pool0 : Array CpInfo := pool [(5, u "<init>"), (0, u "()V"), (1, .class_ 10), (1, u "java/lang/Object")] 113

def k0c0 : Code := { maxStack := 0, maxLocals := 1, code := object_method_1_code, exceptionTable := #[], attributes := #[] }
def k0m0 : Method := { name := "<init>", desc := "()V", sig := { parameters := [], returnType := none }, accessFlags := 1, code := some k0c0 }
/-- java/lang/Object -/
def k0 : Class := { plain "java/lang/Object" none with
  accessFlags := 33
  interfaces := #[]
  cf := some (fileOf pool0 8 #[] #[{ accessFlags := 1, nameIndex := 5, descriptorIndex := 6, attributes := #[] }] 33 0 #[] #[])
  fields := #[]
  methods := #[k0m0]
  instanceTypes := #[]
  staticTypes := #[]
  resolved := Array.replicate 124 none
  statics := none }

def pool1 : Array CpInfo := pool [(2, .class_ 4), (1, u "java/lang/Object"), (0, u "<init>"), (0, u "()V"), (2, .class_ 10), (0, u "com/example/hopline/hopline/core/IndexPage$Entry"), (0, .methodref 9 12), (0, .nameAndType 5 13), (0, u "([BII)V"), (0, .methodref 9 15), (0, .nameAndType 16 17), (0, u "size"), (0, u "(B)I"), (0, .class_ 19), (0, u "com/example/hopline/hopline/core/EntrySizePinLaw"), (2, u "law"), (0, u "(IIIII)Z")] 7

def k1m0 : Method := { name := "<init>", desc := "()V", sig := { parameters := [], returnType := none }, accessFlags := 1, code := none }
def k1c1 : Code := { maxStack := 5, maxLocals := 14, code := code, exceptionTable := #[], attributes := #[] }
def k1m1 : Method := { name := "law", desc := "(IIIII)Z", sig := { parameters := [.int, .int, .int, .int, .int], returnType := some .boolean }, accessFlags := 9, code := some k1c1 }
/-- com/example/hopline/hopline/core/EntrySizePinLaw -/
def k1 : Class := { plain "com/example/hopline/hopline/core/EntrySizePinLaw" (some 0) with
  accessFlags := 49
  interfaces := #[]
  cf := some (fileOf pool1 18 #[] #[{ accessFlags := 1, nameIndex := 5, descriptorIndex := 6, attributes := #[] }, { accessFlags := 9, nameIndex := 22, descriptorIndex := 23, attributes := #[] }] 49 2 #[] #[])
  fields := #[]
  methods := #[k1m0, k1m1]
  instanceTypes := #[]
  staticTypes := #[]
  resolved := Array.replicate 31 none
  statics := none }

def pool2 : Array CpInfo := pool [(1, .methodref 2 3), (0, .class_ 4), (0, .nameAndType 5 6), (0, u "java/lang/Object"), (0, u "<init>"), (0, u "()V"), (0, .class_ 8), (0, u "java/lang/Record")] 13

def k2c0 : Code := { maxStack := 1, maxLocals := 1, code := jdk_30_method_1_code, exceptionTable := #[], attributes := #[] }
def k2m0 : Method := { name := "<init>", desc := "()V", sig := { parameters := [], returnType := none }, accessFlags := 4, code := some k2c0 }
/-- java/lang/Record -/
def k2 : Class := { plain "java/lang/Record" (some 0) with
  accessFlags := 1057
  interfaces := #[]
  cf := some (fileOf pool2 7 #[] #[{ accessFlags := 4, nameIndex := 5, descriptorIndex := 6, attributes := #[] }] 1057 2 #[] #[])
  fields := #[]
  methods := #[k2m0]
  instanceTypes := #[]
  staticTypes := #[]
  resolved := Array.replicate 22 none
  statics := none }

def pool3 : Array CpInfo := pool [(1, .class_ 2), (0, u "com/example/hopline/hopline/core/IndexPage"), (0, .methodref 4 5), (0, .class_ 6), (0, .nameAndType 7 8), (0, u "java/lang/Record"), (0, u "<init>"), (0, u "()V"), (0, .fieldref 10 11), (0, .class_ 12), (0, .nameAndType 13 14), (0, u "com/example/hopline/hopline/core/IndexPage$Entry"), (0, u "key"), (0, u "[B"), (0, .fieldref 10 16), (0, .nameAndType 17 18), (0, u "node"), (0, u "I"), (0, .fieldref 10 20), (0, .nameAndType 21 18), (0, u "child"), (24, u "([BII)V"), (5, u "size"), (0, u "(B)I")] 28

def k3c0 : Code := { maxStack := 2, maxLocals := 4, code := prog_30_method_1_code, exceptionTable := #[], attributes := #[] }
def k3m0 : Method := { name := "<init>", desc := "([BII)V", sig := { parameters := [(.array .byte), .int, .int], returnType := none }, accessFlags := 0, code := some k3c0 }
def k3c1 : Code := { maxStack := 3, maxLocals := 2, code := prog_30_method_3_code, exceptionTable := #[], attributes := #[] }
def k3m1 : Method := { name := "size", desc := "(B)I", sig := { parameters := [.byte], returnType := some .int }, accessFlags := 0, code := some k3c1 }
/-- com/example/hopline/hopline/core/IndexPage$Entry -/
def k3 : Class := { plain "com/example/hopline/hopline/core/IndexPage$Entry" (some 2) with
  accessFlags := 48
  interfaces := #[]
  cf := some (fileOf pool3 10 #[.nestHost 1] #[{ accessFlags := 0, nameIndex := 7, descriptorIndex := 46, attributes := #[] }, { accessFlags := 0, nameIndex := 52, descriptorIndex := 53, attributes := #[] }] 48 4 #[] #[{ accessFlags := 18, nameIndex := 13, descriptorIndex := 14, attributes := #[] }, { accessFlags := 18, nameIndex := 17, descriptorIndex := 18, attributes := #[] }, { accessFlags := 18, nameIndex := 21, descriptorIndex := 18, attributes := #[] }])
  fields := #[{ name := "key", type := (.array .byte), accessFlags := 18, slot := 0, constantValue := 0 }, { name := "node", type := .int, accessFlags := 18, slot := 1, constantValue := 0 }, { name := "child", type := .int, accessFlags := 18, slot := 2, constantValue := 0 }]
  methods := #[k3m0, k3m1]
  instanceTypes := #[(.array .byte), .int, .int]
  staticTypes := #[]
  resolved := Array.replicate 82 none
  statics := none }

def pool4 : Array CpInfo := pool [(1, u "java/lang/Cloneable"), (0, .class_ 1), (0, u "java/lang/Object"), (0, .class_ 3)] 3

/-- java/lang/Cloneable -/
def k4 : Class := { plain "java/lang/Cloneable" (some 0) with
  accessFlags := 1537
  interfaces := #[]
  cf := some (fileOf pool4 2 #[] #[] 1537 4 #[] #[])
  fields := #[]
  methods := #[]
  instanceTypes := #[]
  staticTypes := #[]
  resolved := Array.replicate 8 none
  statics := none }

def pool5 : Array CpInfo := pool [(1, u "java/io/Serializable"), (0, .class_ 1), (0, u "java/lang/Object"), (0, .class_ 3)] 3

/-- java/io/Serializable -/
def k5 : Class := { plain "java/io/Serializable" (some 0) with
  accessFlags := 1537
  interfaces := #[]
  cf := some (fileOf pool5 2 #[] #[] 1537 4 #[] #[])
  fields := #[]
  methods := #[]
  instanceTypes := #[]
  staticTypes := #[]
  resolved := Array.replicate 8 none
  statics := none }

/-- the primitive byte -/
def k6 : Class := { plain "byte" none with kind := .primitive 'B', accessFlags := 0x411 }
/-- [B -/
def k7 : Class := { plain "[B" (some 0) with kind := .array 6 .byte, interfaces := #[4, 5], accessFlags := 1041 }

/-- the primitive int -/
def k8 : Class := { plain "int" none with kind := .primitive 'I', accessFlags := 0x411 }
/-- [I -/
def k9 : Class := { plain "[I" (some 0) with kind := .array 8 .int, interfaces := #[4, 5], accessFlags := 1041 }

def heap : Heap := #[]
def classes : Array Class := #[k0, k1, k2, k3, k4, k5, k6, k7, k8, k9]
def interned : List (Array UInt16 × Addr) := []
def slotsUsed : Nat := 0
def theMethod : MethodId := ⟨1, 1⟩
def args0 : Array Value := #[.int 5, .int 6, .int 7, .int 8, .int 9]
def aboutOver (below : List Frame) : State where
  vm := { classes := classes, interned := interned.toArray }
  heap := heap
  slotsUsed := slotsUsed
  threads := #[{ frames := .invoking theMethod args0 :: below }]
def below0 : List Frame := [.native { method := ⟨0, 0⟩, args := #[] }]
def about1 : State := aboutOver below0
def p0 : Program := .bare "" "" ""
def e0 : Env := launch0.env 0 0 0
theorem w_frames : about1.frames = Frame.invoking theMethod args0 :: below0 := rfl
set_option maxRecDepth 65536 in
theorem w_args : argsFit about1.vm theMethod args0 = true := by decide +kernel
set_option maxRecDepth 65536 in
theorem w_heap : heapFits about1 = true := by decide +kernel
set_option maxRecDepth 65536 in
theorem w_runnable : about1.curStatus? = some .runnable := by decide +kernel
set_option maxRecDepth 65536 in
theorem w_alone : about1.alone = true := by decide +kernel
set_option maxRecDepth 65536 in
theorem w_named : about1.methodNamed? x = some theMethod := by decide +kernel
set_option maxRecDepth 65536 in
theorem w_hears : about1.hears theMethod below0 = true := by decide +kernel
set_option maxRecDepth 65536 in
theorem w_ripe : about1.ripe theMethod args0 below0 = true := by decide +kernel
theorem w_running : about1.status = .running := rfl
set_option maxRecDepth 65536 in
theorem w_room : about1.hasRoom e0.platform room_1 = true :=
  launch0.hasRoom_least _ room_1 (by decide +kernel) (by decide +kernel) (by decide +kernel) (by decide +kernel) (by decide +kernel) (by decide +kernel)
theorem allAtoms_all (ts : List Jvm.Cond) (a : Array Jvm.Value) (st : Jvm.State) : (allAtoms ts).before a st = ts.all (fun c => c.before a st) := by
  induction ts with
  | nil => rfl
  | cons c t ih =>
    show (Jvm.Cond.and c (allAtoms t)).before a st = _
    rw [Jvm.Cond.before_and, ih, List.all_cons]
def words1 : List Jvm.Cond := Jvm.Cond.code x code maxLocals ret :: tables_1
/-- a 'code' word, met by the world's own term for the bytes: nothing is compared byte by byte -/
theorem code_word {y : MethodName} {bytes : ByteArray} {mx : Nat} {rt : Option FieldType} {a : Array Value} {s : State} {m : MethodId} {meth : Method} {c : Code} (h1 : s.methodNamed? y = some m) (h2 : s.vm.method? m = some meth) (h3 : meth.code = some c) (h4 : c.code = bytes)
    (h5 : (c.maxLocals == mx && c.exceptionTable.isEmpty && decide (c.maxStack ≤ mostOperands) && decide (meth.sig.returnType = rt) && !meth.locks && decide (parseMethodDescriptor y.desc = some meth.sig)) = true) : (Jvm.Cond.code y bytes mx rt).before a s = true := by
  simp only [Bool.and_eq_true, beq_iff_eq, Bool.not_eq_true', decide_eq_true_eq] at h5
  obtain ⟨⟨⟨⟨⟨g1, g2⟩, g3⟩, g4⟩, g5⟩, g6⟩ := h5
  simp [Cond.before, Cond.holds, Cond.value, h1, h2, h3, h4, g1, g2, g3, g4, g5, g6]
def isCode : Jvm.Cond → Bool
  | .code _ _ _ _ => true
  | _ => false
theorem all_split {L : List Jvm.Cond} {P : Jvm.Cond → Bool} (h1 : L.all (fun c => isCode c || P c) = true) (h2 : ∀ c ∈ L.filter isCode, P c = true) : L.all P = true := by
  refine List.all_eq_true.mpr fun c hc => ?_
  have h := List.all_eq_true.mp h1 c hc
  rcases Bool.eq_false_or_eq_true (isCode c) with hi | hi
  · exact h2 c (List.mem_filter.mpr ⟨hc, hi⟩)
  · simpa [hi] using h
set_option maxRecDepth 65536 in
theorem w_c0 : (Jvm.Cond.code x code maxLocals ret).before args0 about1 = true := code_word (m := ⟨1, 1⟩) (meth := k1m1) (c := k1c1) (by decide +kernel) rfl rfl rfl (by decide +kernel)
set_option maxRecDepth 65536 in
theorem w_c1 : (Jvm.Cond.code ({ cls := "com/example/hopline/hopline/core/IndexPage$Entry", name := "<init>", desc := "([BII)V" } : Jvm.MethodName) prog_30_method_1_code (4 : Nat) (Option.none : Option Jvm.ClassFile.FieldType)).before args0 about1 = true := code_word (m := ⟨3, 0⟩) (meth := k3m0) (c := k3c0) (by decide +kernel) rfl rfl rfl (by decide +kernel)
set_option maxRecDepth 65536 in
theorem w_c2 : (Jvm.Cond.code ({ cls := "java/lang/Record", name := "<init>", desc := "()V" } : Jvm.MethodName) jdk_30_method_1_code (1 : Nat) (Option.none : Option Jvm.ClassFile.FieldType)).before args0 about1 = true := code_word (m := ⟨2, 0⟩) (meth := k2m0) (c := k2c0) (by decide +kernel) rfl rfl rfl (by decide +kernel)
set_option maxRecDepth 65536 in
theorem w_c3 : (Jvm.Cond.code ({ cls := "java/lang/Object", name := "<init>", desc := "()V" } : Jvm.MethodName) object_method_1_code (1 : Nat) (Option.none : Option Jvm.ClassFile.FieldType)).before args0 about1 = true := code_word (m := ⟨0, 0⟩) (meth := k0m0) (c := k0c0) (by decide +kernel) rfl rfl rfl (by decide +kernel)
set_option maxRecDepth 65536 in
theorem w_c4 : (Jvm.Cond.code ({ cls := "com/example/hopline/hopline/core/IndexPage$Entry", name := "size", desc := "(B)I" } : Jvm.MethodName) prog_30_method_3_code (2 : Nat) (Option.some Jvm.ClassFile.FieldType.int)).before args0 about1 = true := code_word (m := ⟨3, 1⟩) (meth := k3m1) (c := k3c1) (by decide +kernel) rfl rfl rfl (by decide +kernel)
def codes1 : List Jvm.Cond := [Jvm.Cond.code x code maxLocals ret, Jvm.Cond.code ({ cls := "com/example/hopline/hopline/core/IndexPage$Entry", name := "<init>", desc := "([BII)V" } : Jvm.MethodName) prog_30_method_1_code (4 : Nat) (Option.none : Option Jvm.ClassFile.FieldType), Jvm.Cond.code ({ cls := "java/lang/Record", name := "<init>", desc := "()V" } : Jvm.MethodName) jdk_30_method_1_code (1 : Nat) (Option.none : Option Jvm.ClassFile.FieldType), Jvm.Cond.code ({ cls := "java/lang/Object", name := "<init>", desc := "()V" } : Jvm.MethodName) object_method_1_code (1 : Nat) (Option.none : Option Jvm.ClassFile.FieldType), Jvm.Cond.code ({ cls := "com/example/hopline/hopline/core/IndexPage$Entry", name := "size", desc := "(B)I" } : Jvm.MethodName) prog_30_method_3_code (2 : Nat) (Option.some Jvm.ClassFile.FieldType.int)]
set_option maxRecDepth 65536 in
theorem codes_eq : words1.filter isCode = codes1 := rfl
theorem w_codes : ∀ c ∈ words1.filter isCode, c.before args0 about1 = true := by
  rw [codes_eq]
  intro c hc
  simp only [codes1, List.mem_cons, List.not_mem_nil, or_false] at hc
  rcases hc with rfl | rfl | rfl | rfl | rfl
  · exact w_c0
  · exact w_c1
  · exact w_c2
  · exact w_c3
  · exact w_c4
set_option maxRecDepth 65536 in
theorem w_t1 : (words1.take 24).all (fun c => isCode c || c.before args0 about1) = true := by decide +kernel
set_option maxRecDepth 65536 in
theorem w_t2 : (words1.drop 24).all (fun c => isCode c || c.before args0 about1) = true := by decide +kernel
theorem w_tables : (allAtoms (Jvm.Cond.code x code maxLocals ret :: tables_1)).before args0 about1 = true := by
  rw [allAtoms_all]
  show words1.all (fun c => c.before args0 about1) = true
  refine all_split ?_ w_codes
  rw [← List.take_append_drop 24 words1, List.all_append, w_t1, w_t2]
  rfl
set_option maxRecDepth 65536 in
theorem w_case : (Jvm.Cond.and given_1 narrow_1).before args0 about1 = true := by decide +kernel
theorem w_applies : (headSpec (Jvm.Cond.code x code maxLocals ret :: tables_1) room_1).applies x e0.platform about1 = true :=
  (Spec.applies_iff w_frames).mpr ⟨w_running, w_runnable, w_alone, w_named, w_hears, w_ripe, w_room, w_tables⟩
theorem atStart : AtStart classFile x code maxLocals ret World_1 tables_1 room_1 Calls_1 rest_1 Pre_1 launch0 p0 e0 about1 theMethod args0 below0 :=
  ⟨lists_1, trivial, launch0.admits_env _ _ _, launch0.least_env, fairChoices_fair.cas, fairChoices_fair.clock, w_frames, w_args, w_heap, w_applies, trivial, trivial, w_case⟩
end start1
theorem witness_1 : WitnessClaimed_1 := ⟨start1.p0, start1.e0, start1.about1, start1.theMethod, start1.args0, start1.below0, start1.atStart⟩
end Jvm.Pilot.@@N@@

import JvmDerived
import JvmDerived.Pilot.@@N@@Statement
import JvmDerived.Pilot.@@N@@Code
set_option linter.unusedVariables false
set_option linter.unusedSimpArgs false
namespace Jvm.RoadKit
open Sem ClassFile Op Lib Jvm.Stand Jvm.Free Jvm.LawKit
section New
variable {p : Program} {l : Launch} {e : Env} {R : Room} {s : State} {m : MethodId} {args : Array Value} {below : List Frame} {meth : Method} {c : Code} {T : State} {locs : List Loc} {cells slots : Nat}
theorem retI (X : Stand p l e R s m args below meth c T locs cells slots) (hx : p.tables.exec = Jvm.exec) {pc : Nat} {Ls : Array Slot} {z : Int32} {rest : List Value} (hret : meth.sig.returnType = some .int) (hd : decode c.code pc = .ok (.ireturn, 1)) {fs : List Frame}
    (hl : ∀ (f : JFrame) (acts : List Action), f.method = m → f.locked = none → f.entered = [] → (doReturn e (T.setTop f) acts (some (.int z))).1 = T.setFrames fs) : Steps p.tables e below (T.setTop (mkF m pc Ls (.int z :: rest))) (T.setFrames fs) := by
  have hm' : T.vm.method? m = some meth := X.method'
  have hn : narrow .int (.int z) = .int z := rfl
  show Steps p.tables e below (T.setTop { method := m, pc := pc, locals := Ls, stack := _ :: rest, locked := none }) _
  jvm_step X.here [X.here.top, hx, hd, hm', hret, hn]
  first | (intro acts; rw [hl _ acts rfl rfl rfl]) | rw [hl _ _ rfl rfl rfl]
  exact Steps.refl _
theorem own_retJ (X : Stand p l e R s m args below meth c T locs cells slots) (hx : p.tables.exec = Jvm.exec) {pc : Nat} {Ls : Array Slot} {z : Int64} {rest : List Value} (hret : meth.sig.returnType = some .long) (hd : decode c.code pc = .ok (.lreturn, 1)) {fs : List Frame}
    (hl : ∀ (f : JFrame) (acts : List Action), f.method = m → f.locked = none → f.entered = [] → (doReturn e (T.setTop f) acts (some (.long z))).1 = T.setFrames fs) : Steps p.tables e below (T.setTop (mkF m pc Ls (.long z :: rest))) (T.setFrames fs) :=
  retOut X hx (t := .long) (i := .lreturn) hret rfl (Or.inr (Or.inl ⟨rfl, rfl, z, rfl⟩)) hd hl
theorem own_retR (X : Stand p l e R s m args below meth c T locs cells slots) (hx : p.tables.exec = Jvm.exec) {pc : Nat} {Ls : Array Slot} {w : Value} {t : FieldType} {rest : List Value} (hret : meth.sig.returnType = some t) (ht : t.isReference = true) (hw : w.isRef = true) (hd : decode c.code pc = .ok (.areturn, 1)) {fs : List Frame}
    (hl : ∀ (f : JFrame) (acts : List Action), f.method = m → f.locked = none → f.entered = [] → (doReturn e (T.setTop f) acts (some w)).1 = T.setFrames fs) : Steps p.tables e below (T.setTop (mkF m pc Ls (w :: rest))) (T.setFrames fs) :=
  retOut X hx (i := .areturn) hret (by cases t <;> simp_all [FieldType.isReference, narrow]) (Or.inr (Or.inr (Or.inr (Or.inr ⟨rfl, ht, hw⟩)))) hd hl
theorem own_narZ (x : Int32) : nar .boolean x = x &&& 1 := rfl
theorem own_narC (x : Int32) : nar .char x = x.toUInt32.toUInt16.toUInt32.toInt32 := rfl
theorem own_narB (x : Int32) : nar .byte x = x.toInt8.toInt32 := rfl
/-- where the run stands, and how it ends -/
abbrev own_Go (tb : Tables) (e : Env) (below : List Frame) (P : State → Outcome → Prop) (T : State) (g : JFrame) : Prop := ∃ s₂ o, Steps tb e below (T.setTop g) s₂ ∧ s₂.status = .running ∧ Ended s₂ below o ∧ P s₂ o
theorem own_go {tb : Tables} {P : State → Outcome → Prop} {T' : State} {g g' : JFrame} (st : ∀ t, Steps tb e below (T'.setTop g') t → Steps tb e below (T.setTop g) t) (k : own_Go tb e below P T' g') : own_Go tb e below P T g := by
  obtain ⟨s₂, o, h1, h2⟩ := k
  exact ⟨s₂, o, st _ h1, h2⟩
theorem own_start {tb : Tables} {P : State → Outcome → Prop} {g g' : JFrame} (q : g = g') (k : own_Go tb e below P T g') : own_Go tb e below P T g := q ▸ k
theorem own_selPriv {z y : MethodName} (hz : z.cls = y.cls) (hs : (Cond.selects y.cls z z).before args s = true) (hp : s.PrivateAt y) (hi : (Cond.instanceMethod y).before args s = true) (hy : y.cls ≠ "java/lang/invoke/MethodHandle" ∧ y.cls ≠ "java/lang/invoke/VarHandle") : (Cond.selects y.cls y y).before args s = true := by
  obtain ⟨c, r, m, h1, -, h3, -, k, h5, h6⟩ := Cond.selects_spec hs
  exact selects_self_of_private (hz ▸ findClass_of_methodNamed h3) h5 h6 hp hi hy
end New
end Jvm.RoadKit
namespace Jvm.Pilot.@@N@@
open Jvm Jvm.ClassFile Sem Op Lib Jvm.Free Jvm.Stand Jvm.LawKit Jvm.RoadKit Bundle Jvm.Pilot.@@N@@.Jvm.D
theorem d1_0 : decode method_2_code 0 = .ok (.iload_n 0, 1) := by decide +kernel
theorem d1_1 : decode method_2_code 1 = .ok (.ifCond .ne 7, 3) := by decide +kernel
theorem d1_4 : decode method_2_code 4 = .ok (.iconst 0, 1) := by decide +kernel
theorem d1_5 : decode method_2_code 5 = .ok (.newarray .int, 2) := by decide +kernel
theorem d1_7 : decode method_2_code 7 = .ok (.areturn, 1) := by decide +kernel
theorem pn_0 : plainName "com/example/hopline/hopline/core/NodeStoreHasLabelPinLaw" = true := by first | (simp [plainName, overriddenIn]; done) | decide +kernel
theorem ef_1_0 (m : MethodId) (p1 : Int32) (p2 : Int32) (p3 : Int32) (p4 : Int32) (p5 : Int32) : entryFrame m #[(.int p1), (.int p2), (.int p3), (.int p4), (.int p5)] 5 = mkF m 0 #[.val (.int p1), .val (.int p2), .val (.int p3), .val (.int p4), .val (.int p5)] [] := by first | (simp [entryFrame, mkF, argsToLocals, Value.category]; done) | rfl
def Q1_0 (Z : State) (p1 : Int32) (p2 : Int32) (p3 : Int32) (p4 : Int32) (p5 : Int32) (h0 : Heap) (n0 : Nat) (v : Option Value) (h : Heap) (L : List Loc) : Prop := ∃ (b1 : Addr), ∃ (k1 : ClassId), v = some (.ref b1) ∧ Fr n0 L ∧ Keep h0 h [] ∧ n0 ≤ b1 ∧ h0.size ≤ b1 ∧ Arv Z h b1 k1 .int (0 : Int32) [] (.int (0 : Int32))
set_option maxRecDepth 65536 in
set_option maxHeartbeats 40000000 in
theorem rm1_0 (l : Launch) (Z : State) (a0 : Array Value) (hw : ∀ d ∈ tables_1, d.before a0 Z = true) (ws : List Jvm.Cond) (p1 : Int32) (p2 : Int32) (p3 : Int32) (p4 : Int32) (p5 : Int32) (h0 : Heap) (n0 : Nat) (Z0 : n0 ≤ h0.size) (hc1 : p1 = (0 : Int32)) :
    MetFree l (⟨"com/example/hopline/hopline/core/NodeStoreHasLabelPinLaw", "make", "(IIIII)[I"⟩ : MethodName) (head1 (Jvm.Cond.code (⟨"com/example/hopline/hopline/core/NodeStoreHasLabelPinLaw", "make", "(IIIII)[I"⟩ : MethodName) method_2_code 5 (some (.array .int)) :: ws) ({ frames := 0, cells := 1, slots := 0, locals := 0 } : Room)) (fun a U => a = #[(.int p1), (.int p2), (.int p3), (.int p4), (.int p5)] ∧ Z.Warmed39 U.vm ∧ U.heap = h0) (fun _ _ _ _ _ => True) (fun _ U o U' => ∃ v L, o = .returned v ∧ Q1_0 Z p1 p2 p3 p4 p5 h0 n0 v U'.heap L ∧ FrameEnd U o U' L ({ frames := 0, cells := 1, slots := 0, locals := 0 } : Room).cells ({ frames := 0, cells := 1, slots := 0, locals := 0 } : Room).slots) := by
  refine MetFree.of_bodySF (plainFor_of_name pn_0) hisR ?_
  intro p e s m args below meth c s₁ Bd hml0 hP hK
  obtain ⟨rfl, hZ, hh⟩ := hP
  have hx := Bd.exec
  have hby := Bd.bytes
  have hml : c.maxLocals = 5 := hml0
  have hown : s.vm.findClass "com/example/hopline/hopline/core/NodeStoreHasLabelPinLaw" = some m.cls := findClass_of_methodNamed Bd.named
  have hnm := (name_of_methodNamed Bd.named Bd.method).1
  have X0 : Stand p l e ({ frames := 0, cells := 1, slots := 0, locals := 0 } : Room) s m #[(.int p1), (.int p2), (.int p3), (.int p4), (.int p5)] below meth c s₁ [] 0 0 := Stand.of_body Bd
  have e0 : s₁.heap = h0 := by rw [← hh, Bd.state]; rfl
  have NN := Fr.nil n0
  have KK : Keep h0 h0 [] := Keep.refl h0 []
  refine own_start (ef_1_0 m p1 p2 p3 p4 p5) ?_
  refine own_go (T' := s₁) (g' := (mkF m 1 #[.val (.int p1), .val (.int p2), .val (.int p3), .val (.int p4), .val (.int p5)] [(.int p1)])) (fun t k => ?_) ?_
  · show Steps p.tables e below (s₁.setTop (mkF m 0 #[.val (.int p1), .val (.int p2), .val (.int p3), .val (.int p4), .val (.int p5)] [])) _
    refine XS.iloadN X0.here hx rfl (hb hby d1_0) rfl ?_
    exact k
  refine own_go (T' := s₁) (g' := (mkF m 5 #[.val (.int p1), .val (.int p2), .val (.int p3), .val (.int p4), .val (.int p5)] [(.int (0 : Int32))])) (fun t k => ?_) ?_
  · show Steps p.tables e below (s₁.setTop (mkF m 1 #[.val (.int p1), .val (.int p2), .val (.int p3), .val (.int p4), .val (.int p5)] [(.int p1)])) _
    refine XS.ifNo X0.here hx rfl (hb hby d1_1) rfl ((if0 _ _).trans (teq hc1).2) ?_
    show Steps p.tables e below (s₁.setTop (mkF m 4 #[.val (.int p1), .val (.int p2), .val (.int p3), .val (.int p4), .val (.int p5)] [])) _
    refine XS.iconst X0.here hx rfl (hb hby d1_4) ?_
    exact k
  obtain ⟨T1, h1, k1, X1, e1, E1, A1, st1⟩ := newP X0 hx hZ (hw _ (List.mem_of_getElem? (i := 4) rfl)) e0 (g := (mkF m 5 #[.val (.int p1), .val (.int p2), .val (.int p3), .val (.int p4), .val (.int p5)] [(.int (0 : Int32))])) rfl (hb hby d1_5) rfl (by decide) (cap := 0) (by decide) (by decide) (by decide) (by decide)
  obtain ⟨b1, g1⟩ : ∃ z, z = h0.size := ⟨_, rfl⟩
  rw [← g1] at A1 st1
  have g_b1 : n0 ≤ b1 := Nat.le_trans Z0 (Nat.le_of_eq g1.symm)
  have sz_b1 : h0.size ≤ b1 := Nat.le_trans KK.1 (Nat.le_of_eq g1.symm)
  have Z0 := Nat.le_trans Z0 E1.1
  have KK := KK.ext E1
  have V_b1 : Arv Z h1 b1 k1 .int (0 : Int32) [] (.int (0 : Int32)) := Arv.new A1 (by decide)
  refine own_go st1 ?_
  show own_Go p.tables e below _ T1 (mkF m 7 #[.val (.int p1), .val (.int p2), .val (.int p3), .val (.int p4), .val (.int p5)] [(.ref b1)])
  obtain ⟨fs, hr, hrun, hended, hW, hsame⟩ := X1.leave (v := some (.ref b1)) (fun h => by rw [Bd.returns] at h; cases h)
  refine ⟨_, _, ?_, hrun, hended, _, _, rfl, ?_, ⟨_, rfl⟩, hW, hsame.mono (by decide) (by decide)⟩
  · exact own_retR X1 hx Bd.returns rfl rfl (hb hby d1_7) hr
  · show Q1_0 Z p1 p2 p3 p4 p5 h0 n0 _ T1.heap _
    rw [e1]
    exact ⟨b1, k1, rfl, NN, KK, g_b1, sz_b1, V_b1⟩
theorem d1_8 : decode method_2_code 8 = .ok (.iload_n 0, 1) := by decide +kernel
theorem d1_9 : decode method_2_code 9 = .ok (.iconst 1, 1) := by decide +kernel
theorem d1_10 : decode method_2_code 10 = .ok (.if_icmp .ne 11, 3) := by decide +kernel
theorem d1_13 : decode method_2_code 13 = .ok (.iconst 1, 1) := by decide +kernel
theorem d1_14 : decode method_2_code 14 = .ok (.newarray .int, 2) := by decide +kernel
theorem d1_16 : decode method_2_code 16 = .ok (.dup, 1) := by decide +kernel
theorem d1_17 : decode method_2_code 17 = .ok (.iconst 0, 1) := by decide +kernel
theorem d1_18 : decode method_2_code 18 = .ok (.iload_n 1, 1) := by decide +kernel
theorem d1_19 : decode method_2_code 19 = .ok (.iastore, 1) := by decide +kernel
theorem d1_20 : decode method_2_code 20 = .ok (.areturn, 1) := by decide +kernel
theorem ef_1_1 (m : MethodId) (p1 : Int32) (p2 : Int32) (p3 : Int32) (p4 : Int32) (p5 : Int32) : entryFrame m #[(.int p1), (.int p2), (.int p3), (.int p4), (.int p5)] 5 = mkF m 0 #[.val (.int p1), .val (.int p2), .val (.int p3), .val (.int p4), .val (.int p5)] [] := by first | (simp [entryFrame, mkF, argsToLocals, Value.category]; done) | rfl
def Q1_1 (Z : State) (p1 : Int32) (p2 : Int32) (p3 : Int32) (p4 : Int32) (p5 : Int32) (h0 : Heap) (n0 : Nat) (v : Option Value) (h : Heap) (L : List Loc) : Prop := ∃ (b1 : Addr), ∃ (k1 : ClassId), v = some (.ref b1) ∧ Fr n0 L ∧ Keep h0 h [] ∧ n0 ≤ b1 ∧ h0.size ≤ b1 ∧ Arv Z h b1 k1 .int (1 : Int32) [(.int p2)] (.int (0 : Int32))
set_option maxRecDepth 65536 in
set_option maxHeartbeats 40000000 in
theorem rm1_1 (l : Launch) (Z : State) (a0 : Array Value) (hw : ∀ d ∈ tables_1, d.before a0 Z = true) (ws : List Jvm.Cond) (p1 : Int32) (p2 : Int32) (p3 : Int32) (p4 : Int32) (p5 : Int32) (h0 : Heap) (n0 : Nat) (Z0 : n0 ≤ h0.size) (hc1 : ¬ (p1 = (0 : Int32))) (hc10 : p1 = (1 : Int32)) :
    MetFree l (⟨"com/example/hopline/hopline/core/NodeStoreHasLabelPinLaw", "make", "(IIIII)[I"⟩ : MethodName) (head1 (Jvm.Cond.code (⟨"com/example/hopline/hopline/core/NodeStoreHasLabelPinLaw", "make", "(IIIII)[I"⟩ : MethodName) method_2_code 5 (some (.array .int)) :: ws) ({ frames := 0, cells := 1, slots := 1, locals := 0 } : Room)) (fun a U => a = #[(.int p1), (.int p2), (.int p3), (.int p4), (.int p5)] ∧ Z.Warmed39 U.vm ∧ U.heap = h0) (fun _ _ _ _ _ => True) (fun _ U o U' => ∃ v L, o = .returned v ∧ Q1_1 Z p1 p2 p3 p4 p5 h0 n0 v U'.heap L ∧ FrameEnd U o U' L ({ frames := 0, cells := 1, slots := 1, locals := 0 } : Room).cells ({ frames := 0, cells := 1, slots := 1, locals := 0 } : Room).slots) := by
  refine MetFree.of_bodySF (plainFor_of_name pn_0) hisR ?_
  intro p e s m args below meth c s₁ Bd hml0 hP hK
  obtain ⟨rfl, hZ, hh⟩ := hP
  have hx := Bd.exec
  have hby := Bd.bytes
  have hml : c.maxLocals = 5 := hml0
  have hown : s.vm.findClass "com/example/hopline/hopline/core/NodeStoreHasLabelPinLaw" = some m.cls := findClass_of_methodNamed Bd.named
  have hnm := (name_of_methodNamed Bd.named Bd.method).1
  have X0 : Stand p l e ({ frames := 0, cells := 1, slots := 1, locals := 0 } : Room) s m #[(.int p1), (.int p2), (.int p3), (.int p4), (.int p5)] below meth c s₁ [] 0 0 := Stand.of_body Bd
  have e0 : s₁.heap = h0 := by rw [← hh, Bd.state]; rfl
  have NN := Fr.nil n0
  have KK : Keep h0 h0 [] := Keep.refl h0 []
  refine own_start (ef_1_1 m p1 p2 p3 p4 p5) ?_
  refine own_go (T' := s₁) (g' := (mkF m 1 #[.val (.int p1), .val (.int p2), .val (.int p3), .val (.int p4), .val (.int p5)] [(.int p1)])) (fun t k => ?_) ?_
  · show Steps p.tables e below (s₁.setTop (mkF m 0 #[.val (.int p1), .val (.int p2), .val (.int p3), .val (.int p4), .val (.int p5)] [])) _
    refine XS.iloadN X0.here hx rfl (hb hby d1_0) rfl ?_
    exact k
  refine own_go (T' := s₁) (g' := (mkF m 10 #[.val (.int p1), .val (.int p2), .val (.int p3), .val (.int p4), .val (.int p5)] [(.int (1 : Int32)), (.int p1)])) (fun t k => ?_) ?_
  · show Steps p.tables e below (s₁.setTop (mkF m 1 #[.val (.int p1), .val (.int p2), .val (.int p3), .val (.int p4), .val (.int p5)] [(.int p1)])) _
    refine XS.ifYes X0.here hx rfl (pc0 := 1) (pc' := 8) rfl (hb hby d1_1) rfl ((if0 _ _).trans (feq hc1).2) (by decide) (by decide) ?_
    show Steps p.tables e below (s₁.setTop (mkF m 8 #[.val (.int p1), .val (.int p2), .val (.int p3), .val (.int p4), .val (.int p5)] [])) _
    refine XS.iloadN X0.here hx rfl (hb hby d1_8) rfl ?_
    show Steps p.tables e below (s₁.setTop (mkF m 9 #[.val (.int p1), .val (.int p2), .val (.int p3), .val (.int p4), .val (.int p5)] [(.int p1)])) _
    refine XS.iconst X0.here hx rfl (hb hby d1_9) ?_
    exact k
  refine own_go (T' := s₁) (g' := (mkF m 14 #[.val (.int p1), .val (.int p2), .val (.int p3), .val (.int p4), .val (.int p5)] [(.int (1 : Int32))])) (fun t k => ?_) ?_
  · show Steps p.tables e below (s₁.setTop (mkF m 10 #[.val (.int p1), .val (.int p2), .val (.int p3), .val (.int p4), .val (.int p5)] [(.int (1 : Int32)), (.int p1)])) _
    refine XS.icmpNo X0.here hx rfl (hb hby d1_10) rfl (teq hc10).2 ?_
    show Steps p.tables e below (s₁.setTop (mkF m 13 #[.val (.int p1), .val (.int p2), .val (.int p3), .val (.int p4), .val (.int p5)] [])) _
    refine XS.iconst X0.here hx rfl (hb hby d1_13) ?_
    exact k
  obtain ⟨T1, h1, k1, X1, e1, E1, A1, st1⟩ := newP X0 hx hZ (hw _ (List.mem_of_getElem? (i := 4) rfl)) e0 (g := (mkF m 14 #[.val (.int p1), .val (.int p2), .val (.int p3), .val (.int p4), .val (.int p5)] [(.int (1 : Int32))])) rfl (hb hby d1_14) rfl (by decide) (cap := 1) (by decide) (by decide) (by decide) (by decide)
  obtain ⟨b1, g1⟩ : ∃ z, z = h0.size := ⟨_, rfl⟩
  rw [← g1] at A1 st1
  have g_b1 : n0 ≤ b1 := Nat.le_trans Z0 (Nat.le_of_eq g1.symm)
  have sz_b1 : h0.size ≤ b1 := Nat.le_trans KK.1 (Nat.le_of_eq g1.symm)
  have Z0 := Nat.le_trans Z0 E1.1
  have KK := KK.ext E1
  have V_b1 : Arv Z h1 b1 k1 .int (1 : Int32) [(.int (0 : Int32))] (.int (0 : Int32)) := (Arv.new A1 (by decide)).pad (pad_rep [] (.int (0 : Int32)) 1)
  refine own_go st1 ?_
  show own_Go p.tables e below _ T1 (mkF m 16 #[.val (.int p1), .val (.int p2), .val (.int p3), .val (.int p4), .val (.int p5)] [(.ref b1)])
  refine own_go (T' := T1) (g' := (mkF m 19 #[.val (.int p1), .val (.int p2), .val (.int p3), .val (.int p4), .val (.int p5)] [(.int p2), (.int (0 : Int32)), (.ref b1), (.ref b1)])) (fun t k => ?_) ?_
  · show Steps p.tables e below (T1.setTop (mkF m 16 #[.val (.int p1), .val (.int p2), .val (.int p3), .val (.int p4), .val (.int p5)] [(.ref b1)])) _
    refine XS.dup X1.here hx rfl (hb hby d1_16) rfl rfl ?_
    show Steps p.tables e below (T1.setTop (mkF m 17 #[.val (.int p1), .val (.int p2), .val (.int p3), .val (.int p4), .val (.int p5)] [(.ref b1), (.ref b1)])) _
    refine XS.iconst X1.here hx rfl (hb hby d1_17) ?_
    show Steps p.tables e below (T1.setTop (mkF m 18 #[.val (.int p1), .val (.int p2), .val (.int p3), .val (.int p4), .val (.int p5)] [(.int (0 : Int32)), (.ref b1), (.ref b1)])) _
    refine XS.iloadN X1.here hx rfl (hb hby d1_18) rfl ?_
    exact k
  have Vq := V_b1
  obtain ⟨cl2, Ar2, q2, Sz2, Ng2, Hs2, Gs2⟩ := Vq
  have hin2 : ¬ ((0 : Int32) < 0 ∨ cl2.slots.size ≤ ((0 : Int32)).toNatClampNeg) := inb_of Sz2 ⟨by decide, by decide⟩
  obtain ⟨T3, h3, X3, e3, W3, st3⟩ := stI X1 hx hZ e1 Ar2 (j := (0 : Int32)) hin2 (g := (mkF m 19 #[.val (.int p1), .val (.int p2), .val (.int p3), .val (.int p4), .val (.int p5)] [(.int p2), (.int (0 : Int32)), (.ref b1), (.ref b1)])) rfl rfl (hb hby d1_19)
  refine own_go st3 ?_
  have Z0 := Nat.le_trans Z0 (Keep.of_wr W3).1
  have KK := KK.wr W3 (Or.inr sz_b1)
  have NN := Fr.snoc X3 NN g_b1
  have V_b1 : Arv Z h3 b1 k1 .int (1 : Int32) [(.int p2)] (.int (0 : Int32)) := Arv.set Ar2 q2 Sz2 Ng2 Hs2 Gs2 rfl W3 0 rfl (Nat.le_of_ble_eq_true rfl)
  show own_Go p.tables e below _ T3 (mkF m 20 #[.val (.int p1), .val (.int p2), .val (.int p3), .val (.int p4), .val (.int p5)] [(.ref b1)])
  obtain ⟨fs, hr, hrun, hended, hW, hsame⟩ := X3.leave (v := some (.ref b1)) (fun h => by rw [Bd.returns] at h; cases h)
  refine ⟨_, _, ?_, hrun, hended, _, _, rfl, ?_, ⟨_, rfl⟩, hW, hsame.mono (by decide) (by decide)⟩
  · exact own_retR X3 hx Bd.returns rfl rfl (hb hby d1_20) hr
  · show Q1_1 Z p1 p2 p3 p4 p5 h0 n0 _ T3.heap _
    rw [e3]
    exact ⟨b1, k1, rfl, NN, KK, g_b1, sz_b1, V_b1⟩
theorem d1_21 : decode method_2_code 21 = .ok (.iload_n 0, 1) := by decide +kernel
theorem d1_22 : decode method_2_code 22 = .ok (.iconst 2, 1) := by decide +kernel
theorem d1_23 : decode method_2_code 23 = .ok (.if_icmp .ne 15, 3) := by decide +kernel
theorem d1_26 : decode method_2_code 26 = .ok (.iconst 2, 1) := by decide +kernel
theorem d1_27 : decode method_2_code 27 = .ok (.newarray .int, 2) := by decide +kernel
theorem d1_29 : decode method_2_code 29 = .ok (.dup, 1) := by decide +kernel
theorem d1_30 : decode method_2_code 30 = .ok (.iconst 0, 1) := by decide +kernel
theorem d1_31 : decode method_2_code 31 = .ok (.iload_n 1, 1) := by decide +kernel
theorem d1_32 : decode method_2_code 32 = .ok (.iastore, 1) := by decide +kernel
theorem d1_33 : decode method_2_code 33 = .ok (.dup, 1) := by decide +kernel
theorem d1_34 : decode method_2_code 34 = .ok (.iconst 1, 1) := by decide +kernel
theorem d1_35 : decode method_2_code 35 = .ok (.iload_n 2, 1) := by decide +kernel
theorem d1_36 : decode method_2_code 36 = .ok (.iastore, 1) := by decide +kernel
theorem d1_37 : decode method_2_code 37 = .ok (.areturn, 1) := by decide +kernel
theorem ef_1_2 (m : MethodId) (p1 : Int32) (p2 : Int32) (p3 : Int32) (p4 : Int32) (p5 : Int32) : entryFrame m #[(.int p1), (.int p2), (.int p3), (.int p4), (.int p5)] 5 = mkF m 0 #[.val (.int p1), .val (.int p2), .val (.int p3), .val (.int p4), .val (.int p5)] [] := by first | (simp [entryFrame, mkF, argsToLocals, Value.category]; done) | rfl
def Q1_2 (Z : State) (p1 : Int32) (p2 : Int32) (p3 : Int32) (p4 : Int32) (p5 : Int32) (h0 : Heap) (n0 : Nat) (v : Option Value) (h : Heap) (L : List Loc) : Prop := ∃ (b1 : Addr), ∃ (k1 : ClassId), v = some (.ref b1) ∧ Fr n0 L ∧ Keep h0 h [] ∧ n0 ≤ b1 ∧ h0.size ≤ b1 ∧ Arv Z h b1 k1 .int (2 : Int32) [(.int p2), (.int p3)] (.int (0 : Int32))
set_option maxRecDepth 65536 in
set_option maxHeartbeats 40000000 in
theorem rm1_2 (l : Launch) (Z : State) (a0 : Array Value) (hw : ∀ d ∈ tables_1, d.before a0 Z = true) (ws : List Jvm.Cond) (p1 : Int32) (p2 : Int32) (p3 : Int32) (p4 : Int32) (p5 : Int32) (h0 : Heap) (n0 : Nat) (Z0 : n0 ≤ h0.size) (hc1 : ¬ (p1 = (0 : Int32))) (hc10 : ¬ (p1 = (1 : Int32))) (hc23 : p1 = (2 : Int32)) :
    MetFree l (⟨"com/example/hopline/hopline/core/NodeStoreHasLabelPinLaw", "make", "(IIIII)[I"⟩ : MethodName) (head1 (Jvm.Cond.code (⟨"com/example/hopline/hopline/core/NodeStoreHasLabelPinLaw", "make", "(IIIII)[I"⟩ : MethodName) method_2_code 5 (some (.array .int)) :: ws) ({ frames := 0, cells := 1, slots := 2, locals := 0 } : Room)) (fun a U => a = #[(.int p1), (.int p2), (.int p3), (.int p4), (.int p5)] ∧ Z.Warmed39 U.vm ∧ U.heap = h0) (fun _ _ _ _ _ => True) (fun _ U o U' => ∃ v L, o = .returned v ∧ Q1_2 Z p1 p2 p3 p4 p5 h0 n0 v U'.heap L ∧ FrameEnd U o U' L ({ frames := 0, cells := 1, slots := 2, locals := 0 } : Room).cells ({ frames := 0, cells := 1, slots := 2, locals := 0 } : Room).slots) := by
  refine MetFree.of_bodySF (plainFor_of_name pn_0) hisR ?_
  intro p e s m args below meth c s₁ Bd hml0 hP hK
  obtain ⟨rfl, hZ, hh⟩ := hP
  have hx := Bd.exec
  have hby := Bd.bytes
  have hml : c.maxLocals = 5 := hml0
  have hown : s.vm.findClass "com/example/hopline/hopline/core/NodeStoreHasLabelPinLaw" = some m.cls := findClass_of_methodNamed Bd.named
  have hnm := (name_of_methodNamed Bd.named Bd.method).1
  have X0 : Stand p l e ({ frames := 0, cells := 1, slots := 2, locals := 0 } : Room) s m #[(.int p1), (.int p2), (.int p3), (.int p4), (.int p5)] below meth c s₁ [] 0 0 := Stand.of_body Bd
  have e0 : s₁.heap = h0 := by rw [← hh, Bd.state]; rfl
  have NN := Fr.nil n0
  have KK : Keep h0 h0 [] := Keep.refl h0 []
  refine own_start (ef_1_2 m p1 p2 p3 p4 p5) ?_
  refine own_go (T' := s₁) (g' := (mkF m 1 #[.val (.int p1), .val (.int p2), .val (.int p3), .val (.int p4), .val (.int p5)] [(.int p1)])) (fun t k => ?_) ?_
  · show Steps p.tables e below (s₁.setTop (mkF m 0 #[.val (.int p1), .val (.int p2), .val (.int p3), .val (.int p4), .val (.int p5)] [])) _
    refine XS.iloadN X0.here hx rfl (hb hby d1_0) rfl ?_
    exact k
  refine own_go (T' := s₁) (g' := (mkF m 10 #[.val (.int p1), .val (.int p2), .val (.int p3), .val (.int p4), .val (.int p5)] [(.int (1 : Int32)), (.int p1)])) (fun t k => ?_) ?_
  · show Steps p.tables e below (s₁.setTop (mkF m 1 #[.val (.int p1), .val (.int p2), .val (.int p3), .val (.int p4), .val (.int p5)] [(.int p1)])) _
    refine XS.ifYes X0.here hx rfl (pc0 := 1) (pc' := 8) rfl (hb hby d1_1) rfl ((if0 _ _).trans (feq hc1).2) (by decide) (by decide) ?_
    show Steps p.tables e below (s₁.setTop (mkF m 8 #[.val (.int p1), .val (.int p2), .val (.int p3), .val (.int p4), .val (.int p5)] [])) _
    refine XS.iloadN X0.here hx rfl (hb hby d1_8) rfl ?_
    show Steps p.tables e below (s₁.setTop (mkF m 9 #[.val (.int p1), .val (.int p2), .val (.int p3), .val (.int p4), .val (.int p5)] [(.int p1)])) _
    refine XS.iconst X0.here hx rfl (hb hby d1_9) ?_
    exact k
  refine own_go (T' := s₁) (g' := (mkF m 23 #[.val (.int p1), .val (.int p2), .val (.int p3), .val (.int p4), .val (.int p5)] [(.int (2 : Int32)), (.int p1)])) (fun t k => ?_) ?_
  · show Steps p.tables e below (s₁.setTop (mkF m 10 #[.val (.int p1), .val (.int p2), .val (.int p3), .val (.int p4), .val (.int p5)] [(.int (1 : Int32)), (.int p1)])) _
    refine XS.icmpYes X0.here hx rfl (pc0 := 10) (pc' := 21) rfl (hb hby d1_10) rfl (feq hc10).2 (by decide) (by decide) ?_
    show Steps p.tables e below (s₁.setTop (mkF m 21 #[.val (.int p1), .val (.int p2), .val (.int p3), .val (.int p4), .val (.int p5)] [])) _
    refine XS.iloadN X0.here hx rfl (hb hby d1_21) rfl ?_
    show Steps p.tables e below (s₁.setTop (mkF m 22 #[.val (.int p1), .val (.int p2), .val (.int p3), .val (.int p4), .val (.int p5)] [(.int p1)])) _
    refine XS.iconst X0.here hx rfl (hb hby d1_22) ?_
    exact k
  refine own_go (T' := s₁) (g' := (mkF m 27 #[.val (.int p1), .val (.int p2), .val (.int p3), .val (.int p4), .val (.int p5)] [(.int (2 : Int32))])) (fun t k => ?_) ?_
  · show Steps p.tables e below (s₁.setTop (mkF m 23 #[.val (.int p1), .val (.int p2), .val (.int p3), .val (.int p4), .val (.int p5)] [(.int (2 : Int32)), (.int p1)])) _
    refine XS.icmpNo X0.here hx rfl (hb hby d1_23) rfl (teq hc23).2 ?_
    show Steps p.tables e below (s₁.setTop (mkF m 26 #[.val (.int p1), .val (.int p2), .val (.int p3), .val (.int p4), .val (.int p5)] [])) _
    refine XS.iconst X0.here hx rfl (hb hby d1_26) ?_
    exact k
  obtain ⟨T1, h1, k1, X1, e1, E1, A1, st1⟩ := newP X0 hx hZ (hw _ (List.mem_of_getElem? (i := 4) rfl)) e0 (g := (mkF m 27 #[.val (.int p1), .val (.int p2), .val (.int p3), .val (.int p4), .val (.int p5)] [(.int (2 : Int32))])) rfl (hb hby d1_27) rfl (by decide) (cap := 2) (by decide) (by decide) (by decide) (by decide)
  obtain ⟨b1, g1⟩ : ∃ z, z = h0.size := ⟨_, rfl⟩
  rw [← g1] at A1 st1
  have g_b1 : n0 ≤ b1 := Nat.le_trans Z0 (Nat.le_of_eq g1.symm)
  have sz_b1 : h0.size ≤ b1 := Nat.le_trans KK.1 (Nat.le_of_eq g1.symm)
  have Z0 := Nat.le_trans Z0 E1.1
  have KK := KK.ext E1
  have V_b1 : Arv Z h1 b1 k1 .int (2 : Int32) [(.int (0 : Int32)), (.int (0 : Int32))] (.int (0 : Int32)) := (Arv.new A1 (by decide)).pad (pad_rep [] (.int (0 : Int32)) 2)
  refine own_go st1 ?_
  show own_Go p.tables e below _ T1 (mkF m 29 #[.val (.int p1), .val (.int p2), .val (.int p3), .val (.int p4), .val (.int p5)] [(.ref b1)])
  refine own_go (T' := T1) (g' := (mkF m 32 #[.val (.int p1), .val (.int p2), .val (.int p3), .val (.int p4), .val (.int p5)] [(.int p2), (.int (0 : Int32)), (.ref b1), (.ref b1)])) (fun t k => ?_) ?_
  · show Steps p.tables e below (T1.setTop (mkF m 29 #[.val (.int p1), .val (.int p2), .val (.int p3), .val (.int p4), .val (.int p5)] [(.ref b1)])) _
    refine XS.dup X1.here hx rfl (hb hby d1_29) rfl rfl ?_
    show Steps p.tables e below (T1.setTop (mkF m 30 #[.val (.int p1), .val (.int p2), .val (.int p3), .val (.int p4), .val (.int p5)] [(.ref b1), (.ref b1)])) _
    refine XS.iconst X1.here hx rfl (hb hby d1_30) ?_
    show Steps p.tables e below (T1.setTop (mkF m 31 #[.val (.int p1), .val (.int p2), .val (.int p3), .val (.int p4), .val (.int p5)] [(.int (0 : Int32)), (.ref b1), (.ref b1)])) _
    refine XS.iloadN X1.here hx rfl (hb hby d1_31) rfl ?_
    exact k
  have Vq := V_b1
  obtain ⟨cl2, Ar2, q2, Sz2, Ng2, Hs2, Gs2⟩ := Vq
  have hin2 : ¬ ((0 : Int32) < 0 ∨ cl2.slots.size ≤ ((0 : Int32)).toNatClampNeg) := inb_of Sz2 ⟨by decide, by decide⟩
  obtain ⟨T3, h3, X3, e3, W3, st3⟩ := stI X1 hx hZ e1 Ar2 (j := (0 : Int32)) hin2 (g := (mkF m 32 #[.val (.int p1), .val (.int p2), .val (.int p3), .val (.int p4), .val (.int p5)] [(.int p2), (.int (0 : Int32)), (.ref b1), (.ref b1)])) rfl rfl (hb hby d1_32)
  refine own_go st3 ?_
  have Z0 := Nat.le_trans Z0 (Keep.of_wr W3).1
  have KK := KK.wr W3 (Or.inr sz_b1)
  have NN := Fr.snoc X3 NN g_b1
  have V_b1 : Arv Z h3 b1 k1 .int (2 : Int32) [(.int p2), (.int (0 : Int32))] (.int (0 : Int32)) := Arv.set Ar2 q2 Sz2 Ng2 Hs2 Gs2 rfl W3 0 rfl (Nat.le_of_ble_eq_true rfl)
  show own_Go p.tables e below _ T3 (mkF m 33 #[.val (.int p1), .val (.int p2), .val (.int p3), .val (.int p4), .val (.int p5)] [(.ref b1)])
  refine own_go (T' := T3) (g' := (mkF m 36 #[.val (.int p1), .val (.int p2), .val (.int p3), .val (.int p4), .val (.int p5)] [(.int p3), (.int (1 : Int32)), (.ref b1), (.ref b1)])) (fun t k => ?_) ?_
  · show Steps p.tables e below (T3.setTop (mkF m 33 #[.val (.int p1), .val (.int p2), .val (.int p3), .val (.int p4), .val (.int p5)] [(.ref b1)])) _
    refine XS.dup X3.here hx rfl (hb hby d1_33) rfl rfl ?_
    show Steps p.tables e below (T3.setTop (mkF m 34 #[.val (.int p1), .val (.int p2), .val (.int p3), .val (.int p4), .val (.int p5)] [(.ref b1), (.ref b1)])) _
    refine XS.iconst X3.here hx rfl (hb hby d1_34) ?_
    show Steps p.tables e below (T3.setTop (mkF m 35 #[.val (.int p1), .val (.int p2), .val (.int p3), .val (.int p4), .val (.int p5)] [(.int (1 : Int32)), (.ref b1), (.ref b1)])) _
    refine XS.iloadN X3.here hx rfl (hb hby d1_35) rfl ?_
    exact k
  have Vq := V_b1
  obtain ⟨cl4, Ar4, q4, Sz4, Ng4, Hs4, Gs4⟩ := Vq
  have hin4 : ¬ ((1 : Int32) < 0 ∨ cl4.slots.size ≤ ((1 : Int32)).toNatClampNeg) := inb_of Sz4 ⟨by decide, by decide⟩
  obtain ⟨T5, h5, X5, e5, W5, st5⟩ := stI X3 hx hZ e3 Ar4 (j := (1 : Int32)) hin4 (g := (mkF m 36 #[.val (.int p1), .val (.int p2), .val (.int p3), .val (.int p4), .val (.int p5)] [(.int p3), (.int (1 : Int32)), (.ref b1), (.ref b1)])) rfl rfl (hb hby d1_36)
  refine own_go st5 ?_
  have Z0 := Nat.le_trans Z0 (Keep.of_wr W5).1
  have KK := KK.wr W5 (Or.inr sz_b1)
  have NN := Fr.snoc X5 NN g_b1
  have V_b1 : Arv Z h5 b1 k1 .int (2 : Int32) [(.int p2), (.int p3)] (.int (0 : Int32)) := Arv.set Ar4 q4 Sz4 Ng4 Hs4 Gs4 rfl W5 1 rfl (Nat.le_of_ble_eq_true rfl)
  show own_Go p.tables e below _ T5 (mkF m 37 #[.val (.int p1), .val (.int p2), .val (.int p3), .val (.int p4), .val (.int p5)] [(.ref b1)])
  obtain ⟨fs, hr, hrun, hended, hW, hsame⟩ := X5.leave (v := some (.ref b1)) (fun h => by rw [Bd.returns] at h; cases h)
  refine ⟨_, _, ?_, hrun, hended, _, _, rfl, ?_, ⟨_, rfl⟩, hW, hsame.mono (by decide) (by decide)⟩
  · exact own_retR X5 hx Bd.returns rfl rfl (hb hby d1_37) hr
  · show Q1_2 Z p1 p2 p3 p4 p5 h0 n0 _ T5.heap _
    rw [e5]
    exact ⟨b1, k1, rfl, NN, KK, g_b1, sz_b1, V_b1⟩
theorem d1_38 : decode method_2_code 38 = .ok (.iload_n 0, 1) := by decide +kernel
theorem d1_39 : decode method_2_code 39 = .ok (.iconst 3, 1) := by decide +kernel
theorem d1_40 : decode method_2_code 40 = .ok (.if_icmp .ne 19, 3) := by decide +kernel
theorem d1_43 : decode method_2_code 43 = .ok (.iconst 3, 1) := by decide +kernel
theorem d1_44 : decode method_2_code 44 = .ok (.newarray .int, 2) := by decide +kernel
theorem d1_46 : decode method_2_code 46 = .ok (.dup, 1) := by decide +kernel
theorem d1_47 : decode method_2_code 47 = .ok (.iconst 0, 1) := by decide +kernel
theorem d1_48 : decode method_2_code 48 = .ok (.iload_n 1, 1) := by decide +kernel
theorem d1_49 : decode method_2_code 49 = .ok (.iastore, 1) := by decide +kernel
theorem d1_50 : decode method_2_code 50 = .ok (.dup, 1) := by decide +kernel
theorem d1_51 : decode method_2_code 51 = .ok (.iconst 1, 1) := by decide +kernel
theorem d1_52 : decode method_2_code 52 = .ok (.iload_n 2, 1) := by decide +kernel
theorem d1_53 : decode method_2_code 53 = .ok (.iastore, 1) := by decide +kernel
theorem d1_54 : decode method_2_code 54 = .ok (.dup, 1) := by decide +kernel
theorem d1_55 : decode method_2_code 55 = .ok (.iconst 2, 1) := by decide +kernel
theorem d1_56 : decode method_2_code 56 = .ok (.iload_n 3, 1) := by decide +kernel
theorem d1_57 : decode method_2_code 57 = .ok (.iastore, 1) := by decide +kernel
theorem d1_58 : decode method_2_code 58 = .ok (.areturn, 1) := by decide +kernel
theorem ef_1_3 (m : MethodId) (p1 : Int32) (p2 : Int32) (p3 : Int32) (p4 : Int32) (p5 : Int32) : entryFrame m #[(.int p1), (.int p2), (.int p3), (.int p4), (.int p5)] 5 = mkF m 0 #[.val (.int p1), .val (.int p2), .val (.int p3), .val (.int p4), .val (.int p5)] [] := by first | (simp [entryFrame, mkF, argsToLocals, Value.category]; done) | rfl
def Q1_3 (Z : State) (p1 : Int32) (p2 : Int32) (p3 : Int32) (p4 : Int32) (p5 : Int32) (h0 : Heap) (n0 : Nat) (v : Option Value) (h : Heap) (L : List Loc) : Prop := ∃ (b1 : Addr), ∃ (k1 : ClassId), v = some (.ref b1) ∧ Fr n0 L ∧ Keep h0 h [] ∧ n0 ≤ b1 ∧ h0.size ≤ b1 ∧ Arv Z h b1 k1 .int (3 : Int32) [(.int p2), (.int p3), (.int p4)] (.int (0 : Int32))
set_option maxRecDepth 65536 in
set_option maxHeartbeats 40000000 in
theorem rm1_3 (l : Launch) (Z : State) (a0 : Array Value) (hw : ∀ d ∈ tables_1, d.before a0 Z = true) (ws : List Jvm.Cond) (p1 : Int32) (p2 : Int32) (p3 : Int32) (p4 : Int32) (p5 : Int32) (h0 : Heap) (n0 : Nat) (Z0 : n0 ≤ h0.size) (hc1 : ¬ (p1 = (0 : Int32))) (hc10 : ¬ (p1 = (1 : Int32))) (hc23 : ¬ (p1 = (2 : Int32))) (hc40 : p1 = (3 : Int32)) :
    MetFree l (⟨"com/example/hopline/hopline/core/NodeStoreHasLabelPinLaw", "make", "(IIIII)[I"⟩ : MethodName) (head1 (Jvm.Cond.code (⟨"com/example/hopline/hopline/core/NodeStoreHasLabelPinLaw", "make", "(IIIII)[I"⟩ : MethodName) method_2_code 5 (some (.array .int)) :: ws) ({ frames := 0, cells := 1, slots := 3, locals := 0 } : Room)) (fun a U => a = #[(.int p1), (.int p2), (.int p3), (.int p4), (.int p5)] ∧ Z.Warmed39 U.vm ∧ U.heap = h0) (fun _ _ _ _ _ => True) (fun _ U o U' => ∃ v L, o = .returned v ∧ Q1_3 Z p1 p2 p3 p4 p5 h0 n0 v U'.heap L ∧ FrameEnd U o U' L ({ frames := 0, cells := 1, slots := 3, locals := 0 } : Room).cells ({ frames := 0, cells := 1, slots := 3, locals := 0 } : Room).slots) := by
  refine MetFree.of_bodySF (plainFor_of_name pn_0) hisR ?_
  intro p e s m args below meth c s₁ Bd hml0 hP hK
  obtain ⟨rfl, hZ, hh⟩ := hP
  have hx := Bd.exec
  have hby := Bd.bytes
  have hml : c.maxLocals = 5 := hml0
  have hown : s.vm.findClass "com/example/hopline/hopline/core/NodeStoreHasLabelPinLaw" = some m.cls := findClass_of_methodNamed Bd.named
  have hnm := (name_of_methodNamed Bd.named Bd.method).1
  have X0 : Stand p l e ({ frames := 0, cells := 1, slots := 3, locals := 0 } : Room) s m #[(.int p1), (.int p2), (.int p3), (.int p4), (.int p5)] below meth c s₁ [] 0 0 := Stand.of_body Bd
  have e0 : s₁.heap = h0 := by rw [← hh, Bd.state]; rfl
  have NN := Fr.nil n0
  have KK : Keep h0 h0 [] := Keep.refl h0 []
  refine own_start (ef_1_3 m p1 p2 p3 p4 p5) ?_
  refine own_go (T' := s₁) (g' := (mkF m 1 #[.val (.int p1), .val (.int p2), .val (.int p3), .val (.int p4), .val (.int p5)] [(.int p1)])) (fun t k => ?_) ?_
  · show Steps p.tables e below (s₁.setTop (mkF m 0 #[.val (.int p1), .val (.int p2), .val (.int p3), .val (.int p4), .val (.int p5)] [])) _
    refine XS.iloadN X0.here hx rfl (hb hby d1_0) rfl ?_
    exact k
  refine own_go (T' := s₁) (g' := (mkF m 10 #[.val (.int p1), .val (.int p2), .val (.int p3), .val (.int p4), .val (.int p5)] [(.int (1 : Int32)), (.int p1)])) (fun t k => ?_) ?_
  · show Steps p.tables e below (s₁.setTop (mkF m 1 #[.val (.int p1), .val (.int p2), .val (.int p3), .val (.int p4), .val (.int p5)] [(.int p1)])) _
    refine XS.ifYes X0.here hx rfl (pc0 := 1) (pc' := 8) rfl (hb hby d1_1) rfl ((if0 _ _).trans (feq hc1).2) (by decide) (by decide) ?_
    show Steps p.tables e below (s₁.setTop (mkF m 8 #[.val (.int p1), .val (.int p2), .val (.int p3), .val (.int p4), .val (.int p5)] [])) _
    refine XS.iloadN X0.here hx rfl (hb hby d1_8) rfl ?_
    show Steps p.tables e below (s₁.setTop (mkF m 9 #[.val (.int p1), .val (.int p2), .val (.int p3), .val (.int p4), .val (.int p5)] [(.int p1)])) _
    refine XS.iconst X0.here hx rfl (hb hby d1_9) ?_
    exact k
  refine own_go (T' := s₁) (g' := (mkF m 23 #[.val (.int p1), .val (.int p2), .val (.int p3), .val (.int p4), .val (.int p5)] [(.int (2 : Int32)), (.int p1)])) (fun t k => ?_) ?_
  · show Steps p.tables e below (s₁.setTop (mkF m 10 #[.val (.int p1), .val (.int p2), .val (.int p3), .val (.int p4), .val (.int p5)] [(.int (1 : Int32)), (.int p1)])) _
    refine XS.icmpYes X0.here hx rfl (pc0 := 10) (pc' := 21) rfl (hb hby d1_10) rfl (feq hc10).2 (by decide) (by decide) ?_
    show Steps p.tables e below (s₁.setTop (mkF m 21 #[.val (.int p1), .val (.int p2), .val (.int p3), .val (.int p4), .val (.int p5)] [])) _
    refine XS.iloadN X0.here hx rfl (hb hby d1_21) rfl ?_
    show Steps p.tables e below (s₁.setTop (mkF m 22 #[.val (.int p1), .val (.int p2), .val (.int p3), .val (.int p4), .val (.int p5)] [(.int p1)])) _
    refine XS.iconst X0.here hx rfl (hb hby d1_22) ?_
    exact k
  refine own_go (T' := s₁) (g' := (mkF m 40 #[.val (.int p1), .val (.int p2), .val (.int p3), .val (.int p4), .val (.int p5)] [(.int (3 : Int32)), (.int p1)])) (fun t k => ?_) ?_
  · show Steps p.tables e below (s₁.setTop (mkF m 23 #[.val (.int p1), .val (.int p2), .val (.int p3), .val (.int p4), .val (.int p5)] [(.int (2 : Int32)), (.int p1)])) _
    refine XS.icmpYes X0.here hx rfl (pc0 := 23) (pc' := 38) rfl (hb hby d1_23) rfl (feq hc23).2 (by decide) (by decide) ?_
    show Steps p.tables e below (s₁.setTop (mkF m 38 #[.val (.int p1), .val (.int p2), .val (.int p3), .val (.int p4), .val (.int p5)] [])) _
    refine XS.iloadN X0.here hx rfl (hb hby d1_38) rfl ?_
    show Steps p.tables e below (s₁.setTop (mkF m 39 #[.val (.int p1), .val (.int p2), .val (.int p3), .val (.int p4), .val (.int p5)] [(.int p1)])) _
    refine XS.iconst X0.here hx rfl (hb hby d1_39) ?_
    exact k
  refine own_go (T' := s₁) (g' := (mkF m 44 #[.val (.int p1), .val (.int p2), .val (.int p3), .val (.int p4), .val (.int p5)] [(.int (3 : Int32))])) (fun t k => ?_) ?_
  · show Steps p.tables e below (s₁.setTop (mkF m 40 #[.val (.int p1), .val (.int p2), .val (.int p3), .val (.int p4), .val (.int p5)] [(.int (3 : Int32)), (.int p1)])) _
    refine XS.icmpNo X0.here hx rfl (hb hby d1_40) rfl (teq hc40).2 ?_
    show Steps p.tables e below (s₁.setTop (mkF m 43 #[.val (.int p1), .val (.int p2), .val (.int p3), .val (.int p4), .val (.int p5)] [])) _
    refine XS.iconst X0.here hx rfl (hb hby d1_43) ?_
    exact k
  obtain ⟨T1, h1, k1, X1, e1, E1, A1, st1⟩ := newP X0 hx hZ (hw _ (List.mem_of_getElem? (i := 4) rfl)) e0 (g := (mkF m 44 #[.val (.int p1), .val (.int p2), .val (.int p3), .val (.int p4), .val (.int p5)] [(.int (3 : Int32))])) rfl (hb hby d1_44) rfl (by decide) (cap := 3) (by decide) (by decide) (by decide) (by decide)
  obtain ⟨b1, g1⟩ : ∃ z, z = h0.size := ⟨_, rfl⟩
  rw [← g1] at A1 st1
  have g_b1 : n0 ≤ b1 := Nat.le_trans Z0 (Nat.le_of_eq g1.symm)
  have sz_b1 : h0.size ≤ b1 := Nat.le_trans KK.1 (Nat.le_of_eq g1.symm)
  have Z0 := Nat.le_trans Z0 E1.1
  have KK := KK.ext E1
  have V_b1 : Arv Z h1 b1 k1 .int (3 : Int32) [(.int (0 : Int32)), (.int (0 : Int32)), (.int (0 : Int32))] (.int (0 : Int32)) := (Arv.new A1 (by decide)).pad (pad_rep [] (.int (0 : Int32)) 3)
  refine own_go st1 ?_
  show own_Go p.tables e below _ T1 (mkF m 46 #[.val (.int p1), .val (.int p2), .val (.int p3), .val (.int p4), .val (.int p5)] [(.ref b1)])
  refine own_go (T' := T1) (g' := (mkF m 49 #[.val (.int p1), .val (.int p2), .val (.int p3), .val (.int p4), .val (.int p5)] [(.int p2), (.int (0 : Int32)), (.ref b1), (.ref b1)])) (fun t k => ?_) ?_
  · show Steps p.tables e below (T1.setTop (mkF m 46 #[.val (.int p1), .val (.int p2), .val (.int p3), .val (.int p4), .val (.int p5)] [(.ref b1)])) _
    refine XS.dup X1.here hx rfl (hb hby d1_46) rfl rfl ?_
    show Steps p.tables e below (T1.setTop (mkF m 47 #[.val (.int p1), .val (.int p2), .val (.int p3), .val (.int p4), .val (.int p5)] [(.ref b1), (.ref b1)])) _
    refine XS.iconst X1.here hx rfl (hb hby d1_47) ?_
    show Steps p.tables e below (T1.setTop (mkF m 48 #[.val (.int p1), .val (.int p2), .val (.int p3), .val (.int p4), .val (.int p5)] [(.int (0 : Int32)), (.ref b1), (.ref b1)])) _
    refine XS.iloadN X1.here hx rfl (hb hby d1_48) rfl ?_
    exact k
  have Vq := V_b1
  obtain ⟨cl2, Ar2, q2, Sz2, Ng2, Hs2, Gs2⟩ := Vq
  have hin2 : ¬ ((0 : Int32) < 0 ∨ cl2.slots.size ≤ ((0 : Int32)).toNatClampNeg) := inb_of Sz2 ⟨by decide, by decide⟩
  obtain ⟨T3, h3, X3, e3, W3, st3⟩ := stI X1 hx hZ e1 Ar2 (j := (0 : Int32)) hin2 (g := (mkF m 49 #[.val (.int p1), .val (.int p2), .val (.int p3), .val (.int p4), .val (.int p5)] [(.int p2), (.int (0 : Int32)), (.ref b1), (.ref b1)])) rfl rfl (hb hby d1_49)
  refine own_go st3 ?_
  have Z0 := Nat.le_trans Z0 (Keep.of_wr W3).1
  have KK := KK.wr W3 (Or.inr sz_b1)
  have NN := Fr.snoc X3 NN g_b1
  have V_b1 : Arv Z h3 b1 k1 .int (3 : Int32) [(.int p2), (.int (0 : Int32)), (.int (0 : Int32))] (.int (0 : Int32)) := Arv.set Ar2 q2 Sz2 Ng2 Hs2 Gs2 rfl W3 0 rfl (Nat.le_of_ble_eq_true rfl)
  show own_Go p.tables e below _ T3 (mkF m 50 #[.val (.int p1), .val (.int p2), .val (.int p3), .val (.int p4), .val (.int p5)] [(.ref b1)])
  refine own_go (T' := T3) (g' := (mkF m 53 #[.val (.int p1), .val (.int p2), .val (.int p3), .val (.int p4), .val (.int p5)] [(.int p3), (.int (1 : Int32)), (.ref b1), (.ref b1)])) (fun t k => ?_) ?_
  · show Steps p.tables e below (T3.setTop (mkF m 50 #[.val (.int p1), .val (.int p2), .val (.int p3), .val (.int p4), .val (.int p5)] [(.ref b1)])) _
    refine XS.dup X3.here hx rfl (hb hby d1_50) rfl rfl ?_
    show Steps p.tables e below (T3.setTop (mkF m 51 #[.val (.int p1), .val (.int p2), .val (.int p3), .val (.int p4), .val (.int p5)] [(.ref b1), (.ref b1)])) _
    refine XS.iconst X3.here hx rfl (hb hby d1_51) ?_
    show Steps p.tables e below (T3.setTop (mkF m 52 #[.val (.int p1), .val (.int p2), .val (.int p3), .val (.int p4), .val (.int p5)] [(.int (1 : Int32)), (.ref b1), (.ref b1)])) _
    refine XS.iloadN X3.here hx rfl (hb hby d1_52) rfl ?_
    exact k
  have Vq := V_b1
  obtain ⟨cl4, Ar4, q4, Sz4, Ng4, Hs4, Gs4⟩ := Vq
  have hin4 : ¬ ((1 : Int32) < 0 ∨ cl4.slots.size ≤ ((1 : Int32)).toNatClampNeg) := inb_of Sz4 ⟨by decide, by decide⟩
  obtain ⟨T5, h5, X5, e5, W5, st5⟩ := stI X3 hx hZ e3 Ar4 (j := (1 : Int32)) hin4 (g := (mkF m 53 #[.val (.int p1), .val (.int p2), .val (.int p3), .val (.int p4), .val (.int p5)] [(.int p3), (.int (1 : Int32)), (.ref b1), (.ref b1)])) rfl rfl (hb hby d1_53)
  refine own_go st5 ?_
  have Z0 := Nat.le_trans Z0 (Keep.of_wr W5).1
  have KK := KK.wr W5 (Or.inr sz_b1)
  have NN := Fr.snoc X5 NN g_b1
  have V_b1 : Arv Z h5 b1 k1 .int (3 : Int32) [(.int p2), (.int p3), (.int (0 : Int32))] (.int (0 : Int32)) := Arv.set Ar4 q4 Sz4 Ng4 Hs4 Gs4 rfl W5 1 rfl (Nat.le_of_ble_eq_true rfl)
  show own_Go p.tables e below _ T5 (mkF m 54 #[.val (.int p1), .val (.int p2), .val (.int p3), .val (.int p4), .val (.int p5)] [(.ref b1)])
  refine own_go (T' := T5) (g' := (mkF m 57 #[.val (.int p1), .val (.int p2), .val (.int p3), .val (.int p4), .val (.int p5)] [(.int p4), (.int (2 : Int32)), (.ref b1), (.ref b1)])) (fun t k => ?_) ?_
  · show Steps p.tables e below (T5.setTop (mkF m 54 #[.val (.int p1), .val (.int p2), .val (.int p3), .val (.int p4), .val (.int p5)] [(.ref b1)])) _
    refine XS.dup X5.here hx rfl (hb hby d1_54) rfl rfl ?_
    show Steps p.tables e below (T5.setTop (mkF m 55 #[.val (.int p1), .val (.int p2), .val (.int p3), .val (.int p4), .val (.int p5)] [(.ref b1), (.ref b1)])) _
    refine XS.iconst X5.here hx rfl (hb hby d1_55) ?_
    show Steps p.tables e below (T5.setTop (mkF m 56 #[.val (.int p1), .val (.int p2), .val (.int p3), .val (.int p4), .val (.int p5)] [(.int (2 : Int32)), (.ref b1), (.ref b1)])) _
    refine XS.iloadN X5.here hx rfl (hb hby d1_56) rfl ?_
    exact k
  have Vq := V_b1
  obtain ⟨cl6, Ar6, q6, Sz6, Ng6, Hs6, Gs6⟩ := Vq
  have hin6 : ¬ ((2 : Int32) < 0 ∨ cl6.slots.size ≤ ((2 : Int32)).toNatClampNeg) := inb_of Sz6 ⟨by decide, by decide⟩
  obtain ⟨T7, h7, X7, e7, W7, st7⟩ := stI X5 hx hZ e5 Ar6 (j := (2 : Int32)) hin6 (g := (mkF m 57 #[.val (.int p1), .val (.int p2), .val (.int p3), .val (.int p4), .val (.int p5)] [(.int p4), (.int (2 : Int32)), (.ref b1), (.ref b1)])) rfl rfl (hb hby d1_57)
  refine own_go st7 ?_
  have Z0 := Nat.le_trans Z0 (Keep.of_wr W7).1
  have KK := KK.wr W7 (Or.inr sz_b1)
  have NN := Fr.snoc X7 NN g_b1
  have V_b1 : Arv Z h7 b1 k1 .int (3 : Int32) [(.int p2), (.int p3), (.int p4)] (.int (0 : Int32)) := Arv.set Ar6 q6 Sz6 Ng6 Hs6 Gs6 rfl W7 2 rfl (Nat.le_of_ble_eq_true rfl)
  show own_Go p.tables e below _ T7 (mkF m 58 #[.val (.int p1), .val (.int p2), .val (.int p3), .val (.int p4), .val (.int p5)] [(.ref b1)])
  obtain ⟨fs, hr, hrun, hended, hW, hsame⟩ := X7.leave (v := some (.ref b1)) (fun h => by rw [Bd.returns] at h; cases h)
  refine ⟨_, _, ?_, hrun, hended, _, _, rfl, ?_, ⟨_, rfl⟩, hW, hsame.mono (by decide) (by decide)⟩
  · exact own_retR X7 hx Bd.returns rfl rfl (hb hby d1_58) hr
  · show Q1_3 Z p1 p2 p3 p4 p5 h0 n0 _ T7.heap _
    rw [e7]
    exact ⟨b1, k1, rfl, NN, KK, g_b1, sz_b1, V_b1⟩
theorem d1_59 : decode method_2_code 59 = .ok (.iconst 4, 1) := by decide +kernel
theorem d1_60 : decode method_2_code 60 = .ok (.newarray .int, 2) := by decide +kernel
theorem d1_62 : decode method_2_code 62 = .ok (.dup, 1) := by decide +kernel
theorem d1_63 : decode method_2_code 63 = .ok (.iconst 0, 1) := by decide +kernel
theorem d1_64 : decode method_2_code 64 = .ok (.iload_n 1, 1) := by decide +kernel
theorem d1_65 : decode method_2_code 65 = .ok (.iastore, 1) := by decide +kernel
theorem d1_66 : decode method_2_code 66 = .ok (.dup, 1) := by decide +kernel
theorem d1_67 : decode method_2_code 67 = .ok (.iconst 1, 1) := by decide +kernel
theorem d1_68 : decode method_2_code 68 = .ok (.iload_n 2, 1) := by decide +kernel
theorem d1_69 : decode method_2_code 69 = .ok (.iastore, 1) := by decide +kernel
theorem d1_70 : decode method_2_code 70 = .ok (.dup, 1) := by decide +kernel
theorem d1_71 : decode method_2_code 71 = .ok (.iconst 2, 1) := by decide +kernel
theorem d1_72 : decode method_2_code 72 = .ok (.iload_n 3, 1) := by decide +kernel
theorem d1_73 : decode method_2_code 73 = .ok (.iastore, 1) := by decide +kernel
theorem d1_74 : decode method_2_code 74 = .ok (.dup, 1) := by decide +kernel
theorem d1_75 : decode method_2_code 75 = .ok (.iconst 3, 1) := by decide +kernel
theorem d1_76 : decode method_2_code 76 = .ok (.iload 4, 2) := by decide +kernel
theorem d1_78 : decode method_2_code 78 = .ok (.iastore, 1) := by decide +kernel
theorem d1_79 : decode method_2_code 79 = .ok (.areturn, 1) := by decide +kernel
theorem ef_1_4 (m : MethodId) (p1 : Int32) (p2 : Int32) (p3 : Int32) (p4 : Int32) (p5 : Int32) : entryFrame m #[(.int p1), (.int p2), (.int p3), (.int p4), (.int p5)] 5 = mkF m 0 #[.val (.int p1), .val (.int p2), .val (.int p3), .val (.int p4), .val (.int p5)] [] := by first | (simp [entryFrame, mkF, argsToLocals, Value.category]; done) | rfl
def Q1_4 (Z : State) (p1 : Int32) (p2 : Int32) (p3 : Int32) (p4 : Int32) (p5 : Int32) (h0 : Heap) (n0 : Nat) (v : Option Value) (h : Heap) (L : List Loc) : Prop := ∃ (b1 : Addr), ∃ (k1 : ClassId), v = some (.ref b1) ∧ Fr n0 L ∧ Keep h0 h [] ∧ n0 ≤ b1 ∧ h0.size ≤ b1 ∧ Arv Z h b1 k1 .int (4 : Int32) [(.int p2), (.int p3), (.int p4), (.int p5)] (.int (0 : Int32))
set_option maxRecDepth 65536 in
set_option maxHeartbeats 40000000 in
theorem rm1_4 (l : Launch) (Z : State) (a0 : Array Value) (hw : ∀ d ∈ tables_1, d.before a0 Z = true) (ws : List Jvm.Cond) (p1 : Int32) (p2 : Int32) (p3 : Int32) (p4 : Int32) (p5 : Int32) (h0 : Heap) (n0 : Nat) (Z0 : n0 ≤ h0.size) (hc1 : ¬ (p1 = (0 : Int32))) (hc10 : ¬ (p1 = (1 : Int32))) (hc23 : ¬ (p1 = (2 : Int32))) (hc40 : ¬ (p1 = (3 : Int32))) :
    MetFree l (⟨"com/example/hopline/hopline/core/NodeStoreHasLabelPinLaw", "make", "(IIIII)[I"⟩ : MethodName) (head1 (Jvm.Cond.code (⟨"com/example/hopline/hopline/core/NodeStoreHasLabelPinLaw", "make", "(IIIII)[I"⟩ : MethodName) method_2_code 5 (some (.array .int)) :: ws) ({ frames := 0, cells := 1, slots := 4, locals := 0 } : Room)) (fun a U => a = #[(.int p1), (.int p2), (.int p3), (.int p4), (.int p5)] ∧ Z.Warmed39 U.vm ∧ U.heap = h0) (fun _ _ _ _ _ => True) (fun _ U o U' => ∃ v L, o = .returned v ∧ Q1_4 Z p1 p2 p3 p4 p5 h0 n0 v U'.heap L ∧ FrameEnd U o U' L ({ frames := 0, cells := 1, slots := 4, locals := 0 } : Room).cells ({ frames := 0, cells := 1, slots := 4, locals := 0 } : Room).slots) := by
  refine MetFree.of_bodySF (plainFor_of_name pn_0) hisR ?_
  intro p e s m args below meth c s₁ Bd hml0 hP hK
  obtain ⟨rfl, hZ, hh⟩ := hP
  have hx := Bd.exec
  have hby := Bd.bytes
  have hml : c.maxLocals = 5 := hml0
  have hown : s.vm.findClass "com/example/hopline/hopline/core/NodeStoreHasLabelPinLaw" = some m.cls := findClass_of_methodNamed Bd.named
  have hnm := (name_of_methodNamed Bd.named Bd.method).1
  have X0 : Stand p l e ({ frames := 0, cells := 1, slots := 4, locals := 0 } : Room) s m #[(.int p1), (.int p2), (.int p3), (.int p4), (.int p5)] below meth c s₁ [] 0 0 := Stand.of_body Bd
  have e0 : s₁.heap = h0 := by rw [← hh, Bd.state]; rfl
  have NN := Fr.nil n0
  have KK : Keep h0 h0 [] := Keep.refl h0 []
  refine own_start (ef_1_4 m p1 p2 p3 p4 p5) ?_
  refine own_go (T' := s₁) (g' := (mkF m 1 #[.val (.int p1), .val (.int p2), .val (.int p3), .val (.int p4), .val (.int p5)] [(.int p1)])) (fun t k => ?_) ?_
  · show Steps p.tables e below (s₁.setTop (mkF m 0 #[.val (.int p1), .val (.int p2), .val (.int p3), .val (.int p4), .val (.int p5)] [])) _
    refine XS.iloadN X0.here hx rfl (hb hby d1_0) rfl ?_
    exact k
  refine own_go (T' := s₁) (g' := (mkF m 10 #[.val (.int p1), .val (.int p2), .val (.int p3), .val (.int p4), .val (.int p5)] [(.int (1 : Int32)), (.int p1)])) (fun t k => ?_) ?_
  · show Steps p.tables e below (s₁.setTop (mkF m 1 #[.val (.int p1), .val (.int p2), .val (.int p3), .val (.int p4), .val (.int p5)] [(.int p1)])) _
    refine XS.ifYes X0.here hx rfl (pc0 := 1) (pc' := 8) rfl (hb hby d1_1) rfl ((if0 _ _).trans (feq hc1).2) (by decide) (by decide) ?_
    show Steps p.tables e below (s₁.setTop (mkF m 8 #[.val (.int p1), .val (.int p2), .val (.int p3), .val (.int p4), .val (.int p5)] [])) _
    refine XS.iloadN X0.here hx rfl (hb hby d1_8) rfl ?_
    show Steps p.tables e below (s₁.setTop (mkF m 9 #[.val (.int p1), .val (.int p2), .val (.int p3), .val (.int p4), .val (.int p5)] [(.int p1)])) _
    refine XS.iconst X0.here hx rfl (hb hby d1_9) ?_
    exact k
  refine own_go (T' := s₁) (g' := (mkF m 23 #[.val (.int p1), .val (.int p2), .val (.int p3), .val (.int p4), .val (.int p5)] [(.int (2 : Int32)), (.int p1)])) (fun t k => ?_) ?_
  · show Steps p.tables e below (s₁.setTop (mkF m 10 #[.val (.int p1), .val (.int p2), .val (.int p3), .val (.int p4), .val (.int p5)] [(.int (1 : Int32)), (.int p1)])) _
    refine XS.icmpYes X0.here hx rfl (pc0 := 10) (pc' := 21) rfl (hb hby d1_10) rfl (feq hc10).2 (by decide) (by decide) ?_
    show Steps p.tables e below (s₁.setTop (mkF m 21 #[.val (.int p1), .val (.int p2), .val (.int p3), .val (.int p4), .val (.int p5)] [])) _
    refine XS.iloadN X0.here hx rfl (hb hby d1_21) rfl ?_
    show Steps p.tables e below (s₁.setTop (mkF m 22 #[.val (.int p1), .val (.int p2), .val (.int p3), .val (.int p4), .val (.int p5)] [(.int p1)])) _
    refine XS.iconst X0.here hx rfl (hb hby d1_22) ?_
    exact k
  refine own_go (T' := s₁) (g' := (mkF m 40 #[.val (.int p1), .val (.int p2), .val (.int p3), .val (.int p4), .val (.int p5)] [(.int (3 : Int32)), (.int p1)])) (fun t k => ?_) ?_
  · show Steps p.tables e below (s₁.setTop (mkF m 23 #[.val (.int p1), .val (.int p2), .val (.int p3), .val (.int p4), .val (.int p5)] [(.int (2 : Int32)), (.int p1)])) _
    refine XS.icmpYes X0.here hx rfl (pc0 := 23) (pc' := 38) rfl (hb hby d1_23) rfl (feq hc23).2 (by decide) (by decide) ?_
    show Steps p.tables e below (s₁.setTop (mkF m 38 #[.val (.int p1), .val (.int p2), .val (.int p3), .val (.int p4), .val (.int p5)] [])) _
    refine XS.iloadN X0.here hx rfl (hb hby d1_38) rfl ?_
    show Steps p.tables e below (s₁.setTop (mkF m 39 #[.val (.int p1), .val (.int p2), .val (.int p3), .val (.int p4), .val (.int p5)] [(.int p1)])) _
    refine XS.iconst X0.here hx rfl (hb hby d1_39) ?_
    exact k
  refine own_go (T' := s₁) (g' := (mkF m 60 #[.val (.int p1), .val (.int p2), .val (.int p3), .val (.int p4), .val (.int p5)] [(.int (4 : Int32))])) (fun t k => ?_) ?_
  · show Steps p.tables e below (s₁.setTop (mkF m 40 #[.val (.int p1), .val (.int p2), .val (.int p3), .val (.int p4), .val (.int p5)] [(.int (3 : Int32)), (.int p1)])) _
    refine XS.icmpYes X0.here hx rfl (pc0 := 40) (pc' := 59) rfl (hb hby d1_40) rfl (feq hc40).2 (by decide) (by decide) ?_
    show Steps p.tables e below (s₁.setTop (mkF m 59 #[.val (.int p1), .val (.int p2), .val (.int p3), .val (.int p4), .val (.int p5)] [])) _
    refine XS.iconst X0.here hx rfl (hb hby d1_59) ?_
    exact k
  obtain ⟨T1, h1, k1, X1, e1, E1, A1, st1⟩ := newP X0 hx hZ (hw _ (List.mem_of_getElem? (i := 4) rfl)) e0 (g := (mkF m 60 #[.val (.int p1), .val (.int p2), .val (.int p3), .val (.int p4), .val (.int p5)] [(.int (4 : Int32))])) rfl (hb hby d1_60) rfl (by decide) (cap := 4) (by decide) (by decide) (by decide) (by decide)
  obtain ⟨b1, g1⟩ : ∃ z, z = h0.size := ⟨_, rfl⟩
  rw [← g1] at A1 st1
  have g_b1 : n0 ≤ b1 := Nat.le_trans Z0 (Nat.le_of_eq g1.symm)
  have sz_b1 : h0.size ≤ b1 := Nat.le_trans KK.1 (Nat.le_of_eq g1.symm)
  have Z0 := Nat.le_trans Z0 E1.1
  have KK := KK.ext E1
  have V_b1 : Arv Z h1 b1 k1 .int (4 : Int32) [(.int (0 : Int32)), (.int (0 : Int32)), (.int (0 : Int32)), (.int (0 : Int32))] (.int (0 : Int32)) := (Arv.new A1 (by decide)).pad (pad_rep [] (.int (0 : Int32)) 4)
  refine own_go st1 ?_
  show own_Go p.tables e below _ T1 (mkF m 62 #[.val (.int p1), .val (.int p2), .val (.int p3), .val (.int p4), .val (.int p5)] [(.ref b1)])
  refine own_go (T' := T1) (g' := (mkF m 65 #[.val (.int p1), .val (.int p2), .val (.int p3), .val (.int p4), .val (.int p5)] [(.int p2), (.int (0 : Int32)), (.ref b1), (.ref b1)])) (fun t k => ?_) ?_
  · show Steps p.tables e below (T1.setTop (mkF m 62 #[.val (.int p1), .val (.int p2), .val (.int p3), .val (.int p4), .val (.int p5)] [(.ref b1)])) _
    refine XS.dup X1.here hx rfl (hb hby d1_62) rfl rfl ?_
    show Steps p.tables e below (T1.setTop (mkF m 63 #[.val (.int p1), .val (.int p2), .val (.int p3), .val (.int p4), .val (.int p5)] [(.ref b1), (.ref b1)])) _
    refine XS.iconst X1.here hx rfl (hb hby d1_63) ?_
    show Steps p.tables e below (T1.setTop (mkF m 64 #[.val (.int p1), .val (.int p2), .val (.int p3), .val (.int p4), .val (.int p5)] [(.int (0 : Int32)), (.ref b1), (.ref b1)])) _
    refine XS.iloadN X1.here hx rfl (hb hby d1_64) rfl ?_
    exact k
  have Vq := V_b1
  obtain ⟨cl2, Ar2, q2, Sz2, Ng2, Hs2, Gs2⟩ := Vq
  have hin2 : ¬ ((0 : Int32) < 0 ∨ cl2.slots.size ≤ ((0 : Int32)).toNatClampNeg) := inb_of Sz2 ⟨by decide, by decide⟩
  obtain ⟨T3, h3, X3, e3, W3, st3⟩ := stI X1 hx hZ e1 Ar2 (j := (0 : Int32)) hin2 (g := (mkF m 65 #[.val (.int p1), .val (.int p2), .val (.int p3), .val (.int p4), .val (.int p5)] [(.int p2), (.int (0 : Int32)), (.ref b1), (.ref b1)])) rfl rfl (hb hby d1_65)
  refine own_go st3 ?_
  have Z0 := Nat.le_trans Z0 (Keep.of_wr W3).1
  have KK := KK.wr W3 (Or.inr sz_b1)
  have NN := Fr.snoc X3 NN g_b1
  have V_b1 : Arv Z h3 b1 k1 .int (4 : Int32) [(.int p2), (.int (0 : Int32)), (.int (0 : Int32)), (.int (0 : Int32))] (.int (0 : Int32)) := Arv.set Ar2 q2 Sz2 Ng2 Hs2 Gs2 rfl W3 0 rfl (Nat.le_of_ble_eq_true rfl)
  show own_Go p.tables e below _ T3 (mkF m 66 #[.val (.int p1), .val (.int p2), .val (.int p3), .val (.int p4), .val (.int p5)] [(.ref b1)])
  refine own_go (T' := T3) (g' := (mkF m 69 #[.val (.int p1), .val (.int p2), .val (.int p3), .val (.int p4), .val (.int p5)] [(.int p3), (.int (1 : Int32)), (.ref b1), (.ref b1)])) (fun t k => ?_) ?_
  · show Steps p.tables e below (T3.setTop (mkF m 66 #[.val (.int p1), .val (.int p2), .val (.int p3), .val (.int p4), .val (.int p5)] [(.ref b1)])) _
    refine XS.dup X3.here hx rfl (hb hby d1_66) rfl rfl ?_
    show Steps p.tables e below (T3.setTop (mkF m 67 #[.val (.int p1), .val (.int p2), .val (.int p3), .val (.int p4), .val (.int p5)] [(.ref b1), (.ref b1)])) _
    refine XS.iconst X3.here hx rfl (hb hby d1_67) ?_
    show Steps p.tables e below (T3.setTop (mkF m 68 #[.val (.int p1), .val (.int p2), .val (.int p3), .val (.int p4), .val (.int p5)] [(.int (1 : Int32)), (.ref b1), (.ref b1)])) _
    refine XS.iloadN X3.here hx rfl (hb hby d1_68) rfl ?_
    exact k
  have Vq := V_b1
  obtain ⟨cl4, Ar4, q4, Sz4, Ng4, Hs4, Gs4⟩ := Vq
  have hin4 : ¬ ((1 : Int32) < 0 ∨ cl4.slots.size ≤ ((1 : Int32)).toNatClampNeg) := inb_of Sz4 ⟨by decide, by decide⟩
  obtain ⟨T5, h5, X5, e5, W5, st5⟩ := stI X3 hx hZ e3 Ar4 (j := (1 : Int32)) hin4 (g := (mkF m 69 #[.val (.int p1), .val (.int p2), .val (.int p3), .val (.int p4), .val (.int p5)] [(.int p3), (.int (1 : Int32)), (.ref b1), (.ref b1)])) rfl rfl (hb hby d1_69)
  refine own_go st5 ?_
  have Z0 := Nat.le_trans Z0 (Keep.of_wr W5).1
  have KK := KK.wr W5 (Or.inr sz_b1)
  have NN := Fr.snoc X5 NN g_b1
  have V_b1 : Arv Z h5 b1 k1 .int (4 : Int32) [(.int p2), (.int p3), (.int (0 : Int32)), (.int (0 : Int32))] (.int (0 : Int32)) := Arv.set Ar4 q4 Sz4 Ng4 Hs4 Gs4 rfl W5 1 rfl (Nat.le_of_ble_eq_true rfl)
  show own_Go p.tables e below _ T5 (mkF m 70 #[.val (.int p1), .val (.int p2), .val (.int p3), .val (.int p4), .val (.int p5)] [(.ref b1)])
  refine own_go (T' := T5) (g' := (mkF m 73 #[.val (.int p1), .val (.int p2), .val (.int p3), .val (.int p4), .val (.int p5)] [(.int p4), (.int (2 : Int32)), (.ref b1), (.ref b1)])) (fun t k => ?_) ?_
  · show Steps p.tables e below (T5.setTop (mkF m 70 #[.val (.int p1), .val (.int p2), .val (.int p3), .val (.int p4), .val (.int p5)] [(.ref b1)])) _
    refine XS.dup X5.here hx rfl (hb hby d1_70) rfl rfl ?_
    show Steps p.tables e below (T5.setTop (mkF m 71 #[.val (.int p1), .val (.int p2), .val (.int p3), .val (.int p4), .val (.int p5)] [(.ref b1), (.ref b1)])) _
    refine XS.iconst X5.here hx rfl (hb hby d1_71) ?_
    show Steps p.tables e below (T5.setTop (mkF m 72 #[.val (.int p1), .val (.int p2), .val (.int p3), .val (.int p4), .val (.int p5)] [(.int (2 : Int32)), (.ref b1), (.ref b1)])) _
    refine XS.iloadN X5.here hx rfl (hb hby d1_72) rfl ?_
    exact k
  have Vq := V_b1
  obtain ⟨cl6, Ar6, q6, Sz6, Ng6, Hs6, Gs6⟩ := Vq
  have hin6 : ¬ ((2 : Int32) < 0 ∨ cl6.slots.size ≤ ((2 : Int32)).toNatClampNeg) := inb_of Sz6 ⟨by decide, by decide⟩
  obtain ⟨T7, h7, X7, e7, W7, st7⟩ := stI X5 hx hZ e5 Ar6 (j := (2 : Int32)) hin6 (g := (mkF m 73 #[.val (.int p1), .val (.int p2), .val (.int p3), .val (.int p4), .val (.int p5)] [(.int p4), (.int (2 : Int32)), (.ref b1), (.ref b1)])) rfl rfl (hb hby d1_73)
  refine own_go st7 ?_
  have Z0 := Nat.le_trans Z0 (Keep.of_wr W7).1
  have KK := KK.wr W7 (Or.inr sz_b1)
  have NN := Fr.snoc X7 NN g_b1
  have V_b1 : Arv Z h7 b1 k1 .int (4 : Int32) [(.int p2), (.int p3), (.int p4), (.int (0 : Int32))] (.int (0 : Int32)) := Arv.set Ar6 q6 Sz6 Ng6 Hs6 Gs6 rfl W7 2 rfl (Nat.le_of_ble_eq_true rfl)
  show own_Go p.tables e below _ T7 (mkF m 74 #[.val (.int p1), .val (.int p2), .val (.int p3), .val (.int p4), .val (.int p5)] [(.ref b1)])
  refine own_go (T' := T7) (g' := (mkF m 78 #[.val (.int p1), .val (.int p2), .val (.int p3), .val (.int p4), .val (.int p5)] [(.int p5), (.int (3 : Int32)), (.ref b1), (.ref b1)])) (fun t k => ?_) ?_
  · show Steps p.tables e below (T7.setTop (mkF m 74 #[.val (.int p1), .val (.int p2), .val (.int p3), .val (.int p4), .val (.int p5)] [(.ref b1)])) _
    refine XS.dup X7.here hx rfl (hb hby d1_74) rfl rfl ?_
    show Steps p.tables e below (T7.setTop (mkF m 75 #[.val (.int p1), .val (.int p2), .val (.int p3), .val (.int p4), .val (.int p5)] [(.ref b1), (.ref b1)])) _
    refine XS.iconst X7.here hx rfl (hb hby d1_75) ?_
    show Steps p.tables e below (T7.setTop (mkF m 76 #[.val (.int p1), .val (.int p2), .val (.int p3), .val (.int p4), .val (.int p5)] [(.int (3 : Int32)), (.ref b1), (.ref b1)])) _
    refine XS.iload X7.here hx rfl (hb hby d1_76) rfl ?_
    exact k
  have Vq := V_b1
  obtain ⟨cl8, Ar8, q8, Sz8, Ng8, Hs8, Gs8⟩ := Vq
  have hin8 : ¬ ((3 : Int32) < 0 ∨ cl8.slots.size ≤ ((3 : Int32)).toNatClampNeg) := inb_of Sz8 ⟨by decide, by decide⟩
  obtain ⟨T9, h9, X9, e9, W9, st9⟩ := stI X7 hx hZ e7 Ar8 (j := (3 : Int32)) hin8 (g := (mkF m 78 #[.val (.int p1), .val (.int p2), .val (.int p3), .val (.int p4), .val (.int p5)] [(.int p5), (.int (3 : Int32)), (.ref b1), (.ref b1)])) rfl rfl (hb hby d1_78)
  refine own_go st9 ?_
  have Z0 := Nat.le_trans Z0 (Keep.of_wr W9).1
  have KK := KK.wr W9 (Or.inr sz_b1)
  have NN := Fr.snoc X9 NN g_b1
  have V_b1 : Arv Z h9 b1 k1 .int (4 : Int32) [(.int p2), (.int p3), (.int p4), (.int p5)] (.int (0 : Int32)) := Arv.set Ar8 q8 Sz8 Ng8 Hs8 Gs8 rfl W9 3 rfl (Nat.le_of_ble_eq_true rfl)
  show own_Go p.tables e below _ T9 (mkF m 79 #[.val (.int p1), .val (.int p2), .val (.int p3), .val (.int p4), .val (.int p5)] [(.ref b1)])
  obtain ⟨fs, hr, hrun, hended, hW, hsame⟩ := X9.leave (v := some (.ref b1)) (fun h => by rw [Bd.returns] at h; cases h)
  refine ⟨_, _, ?_, hrun, hended, _, _, rfl, ?_, ⟨_, rfl⟩, hW, hsame.mono (by decide) (by decide)⟩
  · exact own_retR X9 hx Bd.returns rfl rfl (hb hby d1_79) hr
  · show Q1_4 Z p1 p2 p3 p4 p5 h0 n0 _ T9.heap _
    rw [e9]
    exact ⟨b1, k1, rfl, NN, KK, g_b1, sz_b1, V_b1⟩
theorem d2_0 : decode prog_35_method_2_code 0 = .ok (.aload_n 0, 1) := by decide +kernel
theorem d2_1 : decode prog_35_method_2_code 1 = .ok (.astore_n 2, 1) := by decide +kernel
theorem d2_2 : decode prog_35_method_2_code 2 = .ok (.aload_n 2, 1) := by decide +kernel
theorem d2_3 : decode prog_35_method_2_code 3 = .ok (.arraylength, 1) := by decide +kernel
theorem d2_4 : decode prog_35_method_2_code 4 = .ok (.istore_n 3, 1) := by decide +kernel
theorem d2_5 : decode prog_35_method_2_code 5 = .ok (.iconst 0, 1) := by decide +kernel
theorem d2_6 : decode prog_35_method_2_code 6 = .ok (.istore 4, 2) := by decide +kernel
theorem d2_8 : decode prog_35_method_2_code 8 = .ok (.iload 4, 2) := by decide +kernel
theorem d2_10 : decode prog_35_method_2_code 10 = .ok (.iload_n 3, 1) := by decide +kernel
theorem d2_11 : decode prog_35_method_2_code 11 = .ok (.if_icmp .ge 23, 3) := by decide +kernel
theorem d2_34 : decode prog_35_method_2_code 34 = .ok (.iconst 0, 1) := by decide +kernel
theorem d2_35 : decode prog_35_method_2_code 35 = .ok (.ireturn, 1) := by decide +kernel
theorem pn_1 : plainName "com/example/hopline/hopline/core/NodeStore" = true := by first | (simp [plainName, overriddenIn]; done) | decide +kernel
theorem ef_2_0 (m : MethodId) (a1 : Addr) (p2 : Int32) : entryFrame m #[(.ref a1), (.int p2)] 6 = mkF m 0 #[.val (.ref a1), .val (.int p2), .unset, .unset, .unset, .unset] [] := by first | (simp [entryFrame, mkF, argsToLocals, Value.category]; done) | rfl
def r_2_0 (p2 : Int32) : Int32 := (0 : Int32)
def Q2_0 (Z : State) (a1 : Addr) (p2 : Int32) (k_a1 : ClassId) (h0 : Heap) (n0 : Nat) (v : Option Value) (h : Heap) (L : List Loc) : Prop := v = some (.int (r_2_0 p2)) ∧ Fr n0 L ∧ h = h0
set_option maxRecDepth 65536 in
set_option maxHeartbeats 40000000 in
theorem rm2_0 (l : Launch) (Z : State) (a0 : Array Value) (hw : ∀ d ∈ tables_1, d.before a0 Z = true) (ws : List Jvm.Cond) (a1 : Addr) (p2 : Int32) (k_a1 : ClassId) (h0 : Heap) (n0 : Nat) (Z0 : n0 ≤ h0.size) (V_a1 : Arv Z h0 a1 k_a1 .int (0 : Int32) [] (.int (0 : Int32))) :
    MetFree l (⟨"com/example/hopline/hopline/core/NodeStore", "hasLabel", "([II)Z"⟩ : MethodName) (head1 (Jvm.Cond.code (⟨"com/example/hopline/hopline/core/NodeStore", "hasLabel", "([II)Z"⟩ : MethodName) prog_35_method_2_code 6 (some .boolean) :: ws) ({ frames := 0, cells := 0, slots := 0, locals := 0 } : Room)) (fun a U => a = #[(.ref a1), (.int p2)] ∧ Z.Warmed39 U.vm ∧ U.heap = h0) (fun _ _ _ _ _ => True) (fun _ U o U' => ∃ v L, o = .returned v ∧ Q2_0 Z a1 p2 k_a1 h0 n0 v U'.heap L ∧ FrameEnd U o U' L ({ frames := 0, cells := 0, slots := 0, locals := 0 } : Room).cells ({ frames := 0, cells := 0, slots := 0, locals := 0 } : Room).slots) := by
  refine MetFree.of_bodySF (plainFor_of_name pn_1) hisR ?_
  intro p e s m args below meth c s₁ Bd hml0 hP hK
  obtain ⟨rfl, hZ, hh⟩ := hP
  have hx := Bd.exec
  have hby := Bd.bytes
  have hml : c.maxLocals = 6 := hml0
  have hown : s.vm.findClass "com/example/hopline/hopline/core/NodeStore" = some m.cls := findClass_of_methodNamed Bd.named
  have hnm := (name_of_methodNamed Bd.named Bd.method).1
  have X0 : Stand p l e ({ frames := 0, cells := 0, slots := 0, locals := 0 } : Room) s m #[(.ref a1), (.int p2)] below meth c s₁ [] 0 0 := Stand.of_body Bd
  have e0 : s₁.heap = h0 := by rw [← hh, Bd.state]; rfl
  have NN := Fr.nil n0
  have KK : Keep h0 h0 [] := Keep.refl h0 []
  refine own_start (ef_2_0 m a1 p2) ?_
  refine own_go (T' := s₁) (g' := (mkF m 3 #[.val (.ref a1), .val (.int p2), .val (.ref a1), .unset, .unset, .unset] [(.ref a1)])) (fun t k => ?_) ?_
  · show Steps p.tables e below (s₁.setTop (mkF m 0 #[.val (.ref a1), .val (.int p2), .unset, .unset, .unset, .unset] [])) _
    refine XS.aloadN X0.here hx rfl (hb hby d2_0) rfl rfl ?_
    show Steps p.tables e below (s₁.setTop (mkF m 1 #[.val (.ref a1), .val (.int p2), .unset, .unset, .unset, .unset] [(.ref a1)])) _
    refine XS.astoreN X0.here hx rfl (hb hby d2_1) rfl rfl (l' := #[.val (.ref a1), .val (.int p2), .val (.ref a1), .unset, .unset, .unset]) rfl ?_
    show Steps p.tables e below (s₁.setTop (mkF m 2 #[.val (.ref a1), .val (.int p2), .val (.ref a1), .unset, .unset, .unset] [])) _
    refine XS.aloadN X0.here hx rfl (hb hby d2_2) rfl rfl ?_
    exact k
  have Vq := V_a1
  obtain ⟨cl3, Ar3, -, Sz3, Ng3, -, -⟩ := Vq
  refine own_go (fun t k => X0.arraylength hx (by rw [e0]; exact Ar3.1) (State.isArrayOf_alike hZ.alike Ar3.2.1) (g := (mkF m 3 #[.val (.ref a1), .val (.int p2), .val (.ref a1), .unset, .unset, .unset] [(.ref a1)])) rfl rfl (hb hby d2_3) t k) ?_
  rw [len_of Sz3 Ng3]
  show own_Go p.tables e below _ s₁ (mkF m 4 #[.val (.ref a1), .val (.int p2), .val (.ref a1), .unset, .unset, .unset] [(.int (0 : Int32))])
  refine own_go (T' := s₁) (g' := (mkF m 11 #[.val (.ref a1), .val (.int p2), .val (.ref a1), .val (.int (0 : Int32)), .val (.int (0 : Int32)), .unset] [(.int (0 : Int32)), (.int (0 : Int32))])) (fun t k => ?_) ?_
  · show Steps p.tables e below (s₁.setTop (mkF m 4 #[.val (.ref a1), .val (.int p2), .val (.ref a1), .unset, .unset, .unset] [(.int (0 : Int32))])) _
    refine XS.istoreN X0.here hx rfl (hb hby d2_4) rfl (l' := #[.val (.ref a1), .val (.int p2), .val (.ref a1), .val (.int (0 : Int32)), .unset, .unset]) rfl ?_
    show Steps p.tables e below (s₁.setTop (mkF m 5 #[.val (.ref a1), .val (.int p2), .val (.ref a1), .val (.int (0 : Int32)), .unset, .unset] [])) _
    refine XS.iconst X0.here hx rfl (hb hby d2_5) ?_
    show Steps p.tables e below (s₁.setTop (mkF m 6 #[.val (.ref a1), .val (.int p2), .val (.ref a1), .val (.int (0 : Int32)), .unset, .unset] [(.int (0 : Int32))])) _
    refine XS.istore X0.here hx rfl (hb hby d2_6) rfl (l' := #[.val (.ref a1), .val (.int p2), .val (.ref a1), .val (.int (0 : Int32)), .val (.int (0 : Int32)), .unset]) rfl ?_
    show Steps p.tables e below (s₁.setTop (mkF m 8 #[.val (.ref a1), .val (.int p2), .val (.ref a1), .val (.int (0 : Int32)), .val (.int (0 : Int32)), .unset] [])) _
    refine XS.iload X0.here hx rfl (hb hby d2_8) rfl ?_
    show Steps p.tables e below (s₁.setTop (mkF m 10 #[.val (.ref a1), .val (.int p2), .val (.ref a1), .val (.int (0 : Int32)), .val (.int (0 : Int32)), .unset] [(.int (0 : Int32))])) _
    refine XS.iloadN X0.here hx rfl (hb hby d2_10) rfl ?_
    exact k
  refine own_go (T' := s₁) (g' := (mkF m 35 #[.val (.ref a1), .val (.int p2), .val (.ref a1), .val (.int (0 : Int32)), .val (.int (0 : Int32)), .unset] [(.int (0 : Int32))])) (fun t k => ?_) ?_
  · show Steps p.tables e below (s₁.setTop (mkF m 11 #[.val (.ref a1), .val (.int p2), .val (.ref a1), .val (.int (0 : Int32)), .val (.int (0 : Int32)), .unset] [(.int (0 : Int32)), (.int (0 : Int32))])) _
    refine XS.icmpYes X0.here hx rfl (pc0 := 11) (pc' := 34) rfl (hb hby d2_11) rfl (flt (Int32.lt_irrefl)).2.1 (by decide) (by decide) ?_
    show Steps p.tables e below (s₁.setTop (mkF m 34 #[.val (.ref a1), .val (.int p2), .val (.ref a1), .val (.int (0 : Int32)), .val (.int (0 : Int32)), .unset] [])) _
    refine XS.iconst X0.here hx rfl (hb hby d2_34) ?_
    exact k
  obtain ⟨fs, hr, hrun, hended, hW, hsame⟩ := X0.leave (v := some (.int (0 : Int32))) (fun h => by rw [Bd.returns] at h; cases h)
  refine ⟨_, _, ?_, hrun, hended, _, _, rfl, ?_, ⟨_, rfl⟩, hW, hsame.mono (by decide) (by decide)⟩
  · exact retN X0 hx (t := .boolean) Bd.returns (by simp) (hb hby d2_35) hr
  · show Q2_0 Z a1 p2 k_a1 h0 n0 _ s₁.heap _
    rw [e0]
    exact ⟨rfl, NN, rfl⟩
theorem d2_14 : decode prog_35_method_2_code 14 = .ok (.aload_n 2, 1) := by decide +kernel
theorem d2_15 : decode prog_35_method_2_code 15 = .ok (.iload 4, 2) := by decide +kernel
theorem d2_17 : decode prog_35_method_2_code 17 = .ok (.iaload, 1) := by decide +kernel
theorem d2_18 : decode prog_35_method_2_code 18 = .ok (.istore 5, 2) := by decide +kernel
theorem d2_20 : decode prog_35_method_2_code 20 = .ok (.iload 5, 2) := by decide +kernel
theorem d2_22 : decode prog_35_method_2_code 22 = .ok (.iload_n 1, 1) := by decide +kernel
theorem d2_23 : decode prog_35_method_2_code 23 = .ok (.if_icmp .ne 5, 3) := by decide +kernel
theorem d2_26 : decode prog_35_method_2_code 26 = .ok (.iconst 1, 1) := by decide +kernel
theorem d2_27 : decode prog_35_method_2_code 27 = .ok (.ireturn, 1) := by decide +kernel
theorem d2_28 : decode prog_35_method_2_code 28 = .ok (.iinc 4 1, 3) := by decide +kernel
theorem d2_31 : decode prog_35_method_2_code 31 = .ok (.goto (-23), 3) := by decide +kernel
theorem ef_2_1 (m : MethodId) (a1 : Addr) (p2 : Int32) : entryFrame m #[(.ref a1), (.int p2)] 6 = mkF m 0 #[.val (.ref a1), .val (.int p2), .unset, .unset, .unset, .unset] [] := by first | (simp [entryFrame, mkF, argsToLocals, Value.category]; done) | rfl
def r_2_1 (p2 : Int32) (v0_a1 : Int32) : Int32 := (if v0_a1 = p2 then (1 : Int32) else (0 : Int32))
def Q2_1 (Z : State) (a1 : Addr) (p2 : Int32) (k_a1 : ClassId) (v0_a1 : Int32) (h0 : Heap) (n0 : Nat) (v : Option Value) (h : Heap) (L : List Loc) : Prop := v = some (.int (r_2_1 p2 v0_a1)) ∧ Fr n0 L ∧ h = h0
set_option maxRecDepth 65536 in
set_option maxHeartbeats 40000000 in
theorem rm2_1 (l : Launch) (Z : State) (a0 : Array Value) (hw : ∀ d ∈ tables_1, d.before a0 Z = true) (ws : List Jvm.Cond) (a1 : Addr) (p2 : Int32) (k_a1 : ClassId) (v0_a1 : Int32) (h0 : Heap) (n0 : Nat) (Z0 : n0 ≤ h0.size) (V_a1 : Arv Z h0 a1 k_a1 .int (1 : Int32) [(.int v0_a1)] (.int (0 : Int32))) :
    MetFree l (⟨"com/example/hopline/hopline/core/NodeStore", "hasLabel", "([II)Z"⟩ : MethodName) (head1 (Jvm.Cond.code (⟨"com/example/hopline/hopline/core/NodeStore", "hasLabel", "([II)Z"⟩ : MethodName) prog_35_method_2_code 6 (some .boolean) :: ws) ({ frames := 0, cells := 0, slots := 0, locals := 0 } : Room)) (fun a U => a = #[(.ref a1), (.int p2)] ∧ Z.Warmed39 U.vm ∧ U.heap = h0) (fun _ _ _ _ _ => True) (fun _ U o U' => ∃ v L, o = .returned v ∧ Q2_1 Z a1 p2 k_a1 v0_a1 h0 n0 v U'.heap L ∧ FrameEnd U o U' L ({ frames := 0, cells := 0, slots := 0, locals := 0 } : Room).cells ({ frames := 0, cells := 0, slots := 0, locals := 0 } : Room).slots) := by
  refine MetFree.of_bodySF (plainFor_of_name pn_1) hisR ?_
  intro p e s m args below meth c s₁ Bd hml0 hP hK
  obtain ⟨rfl, hZ, hh⟩ := hP
  have hx := Bd.exec
  have hby := Bd.bytes
  have hml : c.maxLocals = 6 := hml0
  have hown : s.vm.findClass "com/example/hopline/hopline/core/NodeStore" = some m.cls := findClass_of_methodNamed Bd.named
  have hnm := (name_of_methodNamed Bd.named Bd.method).1
  have X0 : Stand p l e ({ frames := 0, cells := 0, slots := 0, locals := 0 } : Room) s m #[(.ref a1), (.int p2)] below meth c s₁ [] 0 0 := Stand.of_body Bd
  have e0 : s₁.heap = h0 := by rw [← hh, Bd.state]; rfl
  have NN := Fr.nil n0
  have KK : Keep h0 h0 [] := Keep.refl h0 []
  refine own_start (ef_2_1 m a1 p2) ?_
  refine own_go (T' := s₁) (g' := (mkF m 3 #[.val (.ref a1), .val (.int p2), .val (.ref a1), .unset, .unset, .unset] [(.ref a1)])) (fun t k => ?_) ?_
  · show Steps p.tables e below (s₁.setTop (mkF m 0 #[.val (.ref a1), .val (.int p2), .unset, .unset, .unset, .unset] [])) _
    refine XS.aloadN X0.here hx rfl (hb hby d2_0) rfl rfl ?_
    show Steps p.tables e below (s₁.setTop (mkF m 1 #[.val (.ref a1), .val (.int p2), .unset, .unset, .unset, .unset] [(.ref a1)])) _
    refine XS.astoreN X0.here hx rfl (hb hby d2_1) rfl rfl (l' := #[.val (.ref a1), .val (.int p2), .val (.ref a1), .unset, .unset, .unset]) rfl ?_
    show Steps p.tables e below (s₁.setTop (mkF m 2 #[.val (.ref a1), .val (.int p2), .val (.ref a1), .unset, .unset, .unset] [])) _
    refine XS.aloadN X0.here hx rfl (hb hby d2_2) rfl rfl ?_
    exact k
  have Vq := V_a1
  obtain ⟨cl3, Ar3, -, Sz3, Ng3, -, -⟩ := Vq
  refine own_go (fun t k => X0.arraylength hx (by rw [e0]; exact Ar3.1) (State.isArrayOf_alike hZ.alike Ar3.2.1) (g := (mkF m 3 #[.val (.ref a1), .val (.int p2), .val (.ref a1), .unset, .unset, .unset] [(.ref a1)])) rfl rfl (hb hby d2_3) t k) ?_
  rw [len_of Sz3 Ng3]
  show own_Go p.tables e below _ s₁ (mkF m 4 #[.val (.ref a1), .val (.int p2), .val (.ref a1), .unset, .unset, .unset] [(.int (1 : Int32))])
  refine own_go (T' := s₁) (g' := (mkF m 11 #[.val (.ref a1), .val (.int p2), .val (.ref a1), .val (.int (1 : Int32)), .val (.int (0 : Int32)), .unset] [(.int (1 : Int32)), (.int (0 : Int32))])) (fun t k => ?_) ?_
  · show Steps p.tables e below (s₁.setTop (mkF m 4 #[.val (.ref a1), .val (.int p2), .val (.ref a1), .unset, .unset, .unset] [(.int (1 : Int32))])) _
    refine XS.istoreN X0.here hx rfl (hb hby d2_4) rfl (l' := #[.val (.ref a1), .val (.int p2), .val (.ref a1), .val (.int (1 : Int32)), .unset, .unset]) rfl ?_
    show Steps p.tables e below (s₁.setTop (mkF m 5 #[.val (.ref a1), .val (.int p2), .val (.ref a1), .val (.int (1 : Int32)), .unset, .unset] [])) _
    refine XS.iconst X0.here hx rfl (hb hby d2_5) ?_
    show Steps p.tables e below (s₁.setTop (mkF m 6 #[.val (.ref a1), .val (.int p2), .val (.ref a1), .val (.int (1 : Int32)), .unset, .unset] [(.int (0 : Int32))])) _
    refine XS.istore X0.here hx rfl (hb hby d2_6) rfl (l' := #[.val (.ref a1), .val (.int p2), .val (.ref a1), .val (.int (1 : Int32)), .val (.int (0 : Int32)), .unset]) rfl ?_
    show Steps p.tables e below (s₁.setTop (mkF m 8 #[.val (.ref a1), .val (.int p2), .val (.ref a1), .val (.int (1 : Int32)), .val (.int (0 : Int32)), .unset] [])) _
    refine XS.iload X0.here hx rfl (hb hby d2_8) rfl ?_
    show Steps p.tables e below (s₁.setTop (mkF m 10 #[.val (.ref a1), .val (.int p2), .val (.ref a1), .val (.int (1 : Int32)), .val (.int (0 : Int32)), .unset] [(.int (0 : Int32))])) _
    refine XS.iloadN X0.here hx rfl (hb hby d2_10) rfl ?_
    exact k
  refine own_go (T' := s₁) (g' := (mkF m 17 #[.val (.ref a1), .val (.int p2), .val (.ref a1), .val (.int (1 : Int32)), .val (.int (0 : Int32)), .unset] [(.int (0 : Int32)), (.ref a1)])) (fun t k => ?_) ?_
  · show Steps p.tables e below (s₁.setTop (mkF m 11 #[.val (.ref a1), .val (.int p2), .val (.ref a1), .val (.int (1 : Int32)), .val (.int (0 : Int32)), .unset] [(.int (1 : Int32)), (.int (0 : Int32))])) _
    refine XS.icmpNo X0.here hx rfl (hb hby d2_11) rfl (tlt (by decide : (0 : Int32) < (1 : Int32))).2.1 ?_
    show Steps p.tables e below (s₁.setTop (mkF m 14 #[.val (.ref a1), .val (.int p2), .val (.ref a1), .val (.int (1 : Int32)), .val (.int (0 : Int32)), .unset] [])) _
    refine XS.aloadN X0.here hx rfl (hb hby d2_14) rfl rfl ?_
    show Steps p.tables e below (s₁.setTop (mkF m 15 #[.val (.ref a1), .val (.int p2), .val (.ref a1), .val (.int (1 : Int32)), .val (.int (0 : Int32)), .unset] [(.ref a1)])) _
    refine XS.iload X0.here hx rfl (hb hby d2_15) rfl ?_
    exact k
  have Vq := V_a1
  obtain ⟨cl1, Ar1, q1, Sz1, Ng1, Hs1, Gs1⟩ := Vq
  have hin1 : ¬ ((0 : Int32) < 0 ∨ cl1.slots.size ≤ ((0 : Int32)).toNatClampNeg) := inb_of Sz1 ⟨by decide, by decide⟩
  have hat1 : cl1.slots[((0 : Int32)).toNatClampNeg]? = some (.int v0_a1) := Hs1.at hin1 rfl
  refine own_go (fun t k => X0.iaload hx (j := (0 : Int32)) (v := (.int v0_a1)) (by rw [e0]; exact Ar1.1) (State.isArrayOf_alike hZ.alike Ar1.2.1) Ar1.2.2 hin1 hat1 (g := (mkF m 17 #[.val (.ref a1), .val (.int p2), .val (.ref a1), .val (.int (1 : Int32)), .val (.int (0 : Int32)), .unset] [(.int (0 : Int32)), (.ref a1)])) rfl rfl (hb hby d2_17) t k) ?_
  show own_Go p.tables e below _ s₁ (mkF m 18 #[.val (.ref a1), .val (.int p2), .val (.ref a1), .val (.int (1 : Int32)), .val (.int (0 : Int32)), .unset] [(.int v0_a1)])
  refine own_go (T' := s₁) (g' := (mkF m 23 #[.val (.ref a1), .val (.int p2), .val (.ref a1), .val (.int (1 : Int32)), .val (.int (0 : Int32)), .val (.int v0_a1)] [(.int p2), (.int v0_a1)])) (fun t k => ?_) ?_
  · show Steps p.tables e below (s₁.setTop (mkF m 18 #[.val (.ref a1), .val (.int p2), .val (.ref a1), .val (.int (1 : Int32)), .val (.int (0 : Int32)), .unset] [(.int v0_a1)])) _
    refine XS.istore X0.here hx rfl (hb hby d2_18) rfl (l' := #[.val (.ref a1), .val (.int p2), .val (.ref a1), .val (.int (1 : Int32)), .val (.int (0 : Int32)), .val (.int v0_a1)]) rfl ?_
    show Steps p.tables e below (s₁.setTop (mkF m 20 #[.val (.ref a1), .val (.int p2), .val (.ref a1), .val (.int (1 : Int32)), .val (.int (0 : Int32)), .val (.int v0_a1)] [])) _
    refine XS.iload X0.here hx rfl (hb hby d2_20) rfl ?_
    show Steps p.tables e below (s₁.setTop (mkF m 22 #[.val (.ref a1), .val (.int p2), .val (.ref a1), .val (.int (1 : Int32)), .val (.int (0 : Int32)), .val (.int v0_a1)] [(.int v0_a1)])) _
    refine XS.iloadN X0.here hx rfl (hb hby d2_22) rfl ?_
    exact k
  by_cases hc23_1 : v0_a1 = p2
  · skip
    refine own_go (T' := s₁) (g' := (mkF m 27 #[.val (.ref a1), .val (.int p2), .val (.ref a1), .val (.int (1 : Int32)), .val (.int (0 : Int32)), .val (.int v0_a1)] [(.int (1 : Int32))])) (fun t k => ?_) ?_
    · show Steps p.tables e below (s₁.setTop (mkF m 23 #[.val (.ref a1), .val (.int p2), .val (.ref a1), .val (.int (1 : Int32)), .val (.int (0 : Int32)), .val (.int v0_a1)] [(.int p2), (.int v0_a1)])) _
      refine XS.icmpNo X0.here hx rfl (hb hby d2_23) rfl (teq hc23_1).2 ?_
      show Steps p.tables e below (s₁.setTop (mkF m 26 #[.val (.ref a1), .val (.int p2), .val (.ref a1), .val (.int (1 : Int32)), .val (.int (0 : Int32)), .val (.int v0_a1)] [])) _
      refine XS.iconst X0.here hx rfl (hb hby d2_26) ?_
      exact k
    obtain ⟨fs, hr, hrun, hended, hW, hsame⟩ := X0.leave (v := some (.int (1 : Int32))) (fun h => by rw [Bd.returns] at h; cases h)
    refine ⟨_, _, ?_, hrun, hended, _, _, rfl, ?_, ⟨_, rfl⟩, hW, hsame.mono (by decide) (by decide)⟩
    · exact retN X0 hx (t := .boolean) Bd.returns (by simp) (hb hby d2_27) hr
    · show Q2_1 Z a1 p2 k_a1 v0_a1 h0 n0 _ s₁.heap _
      rw [e0]
      exact ⟨(by simp only [r_2_1, if_pos hc23_1, own_narZ, own_narC, own_narB]), NN, rfl⟩
  · skip
    refine own_go (T' := s₁) (g' := (mkF m 11 #[.val (.ref a1), .val (.int p2), .val (.ref a1), .val (.int (1 : Int32)), .val (.int (1 : Int32)), .val (.int v0_a1)] [(.int (1 : Int32)), (.int (1 : Int32))])) (fun t k => ?_) ?_
    · show Steps p.tables e below (s₁.setTop (mkF m 23 #[.val (.ref a1), .val (.int p2), .val (.ref a1), .val (.int (1 : Int32)), .val (.int (0 : Int32)), .val (.int v0_a1)] [(.int p2), (.int v0_a1)])) _
      refine XS.icmpYes X0.here hx rfl (pc0 := 23) (pc' := 28) rfl (hb hby d2_23) rfl (feq hc23_1).2 (by decide) (by decide) ?_
      show Steps p.tables e below (s₁.setTop (mkF m 28 #[.val (.ref a1), .val (.int p2), .val (.ref a1), .val (.int (1 : Int32)), .val (.int (0 : Int32)), .val (.int v0_a1)] [])) _
      refine XS.iinc X0.here hx rfl (hb hby d2_28) rfl (l' := #[.val (.ref a1), .val (.int p2), .val (.ref a1), .val (.int (1 : Int32)), .val (.int (1 : Int32)), .val (.int v0_a1)]) rfl ?_
      show Steps p.tables e below (s₁.setTop (mkF m 31 #[.val (.ref a1), .val (.int p2), .val (.ref a1), .val (.int (1 : Int32)), .val (.int (1 : Int32)), .val (.int v0_a1)] [])) _
      refine XS.goto X0.here hx rfl (pc0 := 31) (pc' := 8) rfl (hb hby d2_31) (by decide) (by decide) ?_
      show Steps p.tables e below (s₁.setTop (mkF m 8 #[.val (.ref a1), .val (.int p2), .val (.ref a1), .val (.int (1 : Int32)), .val (.int (1 : Int32)), .val (.int v0_a1)] [])) _
      refine XS.iload X0.here hx rfl (hb hby d2_8) rfl ?_
      show Steps p.tables e below (s₁.setTop (mkF m 10 #[.val (.ref a1), .val (.int p2), .val (.ref a1), .val (.int (1 : Int32)), .val (.int (1 : Int32)), .val (.int v0_a1)] [(.int (1 : Int32))])) _
      refine XS.iloadN X0.here hx rfl (hb hby d2_10) rfl ?_
      exact k
    refine own_go (T' := s₁) (g' := (mkF m 35 #[.val (.ref a1), .val (.int p2), .val (.ref a1), .val (.int (1 : Int32)), .val (.int (1 : Int32)), .val (.int v0_a1)] [(.int (0 : Int32))])) (fun t k => ?_) ?_
    · show Steps p.tables e below (s₁.setTop (mkF m 11 #[.val (.ref a1), .val (.int p2), .val (.ref a1), .val (.int (1 : Int32)), .val (.int (1 : Int32)), .val (.int v0_a1)] [(.int (1 : Int32)), (.int (1 : Int32))])) _
      refine XS.icmpYes X0.here hx rfl (pc0 := 11) (pc' := 34) rfl (hb hby d2_11) rfl (flt (Int32.lt_irrefl)).2.1 (by decide) (by decide) ?_
      show Steps p.tables e below (s₁.setTop (mkF m 34 #[.val (.ref a1), .val (.int p2), .val (.ref a1), .val (.int (1 : Int32)), .val (.int (1 : Int32)), .val (.int v0_a1)] [])) _
      refine XS.iconst X0.here hx rfl (hb hby d2_34) ?_
      exact k
    obtain ⟨fs, hr, hrun, hended, hW, hsame⟩ := X0.leave (v := some (.int (0 : Int32))) (fun h => by rw [Bd.returns] at h; cases h)
    refine ⟨_, _, ?_, hrun, hended, _, _, rfl, ?_, ⟨_, rfl⟩, hW, hsame.mono (by decide) (by decide)⟩
    · exact retN X0 hx (t := .boolean) Bd.returns (by simp) (hb hby d2_35) hr
    · show Q2_1 Z a1 p2 k_a1 v0_a1 h0 n0 _ s₁.heap _
      rw [e0]
      exact ⟨(by simp only [r_2_1, if_neg hc23_1, own_narZ, own_narC, own_narB]), NN, rfl⟩
theorem ef_2_2 (m : MethodId) (a1 : Addr) (p2 : Int32) : entryFrame m #[(.ref a1), (.int p2)] 6 = mkF m 0 #[.val (.ref a1), .val (.int p2), .unset, .unset, .unset, .unset] [] := by first | (simp [entryFrame, mkF, argsToLocals, Value.category]; done) | rfl
def r_2_2 (p2 : Int32) (v0_a1 : Int32) (v1_a1 : Int32) : Int32 := (if v0_a1 = p2 then (1 : Int32) else (if v1_a1 = p2 then (1 : Int32) else (0 : Int32)))
def Q2_2 (Z : State) (a1 : Addr) (p2 : Int32) (k_a1 : ClassId) (v0_a1 : Int32) (v1_a1 : Int32) (h0 : Heap) (n0 : Nat) (v : Option Value) (h : Heap) (L : List Loc) : Prop := v = some (.int (r_2_2 p2 v0_a1 v1_a1)) ∧ Fr n0 L ∧ h = h0
set_option maxRecDepth 65536 in
set_option maxHeartbeats 40000000 in
theorem rm2_2 (l : Launch) (Z : State) (a0 : Array Value) (hw : ∀ d ∈ tables_1, d.before a0 Z = true) (ws : List Jvm.Cond) (a1 : Addr) (p2 : Int32) (k_a1 : ClassId) (v0_a1 : Int32) (v1_a1 : Int32) (h0 : Heap) (n0 : Nat) (Z0 : n0 ≤ h0.size) (V_a1 : Arv Z h0 a1 k_a1 .int (2 : Int32) [(.int v0_a1), (.int v1_a1)] (.int (0 : Int32))) :
    MetFree l (⟨"com/example/hopline/hopline/core/NodeStore", "hasLabel", "([II)Z"⟩ : MethodName) (head1 (Jvm.Cond.code (⟨"com/example/hopline/hopline/core/NodeStore", "hasLabel", "([II)Z"⟩ : MethodName) prog_35_method_2_code 6 (some .boolean) :: ws) ({ frames := 0, cells := 0, slots := 0, locals := 0 } : Room)) (fun a U => a = #[(.ref a1), (.int p2)] ∧ Z.Warmed39 U.vm ∧ U.heap = h0) (fun _ _ _ _ _ => True) (fun _ U o U' => ∃ v L, o = .returned v ∧ Q2_2 Z a1 p2 k_a1 v0_a1 v1_a1 h0 n0 v U'.heap L ∧ FrameEnd U o U' L ({ frames := 0, cells := 0, slots := 0, locals := 0 } : Room).cells ({ frames := 0, cells := 0, slots := 0, locals := 0 } : Room).slots) := by
  refine MetFree.of_bodySF (plainFor_of_name pn_1) hisR ?_
  intro p e s m args below meth c s₁ Bd hml0 hP hK
  obtain ⟨rfl, hZ, hh⟩ := hP
  have hx := Bd.exec
  have hby := Bd.bytes
  have hml : c.maxLocals = 6 := hml0
  have hown : s.vm.findClass "com/example/hopline/hopline/core/NodeStore" = some m.cls := findClass_of_methodNamed Bd.named
  have hnm := (name_of_methodNamed Bd.named Bd.method).1
  have X0 : Stand p l e ({ frames := 0, cells := 0, slots := 0, locals := 0 } : Room) s m #[(.ref a1), (.int p2)] below meth c s₁ [] 0 0 := Stand.of_body Bd
  have e0 : s₁.heap = h0 := by rw [← hh, Bd.state]; rfl
  have NN := Fr.nil n0
  have KK : Keep h0 h0 [] := Keep.refl h0 []
  refine own_start (ef_2_2 m a1 p2) ?_
  refine own_go (T' := s₁) (g' := (mkF m 3 #[.val (.ref a1), .val (.int p2), .val (.ref a1), .unset, .unset, .unset] [(.ref a1)])) (fun t k => ?_) ?_
  · show Steps p.tables e below (s₁.setTop (mkF m 0 #[.val (.ref a1), .val (.int p2), .unset, .unset, .unset, .unset] [])) _
    refine XS.aloadN X0.here hx rfl (hb hby d2_0) rfl rfl ?_
    show Steps p.tables e below (s₁.setTop (mkF m 1 #[.val (.ref a1), .val (.int p2), .unset, .unset, .unset, .unset] [(.ref a1)])) _
    refine XS.astoreN X0.here hx rfl (hb hby d2_1) rfl rfl (l' := #[.val (.ref a1), .val (.int p2), .val (.ref a1), .unset, .unset, .unset]) rfl ?_
    show Steps p.tables e below (s₁.setTop (mkF m 2 #[.val (.ref a1), .val (.int p2), .val (.ref a1), .unset, .unset, .unset] [])) _
    refine XS.aloadN X0.here hx rfl (hb hby d2_2) rfl rfl ?_
    exact k
  have Vq := V_a1
  obtain ⟨cl3, Ar3, -, Sz3, Ng3, -, -⟩ := Vq
  refine own_go (fun t k => X0.arraylength hx (by rw [e0]; exact Ar3.1) (State.isArrayOf_alike hZ.alike Ar3.2.1) (g := (mkF m 3 #[.val (.ref a1), .val (.int p2), .val (.ref a1), .unset, .unset, .unset] [(.ref a1)])) rfl rfl (hb hby d2_3) t k) ?_
  rw [len_of Sz3 Ng3]
  show own_Go p.tables e below _ s₁ (mkF m 4 #[.val (.ref a1), .val (.int p2), .val (.ref a1), .unset, .unset, .unset] [(.int (2 : Int32))])
  refine own_go (T' := s₁) (g' := (mkF m 11 #[.val (.ref a1), .val (.int p2), .val (.ref a1), .val (.int (2 : Int32)), .val (.int (0 : Int32)), .unset] [(.int (2 : Int32)), (.int (0 : Int32))])) (fun t k => ?_) ?_
  · show Steps p.tables e below (s₁.setTop (mkF m 4 #[.val (.ref a1), .val (.int p2), .val (.ref a1), .unset, .unset, .unset] [(.int (2 : Int32))])) _
    refine XS.istoreN X0.here hx rfl (hb hby d2_4) rfl (l' := #[.val (.ref a1), .val (.int p2), .val (.ref a1), .val (.int (2 : Int32)), .unset, .unset]) rfl ?_
    show Steps p.tables e below (s₁.setTop (mkF m 5 #[.val (.ref a1), .val (.int p2), .val (.ref a1), .val (.int (2 : Int32)), .unset, .unset] [])) _
    refine XS.iconst X0.here hx rfl (hb hby d2_5) ?_
    show Steps p.tables e below (s₁.setTop (mkF m 6 #[.val (.ref a1), .val (.int p2), .val (.ref a1), .val (.int (2 : Int32)), .unset, .unset] [(.int (0 : Int32))])) _
    refine XS.istore X0.here hx rfl (hb hby d2_6) rfl (l' := #[.val (.ref a1), .val (.int p2), .val (.ref a1), .val (.int (2 : Int32)), .val (.int (0 : Int32)), .unset]) rfl ?_
    show Steps p.tables e below (s₁.setTop (mkF m 8 #[.val (.ref a1), .val (.int p2), .val (.ref a1), .val (.int (2 : Int32)), .val (.int (0 : Int32)), .unset] [])) _
    refine XS.iload X0.here hx rfl (hb hby d2_8) rfl ?_
    show Steps p.tables e below (s₁.setTop (mkF m 10 #[.val (.ref a1), .val (.int p2), .val (.ref a1), .val (.int (2 : Int32)), .val (.int (0 : Int32)), .unset] [(.int (0 : Int32))])) _
    refine XS.iloadN X0.here hx rfl (hb hby d2_10) rfl ?_
    exact k
  refine own_go (T' := s₁) (g' := (mkF m 17 #[.val (.ref a1), .val (.int p2), .val (.ref a1), .val (.int (2 : Int32)), .val (.int (0 : Int32)), .unset] [(.int (0 : Int32)), (.ref a1)])) (fun t k => ?_) ?_
  · show Steps p.tables e below (s₁.setTop (mkF m 11 #[.val (.ref a1), .val (.int p2), .val (.ref a1), .val (.int (2 : Int32)), .val (.int (0 : Int32)), .unset] [(.int (2 : Int32)), (.int (0 : Int32))])) _
    refine XS.icmpNo X0.here hx rfl (hb hby d2_11) rfl (tlt (by decide : (0 : Int32) < (2 : Int32))).2.1 ?_
    show Steps p.tables e below (s₁.setTop (mkF m 14 #[.val (.ref a1), .val (.int p2), .val (.ref a1), .val (.int (2 : Int32)), .val (.int (0 : Int32)), .unset] [])) _
    refine XS.aloadN X0.here hx rfl (hb hby d2_14) rfl rfl ?_
    show Steps p.tables e below (s₁.setTop (mkF m 15 #[.val (.ref a1), .val (.int p2), .val (.ref a1), .val (.int (2 : Int32)), .val (.int (0 : Int32)), .unset] [(.ref a1)])) _
    refine XS.iload X0.here hx rfl (hb hby d2_15) rfl ?_
    exact k
  have Vq := V_a1
  obtain ⟨cl1, Ar1, q1, Sz1, Ng1, Hs1, Gs1⟩ := Vq
  have hin1 : ¬ ((0 : Int32) < 0 ∨ cl1.slots.size ≤ ((0 : Int32)).toNatClampNeg) := inb_of Sz1 ⟨by decide, by decide⟩
  have hat1 : cl1.slots[((0 : Int32)).toNatClampNeg]? = some (.int v0_a1) := Hs1.at hin1 rfl
  refine own_go (fun t k => X0.iaload hx (j := (0 : Int32)) (v := (.int v0_a1)) (by rw [e0]; exact Ar1.1) (State.isArrayOf_alike hZ.alike Ar1.2.1) Ar1.2.2 hin1 hat1 (g := (mkF m 17 #[.val (.ref a1), .val (.int p2), .val (.ref a1), .val (.int (2 : Int32)), .val (.int (0 : Int32)), .unset] [(.int (0 : Int32)), (.ref a1)])) rfl rfl (hb hby d2_17) t k) ?_
  show own_Go p.tables e below _ s₁ (mkF m 18 #[.val (.ref a1), .val (.int p2), .val (.ref a1), .val (.int (2 : Int32)), .val (.int (0 : Int32)), .unset] [(.int v0_a1)])
  refine own_go (T' := s₁) (g' := (mkF m 23 #[.val (.ref a1), .val (.int p2), .val (.ref a1), .val (.int (2 : Int32)), .val (.int (0 : Int32)), .val (.int v0_a1)] [(.int p2), (.int v0_a1)])) (fun t k => ?_) ?_
  · show Steps p.tables e below (s₁.setTop (mkF m 18 #[.val (.ref a1), .val (.int p2), .val (.ref a1), .val (.int (2 : Int32)), .val (.int (0 : Int32)), .unset] [(.int v0_a1)])) _
    refine XS.istore X0.here hx rfl (hb hby d2_18) rfl (l' := #[.val (.ref a1), .val (.int p2), .val (.ref a1), .val (.int (2 : Int32)), .val (.int (0 : Int32)), .val (.int v0_a1)]) rfl ?_
    show Steps p.tables e below (s₁.setTop (mkF m 20 #[.val (.ref a1), .val (.int p2), .val (.ref a1), .val (.int (2 : Int32)), .val (.int (0 : Int32)), .val (.int v0_a1)] [])) _
    refine XS.iload X0.here hx rfl (hb hby d2_20) rfl ?_
    show Steps p.tables e below (s₁.setTop (mkF m 22 #[.val (.ref a1), .val (.int p2), .val (.ref a1), .val (.int (2 : Int32)), .val (.int (0 : Int32)), .val (.int v0_a1)] [(.int v0_a1)])) _
    refine XS.iloadN X0.here hx rfl (hb hby d2_22) rfl ?_
    exact k
  by_cases hc23_1 : v0_a1 = p2
  · skip
    refine own_go (T' := s₁) (g' := (mkF m 27 #[.val (.ref a1), .val (.int p2), .val (.ref a1), .val (.int (2 : Int32)), .val (.int (0 : Int32)), .val (.int v0_a1)] [(.int (1 : Int32))])) (fun t k => ?_) ?_
    · show Steps p.tables e below (s₁.setTop (mkF m 23 #[.val (.ref a1), .val (.int p2), .val (.ref a1), .val (.int (2 : Int32)), .val (.int (0 : Int32)), .val (.int v0_a1)] [(.int p2), (.int v0_a1)])) _
      refine XS.icmpNo X0.here hx rfl (hb hby d2_23) rfl (teq hc23_1).2 ?_
      show Steps p.tables e below (s₁.setTop (mkF m 26 #[.val (.ref a1), .val (.int p2), .val (.ref a1), .val (.int (2 : Int32)), .val (.int (0 : Int32)), .val (.int v0_a1)] [])) _
      refine XS.iconst X0.here hx rfl (hb hby d2_26) ?_
      exact k
    obtain ⟨fs, hr, hrun, hended, hW, hsame⟩ := X0.leave (v := some (.int (1 : Int32))) (fun h => by rw [Bd.returns] at h; cases h)
    refine ⟨_, _, ?_, hrun, hended, _, _, rfl, ?_, ⟨_, rfl⟩, hW, hsame.mono (by decide) (by decide)⟩
    · exact retN X0 hx (t := .boolean) Bd.returns (by simp) (hb hby d2_27) hr
    · show Q2_2 Z a1 p2 k_a1 v0_a1 v1_a1 h0 n0 _ s₁.heap _
      rw [e0]
      exact ⟨(by simp only [r_2_2, if_pos hc23_1, own_narZ, own_narC, own_narB]), NN, rfl⟩
  · skip
    refine own_go (T' := s₁) (g' := (mkF m 11 #[.val (.ref a1), .val (.int p2), .val (.ref a1), .val (.int (2 : Int32)), .val (.int (1 : Int32)), .val (.int v0_a1)] [(.int (2 : Int32)), (.int (1 : Int32))])) (fun t k => ?_) ?_
    · show Steps p.tables e below (s₁.setTop (mkF m 23 #[.val (.ref a1), .val (.int p2), .val (.ref a1), .val (.int (2 : Int32)), .val (.int (0 : Int32)), .val (.int v0_a1)] [(.int p2), (.int v0_a1)])) _
      refine XS.icmpYes X0.here hx rfl (pc0 := 23) (pc' := 28) rfl (hb hby d2_23) rfl (feq hc23_1).2 (by decide) (by decide) ?_
      show Steps p.tables e below (s₁.setTop (mkF m 28 #[.val (.ref a1), .val (.int p2), .val (.ref a1), .val (.int (2 : Int32)), .val (.int (0 : Int32)), .val (.int v0_a1)] [])) _
      refine XS.iinc X0.here hx rfl (hb hby d2_28) rfl (l' := #[.val (.ref a1), .val (.int p2), .val (.ref a1), .val (.int (2 : Int32)), .val (.int (1 : Int32)), .val (.int v0_a1)]) rfl ?_
      show Steps p.tables e below (s₁.setTop (mkF m 31 #[.val (.ref a1), .val (.int p2), .val (.ref a1), .val (.int (2 : Int32)), .val (.int (1 : Int32)), .val (.int v0_a1)] [])) _
      refine XS.goto X0.here hx rfl (pc0 := 31) (pc' := 8) rfl (hb hby d2_31) (by decide) (by decide) ?_
      show Steps p.tables e below (s₁.setTop (mkF m 8 #[.val (.ref a1), .val (.int p2), .val (.ref a1), .val (.int (2 : Int32)), .val (.int (1 : Int32)), .val (.int v0_a1)] [])) _
      refine XS.iload X0.here hx rfl (hb hby d2_8) rfl ?_
      show Steps p.tables e below (s₁.setTop (mkF m 10 #[.val (.ref a1), .val (.int p2), .val (.ref a1), .val (.int (2 : Int32)), .val (.int (1 : Int32)), .val (.int v0_a1)] [(.int (1 : Int32))])) _
      refine XS.iloadN X0.here hx rfl (hb hby d2_10) rfl ?_
      exact k
    refine own_go (T' := s₁) (g' := (mkF m 17 #[.val (.ref a1), .val (.int p2), .val (.ref a1), .val (.int (2 : Int32)), .val (.int (1 : Int32)), .val (.int v0_a1)] [(.int (1 : Int32)), (.ref a1)])) (fun t k => ?_) ?_
    · show Steps p.tables e below (s₁.setTop (mkF m 11 #[.val (.ref a1), .val (.int p2), .val (.ref a1), .val (.int (2 : Int32)), .val (.int (1 : Int32)), .val (.int v0_a1)] [(.int (2 : Int32)), (.int (1 : Int32))])) _
      refine XS.icmpNo X0.here hx rfl (hb hby d2_11) rfl (tlt (by decide : (1 : Int32) < (2 : Int32))).2.1 ?_
      show Steps p.tables e below (s₁.setTop (mkF m 14 #[.val (.ref a1), .val (.int p2), .val (.ref a1), .val (.int (2 : Int32)), .val (.int (1 : Int32)), .val (.int v0_a1)] [])) _
      refine XS.aloadN X0.here hx rfl (hb hby d2_14) rfl rfl ?_
      show Steps p.tables e below (s₁.setTop (mkF m 15 #[.val (.ref a1), .val (.int p2), .val (.ref a1), .val (.int (2 : Int32)), .val (.int (1 : Int32)), .val (.int v0_a1)] [(.ref a1)])) _
      refine XS.iload X0.here hx rfl (hb hby d2_15) rfl ?_
      exact k
    have Vq := V_a1
    obtain ⟨cl2, Ar2, q2, Sz2, Ng2, Hs2, Gs2⟩ := Vq
    have hin2 : ¬ ((1 : Int32) < 0 ∨ cl2.slots.size ≤ ((1 : Int32)).toNatClampNeg) := inb_of Sz2 ⟨by decide, by decide⟩
    have hat2 : cl2.slots[((1 : Int32)).toNatClampNeg]? = some (.int v1_a1) := Hs2.at hin2 rfl
    refine own_go (fun t k => X0.iaload hx (j := (1 : Int32)) (v := (.int v1_a1)) (by rw [e0]; exact Ar2.1) (State.isArrayOf_alike hZ.alike Ar2.2.1) Ar2.2.2 hin2 hat2 (g := (mkF m 17 #[.val (.ref a1), .val (.int p2), .val (.ref a1), .val (.int (2 : Int32)), .val (.int (1 : Int32)), .val (.int v0_a1)] [(.int (1 : Int32)), (.ref a1)])) rfl rfl (hb hby d2_17) t k) ?_
    show own_Go p.tables e below _ s₁ (mkF m 18 #[.val (.ref a1), .val (.int p2), .val (.ref a1), .val (.int (2 : Int32)), .val (.int (1 : Int32)), .val (.int v0_a1)] [(.int v1_a1)])
    refine own_go (T' := s₁) (g' := (mkF m 23 #[.val (.ref a1), .val (.int p2), .val (.ref a1), .val (.int (2 : Int32)), .val (.int (1 : Int32)), .val (.int v1_a1)] [(.int p2), (.int v1_a1)])) (fun t k => ?_) ?_
    · show Steps p.tables e below (s₁.setTop (mkF m 18 #[.val (.ref a1), .val (.int p2), .val (.ref a1), .val (.int (2 : Int32)), .val (.int (1 : Int32)), .val (.int v0_a1)] [(.int v1_a1)])) _
      refine XS.istore X0.here hx rfl (hb hby d2_18) rfl (l' := #[.val (.ref a1), .val (.int p2), .val (.ref a1), .val (.int (2 : Int32)), .val (.int (1 : Int32)), .val (.int v1_a1)]) rfl ?_
      show Steps p.tables e below (s₁.setTop (mkF m 20 #[.val (.ref a1), .val (.int p2), .val (.ref a1), .val (.int (2 : Int32)), .val (.int (1 : Int32)), .val (.int v1_a1)] [])) _
      refine XS.iload X0.here hx rfl (hb hby d2_20) rfl ?_
      show Steps p.tables e below (s₁.setTop (mkF m 22 #[.val (.ref a1), .val (.int p2), .val (.ref a1), .val (.int (2 : Int32)), .val (.int (1 : Int32)), .val (.int v1_a1)] [(.int v1_a1)])) _
      refine XS.iloadN X0.here hx rfl (hb hby d2_22) rfl ?_
      exact k
    by_cases hc23_2 : v1_a1 = p2
    · skip
      refine own_go (T' := s₁) (g' := (mkF m 27 #[.val (.ref a1), .val (.int p2), .val (.ref a1), .val (.int (2 : Int32)), .val (.int (1 : Int32)), .val (.int v1_a1)] [(.int (1 : Int32))])) (fun t k => ?_) ?_
      · show Steps p.tables e below (s₁.setTop (mkF m 23 #[.val (.ref a1), .val (.int p2), .val (.ref a1), .val (.int (2 : Int32)), .val (.int (1 : Int32)), .val (.int v1_a1)] [(.int p2), (.int v1_a1)])) _
        refine XS.icmpNo X0.here hx rfl (hb hby d2_23) rfl (teq hc23_2).2 ?_
        show Steps p.tables e below (s₁.setTop (mkF m 26 #[.val (.ref a1), .val (.int p2), .val (.ref a1), .val (.int (2 : Int32)), .val (.int (1 : Int32)), .val (.int v1_a1)] [])) _
        refine XS.iconst X0.here hx rfl (hb hby d2_26) ?_
        exact k
      obtain ⟨fs, hr, hrun, hended, hW, hsame⟩ := X0.leave (v := some (.int (1 : Int32))) (fun h => by rw [Bd.returns] at h; cases h)
      refine ⟨_, _, ?_, hrun, hended, _, _, rfl, ?_, ⟨_, rfl⟩, hW, hsame.mono (by decide) (by decide)⟩
      · exact retN X0 hx (t := .boolean) Bd.returns (by simp) (hb hby d2_27) hr
      · show Q2_2 Z a1 p2 k_a1 v0_a1 v1_a1 h0 n0 _ s₁.heap _
        rw [e0]
        exact ⟨(by simp only [r_2_2, if_neg hc23_1, if_pos hc23_2, own_narZ, own_narC, own_narB]), NN, rfl⟩
    · skip
      refine own_go (T' := s₁) (g' := (mkF m 11 #[.val (.ref a1), .val (.int p2), .val (.ref a1), .val (.int (2 : Int32)), .val (.int (2 : Int32)), .val (.int v1_a1)] [(.int (2 : Int32)), (.int (2 : Int32))])) (fun t k => ?_) ?_
      · show Steps p.tables e below (s₁.setTop (mkF m 23 #[.val (.ref a1), .val (.int p2), .val (.ref a1), .val (.int (2 : Int32)), .val (.int (1 : Int32)), .val (.int v1_a1)] [(.int p2), (.int v1_a1)])) _
        refine XS.icmpYes X0.here hx rfl (pc0 := 23) (pc' := 28) rfl (hb hby d2_23) rfl (feq hc23_2).2 (by decide) (by decide) ?_
        show Steps p.tables e below (s₁.setTop (mkF m 28 #[.val (.ref a1), .val (.int p2), .val (.ref a1), .val (.int (2 : Int32)), .val (.int (1 : Int32)), .val (.int v1_a1)] [])) _
        refine XS.iinc X0.here hx rfl (hb hby d2_28) rfl (l' := #[.val (.ref a1), .val (.int p2), .val (.ref a1), .val (.int (2 : Int32)), .val (.int (2 : Int32)), .val (.int v1_a1)]) rfl ?_
        show Steps p.tables e below (s₁.setTop (mkF m 31 #[.val (.ref a1), .val (.int p2), .val (.ref a1), .val (.int (2 : Int32)), .val (.int (2 : Int32)), .val (.int v1_a1)] [])) _
        refine XS.goto X0.here hx rfl (pc0 := 31) (pc' := 8) rfl (hb hby d2_31) (by decide) (by decide) ?_
        show Steps p.tables e below (s₁.setTop (mkF m 8 #[.val (.ref a1), .val (.int p2), .val (.ref a1), .val (.int (2 : Int32)), .val (.int (2 : Int32)), .val (.int v1_a1)] [])) _
        refine XS.iload X0.here hx rfl (hb hby d2_8) rfl ?_
        show Steps p.tables e below (s₁.setTop (mkF m 10 #[.val (.ref a1), .val (.int p2), .val (.ref a1), .val (.int (2 : Int32)), .val (.int (2 : Int32)), .val (.int v1_a1)] [(.int (2 : Int32))])) _
        refine XS.iloadN X0.here hx rfl (hb hby d2_10) rfl ?_
        exact k
      refine own_go (T' := s₁) (g' := (mkF m 35 #[.val (.ref a1), .val (.int p2), .val (.ref a1), .val (.int (2 : Int32)), .val (.int (2 : Int32)), .val (.int v1_a1)] [(.int (0 : Int32))])) (fun t k => ?_) ?_
      · show Steps p.tables e below (s₁.setTop (mkF m 11 #[.val (.ref a1), .val (.int p2), .val (.ref a1), .val (.int (2 : Int32)), .val (.int (2 : Int32)), .val (.int v1_a1)] [(.int (2 : Int32)), (.int (2 : Int32))])) _
        refine XS.icmpYes X0.here hx rfl (pc0 := 11) (pc' := 34) rfl (hb hby d2_11) rfl (flt (Int32.lt_irrefl)).2.1 (by decide) (by decide) ?_
        show Steps p.tables e below (s₁.setTop (mkF m 34 #[.val (.ref a1), .val (.int p2), .val (.ref a1), .val (.int (2 : Int32)), .val (.int (2 : Int32)), .val (.int v1_a1)] [])) _
        refine XS.iconst X0.here hx rfl (hb hby d2_34) ?_
        exact k
      obtain ⟨fs, hr, hrun, hended, hW, hsame⟩ := X0.leave (v := some (.int (0 : Int32))) (fun h => by rw [Bd.returns] at h; cases h)
      refine ⟨_, _, ?_, hrun, hended, _, _, rfl, ?_, ⟨_, rfl⟩, hW, hsame.mono (by decide) (by decide)⟩
      · exact retN X0 hx (t := .boolean) Bd.returns (by simp) (hb hby d2_35) hr
      · show Q2_2 Z a1 p2 k_a1 v0_a1 v1_a1 h0 n0 _ s₁.heap _
        rw [e0]
        exact ⟨(by simp only [r_2_2, if_neg hc23_1, if_neg hc23_2, own_narZ, own_narC, own_narB]), NN, rfl⟩
theorem ef_2_3 (m : MethodId) (a1 : Addr) (p2 : Int32) : entryFrame m #[(.ref a1), (.int p2)] 6 = mkF m 0 #[.val (.ref a1), .val (.int p2), .unset, .unset, .unset, .unset] [] := by first | (simp [entryFrame, mkF, argsToLocals, Value.category]; done) | rfl
def r_2_3 (p2 : Int32) (v0_a1 : Int32) (v1_a1 : Int32) (v2_a1 : Int32) : Int32 := (if v0_a1 = p2 then (1 : Int32) else (if v1_a1 = p2 then (1 : Int32) else (if v2_a1 = p2 then (1 : Int32) else (0 : Int32))))
def Q2_3 (Z : State) (a1 : Addr) (p2 : Int32) (k_a1 : ClassId) (v0_a1 : Int32) (v1_a1 : Int32) (v2_a1 : Int32) (h0 : Heap) (n0 : Nat) (v : Option Value) (h : Heap) (L : List Loc) : Prop := v = some (.int (r_2_3 p2 v0_a1 v1_a1 v2_a1)) ∧ Fr n0 L ∧ h = h0
set_option maxRecDepth 65536 in
set_option maxHeartbeats 40000000 in
theorem rm2_3 (l : Launch) (Z : State) (a0 : Array Value) (hw : ∀ d ∈ tables_1, d.before a0 Z = true) (ws : List Jvm.Cond) (a1 : Addr) (p2 : Int32) (k_a1 : ClassId) (v0_a1 : Int32) (v1_a1 : Int32) (v2_a1 : Int32) (h0 : Heap) (n0 : Nat) (Z0 : n0 ≤ h0.size) (V_a1 : Arv Z h0 a1 k_a1 .int (3 : Int32) [(.int v0_a1), (.int v1_a1), (.int v2_a1)] (.int (0 : Int32))) :
    MetFree l (⟨"com/example/hopline/hopline/core/NodeStore", "hasLabel", "([II)Z"⟩ : MethodName) (head1 (Jvm.Cond.code (⟨"com/example/hopline/hopline/core/NodeStore", "hasLabel", "([II)Z"⟩ : MethodName) prog_35_method_2_code 6 (some .boolean) :: ws) ({ frames := 0, cells := 0, slots := 0, locals := 0 } : Room)) (fun a U => a = #[(.ref a1), (.int p2)] ∧ Z.Warmed39 U.vm ∧ U.heap = h0) (fun _ _ _ _ _ => True) (fun _ U o U' => ∃ v L, o = .returned v ∧ Q2_3 Z a1 p2 k_a1 v0_a1 v1_a1 v2_a1 h0 n0 v U'.heap L ∧ FrameEnd U o U' L ({ frames := 0, cells := 0, slots := 0, locals := 0 } : Room).cells ({ frames := 0, cells := 0, slots := 0, locals := 0 } : Room).slots) := by
  refine MetFree.of_bodySF (plainFor_of_name pn_1) hisR ?_
  intro p e s m args below meth c s₁ Bd hml0 hP hK
  obtain ⟨rfl, hZ, hh⟩ := hP
  have hx := Bd.exec
  have hby := Bd.bytes
  have hml : c.maxLocals = 6 := hml0
  have hown : s.vm.findClass "com/example/hopline/hopline/core/NodeStore" = some m.cls := findClass_of_methodNamed Bd.named
  have hnm := (name_of_methodNamed Bd.named Bd.method).1
  have X0 : Stand p l e ({ frames := 0, cells := 0, slots := 0, locals := 0 } : Room) s m #[(.ref a1), (.int p2)] below meth c s₁ [] 0 0 := Stand.of_body Bd
  have e0 : s₁.heap = h0 := by rw [← hh, Bd.state]; rfl
  have NN := Fr.nil n0
  have KK : Keep h0 h0 [] := Keep.refl h0 []
  refine own_start (ef_2_3 m a1 p2) ?_
  refine own_go (T' := s₁) (g' := (mkF m 3 #[.val (.ref a1), .val (.int p2), .val (.ref a1), .unset, .unset, .unset] [(.ref a1)])) (fun t k => ?_) ?_
  · show Steps p.tables e below (s₁.setTop (mkF m 0 #[.val (.ref a1), .val (.int p2), .unset, .unset, .unset, .unset] [])) _
    refine XS.aloadN X0.here hx rfl (hb hby d2_0) rfl rfl ?_
    show Steps p.tables e below (s₁.setTop (mkF m 1 #[.val (.ref a1), .val (.int p2), .unset, .unset, .unset, .unset] [(.ref a1)])) _
    refine XS.astoreN X0.here hx rfl (hb hby d2_1) rfl rfl (l' := #[.val (.ref a1), .val (.int p2), .val (.ref a1), .unset, .unset, .unset]) rfl ?_
    show Steps p.tables e below (s₁.setTop (mkF m 2 #[.val (.ref a1), .val (.int p2), .val (.ref a1), .unset, .unset, .unset] [])) _
    refine XS.aloadN X0.here hx rfl (hb hby d2_2) rfl rfl ?_
    exact k
  have Vq := V_a1
  obtain ⟨cl3, Ar3, -, Sz3, Ng3, -, -⟩ := Vq
  refine own_go (fun t k => X0.arraylength hx (by rw [e0]; exact Ar3.1) (State.isArrayOf_alike hZ.alike Ar3.2.1) (g := (mkF m 3 #[.val (.ref a1), .val (.int p2), .val (.ref a1), .unset, .unset, .unset] [(.ref a1)])) rfl rfl (hb hby d2_3) t k) ?_
  rw [len_of Sz3 Ng3]
  show own_Go p.tables e below _ s₁ (mkF m 4 #[.val (.ref a1), .val (.int p2), .val (.ref a1), .unset, .unset, .unset] [(.int (3 : Int32))])
  refine own_go (T' := s₁) (g' := (mkF m 11 #[.val (.ref a1), .val (.int p2), .val (.ref a1), .val (.int (3 : Int32)), .val (.int (0 : Int32)), .unset] [(.int (3 : Int32)), (.int (0 : Int32))])) (fun t k => ?_) ?_
  · show Steps p.tables e below (s₁.setTop (mkF m 4 #[.val (.ref a1), .val (.int p2), .val (.ref a1), .unset, .unset, .unset] [(.int (3 : Int32))])) _
    refine XS.istoreN X0.here hx rfl (hb hby d2_4) rfl (l' := #[.val (.ref a1), .val (.int p2), .val (.ref a1), .val (.int (3 : Int32)), .unset, .unset]) rfl ?_
    show Steps p.tables e below (s₁.setTop (mkF m 5 #[.val (.ref a1), .val (.int p2), .val (.ref a1), .val (.int (3 : Int32)), .unset, .unset] [])) _
    refine XS.iconst X0.here hx rfl (hb hby d2_5) ?_
    show Steps p.tables e below (s₁.setTop (mkF m 6 #[.val (.ref a1), .val (.int p2), .val (.ref a1), .val (.int (3 : Int32)), .unset, .unset] [(.int (0 : Int32))])) _
    refine XS.istore X0.here hx rfl (hb hby d2_6) rfl (l' := #[.val (.ref a1), .val (.int p2), .val (.ref a1), .val (.int (3 : Int32)), .val (.int (0 : Int32)), .unset]) rfl ?_
    show Steps p.tables e below (s₁.setTop (mkF m 8 #[.val (.ref a1), .val (.int p2), .val (.ref a1), .val (.int (3 : Int32)), .val (.int (0 : Int32)), .unset] [])) _
    refine XS.iload X0.here hx rfl (hb hby d2_8) rfl ?_
    show Steps p.tables e below (s₁.setTop (mkF m 10 #[.val (.ref a1), .val (.int p2), .val (.ref a1), .val (.int (3 : Int32)), .val (.int (0 : Int32)), .unset] [(.int (0 : Int32))])) _
    refine XS.iloadN X0.here hx rfl (hb hby d2_10) rfl ?_
    exact k
  refine own_go (T' := s₁) (g' := (mkF m 17 #[.val (.ref a1), .val (.int p2), .val (.ref a1), .val (.int (3 : Int32)), .val (.int (0 : Int32)), .unset] [(.int (0 : Int32)), (.ref a1)])) (fun t k => ?_) ?_
  · show Steps p.tables e below (s₁.setTop (mkF m 11 #[.val (.ref a1), .val (.int p2), .val (.ref a1), .val (.int (3 : Int32)), .val (.int (0 : Int32)), .unset] [(.int (3 : Int32)), (.int (0 : Int32))])) _
    refine XS.icmpNo X0.here hx rfl (hb hby d2_11) rfl (tlt (by decide : (0 : Int32) < (3 : Int32))).2.1 ?_
    show Steps p.tables e below (s₁.setTop (mkF m 14 #[.val (.ref a1), .val (.int p2), .val (.ref a1), .val (.int (3 : Int32)), .val (.int (0 : Int32)), .unset] [])) _
    refine XS.aloadN X0.here hx rfl (hb hby d2_14) rfl rfl ?_
    show Steps p.tables e below (s₁.setTop (mkF m 15 #[.val (.ref a1), .val (.int p2), .val (.ref a1), .val (.int (3 : Int32)), .val (.int (0 : Int32)), .unset] [(.ref a1)])) _
    refine XS.iload X0.here hx rfl (hb hby d2_15) rfl ?_
    exact k
  have Vq := V_a1
  obtain ⟨cl1, Ar1, q1, Sz1, Ng1, Hs1, Gs1⟩ := Vq
  have hin1 : ¬ ((0 : Int32) < 0 ∨ cl1.slots.size ≤ ((0 : Int32)).toNatClampNeg) := inb_of Sz1 ⟨by decide, by decide⟩
  have hat1 : cl1.slots[((0 : Int32)).toNatClampNeg]? = some (.int v0_a1) := Hs1.at hin1 rfl
  refine own_go (fun t k => X0.iaload hx (j := (0 : Int32)) (v := (.int v0_a1)) (by rw [e0]; exact Ar1.1) (State.isArrayOf_alike hZ.alike Ar1.2.1) Ar1.2.2 hin1 hat1 (g := (mkF m 17 #[.val (.ref a1), .val (.int p2), .val (.ref a1), .val (.int (3 : Int32)), .val (.int (0 : Int32)), .unset] [(.int (0 : Int32)), (.ref a1)])) rfl rfl (hb hby d2_17) t k) ?_
  show own_Go p.tables e below _ s₁ (mkF m 18 #[.val (.ref a1), .val (.int p2), .val (.ref a1), .val (.int (3 : Int32)), .val (.int (0 : Int32)), .unset] [(.int v0_a1)])
  refine own_go (T' := s₁) (g' := (mkF m 23 #[.val (.ref a1), .val (.int p2), .val (.ref a1), .val (.int (3 : Int32)), .val (.int (0 : Int32)), .val (.int v0_a1)] [(.int p2), (.int v0_a1)])) (fun t k => ?_) ?_
  · show Steps p.tables e below (s₁.setTop (mkF m 18 #[.val (.ref a1), .val (.int p2), .val (.ref a1), .val (.int (3 : Int32)), .val (.int (0 : Int32)), .unset] [(.int v0_a1)])) _
    refine XS.istore X0.here hx rfl (hb hby d2_18) rfl (l' := #[.val (.ref a1), .val (.int p2), .val (.ref a1), .val (.int (3 : Int32)), .val (.int (0 : Int32)), .val (.int v0_a1)]) rfl ?_
    show Steps p.tables e below (s₁.setTop (mkF m 20 #[.val (.ref a1), .val (.int p2), .val (.ref a1), .val (.int (3 : Int32)), .val (.int (0 : Int32)), .val (.int v0_a1)] [])) _
    refine XS.iload X0.here hx rfl (hb hby d2_20) rfl ?_
    show Steps p.tables e below (s₁.setTop (mkF m 22 #[.val (.ref a1), .val (.int p2), .val (.ref a1), .val (.int (3 : Int32)), .val (.int (0 : Int32)), .val (.int v0_a1)] [(.int v0_a1)])) _
    refine XS.iloadN X0.here hx rfl (hb hby d2_22) rfl ?_
    exact k
  by_cases hc23_1 : v0_a1 = p2
  · skip
    refine own_go (T' := s₁) (g' := (mkF m 27 #[.val (.ref a1), .val (.int p2), .val (.ref a1), .val (.int (3 : Int32)), .val (.int (0 : Int32)), .val (.int v0_a1)] [(.int (1 : Int32))])) (fun t k => ?_) ?_
    · show Steps p.tables e below (s₁.setTop (mkF m 23 #[.val (.ref a1), .val (.int p2), .val (.ref a1), .val (.int (3 : Int32)), .val (.int (0 : Int32)), .val (.int v0_a1)] [(.int p2), (.int v0_a1)])) _
      refine XS.icmpNo X0.here hx rfl (hb hby d2_23) rfl (teq hc23_1).2 ?_
      show Steps p.tables e below (s₁.setTop (mkF m 26 #[.val (.ref a1), .val (.int p2), .val (.ref a1), .val (.int (3 : Int32)), .val (.int (0 : Int32)), .val (.int v0_a1)] [])) _
      refine XS.iconst X0.here hx rfl (hb hby d2_26) ?_
      exact k
    obtain ⟨fs, hr, hrun, hended, hW, hsame⟩ := X0.leave (v := some (.int (1 : Int32))) (fun h => by rw [Bd.returns] at h; cases h)
    refine ⟨_, _, ?_, hrun, hended, _, _, rfl, ?_, ⟨_, rfl⟩, hW, hsame.mono (by decide) (by decide)⟩
    · exact retN X0 hx (t := .boolean) Bd.returns (by simp) (hb hby d2_27) hr
    · show Q2_3 Z a1 p2 k_a1 v0_a1 v1_a1 v2_a1 h0 n0 _ s₁.heap _
      rw [e0]
      exact ⟨(by simp only [r_2_3, if_pos hc23_1, own_narZ, own_narC, own_narB]), NN, rfl⟩
  · skip
    refine own_go (T' := s₁) (g' := (mkF m 11 #[.val (.ref a1), .val (.int p2), .val (.ref a1), .val (.int (3 : Int32)), .val (.int (1 : Int32)), .val (.int v0_a1)] [(.int (3 : Int32)), (.int (1 : Int32))])) (fun t k => ?_) ?_
    · show Steps p.tables e below (s₁.setTop (mkF m 23 #[.val (.ref a1), .val (.int p2), .val (.ref a1), .val (.int (3 : Int32)), .val (.int (0 : Int32)), .val (.int v0_a1)] [(.int p2), (.int v0_a1)])) _
      refine XS.icmpYes X0.here hx rfl (pc0 := 23) (pc' := 28) rfl (hb hby d2_23) rfl (feq hc23_1).2 (by decide) (by decide) ?_
      show Steps p.tables e below (s₁.setTop (mkF m 28 #[.val (.ref a1), .val (.int p2), .val (.ref a1), .val (.int (3 : Int32)), .val (.int (0 : Int32)), .val (.int v0_a1)] [])) _
      refine XS.iinc X0.here hx rfl (hb hby d2_28) rfl (l' := #[.val (.ref a1), .val (.int p2), .val (.ref a1), .val (.int (3 : Int32)), .val (.int (1 : Int32)), .val (.int v0_a1)]) rfl ?_
      show Steps p.tables e below (s₁.setTop (mkF m 31 #[.val (.ref a1), .val (.int p2), .val (.ref a1), .val (.int (3 : Int32)), .val (.int (1 : Int32)), .val (.int v0_a1)] [])) _
      refine XS.goto X0.here hx rfl (pc0 := 31) (pc' := 8) rfl (hb hby d2_31) (by decide) (by decide) ?_
      show Steps p.tables e below (s₁.setTop (mkF m 8 #[.val (.ref a1), .val (.int p2), .val (.ref a1), .val (.int (3 : Int32)), .val (.int (1 : Int32)), .val (.int v0_a1)] [])) _
      refine XS.iload X0.here hx rfl (hb hby d2_8) rfl ?_
      show Steps p.tables e below (s₁.setTop (mkF m 10 #[.val (.ref a1), .val (.int p2), .val (.ref a1), .val (.int (3 : Int32)), .val (.int (1 : Int32)), .val (.int v0_a1)] [(.int (1 : Int32))])) _
      refine XS.iloadN X0.here hx rfl (hb hby d2_10) rfl ?_
      exact k
    refine own_go (T' := s₁) (g' := (mkF m 17 #[.val (.ref a1), .val (.int p2), .val (.ref a1), .val (.int (3 : Int32)), .val (.int (1 : Int32)), .val (.int v0_a1)] [(.int (1 : Int32)), (.ref a1)])) (fun t k => ?_) ?_
    · show Steps p.tables e below (s₁.setTop (mkF m 11 #[.val (.ref a1), .val (.int p2), .val (.ref a1), .val (.int (3 : Int32)), .val (.int (1 : Int32)), .val (.int v0_a1)] [(.int (3 : Int32)), (.int (1 : Int32))])) _
      refine XS.icmpNo X0.here hx rfl (hb hby d2_11) rfl (tlt (by decide : (1 : Int32) < (3 : Int32))).2.1 ?_
      show Steps p.tables e below (s₁.setTop (mkF m 14 #[.val (.ref a1), .val (.int p2), .val (.ref a1), .val (.int (3 : Int32)), .val (.int (1 : Int32)), .val (.int v0_a1)] [])) _
      refine XS.aloadN X0.here hx rfl (hb hby d2_14) rfl rfl ?_
      show Steps p.tables e below (s₁.setTop (mkF m 15 #[.val (.ref a1), .val (.int p2), .val (.ref a1), .val (.int (3 : Int32)), .val (.int (1 : Int32)), .val (.int v0_a1)] [(.ref a1)])) _
      refine XS.iload X0.here hx rfl (hb hby d2_15) rfl ?_
      exact k
    have Vq := V_a1
    obtain ⟨cl2, Ar2, q2, Sz2, Ng2, Hs2, Gs2⟩ := Vq
    have hin2 : ¬ ((1 : Int32) < 0 ∨ cl2.slots.size ≤ ((1 : Int32)).toNatClampNeg) := inb_of Sz2 ⟨by decide, by decide⟩
    have hat2 : cl2.slots[((1 : Int32)).toNatClampNeg]? = some (.int v1_a1) := Hs2.at hin2 rfl
    refine own_go (fun t k => X0.iaload hx (j := (1 : Int32)) (v := (.int v1_a1)) (by rw [e0]; exact Ar2.1) (State.isArrayOf_alike hZ.alike Ar2.2.1) Ar2.2.2 hin2 hat2 (g := (mkF m 17 #[.val (.ref a1), .val (.int p2), .val (.ref a1), .val (.int (3 : Int32)), .val (.int (1 : Int32)), .val (.int v0_a1)] [(.int (1 : Int32)), (.ref a1)])) rfl rfl (hb hby d2_17) t k) ?_
    show own_Go p.tables e below _ s₁ (mkF m 18 #[.val (.ref a1), .val (.int p2), .val (.ref a1), .val (.int (3 : Int32)), .val (.int (1 : Int32)), .val (.int v0_a1)] [(.int v1_a1)])
    refine own_go (T' := s₁) (g' := (mkF m 23 #[.val (.ref a1), .val (.int p2), .val (.ref a1), .val (.int (3 : Int32)), .val (.int (1 : Int32)), .val (.int v1_a1)] [(.int p2), (.int v1_a1)])) (fun t k => ?_) ?_
    · show Steps p.tables e below (s₁.setTop (mkF m 18 #[.val (.ref a1), .val (.int p2), .val (.ref a1), .val (.int (3 : Int32)), .val (.int (1 : Int32)), .val (.int v0_a1)] [(.int v1_a1)])) _
      refine XS.istore X0.here hx rfl (hb hby d2_18) rfl (l' := #[.val (.ref a1), .val (.int p2), .val (.ref a1), .val (.int (3 : Int32)), .val (.int (1 : Int32)), .val (.int v1_a1)]) rfl ?_
      show Steps p.tables e below (s₁.setTop (mkF m 20 #[.val (.ref a1), .val (.int p2), .val (.ref a1), .val (.int (3 : Int32)), .val (.int (1 : Int32)), .val (.int v1_a1)] [])) _
      refine XS.iload X0.here hx rfl (hb hby d2_20) rfl ?_
      show Steps p.tables e below (s₁.setTop (mkF m 22 #[.val (.ref a1), .val (.int p2), .val (.ref a1), .val (.int (3 : Int32)), .val (.int (1 : Int32)), .val (.int v1_a1)] [(.int v1_a1)])) _
      refine XS.iloadN X0.here hx rfl (hb hby d2_22) rfl ?_
      exact k
    by_cases hc23_2 : v1_a1 = p2
    · skip
      refine own_go (T' := s₁) (g' := (mkF m 27 #[.val (.ref a1), .val (.int p2), .val (.ref a1), .val (.int (3 : Int32)), .val (.int (1 : Int32)), .val (.int v1_a1)] [(.int (1 : Int32))])) (fun t k => ?_) ?_
      · show Steps p.tables e below (s₁.setTop (mkF m 23 #[.val (.ref a1), .val (.int p2), .val (.ref a1), .val (.int (3 : Int32)), .val (.int (1 : Int32)), .val (.int v1_a1)] [(.int p2), (.int v1_a1)])) _
        refine XS.icmpNo X0.here hx rfl (hb hby d2_23) rfl (teq hc23_2).2 ?_
        show Steps p.tables e below (s₁.setTop (mkF m 26 #[.val (.ref a1), .val (.int p2), .val (.ref a1), .val (.int (3 : Int32)), .val (.int (1 : Int32)), .val (.int v1_a1)] [])) _
        refine XS.iconst X0.here hx rfl (hb hby d2_26) ?_
        exact k
      obtain ⟨fs, hr, hrun, hended, hW, hsame⟩ := X0.leave (v := some (.int (1 : Int32))) (fun h => by rw [Bd.returns] at h; cases h)
      refine ⟨_, _, ?_, hrun, hended, _, _, rfl, ?_, ⟨_, rfl⟩, hW, hsame.mono (by decide) (by decide)⟩
      · exact retN X0 hx (t := .boolean) Bd.returns (by simp) (hb hby d2_27) hr
      · show Q2_3 Z a1 p2 k_a1 v0_a1 v1_a1 v2_a1 h0 n0 _ s₁.heap _
        rw [e0]
        exact ⟨(by simp only [r_2_3, if_neg hc23_1, if_pos hc23_2, own_narZ, own_narC, own_narB]), NN, rfl⟩
    · skip
      refine own_go (T' := s₁) (g' := (mkF m 11 #[.val (.ref a1), .val (.int p2), .val (.ref a1), .val (.int (3 : Int32)), .val (.int (2 : Int32)), .val (.int v1_a1)] [(.int (3 : Int32)), (.int (2 : Int32))])) (fun t k => ?_) ?_
      · show Steps p.tables e below (s₁.setTop (mkF m 23 #[.val (.ref a1), .val (.int p2), .val (.ref a1), .val (.int (3 : Int32)), .val (.int (1 : Int32)), .val (.int v1_a1)] [(.int p2), (.int v1_a1)])) _
        refine XS.icmpYes X0.here hx rfl (pc0 := 23) (pc' := 28) rfl (hb hby d2_23) rfl (feq hc23_2).2 (by decide) (by decide) ?_
        show Steps p.tables e below (s₁.setTop (mkF m 28 #[.val (.ref a1), .val (.int p2), .val (.ref a1), .val (.int (3 : Int32)), .val (.int (1 : Int32)), .val (.int v1_a1)] [])) _
        refine XS.iinc X0.here hx rfl (hb hby d2_28) rfl (l' := #[.val (.ref a1), .val (.int p2), .val (.ref a1), .val (.int (3 : Int32)), .val (.int (2 : Int32)), .val (.int v1_a1)]) rfl ?_
        show Steps p.tables e below (s₁.setTop (mkF m 31 #[.val (.ref a1), .val (.int p2), .val (.ref a1), .val (.int (3 : Int32)), .val (.int (2 : Int32)), .val (.int v1_a1)] [])) _
        refine XS.goto X0.here hx rfl (pc0 := 31) (pc' := 8) rfl (hb hby d2_31) (by decide) (by decide) ?_
        show Steps p.tables e below (s₁.setTop (mkF m 8 #[.val (.ref a1), .val (.int p2), .val (.ref a1), .val (.int (3 : Int32)), .val (.int (2 : Int32)), .val (.int v1_a1)] [])) _
        refine XS.iload X0.here hx rfl (hb hby d2_8) rfl ?_
        show Steps p.tables e below (s₁.setTop (mkF m 10 #[.val (.ref a1), .val (.int p2), .val (.ref a1), .val (.int (3 : Int32)), .val (.int (2 : Int32)), .val (.int v1_a1)] [(.int (2 : Int32))])) _
        refine XS.iloadN X0.here hx rfl (hb hby d2_10) rfl ?_
        exact k
      refine own_go (T' := s₁) (g' := (mkF m 17 #[.val (.ref a1), .val (.int p2), .val (.ref a1), .val (.int (3 : Int32)), .val (.int (2 : Int32)), .val (.int v1_a1)] [(.int (2 : Int32)), (.ref a1)])) (fun t k => ?_) ?_
      · show Steps p.tables e below (s₁.setTop (mkF m 11 #[.val (.ref a1), .val (.int p2), .val (.ref a1), .val (.int (3 : Int32)), .val (.int (2 : Int32)), .val (.int v1_a1)] [(.int (3 : Int32)), (.int (2 : Int32))])) _
        refine XS.icmpNo X0.here hx rfl (hb hby d2_11) rfl (tlt (by decide : (2 : Int32) < (3 : Int32))).2.1 ?_
        show Steps p.tables e below (s₁.setTop (mkF m 14 #[.val (.ref a1), .val (.int p2), .val (.ref a1), .val (.int (3 : Int32)), .val (.int (2 : Int32)), .val (.int v1_a1)] [])) _
        refine XS.aloadN X0.here hx rfl (hb hby d2_14) rfl rfl ?_
        show Steps p.tables e below (s₁.setTop (mkF m 15 #[.val (.ref a1), .val (.int p2), .val (.ref a1), .val (.int (3 : Int32)), .val (.int (2 : Int32)), .val (.int v1_a1)] [(.ref a1)])) _
        refine XS.iload X0.here hx rfl (hb hby d2_15) rfl ?_
        exact k
      have Vq := V_a1
      obtain ⟨cl3, Ar3, q3, Sz3, Ng3, Hs3, Gs3⟩ := Vq
      have hin3 : ¬ ((2 : Int32) < 0 ∨ cl3.slots.size ≤ ((2 : Int32)).toNatClampNeg) := inb_of Sz3 ⟨by decide, by decide⟩
      have hat3 : cl3.slots[((2 : Int32)).toNatClampNeg]? = some (.int v2_a1) := Hs3.at hin3 rfl
      refine own_go (fun t k => X0.iaload hx (j := (2 : Int32)) (v := (.int v2_a1)) (by rw [e0]; exact Ar3.1) (State.isArrayOf_alike hZ.alike Ar3.2.1) Ar3.2.2 hin3 hat3 (g := (mkF m 17 #[.val (.ref a1), .val (.int p2), .val (.ref a1), .val (.int (3 : Int32)), .val (.int (2 : Int32)), .val (.int v1_a1)] [(.int (2 : Int32)), (.ref a1)])) rfl rfl (hb hby d2_17) t k) ?_
      show own_Go p.tables e below _ s₁ (mkF m 18 #[.val (.ref a1), .val (.int p2), .val (.ref a1), .val (.int (3 : Int32)), .val (.int (2 : Int32)), .val (.int v1_a1)] [(.int v2_a1)])
      refine own_go (T' := s₁) (g' := (mkF m 23 #[.val (.ref a1), .val (.int p2), .val (.ref a1), .val (.int (3 : Int32)), .val (.int (2 : Int32)), .val (.int v2_a1)] [(.int p2), (.int v2_a1)])) (fun t k => ?_) ?_
      · show Steps p.tables e below (s₁.setTop (mkF m 18 #[.val (.ref a1), .val (.int p2), .val (.ref a1), .val (.int (3 : Int32)), .val (.int (2 : Int32)), .val (.int v1_a1)] [(.int v2_a1)])) _
        refine XS.istore X0.here hx rfl (hb hby d2_18) rfl (l' := #[.val (.ref a1), .val (.int p2), .val (.ref a1), .val (.int (3 : Int32)), .val (.int (2 : Int32)), .val (.int v2_a1)]) rfl ?_
        show Steps p.tables e below (s₁.setTop (mkF m 20 #[.val (.ref a1), .val (.int p2), .val (.ref a1), .val (.int (3 : Int32)), .val (.int (2 : Int32)), .val (.int v2_a1)] [])) _
        refine XS.iload X0.here hx rfl (hb hby d2_20) rfl ?_
        show Steps p.tables e below (s₁.setTop (mkF m 22 #[.val (.ref a1), .val (.int p2), .val (.ref a1), .val (.int (3 : Int32)), .val (.int (2 : Int32)), .val (.int v2_a1)] [(.int v2_a1)])) _
        refine XS.iloadN X0.here hx rfl (hb hby d2_22) rfl ?_
        exact k
      by_cases hc23_3 : v2_a1 = p2
      · skip
        refine own_go (T' := s₁) (g' := (mkF m 27 #[.val (.ref a1), .val (.int p2), .val (.ref a1), .val (.int (3 : Int32)), .val (.int (2 : Int32)), .val (.int v2_a1)] [(.int (1 : Int32))])) (fun t k => ?_) ?_
        · show Steps p.tables e below (s₁.setTop (mkF m 23 #[.val (.ref a1), .val (.int p2), .val (.ref a1), .val (.int (3 : Int32)), .val (.int (2 : Int32)), .val (.int v2_a1)] [(.int p2), (.int v2_a1)])) _
          refine XS.icmpNo X0.here hx rfl (hb hby d2_23) rfl (teq hc23_3).2 ?_
          show Steps p.tables e below (s₁.setTop (mkF m 26 #[.val (.ref a1), .val (.int p2), .val (.ref a1), .val (.int (3 : Int32)), .val (.int (2 : Int32)), .val (.int v2_a1)] [])) _
          refine XS.iconst X0.here hx rfl (hb hby d2_26) ?_
          exact k
        obtain ⟨fs, hr, hrun, hended, hW, hsame⟩ := X0.leave (v := some (.int (1 : Int32))) (fun h => by rw [Bd.returns] at h; cases h)
        refine ⟨_, _, ?_, hrun, hended, _, _, rfl, ?_, ⟨_, rfl⟩, hW, hsame.mono (by decide) (by decide)⟩
        · exact retN X0 hx (t := .boolean) Bd.returns (by simp) (hb hby d2_27) hr
        · show Q2_3 Z a1 p2 k_a1 v0_a1 v1_a1 v2_a1 h0 n0 _ s₁.heap _
          rw [e0]
          exact ⟨(by simp only [r_2_3, if_neg hc23_1, if_neg hc23_2, if_pos hc23_3, own_narZ, own_narC, own_narB]), NN, rfl⟩
      · skip
        refine own_go (T' := s₁) (g' := (mkF m 11 #[.val (.ref a1), .val (.int p2), .val (.ref a1), .val (.int (3 : Int32)), .val (.int (3 : Int32)), .val (.int v2_a1)] [(.int (3 : Int32)), (.int (3 : Int32))])) (fun t k => ?_) ?_
        · show Steps p.tables e below (s₁.setTop (mkF m 23 #[.val (.ref a1), .val (.int p2), .val (.ref a1), .val (.int (3 : Int32)), .val (.int (2 : Int32)), .val (.int v2_a1)] [(.int p2), (.int v2_a1)])) _
          refine XS.icmpYes X0.here hx rfl (pc0 := 23) (pc' := 28) rfl (hb hby d2_23) rfl (feq hc23_3).2 (by decide) (by decide) ?_
          show Steps p.tables e below (s₁.setTop (mkF m 28 #[.val (.ref a1), .val (.int p2), .val (.ref a1), .val (.int (3 : Int32)), .val (.int (2 : Int32)), .val (.int v2_a1)] [])) _
          refine XS.iinc X0.here hx rfl (hb hby d2_28) rfl (l' := #[.val (.ref a1), .val (.int p2), .val (.ref a1), .val (.int (3 : Int32)), .val (.int (3 : Int32)), .val (.int v2_a1)]) rfl ?_
          show Steps p.tables e below (s₁.setTop (mkF m 31 #[.val (.ref a1), .val (.int p2), .val (.ref a1), .val (.int (3 : Int32)), .val (.int (3 : Int32)), .val (.int v2_a1)] [])) _
          refine XS.goto X0.here hx rfl (pc0 := 31) (pc' := 8) rfl (hb hby d2_31) (by decide) (by decide) ?_
          show Steps p.tables e below (s₁.setTop (mkF m 8 #[.val (.ref a1), .val (.int p2), .val (.ref a1), .val (.int (3 : Int32)), .val (.int (3 : Int32)), .val (.int v2_a1)] [])) _
          refine XS.iload X0.here hx rfl (hb hby d2_8) rfl ?_
          show Steps p.tables e below (s₁.setTop (mkF m 10 #[.val (.ref a1), .val (.int p2), .val (.ref a1), .val (.int (3 : Int32)), .val (.int (3 : Int32)), .val (.int v2_a1)] [(.int (3 : Int32))])) _
          refine XS.iloadN X0.here hx rfl (hb hby d2_10) rfl ?_
          exact k
        refine own_go (T' := s₁) (g' := (mkF m 35 #[.val (.ref a1), .val (.int p2), .val (.ref a1), .val (.int (3 : Int32)), .val (.int (3 : Int32)), .val (.int v2_a1)] [(.int (0 : Int32))])) (fun t k => ?_) ?_
        · show Steps p.tables e below (s₁.setTop (mkF m 11 #[.val (.ref a1), .val (.int p2), .val (.ref a1), .val (.int (3 : Int32)), .val (.int (3 : Int32)), .val (.int v2_a1)] [(.int (3 : Int32)), (.int (3 : Int32))])) _
          refine XS.icmpYes X0.here hx rfl (pc0 := 11) (pc' := 34) rfl (hb hby d2_11) rfl (flt (Int32.lt_irrefl)).2.1 (by decide) (by decide) ?_
          show Steps p.tables e below (s₁.setTop (mkF m 34 #[.val (.ref a1), .val (.int p2), .val (.ref a1), .val (.int (3 : Int32)), .val (.int (3 : Int32)), .val (.int v2_a1)] [])) _
          refine XS.iconst X0.here hx rfl (hb hby d2_34) ?_
          exact k
        obtain ⟨fs, hr, hrun, hended, hW, hsame⟩ := X0.leave (v := some (.int (0 : Int32))) (fun h => by rw [Bd.returns] at h; cases h)
        refine ⟨_, _, ?_, hrun, hended, _, _, rfl, ?_, ⟨_, rfl⟩, hW, hsame.mono (by decide) (by decide)⟩
        · exact retN X0 hx (t := .boolean) Bd.returns (by simp) (hb hby d2_35) hr
        · show Q2_3 Z a1 p2 k_a1 v0_a1 v1_a1 v2_a1 h0 n0 _ s₁.heap _
          rw [e0]
          exact ⟨(by simp only [r_2_3, if_neg hc23_1, if_neg hc23_2, if_neg hc23_3, own_narZ, own_narC, own_narB]), NN, rfl⟩
theorem ef_2_4 (m : MethodId) (a1 : Addr) (p2 : Int32) : entryFrame m #[(.ref a1), (.int p2)] 6 = mkF m 0 #[.val (.ref a1), .val (.int p2), .unset, .unset, .unset, .unset] [] := by first | (simp [entryFrame, mkF, argsToLocals, Value.category]; done) | rfl
def r_2_4 (p2 : Int32) (v0_a1 : Int32) (v1_a1 : Int32) (v2_a1 : Int32) (v3_a1 : Int32) : Int32 := (if v0_a1 = p2 then (1 : Int32) else (if v1_a1 = p2 then (1 : Int32) else (if v2_a1 = p2 then (1 : Int32) else (if v3_a1 = p2 then (1 : Int32) else (0 : Int32)))))
def Q2_4 (Z : State) (a1 : Addr) (p2 : Int32) (k_a1 : ClassId) (v0_a1 : Int32) (v1_a1 : Int32) (v2_a1 : Int32) (v3_a1 : Int32) (h0 : Heap) (n0 : Nat) (v : Option Value) (h : Heap) (L : List Loc) : Prop := v = some (.int (r_2_4 p2 v0_a1 v1_a1 v2_a1 v3_a1)) ∧ Fr n0 L ∧ h = h0
set_option maxRecDepth 65536 in
set_option maxHeartbeats 40000000 in
theorem rm2_4 (l : Launch) (Z : State) (a0 : Array Value) (hw : ∀ d ∈ tables_1, d.before a0 Z = true) (ws : List Jvm.Cond) (a1 : Addr) (p2 : Int32) (k_a1 : ClassId) (v0_a1 : Int32) (v1_a1 : Int32) (v2_a1 : Int32) (v3_a1 : Int32) (h0 : Heap) (n0 : Nat) (Z0 : n0 ≤ h0.size) (V_a1 : Arv Z h0 a1 k_a1 .int (4 : Int32) [(.int v0_a1), (.int v1_a1), (.int v2_a1), (.int v3_a1)] (.int (0 : Int32))) :
    MetFree l (⟨"com/example/hopline/hopline/core/NodeStore", "hasLabel", "([II)Z"⟩ : MethodName) (head1 (Jvm.Cond.code (⟨"com/example/hopline/hopline/core/NodeStore", "hasLabel", "([II)Z"⟩ : MethodName) prog_35_method_2_code 6 (some .boolean) :: ws) ({ frames := 0, cells := 0, slots := 0, locals := 0 } : Room)) (fun a U => a = #[(.ref a1), (.int p2)] ∧ Z.Warmed39 U.vm ∧ U.heap = h0) (fun _ _ _ _ _ => True) (fun _ U o U' => ∃ v L, o = .returned v ∧ Q2_4 Z a1 p2 k_a1 v0_a1 v1_a1 v2_a1 v3_a1 h0 n0 v U'.heap L ∧ FrameEnd U o U' L ({ frames := 0, cells := 0, slots := 0, locals := 0 } : Room).cells ({ frames := 0, cells := 0, slots := 0, locals := 0 } : Room).slots) := by
  refine MetFree.of_bodySF (plainFor_of_name pn_1) hisR ?_
  intro p e s m args below meth c s₁ Bd hml0 hP hK
  obtain ⟨rfl, hZ, hh⟩ := hP
  have hx := Bd.exec
  have hby := Bd.bytes
  have hml : c.maxLocals = 6 := hml0
  have hown : s.vm.findClass "com/example/hopline/hopline/core/NodeStore" = some m.cls := findClass_of_methodNamed Bd.named
  have hnm := (name_of_methodNamed Bd.named Bd.method).1
  have X0 : Stand p l e ({ frames := 0, cells := 0, slots := 0, locals := 0 } : Room) s m #[(.ref a1), (.int p2)] below meth c s₁ [] 0 0 := Stand.of_body Bd
  have e0 : s₁.heap = h0 := by rw [← hh, Bd.state]; rfl
  have NN := Fr.nil n0
  have KK : Keep h0 h0 [] := Keep.refl h0 []
  refine own_start (ef_2_4 m a1 p2) ?_
  refine own_go (T' := s₁) (g' := (mkF m 3 #[.val (.ref a1), .val (.int p2), .val (.ref a1), .unset, .unset, .unset] [(.ref a1)])) (fun t k => ?_) ?_
  · show Steps p.tables e below (s₁.setTop (mkF m 0 #[.val (.ref a1), .val (.int p2), .unset, .unset, .unset, .unset] [])) _
    refine XS.aloadN X0.here hx rfl (hb hby d2_0) rfl rfl ?_
    show Steps p.tables e below (s₁.setTop (mkF m 1 #[.val (.ref a1), .val (.int p2), .unset, .unset, .unset, .unset] [(.ref a1)])) _
    refine XS.astoreN X0.here hx rfl (hb hby d2_1) rfl rfl (l' := #[.val (.ref a1), .val (.int p2), .val (.ref a1), .unset, .unset, .unset]) rfl ?_
    show Steps p.tables e below (s₁.setTop (mkF m 2 #[.val (.ref a1), .val (.int p2), .val (.ref a1), .unset, .unset, .unset] [])) _
    refine XS.aloadN X0.here hx rfl (hb hby d2_2) rfl rfl ?_
    exact k
  have Vq := V_a1
  obtain ⟨cl3, Ar3, -, Sz3, Ng3, -, -⟩ := Vq
  refine own_go (fun t k => X0.arraylength hx (by rw [e0]; exact Ar3.1) (State.isArrayOf_alike hZ.alike Ar3.2.1) (g := (mkF m 3 #[.val (.ref a1), .val (.int p2), .val (.ref a1), .unset, .unset, .unset] [(.ref a1)])) rfl rfl (hb hby d2_3) t k) ?_
  rw [len_of Sz3 Ng3]
  show own_Go p.tables e below _ s₁ (mkF m 4 #[.val (.ref a1), .val (.int p2), .val (.ref a1), .unset, .unset, .unset] [(.int (4 : Int32))])
  refine own_go (T' := s₁) (g' := (mkF m 11 #[.val (.ref a1), .val (.int p2), .val (.ref a1), .val (.int (4 : Int32)), .val (.int (0 : Int32)), .unset] [(.int (4 : Int32)), (.int (0 : Int32))])) (fun t k => ?_) ?_
  · show Steps p.tables e below (s₁.setTop (mkF m 4 #[.val (.ref a1), .val (.int p2), .val (.ref a1), .unset, .unset, .unset] [(.int (4 : Int32))])) _
    refine XS.istoreN X0.here hx rfl (hb hby d2_4) rfl (l' := #[.val (.ref a1), .val (.int p2), .val (.ref a1), .val (.int (4 : Int32)), .unset, .unset]) rfl ?_
    show Steps p.tables e below (s₁.setTop (mkF m 5 #[.val (.ref a1), .val (.int p2), .val (.ref a1), .val (.int (4 : Int32)), .unset, .unset] [])) _
    refine XS.iconst X0.here hx rfl (hb hby d2_5) ?_
    show Steps p.tables e below (s₁.setTop (mkF m 6 #[.val (.ref a1), .val (.int p2), .val (.ref a1), .val (.int (4 : Int32)), .unset, .unset] [(.int (0 : Int32))])) _
    refine XS.istore X0.here hx rfl (hb hby d2_6) rfl (l' := #[.val (.ref a1), .val (.int p2), .val (.ref a1), .val (.int (4 : Int32)), .val (.int (0 : Int32)), .unset]) rfl ?_
    show Steps p.tables e below (s₁.setTop (mkF m 8 #[.val (.ref a1), .val (.int p2), .val (.ref a1), .val (.int (4 : Int32)), .val (.int (0 : Int32)), .unset] [])) _
    refine XS.iload X0.here hx rfl (hb hby d2_8) rfl ?_
    show Steps p.tables e below (s₁.setTop (mkF m 10 #[.val (.ref a1), .val (.int p2), .val (.ref a1), .val (.int (4 : Int32)), .val (.int (0 : Int32)), .unset] [(.int (0 : Int32))])) _
    refine XS.iloadN X0.here hx rfl (hb hby d2_10) rfl ?_
    exact k
  refine own_go (T' := s₁) (g' := (mkF m 17 #[.val (.ref a1), .val (.int p2), .val (.ref a1), .val (.int (4 : Int32)), .val (.int (0 : Int32)), .unset] [(.int (0 : Int32)), (.ref a1)])) (fun t k => ?_) ?_
  · show Steps p.tables e below (s₁.setTop (mkF m 11 #[.val (.ref a1), .val (.int p2), .val (.ref a1), .val (.int (4 : Int32)), .val (.int (0 : Int32)), .unset] [(.int (4 : Int32)), (.int (0 : Int32))])) _
    refine XS.icmpNo X0.here hx rfl (hb hby d2_11) rfl (tlt (by decide : (0 : Int32) < (4 : Int32))).2.1 ?_
    show Steps p.tables e below (s₁.setTop (mkF m 14 #[.val (.ref a1), .val (.int p2), .val (.ref a1), .val (.int (4 : Int32)), .val (.int (0 : Int32)), .unset] [])) _
    refine XS.aloadN X0.here hx rfl (hb hby d2_14) rfl rfl ?_
    show Steps p.tables e below (s₁.setTop (mkF m 15 #[.val (.ref a1), .val (.int p2), .val (.ref a1), .val (.int (4 : Int32)), .val (.int (0 : Int32)), .unset] [(.ref a1)])) _
    refine XS.iload X0.here hx rfl (hb hby d2_15) rfl ?_
    exact k
  have Vq := V_a1
  obtain ⟨cl1, Ar1, q1, Sz1, Ng1, Hs1, Gs1⟩ := Vq
  have hin1 : ¬ ((0 : Int32) < 0 ∨ cl1.slots.size ≤ ((0 : Int32)).toNatClampNeg) := inb_of Sz1 ⟨by decide, by decide⟩
  have hat1 : cl1.slots[((0 : Int32)).toNatClampNeg]? = some (.int v0_a1) := Hs1.at hin1 rfl
  refine own_go (fun t k => X0.iaload hx (j := (0 : Int32)) (v := (.int v0_a1)) (by rw [e0]; exact Ar1.1) (State.isArrayOf_alike hZ.alike Ar1.2.1) Ar1.2.2 hin1 hat1 (g := (mkF m 17 #[.val (.ref a1), .val (.int p2), .val (.ref a1), .val (.int (4 : Int32)), .val (.int (0 : Int32)), .unset] [(.int (0 : Int32)), (.ref a1)])) rfl rfl (hb hby d2_17) t k) ?_
  show own_Go p.tables e below _ s₁ (mkF m 18 #[.val (.ref a1), .val (.int p2), .val (.ref a1), .val (.int (4 : Int32)), .val (.int (0 : Int32)), .unset] [(.int v0_a1)])
  refine own_go (T' := s₁) (g' := (mkF m 23 #[.val (.ref a1), .val (.int p2), .val (.ref a1), .val (.int (4 : Int32)), .val (.int (0 : Int32)), .val (.int v0_a1)] [(.int p2), (.int v0_a1)])) (fun t k => ?_) ?_
  · show Steps p.tables e below (s₁.setTop (mkF m 18 #[.val (.ref a1), .val (.int p2), .val (.ref a1), .val (.int (4 : Int32)), .val (.int (0 : Int32)), .unset] [(.int v0_a1)])) _
    refine XS.istore X0.here hx rfl (hb hby d2_18) rfl (l' := #[.val (.ref a1), .val (.int p2), .val (.ref a1), .val (.int (4 : Int32)), .val (.int (0 : Int32)), .val (.int v0_a1)]) rfl ?_
    show Steps p.tables e below (s₁.setTop (mkF m 20 #[.val (.ref a1), .val (.int p2), .val (.ref a1), .val (.int (4 : Int32)), .val (.int (0 : Int32)), .val (.int v0_a1)] [])) _
    refine XS.iload X0.here hx rfl (hb hby d2_20) rfl ?_
    show Steps p.tables e below (s₁.setTop (mkF m 22 #[.val (.ref a1), .val (.int p2), .val (.ref a1), .val (.int (4 : Int32)), .val (.int (0 : Int32)), .val (.int v0_a1)] [(.int v0_a1)])) _
    refine XS.iloadN X0.here hx rfl (hb hby d2_22) rfl ?_
    exact k
  by_cases hc23_1 : v0_a1 = p2
  · skip
    refine own_go (T' := s₁) (g' := (mkF m 27 #[.val (.ref a1), .val (.int p2), .val (.ref a1), .val (.int (4 : Int32)), .val (.int (0 : Int32)), .val (.int v0_a1)] [(.int (1 : Int32))])) (fun t k => ?_) ?_
    · show Steps p.tables e below (s₁.setTop (mkF m 23 #[.val (.ref a1), .val (.int p2), .val (.ref a1), .val (.int (4 : Int32)), .val (.int (0 : Int32)), .val (.int v0_a1)] [(.int p2), (.int v0_a1)])) _
      refine XS.icmpNo X0.here hx rfl (hb hby d2_23) rfl (teq hc23_1).2 ?_
      show Steps p.tables e below (s₁.setTop (mkF m 26 #[.val (.ref a1), .val (.int p2), .val (.ref a1), .val (.int (4 : Int32)), .val (.int (0 : Int32)), .val (.int v0_a1)] [])) _
      refine XS.iconst X0.here hx rfl (hb hby d2_26) ?_
      exact k
    obtain ⟨fs, hr, hrun, hended, hW, hsame⟩ := X0.leave (v := some (.int (1 : Int32))) (fun h => by rw [Bd.returns] at h; cases h)
    refine ⟨_, _, ?_, hrun, hended, _, _, rfl, ?_, ⟨_, rfl⟩, hW, hsame.mono (by decide) (by decide)⟩
    · exact retN X0 hx (t := .boolean) Bd.returns (by simp) (hb hby d2_27) hr
    · show Q2_4 Z a1 p2 k_a1 v0_a1 v1_a1 v2_a1 v3_a1 h0 n0 _ s₁.heap _
      rw [e0]
      exact ⟨(by simp only [r_2_4, if_pos hc23_1, own_narZ, own_narC, own_narB]), NN, rfl⟩
  · skip
    refine own_go (T' := s₁) (g' := (mkF m 11 #[.val (.ref a1), .val (.int p2), .val (.ref a1), .val (.int (4 : Int32)), .val (.int (1 : Int32)), .val (.int v0_a1)] [(.int (4 : Int32)), (.int (1 : Int32))])) (fun t k => ?_) ?_
    · show Steps p.tables e below (s₁.setTop (mkF m 23 #[.val (.ref a1), .val (.int p2), .val (.ref a1), .val (.int (4 : Int32)), .val (.int (0 : Int32)), .val (.int v0_a1)] [(.int p2), (.int v0_a1)])) _
      refine XS.icmpYes X0.here hx rfl (pc0 := 23) (pc' := 28) rfl (hb hby d2_23) rfl (feq hc23_1).2 (by decide) (by decide) ?_
      show Steps p.tables e below (s₁.setTop (mkF m 28 #[.val (.ref a1), .val (.int p2), .val (.ref a1), .val (.int (4 : Int32)), .val (.int (0 : Int32)), .val (.int v0_a1)] [])) _
      refine XS.iinc X0.here hx rfl (hb hby d2_28) rfl (l' := #[.val (.ref a1), .val (.int p2), .val (.ref a1), .val (.int (4 : Int32)), .val (.int (1 : Int32)), .val (.int v0_a1)]) rfl ?_
      show Steps p.tables e below (s₁.setTop (mkF m 31 #[.val (.ref a1), .val (.int p2), .val (.ref a1), .val (.int (4 : Int32)), .val (.int (1 : Int32)), .val (.int v0_a1)] [])) _
      refine XS.goto X0.here hx rfl (pc0 := 31) (pc' := 8) rfl (hb hby d2_31) (by decide) (by decide) ?_
      show Steps p.tables e below (s₁.setTop (mkF m 8 #[.val (.ref a1), .val (.int p2), .val (.ref a1), .val (.int (4 : Int32)), .val (.int (1 : Int32)), .val (.int v0_a1)] [])) _
      refine XS.iload X0.here hx rfl (hb hby d2_8) rfl ?_
      show Steps p.tables e below (s₁.setTop (mkF m 10 #[.val (.ref a1), .val (.int p2), .val (.ref a1), .val (.int (4 : Int32)), .val (.int (1 : Int32)), .val (.int v0_a1)] [(.int (1 : Int32))])) _
      refine XS.iloadN X0.here hx rfl (hb hby d2_10) rfl ?_
      exact k
    refine own_go (T' := s₁) (g' := (mkF m 17 #[.val (.ref a1), .val (.int p2), .val (.ref a1), .val (.int (4 : Int32)), .val (.int (1 : Int32)), .val (.int v0_a1)] [(.int (1 : Int32)), (.ref a1)])) (fun t k => ?_) ?_
    · show Steps p.tables e below (s₁.setTop (mkF m 11 #[.val (.ref a1), .val (.int p2), .val (.ref a1), .val (.int (4 : Int32)), .val (.int (1 : Int32)), .val (.int v0_a1)] [(.int (4 : Int32)), (.int (1 : Int32))])) _
      refine XS.icmpNo X0.here hx rfl (hb hby d2_11) rfl (tlt (by decide : (1 : Int32) < (4 : Int32))).2.1 ?_
      show Steps p.tables e below (s₁.setTop (mkF m 14 #[.val (.ref a1), .val (.int p2), .val (.ref a1), .val (.int (4 : Int32)), .val (.int (1 : Int32)), .val (.int v0_a1)] [])) _
      refine XS.aloadN X0.here hx rfl (hb hby d2_14) rfl rfl ?_
      show Steps p.tables e below (s₁.setTop (mkF m 15 #[.val (.ref a1), .val (.int p2), .val (.ref a1), .val (.int (4 : Int32)), .val (.int (1 : Int32)), .val (.int v0_a1)] [(.ref a1)])) _
      refine XS.iload X0.here hx rfl (hb hby d2_15) rfl ?_
      exact k
    have Vq := V_a1
    obtain ⟨cl2, Ar2, q2, Sz2, Ng2, Hs2, Gs2⟩ := Vq
    have hin2 : ¬ ((1 : Int32) < 0 ∨ cl2.slots.size ≤ ((1 : Int32)).toNatClampNeg) := inb_of Sz2 ⟨by decide, by decide⟩
    have hat2 : cl2.slots[((1 : Int32)).toNatClampNeg]? = some (.int v1_a1) := Hs2.at hin2 rfl
    refine own_go (fun t k => X0.iaload hx (j := (1 : Int32)) (v := (.int v1_a1)) (by rw [e0]; exact Ar2.1) (State.isArrayOf_alike hZ.alike Ar2.2.1) Ar2.2.2 hin2 hat2 (g := (mkF m 17 #[.val (.ref a1), .val (.int p2), .val (.ref a1), .val (.int (4 : Int32)), .val (.int (1 : Int32)), .val (.int v0_a1)] [(.int (1 : Int32)), (.ref a1)])) rfl rfl (hb hby d2_17) t k) ?_
    show own_Go p.tables e below _ s₁ (mkF m 18 #[.val (.ref a1), .val (.int p2), .val (.ref a1), .val (.int (4 : Int32)), .val (.int (1 : Int32)), .val (.int v0_a1)] [(.int v1_a1)])
    refine own_go (T' := s₁) (g' := (mkF m 23 #[.val (.ref a1), .val (.int p2), .val (.ref a1), .val (.int (4 : Int32)), .val (.int (1 : Int32)), .val (.int v1_a1)] [(.int p2), (.int v1_a1)])) (fun t k => ?_) ?_
    · show Steps p.tables e below (s₁.setTop (mkF m 18 #[.val (.ref a1), .val (.int p2), .val (.ref a1), .val (.int (4 : Int32)), .val (.int (1 : Int32)), .val (.int v0_a1)] [(.int v1_a1)])) _
      refine XS.istore X0.here hx rfl (hb hby d2_18) rfl (l' := #[.val (.ref a1), .val (.int p2), .val (.ref a1), .val (.int (4 : Int32)), .val (.int (1 : Int32)), .val (.int v1_a1)]) rfl ?_
      show Steps p.tables e below (s₁.setTop (mkF m 20 #[.val (.ref a1), .val (.int p2), .val (.ref a1), .val (.int (4 : Int32)), .val (.int (1 : Int32)), .val (.int v1_a1)] [])) _
      refine XS.iload X0.here hx rfl (hb hby d2_20) rfl ?_
      show Steps p.tables e below (s₁.setTop (mkF m 22 #[.val (.ref a1), .val (.int p2), .val (.ref a1), .val (.int (4 : Int32)), .val (.int (1 : Int32)), .val (.int v1_a1)] [(.int v1_a1)])) _
      refine XS.iloadN X0.here hx rfl (hb hby d2_22) rfl ?_
      exact k
    by_cases hc23_2 : v1_a1 = p2
    · skip
      refine own_go (T' := s₁) (g' := (mkF m 27 #[.val (.ref a1), .val (.int p2), .val (.ref a1), .val (.int (4 : Int32)), .val (.int (1 : Int32)), .val (.int v1_a1)] [(.int (1 : Int32))])) (fun t k => ?_) ?_
      · show Steps p.tables e below (s₁.setTop (mkF m 23 #[.val (.ref a1), .val (.int p2), .val (.ref a1), .val (.int (4 : Int32)), .val (.int (1 : Int32)), .val (.int v1_a1)] [(.int p2), (.int v1_a1)])) _
        refine XS.icmpNo X0.here hx rfl (hb hby d2_23) rfl (teq hc23_2).2 ?_
        show Steps p.tables e below (s₁.setTop (mkF m 26 #[.val (.ref a1), .val (.int p2), .val (.ref a1), .val (.int (4 : Int32)), .val (.int (1 : Int32)), .val (.int v1_a1)] [])) _
        refine XS.iconst X0.here hx rfl (hb hby d2_26) ?_
        exact k
      obtain ⟨fs, hr, hrun, hended, hW, hsame⟩ := X0.leave (v := some (.int (1 : Int32))) (fun h => by rw [Bd.returns] at h; cases h)
      refine ⟨_, _, ?_, hrun, hended, _, _, rfl, ?_, ⟨_, rfl⟩, hW, hsame.mono (by decide) (by decide)⟩
      · exact retN X0 hx (t := .boolean) Bd.returns (by simp) (hb hby d2_27) hr
      · show Q2_4 Z a1 p2 k_a1 v0_a1 v1_a1 v2_a1 v3_a1 h0 n0 _ s₁.heap _
        rw [e0]
        exact ⟨(by simp only [r_2_4, if_neg hc23_1, if_pos hc23_2, own_narZ, own_narC, own_narB]), NN, rfl⟩
    · skip
      refine own_go (T' := s₁) (g' := (mkF m 11 #[.val (.ref a1), .val (.int p2), .val (.ref a1), .val (.int (4 : Int32)), .val (.int (2 : Int32)), .val (.int v1_a1)] [(.int (4 : Int32)), (.int (2 : Int32))])) (fun t k => ?_) ?_
      · show Steps p.tables e below (s₁.setTop (mkF m 23 #[.val (.ref a1), .val (.int p2), .val (.ref a1), .val (.int (4 : Int32)), .val (.int (1 : Int32)), .val (.int v1_a1)] [(.int p2), (.int v1_a1)])) _
        refine XS.icmpYes X0.here hx rfl (pc0 := 23) (pc' := 28) rfl (hb hby d2_23) rfl (feq hc23_2).2 (by decide) (by decide) ?_
        show Steps p.tables e below (s₁.setTop (mkF m 28 #[.val (.ref a1), .val (.int p2), .val (.ref a1), .val (.int (4 : Int32)), .val (.int (1 : Int32)), .val (.int v1_a1)] [])) _
        refine XS.iinc X0.here hx rfl (hb hby d2_28) rfl (l' := #[.val (.ref a1), .val (.int p2), .val (.ref a1), .val (.int (4 : Int32)), .val (.int (2 : Int32)), .val (.int v1_a1)]) rfl ?_
        show Steps p.tables e below (s₁.setTop (mkF m 31 #[.val (.ref a1), .val (.int p2), .val (.ref a1), .val (.int (4 : Int32)), .val (.int (2 : Int32)), .val (.int v1_a1)] [])) _
        refine XS.goto X0.here hx rfl (pc0 := 31) (pc' := 8) rfl (hb hby d2_31) (by decide) (by decide) ?_
        show Steps p.tables e below (s₁.setTop (mkF m 8 #[.val (.ref a1), .val (.int p2), .val (.ref a1), .val (.int (4 : Int32)), .val (.int (2 : Int32)), .val (.int v1_a1)] [])) _
        refine XS.iload X0.here hx rfl (hb hby d2_8) rfl ?_
        show Steps p.tables e below (s₁.setTop (mkF m 10 #[.val (.ref a1), .val (.int p2), .val (.ref a1), .val (.int (4 : Int32)), .val (.int (2 : Int32)), .val (.int v1_a1)] [(.int (2 : Int32))])) _
        refine XS.iloadN X0.here hx rfl (hb hby d2_10) rfl ?_
        exact k
      refine own_go (T' := s₁) (g' := (mkF m 17 #[.val (.ref a1), .val (.int p2), .val (.ref a1), .val (.int (4 : Int32)), .val (.int (2 : Int32)), .val (.int v1_a1)] [(.int (2 : Int32)), (.ref a1)])) (fun t k => ?_) ?_
      · show Steps p.tables e below (s₁.setTop (mkF m 11 #[.val (.ref a1), .val (.int p2), .val (.ref a1), .val (.int (4 : Int32)), .val (.int (2 : Int32)), .val (.int v1_a1)] [(.int (4 : Int32)), (.int (2 : Int32))])) _
        refine XS.icmpNo X0.here hx rfl (hb hby d2_11) rfl (tlt (by decide : (2 : Int32) < (4 : Int32))).2.1 ?_
        show Steps p.tables e below (s₁.setTop (mkF m 14 #[.val (.ref a1), .val (.int p2), .val (.ref a1), .val (.int (4 : Int32)), .val (.int (2 : Int32)), .val (.int v1_a1)] [])) _
        refine XS.aloadN X0.here hx rfl (hb hby d2_14) rfl rfl ?_
        show Steps p.tables e below (s₁.setTop (mkF m 15 #[.val (.ref a1), .val (.int p2), .val (.ref a1), .val (.int (4 : Int32)), .val (.int (2 : Int32)), .val (.int v1_a1)] [(.ref a1)])) _
        refine XS.iload X0.here hx rfl (hb hby d2_15) rfl ?_
        exact k
      have Vq := V_a1
      obtain ⟨cl3, Ar3, q3, Sz3, Ng3, Hs3, Gs3⟩ := Vq
      have hin3 : ¬ ((2 : Int32) < 0 ∨ cl3.slots.size ≤ ((2 : Int32)).toNatClampNeg) := inb_of Sz3 ⟨by decide, by decide⟩
      have hat3 : cl3.slots[((2 : Int32)).toNatClampNeg]? = some (.int v2_a1) := Hs3.at hin3 rfl
      refine own_go (fun t k => X0.iaload hx (j := (2 : Int32)) (v := (.int v2_a1)) (by rw [e0]; exact Ar3.1) (State.isArrayOf_alike hZ.alike Ar3.2.1) Ar3.2.2 hin3 hat3 (g := (mkF m 17 #[.val (.ref a1), .val (.int p2), .val (.ref a1), .val (.int (4 : Int32)), .val (.int (2 : Int32)), .val (.int v1_a1)] [(.int (2 : Int32)), (.ref a1)])) rfl rfl (hb hby d2_17) t k) ?_
      show own_Go p.tables e below _ s₁ (mkF m 18 #[.val (.ref a1), .val (.int p2), .val (.ref a1), .val (.int (4 : Int32)), .val (.int (2 : Int32)), .val (.int v1_a1)] [(.int v2_a1)])
      refine own_go (T' := s₁) (g' := (mkF m 23 #[.val (.ref a1), .val (.int p2), .val (.ref a1), .val (.int (4 : Int32)), .val (.int (2 : Int32)), .val (.int v2_a1)] [(.int p2), (.int v2_a1)])) (fun t k => ?_) ?_
      · show Steps p.tables e below (s₁.setTop (mkF m 18 #[.val (.ref a1), .val (.int p2), .val (.ref a1), .val (.int (4 : Int32)), .val (.int (2 : Int32)), .val (.int v1_a1)] [(.int v2_a1)])) _
        refine XS.istore X0.here hx rfl (hb hby d2_18) rfl (l' := #[.val (.ref a1), .val (.int p2), .val (.ref a1), .val (.int (4 : Int32)), .val (.int (2 : Int32)), .val (.int v2_a1)]) rfl ?_
        show Steps p.tables e below (s₁.setTop (mkF m 20 #[.val (.ref a1), .val (.int p2), .val (.ref a1), .val (.int (4 : Int32)), .val (.int (2 : Int32)), .val (.int v2_a1)] [])) _
        refine XS.iload X0.here hx rfl (hb hby d2_20) rfl ?_
        show Steps p.tables e below (s₁.setTop (mkF m 22 #[.val (.ref a1), .val (.int p2), .val (.ref a1), .val (.int (4 : Int32)), .val (.int (2 : Int32)), .val (.int v2_a1)] [(.int v2_a1)])) _
        refine XS.iloadN X0.here hx rfl (hb hby d2_22) rfl ?_
        exact k
      by_cases hc23_3 : v2_a1 = p2
      · skip
        refine own_go (T' := s₁) (g' := (mkF m 27 #[.val (.ref a1), .val (.int p2), .val (.ref a1), .val (.int (4 : Int32)), .val (.int (2 : Int32)), .val (.int v2_a1)] [(.int (1 : Int32))])) (fun t k => ?_) ?_
        · show Steps p.tables e below (s₁.setTop (mkF m 23 #[.val (.ref a1), .val (.int p2), .val (.ref a1), .val (.int (4 : Int32)), .val (.int (2 : Int32)), .val (.int v2_a1)] [(.int p2), (.int v2_a1)])) _
          refine XS.icmpNo X0.here hx rfl (hb hby d2_23) rfl (teq hc23_3).2 ?_
          show Steps p.tables e below (s₁.setTop (mkF m 26 #[.val (.ref a1), .val (.int p2), .val (.ref a1), .val (.int (4 : Int32)), .val (.int (2 : Int32)), .val (.int v2_a1)] [])) _
          refine XS.iconst X0.here hx rfl (hb hby d2_26) ?_
          exact k
        obtain ⟨fs, hr, hrun, hended, hW, hsame⟩ := X0.leave (v := some (.int (1 : Int32))) (fun h => by rw [Bd.returns] at h; cases h)
        refine ⟨_, _, ?_, hrun, hended, _, _, rfl, ?_, ⟨_, rfl⟩, hW, hsame.mono (by decide) (by decide)⟩
        · exact retN X0 hx (t := .boolean) Bd.returns (by simp) (hb hby d2_27) hr
        · show Q2_4 Z a1 p2 k_a1 v0_a1 v1_a1 v2_a1 v3_a1 h0 n0 _ s₁.heap _
          rw [e0]
          exact ⟨(by simp only [r_2_4, if_neg hc23_1, if_neg hc23_2, if_pos hc23_3, own_narZ, own_narC, own_narB]), NN, rfl⟩
      · skip
        refine own_go (T' := s₁) (g' := (mkF m 11 #[.val (.ref a1), .val (.int p2), .val (.ref a1), .val (.int (4 : Int32)), .val (.int (3 : Int32)), .val (.int v2_a1)] [(.int (4 : Int32)), (.int (3 : Int32))])) (fun t k => ?_) ?_
        · show Steps p.tables e below (s₁.setTop (mkF m 23 #[.val (.ref a1), .val (.int p2), .val (.ref a1), .val (.int (4 : Int32)), .val (.int (2 : Int32)), .val (.int v2_a1)] [(.int p2), (.int v2_a1)])) _
          refine XS.icmpYes X0.here hx rfl (pc0 := 23) (pc' := 28) rfl (hb hby d2_23) rfl (feq hc23_3).2 (by decide) (by decide) ?_
          show Steps p.tables e below (s₁.setTop (mkF m 28 #[.val (.ref a1), .val (.int p2), .val (.ref a1), .val (.int (4 : Int32)), .val (.int (2 : Int32)), .val (.int v2_a1)] [])) _
          refine XS.iinc X0.here hx rfl (hb hby d2_28) rfl (l' := #[.val (.ref a1), .val (.int p2), .val (.ref a1), .val (.int (4 : Int32)), .val (.int (3 : Int32)), .val (.int v2_a1)]) rfl ?_
          show Steps p.tables e below (s₁.setTop (mkF m 31 #[.val (.ref a1), .val (.int p2), .val (.ref a1), .val (.int (4 : Int32)), .val (.int (3 : Int32)), .val (.int v2_a1)] [])) _
          refine XS.goto X0.here hx rfl (pc0 := 31) (pc' := 8) rfl (hb hby d2_31) (by decide) (by decide) ?_
          show Steps p.tables e below (s₁.setTop (mkF m 8 #[.val (.ref a1), .val (.int p2), .val (.ref a1), .val (.int (4 : Int32)), .val (.int (3 : Int32)), .val (.int v2_a1)] [])) _
          refine XS.iload X0.here hx rfl (hb hby d2_8) rfl ?_
          show Steps p.tables e below (s₁.setTop (mkF m 10 #[.val (.ref a1), .val (.int p2), .val (.ref a1), .val (.int (4 : Int32)), .val (.int (3 : Int32)), .val (.int v2_a1)] [(.int (3 : Int32))])) _
          refine XS.iloadN X0.here hx rfl (hb hby d2_10) rfl ?_
          exact k
        refine own_go (T' := s₁) (g' := (mkF m 17 #[.val (.ref a1), .val (.int p2), .val (.ref a1), .val (.int (4 : Int32)), .val (.int (3 : Int32)), .val (.int v2_a1)] [(.int (3 : Int32)), (.ref a1)])) (fun t k => ?_) ?_
        · show Steps p.tables e below (s₁.setTop (mkF m 11 #[.val (.ref a1), .val (.int p2), .val (.ref a1), .val (.int (4 : Int32)), .val (.int (3 : Int32)), .val (.int v2_a1)] [(.int (4 : Int32)), (.int (3 : Int32))])) _
          refine XS.icmpNo X0.here hx rfl (hb hby d2_11) rfl (tlt (by decide : (3 : Int32) < (4 : Int32))).2.1 ?_
          show Steps p.tables e below (s₁.setTop (mkF m 14 #[.val (.ref a1), .val (.int p2), .val (.ref a1), .val (.int (4 : Int32)), .val (.int (3 : Int32)), .val (.int v2_a1)] [])) _
          refine XS.aloadN X0.here hx rfl (hb hby d2_14) rfl rfl ?_
          show Steps p.tables e below (s₁.setTop (mkF m 15 #[.val (.ref a1), .val (.int p2), .val (.ref a1), .val (.int (4 : Int32)), .val (.int (3 : Int32)), .val (.int v2_a1)] [(.ref a1)])) _
          refine XS.iload X0.here hx rfl (hb hby d2_15) rfl ?_
          exact k
        have Vq := V_a1
        obtain ⟨cl4, Ar4, q4, Sz4, Ng4, Hs4, Gs4⟩ := Vq
        have hin4 : ¬ ((3 : Int32) < 0 ∨ cl4.slots.size ≤ ((3 : Int32)).toNatClampNeg) := inb_of Sz4 ⟨by decide, by decide⟩
        have hat4 : cl4.slots[((3 : Int32)).toNatClampNeg]? = some (.int v3_a1) := Hs4.at hin4 rfl
        refine own_go (fun t k => X0.iaload hx (j := (3 : Int32)) (v := (.int v3_a1)) (by rw [e0]; exact Ar4.1) (State.isArrayOf_alike hZ.alike Ar4.2.1) Ar4.2.2 hin4 hat4 (g := (mkF m 17 #[.val (.ref a1), .val (.int p2), .val (.ref a1), .val (.int (4 : Int32)), .val (.int (3 : Int32)), .val (.int v2_a1)] [(.int (3 : Int32)), (.ref a1)])) rfl rfl (hb hby d2_17) t k) ?_
        show own_Go p.tables e below _ s₁ (mkF m 18 #[.val (.ref a1), .val (.int p2), .val (.ref a1), .val (.int (4 : Int32)), .val (.int (3 : Int32)), .val (.int v2_a1)] [(.int v3_a1)])
        refine own_go (T' := s₁) (g' := (mkF m 23 #[.val (.ref a1), .val (.int p2), .val (.ref a1), .val (.int (4 : Int32)), .val (.int (3 : Int32)), .val (.int v3_a1)] [(.int p2), (.int v3_a1)])) (fun t k => ?_) ?_
        · show Steps p.tables e below (s₁.setTop (mkF m 18 #[.val (.ref a1), .val (.int p2), .val (.ref a1), .val (.int (4 : Int32)), .val (.int (3 : Int32)), .val (.int v2_a1)] [(.int v3_a1)])) _
          refine XS.istore X0.here hx rfl (hb hby d2_18) rfl (l' := #[.val (.ref a1), .val (.int p2), .val (.ref a1), .val (.int (4 : Int32)), .val (.int (3 : Int32)), .val (.int v3_a1)]) rfl ?_
          show Steps p.tables e below (s₁.setTop (mkF m 20 #[.val (.ref a1), .val (.int p2), .val (.ref a1), .val (.int (4 : Int32)), .val (.int (3 : Int32)), .val (.int v3_a1)] [])) _
          refine XS.iload X0.here hx rfl (hb hby d2_20) rfl ?_
          show Steps p.tables e below (s₁.setTop (mkF m 22 #[.val (.ref a1), .val (.int p2), .val (.ref a1), .val (.int (4 : Int32)), .val (.int (3 : Int32)), .val (.int v3_a1)] [(.int v3_a1)])) _
          refine XS.iloadN X0.here hx rfl (hb hby d2_22) rfl ?_
          exact k
        by_cases hc23_4 : v3_a1 = p2
        · skip
          refine own_go (T' := s₁) (g' := (mkF m 27 #[.val (.ref a1), .val (.int p2), .val (.ref a1), .val (.int (4 : Int32)), .val (.int (3 : Int32)), .val (.int v3_a1)] [(.int (1 : Int32))])) (fun t k => ?_) ?_
          · show Steps p.tables e below (s₁.setTop (mkF m 23 #[.val (.ref a1), .val (.int p2), .val (.ref a1), .val (.int (4 : Int32)), .val (.int (3 : Int32)), .val (.int v3_a1)] [(.int p2), (.int v3_a1)])) _
            refine XS.icmpNo X0.here hx rfl (hb hby d2_23) rfl (teq hc23_4).2 ?_
            show Steps p.tables e below (s₁.setTop (mkF m 26 #[.val (.ref a1), .val (.int p2), .val (.ref a1), .val (.int (4 : Int32)), .val (.int (3 : Int32)), .val (.int v3_a1)] [])) _
            refine XS.iconst X0.here hx rfl (hb hby d2_26) ?_
            exact k
          obtain ⟨fs, hr, hrun, hended, hW, hsame⟩ := X0.leave (v := some (.int (1 : Int32))) (fun h => by rw [Bd.returns] at h; cases h)
          refine ⟨_, _, ?_, hrun, hended, _, _, rfl, ?_, ⟨_, rfl⟩, hW, hsame.mono (by decide) (by decide)⟩
          · exact retN X0 hx (t := .boolean) Bd.returns (by simp) (hb hby d2_27) hr
          · show Q2_4 Z a1 p2 k_a1 v0_a1 v1_a1 v2_a1 v3_a1 h0 n0 _ s₁.heap _
            rw [e0]
            exact ⟨(by simp only [r_2_4, if_neg hc23_1, if_neg hc23_2, if_neg hc23_3, if_pos hc23_4, own_narZ, own_narC, own_narB]), NN, rfl⟩
        · skip
          refine own_go (T' := s₁) (g' := (mkF m 11 #[.val (.ref a1), .val (.int p2), .val (.ref a1), .val (.int (4 : Int32)), .val (.int (4 : Int32)), .val (.int v3_a1)] [(.int (4 : Int32)), (.int (4 : Int32))])) (fun t k => ?_) ?_
          · show Steps p.tables e below (s₁.setTop (mkF m 23 #[.val (.ref a1), .val (.int p2), .val (.ref a1), .val (.int (4 : Int32)), .val (.int (3 : Int32)), .val (.int v3_a1)] [(.int p2), (.int v3_a1)])) _
            refine XS.icmpYes X0.here hx rfl (pc0 := 23) (pc' := 28) rfl (hb hby d2_23) rfl (feq hc23_4).2 (by decide) (by decide) ?_
            show Steps p.tables e below (s₁.setTop (mkF m 28 #[.val (.ref a1), .val (.int p2), .val (.ref a1), .val (.int (4 : Int32)), .val (.int (3 : Int32)), .val (.int v3_a1)] [])) _
            refine XS.iinc X0.here hx rfl (hb hby d2_28) rfl (l' := #[.val (.ref a1), .val (.int p2), .val (.ref a1), .val (.int (4 : Int32)), .val (.int (4 : Int32)), .val (.int v3_a1)]) rfl ?_
            show Steps p.tables e below (s₁.setTop (mkF m 31 #[.val (.ref a1), .val (.int p2), .val (.ref a1), .val (.int (4 : Int32)), .val (.int (4 : Int32)), .val (.int v3_a1)] [])) _
            refine XS.goto X0.here hx rfl (pc0 := 31) (pc' := 8) rfl (hb hby d2_31) (by decide) (by decide) ?_
            show Steps p.tables e below (s₁.setTop (mkF m 8 #[.val (.ref a1), .val (.int p2), .val (.ref a1), .val (.int (4 : Int32)), .val (.int (4 : Int32)), .val (.int v3_a1)] [])) _
            refine XS.iload X0.here hx rfl (hb hby d2_8) rfl ?_
            show Steps p.tables e below (s₁.setTop (mkF m 10 #[.val (.ref a1), .val (.int p2), .val (.ref a1), .val (.int (4 : Int32)), .val (.int (4 : Int32)), .val (.int v3_a1)] [(.int (4 : Int32))])) _
            refine XS.iloadN X0.here hx rfl (hb hby d2_10) rfl ?_
            exact k
          refine own_go (T' := s₁) (g' := (mkF m 35 #[.val (.ref a1), .val (.int p2), .val (.ref a1), .val (.int (4 : Int32)), .val (.int (4 : Int32)), .val (.int v3_a1)] [(.int (0 : Int32))])) (fun t k => ?_) ?_
          · show Steps p.tables e below (s₁.setTop (mkF m 11 #[.val (.ref a1), .val (.int p2), .val (.ref a1), .val (.int (4 : Int32)), .val (.int (4 : Int32)), .val (.int v3_a1)] [(.int (4 : Int32)), (.int (4 : Int32))])) _
            refine XS.icmpYes X0.here hx rfl (pc0 := 11) (pc' := 34) rfl (hb hby d2_11) rfl (flt (Int32.lt_irrefl)).2.1 (by decide) (by decide) ?_
            show Steps p.tables e below (s₁.setTop (mkF m 34 #[.val (.ref a1), .val (.int p2), .val (.ref a1), .val (.int (4 : Int32)), .val (.int (4 : Int32)), .val (.int v3_a1)] [])) _
            refine XS.iconst X0.here hx rfl (hb hby d2_34) ?_
            exact k
          obtain ⟨fs, hr, hrun, hended, hW, hsame⟩ := X0.leave (v := some (.int (0 : Int32))) (fun h => by rw [Bd.returns] at h; cases h)
          refine ⟨_, _, ?_, hrun, hended, _, _, rfl, ?_, ⟨_, rfl⟩, hW, hsame.mono (by decide) (by decide)⟩
          · exact retN X0 hx (t := .boolean) Bd.returns (by simp) (hb hby d2_35) hr
          · show Q2_4 Z a1 p2 k_a1 v0_a1 v1_a1 v2_a1 v3_a1 h0 n0 _ s₁.heap _
            rw [e0]
            exact ⟨(by simp only [r_2_4, if_neg hc23_1, if_neg hc23_2, if_neg hc23_3, if_neg hc23_4, own_narZ, own_narC, own_narB]), NN, rfl⟩
theorem own_pl_five (p : Int32) (j : Int32) (h : j = ((p &&& (7 : Int32)) % (5 : Int32))) : j = 0 ∨ j = 1 ∨ j = 2 ∨ j = 3 ∨ j = 4 := by
  have m := c_mask p (7 : Int32) 3 (by decide) (by decide)
  have g := (c_irem (p &&& (7 : Int32)) (5 : Int32) 5 rfl).1 (by omega)
  rw [← h] at g
  have k0 : (0 : Int32).toInt = 0 := rfl
  have k1 : (1 : Int32).toInt = 1 := rfl
  have k2 : (2 : Int32).toInt = 2 := rfl
  have k3 : (3 : Int32).toInt = 3 := rfl
  have k4 : (4 : Int32).toInt = 4 := rfl
  simp only [← Int32.toInt_inj]
  omega
theorem pd_0 : parseMethodDescriptor "(IIIII)[I" = some ⟨[.int, .int, .int, .int, .int], some (.array .int)⟩ := by decide +kernel
theorem pd_1 : parseMethodDescriptor "([II)Z" = some ⟨[(.array .int), .int], some .boolean⟩ := by decide +kernel
theorem ef_0 (m : MethodId) (p1 : Int32) (p2 : Int32) (p3 : Int32) (p4 : Int32) (p5 : Int32) (p6 : Int32) : entryFrame m #[(.int p1), (.int p2), (.int p3), (.int p4), (.int p5), (.int p6)] maxLocals = mkF m 0 #[.val (.int p1), .val (.int p2), .val (.int p3), .val (.int p4), .val (.int p5), .val (.int p6), .unset, .unset, .unset, .unset, .unset, .unset, .unset] [] := by first | (simp [entryFrame, mkF, argsToLocals, Value.category, maxLocals]; done) | rfl
def Q0 (Z : State) (p1 : Int32) (p2 : Int32) (p3 : Int32) (p4 : Int32) (p5 : Int32) (p6 : Int32) (h0 : Heap) (n0 : Nat) (v : Option Value) (h : Heap) (L : List Loc) : Prop := v = some (.int 1) ∧ Fr n0 L
theorem own_yes_0 (p1 : Int32) (p2 : Int32) (p3 : Int32) (p4 : Int32) (p5 : Int32) (p6 : Int32) (j2 : Int32) (j3 : Int32) (j7 : Int32) (j8 : Int32) (hj2 : j2 = (((p6.toUInt32 >>> ((3 : Int32) &&& 31).toUInt32).toInt32) &&& (7 : Int32))) (hj3 : j3 = (if j2 = (0 : Int32) then p1 else (if j2 = (1 : Int32) then p2 else (if j2 = (2 : Int32) then p3 else (if j2 = (3 : Int32) then p4 else p5))))) (hj7 : j7 = (r_2_0 j3)) (hj8 : j8 = (if j7 = (0 : Int32) then (1 : Int32) else (0 : Int32))) : (nar .boolean j8) = 1 := by
  have e : j7 = (0 : Int32) := hj7
  rw [hj8, if_pos e]
  rfl
theorem own_yes_1 (p1 : Int32) (p2 : Int32) (p3 : Int32) (p4 : Int32) (p5 : Int32) (p6 : Int32) (j2 : Int32) (j3 : Int32) (j11 : Int32) (j14 : Int32) (j16 : Int32) (hj2 : j2 = (((p6.toUInt32 >>> ((3 : Int32) &&& 31).toUInt32).toInt32) &&& (7 : Int32))) (hj3 : j3 = (if j2 = (0 : Int32) then p1 else (if j2 = (1 : Int32) then p2 else (if j2 = (2 : Int32) then p3 else (if j2 = (3 : Int32) then p4 else p5))))) (hj11 : j11 = (if p1 = j3 then (1 : Int32) else (0 : Int32))) (hj14 : j14 = (r_2_1 j3 p1)) (hj16 : j16 = (if j14 = j11 then (1 : Int32) else (0 : Int32))) : (nar .boolean j16) = 1 := by
  have e : j14 = j11 := by rw [hj14, hj11]; rfl
  rw [hj16, if_pos e]
  rfl
theorem own_yes_2 (p1 : Int32) (p2 : Int32) (p3 : Int32) (p4 : Int32) (p5 : Int32) (p6 : Int32) (j2 : Int32) (j3 : Int32) (j19 : Int32) (j22 : Int32) (j25 : Int32) (hj2 : j2 = (((p6.toUInt32 >>> ((3 : Int32) &&& 31).toUInt32).toInt32) &&& (7 : Int32))) (hj3 : j3 = (if j2 = (0 : Int32) then p1 else (if j2 = (1 : Int32) then p2 else (if j2 = (2 : Int32) then p3 else (if j2 = (3 : Int32) then p4 else p5))))) (hj19 : j19 = (if p1 = j3 then (1 : Int32) else (if p2 = j3 then (1 : Int32) else (0 : Int32)))) (hj22 : j22 = (r_2_2 j3 p1 p2)) (hj25 : j25 = (if j22 = j19 then (1 : Int32) else (0 : Int32))) : (nar .boolean j25) = 1 := by
  have e : j22 = j19 := by rw [hj22, hj19]; rfl
  rw [hj25, if_pos e]
  rfl
theorem own_yes_3 (p1 : Int32) (p2 : Int32) (p3 : Int32) (p4 : Int32) (p5 : Int32) (p6 : Int32) (j2 : Int32) (j3 : Int32) (j28 : Int32) (j31 : Int32) (j35 : Int32) (hj2 : j2 = (((p6.toUInt32 >>> ((3 : Int32) &&& 31).toUInt32).toInt32) &&& (7 : Int32))) (hj3 : j3 = (if j2 = (0 : Int32) then p1 else (if j2 = (1 : Int32) then p2 else (if j2 = (2 : Int32) then p3 else (if j2 = (3 : Int32) then p4 else p5))))) (hj28 : j28 = (if p1 = j3 then (1 : Int32) else (if p2 = j3 then (1 : Int32) else (if p3 = j3 then (1 : Int32) else (0 : Int32))))) (hj31 : j31 = (r_2_3 j3 p1 p2 p3)) (hj35 : j35 = (if j31 = j28 then (1 : Int32) else (0 : Int32))) : (nar .boolean j35) = 1 := by
  have e : j31 = j28 := by rw [hj31, hj28]; rfl
  rw [hj35, if_pos e]
  rfl
theorem own_yes_4 (p1 : Int32) (p2 : Int32) (p3 : Int32) (p4 : Int32) (p5 : Int32) (p6 : Int32) (j2 : Int32) (j3 : Int32) (j38 : Int32) (j41 : Int32) (j46 : Int32) (hj2 : j2 = (((p6.toUInt32 >>> ((3 : Int32) &&& 31).toUInt32).toInt32) &&& (7 : Int32))) (hj3 : j3 = (if j2 = (0 : Int32) then p1 else (if j2 = (1 : Int32) then p2 else (if j2 = (2 : Int32) then p3 else (if j2 = (3 : Int32) then p4 else p5))))) (hj38 : j38 = (if p1 = j3 then (1 : Int32) else (if p2 = j3 then (1 : Int32) else (if p3 = j3 then (1 : Int32) else (if p4 = j3 then (1 : Int32) else (0 : Int32)))))) (hj41 : j41 = (r_2_4 j3 p1 p2 p3 p4)) (hj46 : j46 = (if j41 = j38 then (1 : Int32) else (0 : Int32))) : (nar .boolean j46) = 1 := by
  have e : j41 = j38 := by rw [hj41, hj38]; rfl
  rw [hj46, if_pos e]
  rfl
set_option maxRecDepth 65536 in
set_option maxHeartbeats 40000000 in
theorem rm0 (l : Launch) (Z : State) (a0 : Array Value) (hw : ∀ d ∈ tables_1, d.before a0 Z = true) (ws : List Jvm.Cond) (p1 : Int32) (p2 : Int32) (p3 : Int32) (p4 : Int32) (p5 : Int32) (p6 : Int32) (h0 : Heap) (n0 : Nat) (Z0 : n0 ≤ h0.size) :
    MetFree l x (head1 (Jvm.Cond.code x code maxLocals ret :: ws) room_1) (fun a U => a = #[(.int p1), (.int p2), (.int p3), (.int p4), (.int p5), (.int p6)] ∧ Z.Warmed39 U.vm ∧ U.heap = h0) (fun _ _ _ _ _ => True) (fun _ U o U' => ∃ v L, o = .returned v ∧ Q0 Z p1 p2 p3 p4 p5 p6 h0 n0 v U'.heap L ∧ FrameEnd U o U' L room_1.cells room_1.slots) := by
  refine MetFree.of_bodySF (plainFor_of_name pn_0) hisR ?_
  intro p e s m args below meth c s₁ Bd hml0 hP hK
  obtain ⟨rfl, hZ, hh⟩ := hP
  have hx := Bd.exec
  have hby := Bd.bytes
  have hml : c.maxLocals = 13 := hml0
  have hown : s.vm.findClass "com/example/hopline/hopline/core/NodeStoreHasLabelPinLaw" = some m.cls := findClass_of_methodNamed Bd.named
  have hnm := (name_of_methodNamed Bd.named Bd.method).1
  have X0 : Stand p l e room_1 s m #[(.int p1), (.int p2), (.int p3), (.int p4), (.int p5), (.int p6)] below meth c s₁ [] 0 0 := Stand.of_body Bd
  have e0 : s₁.heap = h0 := by rw [← hh, Bd.state]; rfl
  have NN := Fr.nil n0
  have KK : Keep h0 h0 [] := Keep.refl h0 []
  refine own_start (ef_0 m p1 p2 p3 p4 p5 p6) ?_
  refine own_go (T' := s₁) (g' := (mkF m 9 #[.val (.int p1), .val (.int p2), .val (.int p3), .val (.int p4), .val (.int p5), .val (.int p6), .val (.int ((p6 &&& (7 : Int32)) % (5 : Int32))), .unset, .unset, .unset, .unset, .unset, .unset] [])) (fun t k => ?_) ?_
  · show Steps p.tables e below (s₁.setTop (mkF m 0 #[.val (.int p1), .val (.int p2), .val (.int p3), .val (.int p4), .val (.int p5), .val (.int p6), .unset, .unset, .unset, .unset, .unset, .unset, .unset] [])) _
    refine XS.iload X0.here hx rfl (hb hby at_0) rfl ?_
    show Steps p.tables e below (s₁.setTop (mkF m 2 #[.val (.int p1), .val (.int p2), .val (.int p3), .val (.int p4), .val (.int p5), .val (.int p6), .unset, .unset, .unset, .unset, .unset, .unset, .unset] [(.int p6)])) _
    refine XS.bipush X0.here hx rfl (hb hby at_2) ?_
    show Steps p.tables e below (s₁.setTop (mkF m 4 #[.val (.int p1), .val (.int p2), .val (.int p3), .val (.int p4), .val (.int p5), .val (.int p6), .unset, .unset, .unset, .unset, .unset, .unset, .unset] [(.int (7 : Int32)), (.int p6)])) _
    refine XS.iand X0.here hx rfl (hb hby at_4) rfl ?_
    show Steps p.tables e below (s₁.setTop (mkF m 5 #[.val (.int p1), .val (.int p2), .val (.int p3), .val (.int p4), .val (.int p5), .val (.int p6), .unset, .unset, .unset, .unset, .unset, .unset, .unset] [(.int (p6 &&& (7 : Int32)))])) _
    refine XS.iconst X0.here hx rfl (hb hby at_5) ?_
    show Steps p.tables e below (s₁.setTop (mkF m 6 #[.val (.int p1), .val (.int p2), .val (.int p3), .val (.int p4), .val (.int p5), .val (.int p6), .unset, .unset, .unset, .unset, .unset, .unset, .unset] [(.int (5 : Int32)), (.int (p6 &&& (7 : Int32)))])) _
    refine iremM X0 hx rfl (hb hby at_6) rfl (by decide) ?_
    show Steps p.tables e below (s₁.setTop (mkF m 7 #[.val (.int p1), .val (.int p2), .val (.int p3), .val (.int p4), .val (.int p5), .val (.int p6), .unset, .unset, .unset, .unset, .unset, .unset, .unset] [(.int ((p6 &&& (7 : Int32)) % (5 : Int32)))])) _
    refine XS.istore X0.here hx rfl (hb hby at_7) rfl (l' := #[.val (.int p1), .val (.int p2), .val (.int p3), .val (.int p4), .val (.int p5), .val (.int p6), .val (.int ((p6 &&& (7 : Int32)) % (5 : Int32))), .unset, .unset, .unset, .unset, .unset, .unset]) rfl ?_
    exact k
  show own_Go p.tables e below _ s₁ (mkF m 9 #[.val (.int p1), .val (.int p2), .val (.int p3), .val (.int p4), .val (.int p5), .val (.int p6), .val (.int ((p6 &&& (7 : Int32)) % (5 : Int32))), .unset, .unset, .unset, .unset, .unset, .unset] [])
  obtain ⟨j1, hj1⟩ : ∃ z : Int32, z = ((p6 &&& (7 : Int32)) % (5 : Int32)) := ⟨_, rfl⟩
  rw [← hj1]
  show own_Go p.tables e below _ s₁ (mkF m 9 #[.val (.int p1), .val (.int p2), .val (.int p3), .val (.int p4), .val (.int p5), .val (.int p6), .val (.int j1), .unset, .unset, .unset, .unset, .unset, .unset] [])
  refine own_go (T' := s₁) (g' := (mkF m 18 #[.val (.int p1), .val (.int p2), .val (.int p3), .val (.int p4), .val (.int p5), .val (.int p6), .val (.int j1), .val (.int (((p6.toUInt32 >>> ((3 : Int32) &&& 31).toUInt32).toInt32) &&& (7 : Int32))), .unset, .unset, .unset, .unset, .unset] [])) (fun t k => ?_) ?_
  · show Steps p.tables e below (s₁.setTop (mkF m 9 #[.val (.int p1), .val (.int p2), .val (.int p3), .val (.int p4), .val (.int p5), .val (.int p6), .val (.int j1), .unset, .unset, .unset, .unset, .unset, .unset] [])) _
    refine XS.iload X0.here hx rfl (hb hby at_9) rfl ?_
    show Steps p.tables e below (s₁.setTop (mkF m 11 #[.val (.int p1), .val (.int p2), .val (.int p3), .val (.int p4), .val (.int p5), .val (.int p6), .val (.int j1), .unset, .unset, .unset, .unset, .unset, .unset] [(.int p6)])) _
    refine XS.iconst X0.here hx rfl (hb hby at_11) ?_
    show Steps p.tables e below (s₁.setTop (mkF m 12 #[.val (.int p1), .val (.int p2), .val (.int p3), .val (.int p4), .val (.int p5), .val (.int p6), .val (.int j1), .unset, .unset, .unset, .unset, .unset, .unset] [(.int (3 : Int32)), (.int p6)])) _
    refine XS.iushr X0.here hx rfl (hb hby at_12) rfl ?_
    show Steps p.tables e below (s₁.setTop (mkF m 13 #[.val (.int p1), .val (.int p2), .val (.int p3), .val (.int p4), .val (.int p5), .val (.int p6), .val (.int j1), .unset, .unset, .unset, .unset, .unset, .unset] [(.int ((p6.toUInt32 >>> ((3 : Int32) &&& 31).toUInt32).toInt32))])) _
    refine XS.bipush X0.here hx rfl (hb hby at_13) ?_
    show Steps p.tables e below (s₁.setTop (mkF m 15 #[.val (.int p1), .val (.int p2), .val (.int p3), .val (.int p4), .val (.int p5), .val (.int p6), .val (.int j1), .unset, .unset, .unset, .unset, .unset, .unset] [(.int (7 : Int32)), (.int ((p6.toUInt32 >>> ((3 : Int32) &&& 31).toUInt32).toInt32))])) _
    refine XS.iand X0.here hx rfl (hb hby at_15) rfl ?_
    show Steps p.tables e below (s₁.setTop (mkF m 16 #[.val (.int p1), .val (.int p2), .val (.int p3), .val (.int p4), .val (.int p5), .val (.int p6), .val (.int j1), .unset, .unset, .unset, .unset, .unset, .unset] [(.int (((p6.toUInt32 >>> ((3 : Int32) &&& 31).toUInt32).toInt32) &&& (7 : Int32)))])) _
    refine XS.istore X0.here hx rfl (hb hby at_16) rfl (l' := #[.val (.int p1), .val (.int p2), .val (.int p3), .val (.int p4), .val (.int p5), .val (.int p6), .val (.int j1), .val (.int (((p6.toUInt32 >>> ((3 : Int32) &&& 31).toUInt32).toInt32) &&& (7 : Int32))), .unset, .unset, .unset, .unset, .unset]) rfl ?_
    exact k
  show own_Go p.tables e below _ s₁ (mkF m 18 #[.val (.int p1), .val (.int p2), .val (.int p3), .val (.int p4), .val (.int p5), .val (.int p6), .val (.int j1), .val (.int (((p6.toUInt32 >>> ((3 : Int32) &&& 31).toUInt32).toInt32) &&& (7 : Int32))), .unset, .unset, .unset, .unset, .unset] [])
  obtain ⟨j2, hj2⟩ : ∃ z : Int32, z = (((p6.toUInt32 >>> ((3 : Int32) &&& 31).toUInt32).toInt32) &&& (7 : Int32)) := ⟨_, rfl⟩
  rw [← hj2]
  show own_Go p.tables e below _ s₁ (mkF m 18 #[.val (.int p1), .val (.int p2), .val (.int p3), .val (.int p4), .val (.int p5), .val (.int p6), .val (.int j1), .val (.int j2), .unset, .unset, .unset, .unset, .unset] [])
  refine own_go (T' := s₁) (g' := (mkF m 20 #[.val (.int p1), .val (.int p2), .val (.int p3), .val (.int p4), .val (.int p5), .val (.int p6), .val (.int j1), .val (.int j2), .unset, .unset, .unset, .unset, .unset] [(.int j2)])) (fun t k => ?_) ?_
  · show Steps p.tables e below (s₁.setTop (mkF m 18 #[.val (.int p1), .val (.int p2), .val (.int p3), .val (.int p4), .val (.int p5), .val (.int p6), .val (.int j1), .val (.int j2), .unset, .unset, .unset, .unset, .unset] [])) _
    refine XS.iload X0.here hx rfl (hb hby at_18) rfl ?_
    exact k
  obtain ⟨j3, hj3, st4⟩ : ∃ (j3 : Int32), j3 = (if j2 = (0 : Int32) then p1 else (if j2 = (1 : Int32) then p2 else (if j2 = (2 : Int32) then p3 else (if j2 = (3 : Int32) then p4 else p5)))) ∧ ∀ t, Steps p.tables e below (s₁.setTop (mkF m 69 #[.val (.int p1), .val (.int p2), .val (.int p3), .val (.int p4), .val (.int p5), .val (.int p6), .val (.int j1), .val (.int j2), .val (.int j3), .unset, .unset, .unset, .unset] [])) t → Steps p.tables e below (s₁.setTop (mkF m 20 #[.val (.int p1), .val (.int p2), .val (.int p3), .val (.int p4), .val (.int p5), .val (.int p6), .val (.int j1), .val (.int j2), .unset, .unset, .unset, .unset, .unset] [(.int j2)])) t := by
    by_cases hc20_1 : j2 = (0 : Int32)
    · skip
      refine ⟨p1, (by simp only [if_pos hc20_1]), fun t k => ?_⟩
      show Steps p.tables e below (s₁.setTop (mkF m 20 #[.val (.int p1), .val (.int p2), .val (.int p3), .val (.int p4), .val (.int p5), .val (.int p6), .val (.int j1), .val (.int j2), .unset, .unset, .unset, .unset, .unset] [(.int j2)])) _
      refine XS.ifNo X0.here hx rfl (hb hby at_20) rfl ((if0 _ _).trans (teq hc20_1).2) ?_
      show Steps p.tables e below (s₁.setTop (mkF m 23 #[.val (.int p1), .val (.int p2), .val (.int p3), .val (.int p4), .val (.int p5), .val (.int p6), .val (.int j1), .val (.int j2), .unset, .unset, .unset, .unset, .unset] [])) _
      refine XS.iloadN X0.here hx rfl (hb hby at_23) rfl ?_
      show Steps p.tables e below (s₁.setTop (mkF m 24 #[.val (.int p1), .val (.int p2), .val (.int p3), .val (.int p4), .val (.int p5), .val (.int p6), .val (.int j1), .val (.int j2), .unset, .unset, .unset, .unset, .unset] [(.int p1)])) _
      refine XS.istore X0.here hx rfl (hb hby at_24) rfl (l' := #[.val (.int p1), .val (.int p2), .val (.int p3), .val (.int p4), .val (.int p5), .val (.int p6), .val (.int j1), .val (.int j2), .val (.int p1), .unset, .unset, .unset, .unset]) rfl ?_
      show Steps p.tables e below (s₁.setTop (mkF m 26 #[.val (.int p1), .val (.int p2), .val (.int p3), .val (.int p4), .val (.int p5), .val (.int p6), .val (.int j1), .val (.int j2), .val (.int p1), .unset, .unset, .unset, .unset] [])) _
      refine XS.goto X0.here hx rfl (pc0 := 26) (pc' := 69) rfl (hb hby at_26) (by decide) (by decide) ?_
      exact k
    · skip
      by_cases hc32_2 : j2 = (1 : Int32)
      · skip
        refine ⟨p2, (by simp only [if_neg hc20_1, if_pos hc32_2]), fun t k => ?_⟩
        show Steps p.tables e below (s₁.setTop (mkF m 20 #[.val (.int p1), .val (.int p2), .val (.int p3), .val (.int p4), .val (.int p5), .val (.int p6), .val (.int j1), .val (.int j2), .unset, .unset, .unset, .unset, .unset] [(.int j2)])) _
        refine XS.ifYes X0.here hx rfl (pc0 := 20) (pc' := 29) rfl (hb hby at_20) rfl ((if0 _ _).trans (feq hc20_1).2) (by decide) (by decide) ?_
        show Steps p.tables e below (s₁.setTop (mkF m 29 #[.val (.int p1), .val (.int p2), .val (.int p3), .val (.int p4), .val (.int p5), .val (.int p6), .val (.int j1), .val (.int j2), .unset, .unset, .unset, .unset, .unset] [])) _
        refine XS.iload X0.here hx rfl (hb hby at_29) rfl ?_
        show Steps p.tables e below (s₁.setTop (mkF m 31 #[.val (.int p1), .val (.int p2), .val (.int p3), .val (.int p4), .val (.int p5), .val (.int p6), .val (.int j1), .val (.int j2), .unset, .unset, .unset, .unset, .unset] [(.int j2)])) _
        refine XS.iconst X0.here hx rfl (hb hby at_31) ?_
        show Steps p.tables e below (s₁.setTop (mkF m 32 #[.val (.int p1), .val (.int p2), .val (.int p3), .val (.int p4), .val (.int p5), .val (.int p6), .val (.int j1), .val (.int j2), .unset, .unset, .unset, .unset, .unset] [(.int (1 : Int32)), (.int j2)])) _
        refine XS.icmpNo X0.here hx rfl (hb hby at_32) rfl (teq hc32_2).2 ?_
        show Steps p.tables e below (s₁.setTop (mkF m 35 #[.val (.int p1), .val (.int p2), .val (.int p3), .val (.int p4), .val (.int p5), .val (.int p6), .val (.int j1), .val (.int j2), .unset, .unset, .unset, .unset, .unset] [])) _
        refine XS.iloadN X0.here hx rfl (hb hby at_35) rfl ?_
        show Steps p.tables e below (s₁.setTop (mkF m 36 #[.val (.int p1), .val (.int p2), .val (.int p3), .val (.int p4), .val (.int p5), .val (.int p6), .val (.int j1), .val (.int j2), .unset, .unset, .unset, .unset, .unset] [(.int p2)])) _
        refine XS.istore X0.here hx rfl (hb hby at_36) rfl (l' := #[.val (.int p1), .val (.int p2), .val (.int p3), .val (.int p4), .val (.int p5), .val (.int p6), .val (.int j1), .val (.int j2), .val (.int p2), .unset, .unset, .unset, .unset]) rfl ?_
        show Steps p.tables e below (s₁.setTop (mkF m 38 #[.val (.int p1), .val (.int p2), .val (.int p3), .val (.int p4), .val (.int p5), .val (.int p6), .val (.int j1), .val (.int j2), .val (.int p2), .unset, .unset, .unset, .unset] [])) _
        refine XS.goto X0.here hx rfl (pc0 := 38) (pc' := 69) rfl (hb hby at_38) (by decide) (by decide) ?_
        exact k
      · skip
        by_cases hc44_3 : j2 = (2 : Int32)
        · skip
          refine ⟨p3, (by simp only [if_neg hc20_1, if_neg hc32_2, if_pos hc44_3]), fun t k => ?_⟩
          show Steps p.tables e below (s₁.setTop (mkF m 20 #[.val (.int p1), .val (.int p2), .val (.int p3), .val (.int p4), .val (.int p5), .val (.int p6), .val (.int j1), .val (.int j2), .unset, .unset, .unset, .unset, .unset] [(.int j2)])) _
          refine XS.ifYes X0.here hx rfl (pc0 := 20) (pc' := 29) rfl (hb hby at_20) rfl ((if0 _ _).trans (feq hc20_1).2) (by decide) (by decide) ?_
          show Steps p.tables e below (s₁.setTop (mkF m 29 #[.val (.int p1), .val (.int p2), .val (.int p3), .val (.int p4), .val (.int p5), .val (.int p6), .val (.int j1), .val (.int j2), .unset, .unset, .unset, .unset, .unset] [])) _
          refine XS.iload X0.here hx rfl (hb hby at_29) rfl ?_
          show Steps p.tables e below (s₁.setTop (mkF m 31 #[.val (.int p1), .val (.int p2), .val (.int p3), .val (.int p4), .val (.int p5), .val (.int p6), .val (.int j1), .val (.int j2), .unset, .unset, .unset, .unset, .unset] [(.int j2)])) _
          refine XS.iconst X0.here hx rfl (hb hby at_31) ?_
          show Steps p.tables e below (s₁.setTop (mkF m 32 #[.val (.int p1), .val (.int p2), .val (.int p3), .val (.int p4), .val (.int p5), .val (.int p6), .val (.int j1), .val (.int j2), .unset, .unset, .unset, .unset, .unset] [(.int (1 : Int32)), (.int j2)])) _
          refine XS.icmpYes X0.here hx rfl (pc0 := 32) (pc' := 41) rfl (hb hby at_32) rfl (feq hc32_2).2 (by decide) (by decide) ?_
          show Steps p.tables e below (s₁.setTop (mkF m 41 #[.val (.int p1), .val (.int p2), .val (.int p3), .val (.int p4), .val (.int p5), .val (.int p6), .val (.int j1), .val (.int j2), .unset, .unset, .unset, .unset, .unset] [])) _
          refine XS.iload X0.here hx rfl (hb hby at_41) rfl ?_
          show Steps p.tables e below (s₁.setTop (mkF m 43 #[.val (.int p1), .val (.int p2), .val (.int p3), .val (.int p4), .val (.int p5), .val (.int p6), .val (.int j1), .val (.int j2), .unset, .unset, .unset, .unset, .unset] [(.int j2)])) _
          refine XS.iconst X0.here hx rfl (hb hby at_43) ?_
          show Steps p.tables e below (s₁.setTop (mkF m 44 #[.val (.int p1), .val (.int p2), .val (.int p3), .val (.int p4), .val (.int p5), .val (.int p6), .val (.int j1), .val (.int j2), .unset, .unset, .unset, .unset, .unset] [(.int (2 : Int32)), (.int j2)])) _
          refine XS.icmpNo X0.here hx rfl (hb hby at_44) rfl (teq hc44_3).2 ?_
          show Steps p.tables e below (s₁.setTop (mkF m 47 #[.val (.int p1), .val (.int p2), .val (.int p3), .val (.int p4), .val (.int p5), .val (.int p6), .val (.int j1), .val (.int j2), .unset, .unset, .unset, .unset, .unset] [])) _
          refine XS.iloadN X0.here hx rfl (hb hby at_47) rfl ?_
          show Steps p.tables e below (s₁.setTop (mkF m 48 #[.val (.int p1), .val (.int p2), .val (.int p3), .val (.int p4), .val (.int p5), .val (.int p6), .val (.int j1), .val (.int j2), .unset, .unset, .unset, .unset, .unset] [(.int p3)])) _
          refine XS.istore X0.here hx rfl (hb hby at_48) rfl (l' := #[.val (.int p1), .val (.int p2), .val (.int p3), .val (.int p4), .val (.int p5), .val (.int p6), .val (.int j1), .val (.int j2), .val (.int p3), .unset, .unset, .unset, .unset]) rfl ?_
          show Steps p.tables e below (s₁.setTop (mkF m 50 #[.val (.int p1), .val (.int p2), .val (.int p3), .val (.int p4), .val (.int p5), .val (.int p6), .val (.int j1), .val (.int j2), .val (.int p3), .unset, .unset, .unset, .unset] [])) _
          refine XS.goto X0.here hx rfl (pc0 := 50) (pc' := 69) rfl (hb hby at_50) (by decide) (by decide) ?_
          exact k
        · skip
          by_cases hc56_4 : j2 = (3 : Int32)
          · skip
            refine ⟨p4, (by simp only [if_neg hc20_1, if_neg hc32_2, if_neg hc44_3, if_pos hc56_4]), fun t k => ?_⟩
            show Steps p.tables e below (s₁.setTop (mkF m 20 #[.val (.int p1), .val (.int p2), .val (.int p3), .val (.int p4), .val (.int p5), .val (.int p6), .val (.int j1), .val (.int j2), .unset, .unset, .unset, .unset, .unset] [(.int j2)])) _
            refine XS.ifYes X0.here hx rfl (pc0 := 20) (pc' := 29) rfl (hb hby at_20) rfl ((if0 _ _).trans (feq hc20_1).2) (by decide) (by decide) ?_
            show Steps p.tables e below (s₁.setTop (mkF m 29 #[.val (.int p1), .val (.int p2), .val (.int p3), .val (.int p4), .val (.int p5), .val (.int p6), .val (.int j1), .val (.int j2), .unset, .unset, .unset, .unset, .unset] [])) _
            refine XS.iload X0.here hx rfl (hb hby at_29) rfl ?_
            show Steps p.tables e below (s₁.setTop (mkF m 31 #[.val (.int p1), .val (.int p2), .val (.int p3), .val (.int p4), .val (.int p5), .val (.int p6), .val (.int j1), .val (.int j2), .unset, .unset, .unset, .unset, .unset] [(.int j2)])) _
            refine XS.iconst X0.here hx rfl (hb hby at_31) ?_
            show Steps p.tables e below (s₁.setTop (mkF m 32 #[.val (.int p1), .val (.int p2), .val (.int p3), .val (.int p4), .val (.int p5), .val (.int p6), .val (.int j1), .val (.int j2), .unset, .unset, .unset, .unset, .unset] [(.int (1 : Int32)), (.int j2)])) _
            refine XS.icmpYes X0.here hx rfl (pc0 := 32) (pc' := 41) rfl (hb hby at_32) rfl (feq hc32_2).2 (by decide) (by decide) ?_
            show Steps p.tables e below (s₁.setTop (mkF m 41 #[.val (.int p1), .val (.int p2), .val (.int p3), .val (.int p4), .val (.int p5), .val (.int p6), .val (.int j1), .val (.int j2), .unset, .unset, .unset, .unset, .unset] [])) _
            refine XS.iload X0.here hx rfl (hb hby at_41) rfl ?_
            show Steps p.tables e below (s₁.setTop (mkF m 43 #[.val (.int p1), .val (.int p2), .val (.int p3), .val (.int p4), .val (.int p5), .val (.int p6), .val (.int j1), .val (.int j2), .unset, .unset, .unset, .unset, .unset] [(.int j2)])) _
            refine XS.iconst X0.here hx rfl (hb hby at_43) ?_
            show Steps p.tables e below (s₁.setTop (mkF m 44 #[.val (.int p1), .val (.int p2), .val (.int p3), .val (.int p4), .val (.int p5), .val (.int p6), .val (.int j1), .val (.int j2), .unset, .unset, .unset, .unset, .unset] [(.int (2 : Int32)), (.int j2)])) _
            refine XS.icmpYes X0.here hx rfl (pc0 := 44) (pc' := 53) rfl (hb hby at_44) rfl (feq hc44_3).2 (by decide) (by decide) ?_
            show Steps p.tables e below (s₁.setTop (mkF m 53 #[.val (.int p1), .val (.int p2), .val (.int p3), .val (.int p4), .val (.int p5), .val (.int p6), .val (.int j1), .val (.int j2), .unset, .unset, .unset, .unset, .unset] [])) _
            refine XS.iload X0.here hx rfl (hb hby at_53) rfl ?_
            show Steps p.tables e below (s₁.setTop (mkF m 55 #[.val (.int p1), .val (.int p2), .val (.int p3), .val (.int p4), .val (.int p5), .val (.int p6), .val (.int j1), .val (.int j2), .unset, .unset, .unset, .unset, .unset] [(.int j2)])) _
            refine XS.iconst X0.here hx rfl (hb hby at_55) ?_
            show Steps p.tables e below (s₁.setTop (mkF m 56 #[.val (.int p1), .val (.int p2), .val (.int p3), .val (.int p4), .val (.int p5), .val (.int p6), .val (.int j1), .val (.int j2), .unset, .unset, .unset, .unset, .unset] [(.int (3 : Int32)), (.int j2)])) _
            refine XS.icmpNo X0.here hx rfl (hb hby at_56) rfl (teq hc56_4).2 ?_
            show Steps p.tables e below (s₁.setTop (mkF m 59 #[.val (.int p1), .val (.int p2), .val (.int p3), .val (.int p4), .val (.int p5), .val (.int p6), .val (.int j1), .val (.int j2), .unset, .unset, .unset, .unset, .unset] [])) _
            refine XS.iloadN X0.here hx rfl (hb hby at_59) rfl ?_
            show Steps p.tables e below (s₁.setTop (mkF m 60 #[.val (.int p1), .val (.int p2), .val (.int p3), .val (.int p4), .val (.int p5), .val (.int p6), .val (.int j1), .val (.int j2), .unset, .unset, .unset, .unset, .unset] [(.int p4)])) _
            refine XS.istore X0.here hx rfl (hb hby at_60) rfl (l' := #[.val (.int p1), .val (.int p2), .val (.int p3), .val (.int p4), .val (.int p5), .val (.int p6), .val (.int j1), .val (.int j2), .val (.int p4), .unset, .unset, .unset, .unset]) rfl ?_
            show Steps p.tables e below (s₁.setTop (mkF m 62 #[.val (.int p1), .val (.int p2), .val (.int p3), .val (.int p4), .val (.int p5), .val (.int p6), .val (.int j1), .val (.int j2), .val (.int p4), .unset, .unset, .unset, .unset] [])) _
            refine XS.goto X0.here hx rfl (pc0 := 62) (pc' := 69) rfl (hb hby at_62) (by decide) (by decide) ?_
            exact k
          · skip
            refine ⟨p5, (by simp only [if_neg hc20_1, if_neg hc32_2, if_neg hc44_3, if_neg hc56_4]), fun t k => ?_⟩
            show Steps p.tables e below (s₁.setTop (mkF m 20 #[.val (.int p1), .val (.int p2), .val (.int p3), .val (.int p4), .val (.int p5), .val (.int p6), .val (.int j1), .val (.int j2), .unset, .unset, .unset, .unset, .unset] [(.int j2)])) _
            refine XS.ifYes X0.here hx rfl (pc0 := 20) (pc' := 29) rfl (hb hby at_20) rfl ((if0 _ _).trans (feq hc20_1).2) (by decide) (by decide) ?_
            show Steps p.tables e below (s₁.setTop (mkF m 29 #[.val (.int p1), .val (.int p2), .val (.int p3), .val (.int p4), .val (.int p5), .val (.int p6), .val (.int j1), .val (.int j2), .unset, .unset, .unset, .unset, .unset] [])) _
            refine XS.iload X0.here hx rfl (hb hby at_29) rfl ?_
            show Steps p.tables e below (s₁.setTop (mkF m 31 #[.val (.int p1), .val (.int p2), .val (.int p3), .val (.int p4), .val (.int p5), .val (.int p6), .val (.int j1), .val (.int j2), .unset, .unset, .unset, .unset, .unset] [(.int j2)])) _
            refine XS.iconst X0.here hx rfl (hb hby at_31) ?_
            show Steps p.tables e below (s₁.setTop (mkF m 32 #[.val (.int p1), .val (.int p2), .val (.int p3), .val (.int p4), .val (.int p5), .val (.int p6), .val (.int j1), .val (.int j2), .unset, .unset, .unset, .unset, .unset] [(.int (1 : Int32)), (.int j2)])) _
            refine XS.icmpYes X0.here hx rfl (pc0 := 32) (pc' := 41) rfl (hb hby at_32) rfl (feq hc32_2).2 (by decide) (by decide) ?_
            show Steps p.tables e below (s₁.setTop (mkF m 41 #[.val (.int p1), .val (.int p2), .val (.int p3), .val (.int p4), .val (.int p5), .val (.int p6), .val (.int j1), .val (.int j2), .unset, .unset, .unset, .unset, .unset] [])) _
            refine XS.iload X0.here hx rfl (hb hby at_41) rfl ?_
            show Steps p.tables e below (s₁.setTop (mkF m 43 #[.val (.int p1), .val (.int p2), .val (.int p3), .val (.int p4), .val (.int p5), .val (.int p6), .val (.int j1), .val (.int j2), .unset, .unset, .unset, .unset, .unset] [(.int j2)])) _
            refine XS.iconst X0.here hx rfl (hb hby at_43) ?_
            show Steps p.tables e below (s₁.setTop (mkF m 44 #[.val (.int p1), .val (.int p2), .val (.int p3), .val (.int p4), .val (.int p5), .val (.int p6), .val (.int j1), .val (.int j2), .unset, .unset, .unset, .unset, .unset] [(.int (2 : Int32)), (.int j2)])) _
            refine XS.icmpYes X0.here hx rfl (pc0 := 44) (pc' := 53) rfl (hb hby at_44) rfl (feq hc44_3).2 (by decide) (by decide) ?_
            show Steps p.tables e below (s₁.setTop (mkF m 53 #[.val (.int p1), .val (.int p2), .val (.int p3), .val (.int p4), .val (.int p5), .val (.int p6), .val (.int j1), .val (.int j2), .unset, .unset, .unset, .unset, .unset] [])) _
            refine XS.iload X0.here hx rfl (hb hby at_53) rfl ?_
            show Steps p.tables e below (s₁.setTop (mkF m 55 #[.val (.int p1), .val (.int p2), .val (.int p3), .val (.int p4), .val (.int p5), .val (.int p6), .val (.int j1), .val (.int j2), .unset, .unset, .unset, .unset, .unset] [(.int j2)])) _
            refine XS.iconst X0.here hx rfl (hb hby at_55) ?_
            show Steps p.tables e below (s₁.setTop (mkF m 56 #[.val (.int p1), .val (.int p2), .val (.int p3), .val (.int p4), .val (.int p5), .val (.int p6), .val (.int j1), .val (.int j2), .unset, .unset, .unset, .unset, .unset] [(.int (3 : Int32)), (.int j2)])) _
            refine XS.icmpYes X0.here hx rfl (pc0 := 56) (pc' := 65) rfl (hb hby at_56) rfl (feq hc56_4).2 (by decide) (by decide) ?_
            show Steps p.tables e below (s₁.setTop (mkF m 65 #[.val (.int p1), .val (.int p2), .val (.int p3), .val (.int p4), .val (.int p5), .val (.int p6), .val (.int j1), .val (.int j2), .unset, .unset, .unset, .unset, .unset] [])) _
            refine XS.iload X0.here hx rfl (hb hby at_65) rfl ?_
            show Steps p.tables e below (s₁.setTop (mkF m 67 #[.val (.int p1), .val (.int p2), .val (.int p3), .val (.int p4), .val (.int p5), .val (.int p6), .val (.int j1), .val (.int j2), .unset, .unset, .unset, .unset, .unset] [(.int p5)])) _
            refine XS.istore X0.here hx rfl (hb hby at_67) rfl (l' := #[.val (.int p1), .val (.int p2), .val (.int p3), .val (.int p4), .val (.int p5), .val (.int p6), .val (.int j1), .val (.int j2), .val (.int p5), .unset, .unset, .unset, .unset]) rfl ?_
            exact k
  refine own_go st4 ?_
  show own_Go p.tables e below _ s₁ (mkF m 69 #[.val (.int p1), .val (.int p2), .val (.int p3), .val (.int p4), .val (.int p5), .val (.int p6), .val (.int j1), .val (.int j2), .val (.int j3), .unset, .unset, .unset, .unset] [])
  show own_Go p.tables e below _ s₁ (mkF m 69 #[.val (.int p1), .val (.int p2), .val (.int p3), .val (.int p4), .val (.int p5), .val (.int p6), .val (.int j1), .val (.int j2), .val (.int j3), .unset, .unset, .unset, .unset] [])
  rcases own_pl_five p6 j1 hj1 with hn | hn | hn | hn | hn
  · subst hn
    show own_Go p.tables e below _ s₁ (mkF m 69 #[.val (.int p1), .val (.int p2), .val (.int p3), .val (.int p4), .val (.int p5), .val (.int p6), .val (.int (0 : Int32)), .val (.int j2), .val (.int j3), .unset, .unset, .unset, .unset] [])
    refine own_go (T' := s₁) (g' := (mkF m 75 #[.val (.int p1), .val (.int p2), .val (.int p3), .val (.int p4), .val (.int p5), .val (.int p6), .val (.int (0 : Int32)), .val (.int j2), .val (.int j3), .unset, .unset, .unset, .unset] [(.int p4), (.int p3), (.int p2), (.int p1), (.int (0 : Int32))])) (fun t k => ?_) ?_
    · show Steps p.tables e below (s₁.setTop (mkF m 69 #[.val (.int p1), .val (.int p2), .val (.int p3), .val (.int p4), .val (.int p5), .val (.int p6), .val (.int (0 : Int32)), .val (.int j2), .val (.int j3), .unset, .unset, .unset, .unset] [])) _
      refine XS.iload X0.here hx rfl (hb hby at_69) rfl ?_
      show Steps p.tables e below (s₁.setTop (mkF m 71 #[.val (.int p1), .val (.int p2), .val (.int p3), .val (.int p4), .val (.int p5), .val (.int p6), .val (.int (0 : Int32)), .val (.int j2), .val (.int j3), .unset, .unset, .unset, .unset] [(.int (0 : Int32))])) _
      refine XS.iloadN X0.here hx rfl (hb hby at_71) rfl ?_
      show Steps p.tables e below (s₁.setTop (mkF m 72 #[.val (.int p1), .val (.int p2), .val (.int p3), .val (.int p4), .val (.int p5), .val (.int p6), .val (.int (0 : Int32)), .val (.int j2), .val (.int j3), .unset, .unset, .unset, .unset] [(.int p1), (.int (0 : Int32))])) _
      refine XS.iloadN X0.here hx rfl (hb hby at_72) rfl ?_
      show Steps p.tables e below (s₁.setTop (mkF m 73 #[.val (.int p1), .val (.int p2), .val (.int p3), .val (.int p4), .val (.int p5), .val (.int p6), .val (.int (0 : Int32)), .val (.int j2), .val (.int j3), .unset, .unset, .unset, .unset] [(.int p2), (.int p1), (.int (0 : Int32))])) _
      refine XS.iloadN X0.here hx rfl (hb hby at_73) rfl ?_
      show Steps p.tables e below (s₁.setTop (mkF m 74 #[.val (.int p1), .val (.int p2), .val (.int p3), .val (.int p4), .val (.int p5), .val (.int p6), .val (.int (0 : Int32)), .val (.int j2), .val (.int j3), .unset, .unset, .unset, .unset] [(.int p3), (.int p2), (.int p1), (.int (0 : Int32))])) _
      refine XS.iloadN X0.here hx rfl (hb hby at_74) rfl ?_
      exact k
    obtain ⟨_, _, ⟨T5, L5, k5, n5⟩, -, X5, ⟨Lc5, hQ5, l5, y5, z5⟩, st5⟩ := Jvm.LawKit.callS X0 hx (y := (⟨"com/example/hopline/hopline/core/NodeStoreHasLabelPinLaw", "make", "(IIIII)[I"⟩ : MethodName)) hown (mvT hZ (hw _ (List.mem_of_getElem? (i := 0) rfl))) (mvT hZ (hw _ (List.mem_of_getElem? (i := 1) rfl))) (mvT hZ (hw _ (List.mem_of_getElem? (i := 2) rfl))) (mvT hZ (hw _ (List.mem_of_getElem? (i := 3) rfl))) (by decide) (backOf (W := 0) (rm1_0 l Z a0 hw [] (0 : Int32) p1 p2 p3 p4 h0 n0 Z0 (by decide : (0 : Int32) = (0 : Int32))) hZ (hw _ (List.mem_of_getElem? (i := 3) rfl)) (hw _ (List.mem_of_getElem? (i := 2) rfl)) (by decide) (by decide)) (g := (mkF m 75 #[.val (.int p1), .val (.int p2), .val (.int p3), .val (.int p4), .val (.int p5), .val (.int p6), .val (.int (0 : Int32)), .val (.int j2), .val (.int j3), .unset, .unset, .unset, .unset] [(.int p4), (.int p3), (.int p2), (.int p1), (.int (0 : Int32))])) rfl (by rw [hml]; rfl) (argsL := [(.int (0 : Int32)), (.int p1), (.int p2), (.int p3), (.int p4)]) (rest := []) (lenOf pd_0 rfl) rfl (by show 2 * 0 + _ ≤ _; exact Nat.le_of_eq rfl) (hb hby at_75) (fun _ _ => ⟨rfl, e0, (by decide : 0 + 1 ≤ _), (by decide : 0 + 0 ≤ _)⟩)
    dsimp only [Pt.U, Pt.locs, Pt.cells, Pt.slots] at X5 l5 y5 z5 st5 hQ5
    subst l5 y5 z5
    obtain ⟨b5_0, k5_1, rfl, N5q, K5, R5_0, R5_1, R5_2⟩ := hQ5
    have g_b5_0 := R5_0
    have sz_b5_0 : h0.size ≤ b5_0 := Nat.le_trans KK.1 R5_1
    have V_b5_0 := R5_2
    have Z0 := Nat.le_trans Z0 K5.1
    have KK := KK.trans K5 all0
    have NN := Fr.app NN N5q
    refine own_go st5 ?_
    show own_Go p.tables e below _ T5 (mkF m 78 #[.val (.int p1), .val (.int p2), .val (.int p3), .val (.int p4), .val (.int p5), .val (.int p6), .val (.int (0 : Int32)), .val (.int j2), .val (.int j3), .unset, .unset, .unset, .unset] [(.ref b5_0)])
    refine own_go (T' := T5) (g' := (mkF m 82 #[.val (.int p1), .val (.int p2), .val (.int p3), .val (.int p4), .val (.int p5), .val (.int p6), .val (.int (0 : Int32)), .val (.int j2), .val (.int j3), .val (.ref b5_0), .unset, .unset, .unset] [(.int (0 : Int32))])) (fun t k => ?_) ?_
    · show Steps p.tables e below (T5.setTop (mkF m 78 #[.val (.int p1), .val (.int p2), .val (.int p3), .val (.int p4), .val (.int p5), .val (.int p6), .val (.int (0 : Int32)), .val (.int j2), .val (.int j3), .unset, .unset, .unset, .unset] [(.ref b5_0)])) _
      refine XS.astore X5.here hx rfl (hb hby at_78) rfl rfl (l' := #[.val (.int p1), .val (.int p2), .val (.int p3), .val (.int p4), .val (.int p5), .val (.int p6), .val (.int (0 : Int32)), .val (.int j2), .val (.int j3), .val (.ref b5_0), .unset, .unset, .unset]) rfl ?_
      show Steps p.tables e below (T5.setTop (mkF m 80 #[.val (.int p1), .val (.int p2), .val (.int p3), .val (.int p4), .val (.int p5), .val (.int p6), .val (.int (0 : Int32)), .val (.int j2), .val (.int j3), .val (.ref b5_0), .unset, .unset, .unset] [])) _
      refine XS.iload X5.here hx rfl (hb hby at_80) rfl ?_
      exact k
    refine own_go (T' := T5) (g' := (mkF m 94 #[.val (.int p1), .val (.int p2), .val (.int p3), .val (.int p4), .val (.int p5), .val (.int p6), .val (.int (0 : Int32)), .val (.int j2), .val (.int j3), .val (.ref b5_0), .unset, .unset, .unset] [(.int (1 : Int32)), (.int (0 : Int32))])) (fun t k => ?_) ?_
    · show Steps p.tables e below (T5.setTop (mkF m 82 #[.val (.int p1), .val (.int p2), .val (.int p3), .val (.int p4), .val (.int p5), .val (.int p6), .val (.int (0 : Int32)), .val (.int j2), .val (.int j3), .val (.ref b5_0), .unset, .unset, .unset] [(.int (0 : Int32))])) _
      refine XS.ifYes X5.here hx rfl (pc0 := 82) (pc' := 91) rfl (hb hby at_82) rfl ((if0 _ _).trans (flt (Int32.lt_irrefl)).2.2.2) (by decide) (by decide) ?_
      show Steps p.tables e below (T5.setTop (mkF m 91 #[.val (.int p1), .val (.int p2), .val (.int p3), .val (.int p4), .val (.int p5), .val (.int p6), .val (.int (0 : Int32)), .val (.int j2), .val (.int j3), .val (.ref b5_0), .unset, .unset, .unset] [])) _
      refine XS.iload X5.here hx rfl (hb hby at_91) rfl ?_
      show Steps p.tables e below (T5.setTop (mkF m 93 #[.val (.int p1), .val (.int p2), .val (.int p3), .val (.int p4), .val (.int p5), .val (.int p6), .val (.int (0 : Int32)), .val (.int j2), .val (.int j3), .val (.ref b5_0), .unset, .unset, .unset] [(.int (0 : Int32))])) _
      refine XS.iconst X5.here hx rfl (hb hby at_93) ?_
      exact k
    refine own_go (T' := T5) (g' := (mkF m 106 #[.val (.int p1), .val (.int p2), .val (.int p3), .val (.int p4), .val (.int p5), .val (.int p6), .val (.int (0 : Int32)), .val (.int j2), .val (.int j3), .val (.ref b5_0), .unset, .unset, .unset] [(.int (2 : Int32)), (.int (0 : Int32))])) (fun t k => ?_) ?_
    · show Steps p.tables e below (T5.setTop (mkF m 94 #[.val (.int p1), .val (.int p2), .val (.int p3), .val (.int p4), .val (.int p5), .val (.int p6), .val (.int (0 : Int32)), .val (.int j2), .val (.int j3), .val (.ref b5_0), .unset, .unset, .unset] [(.int (1 : Int32)), (.int (0 : Int32))])) _
      refine XS.icmpYes X5.here hx rfl (pc0 := 94) (pc' := 103) rfl (hb hby at_94) rfl (flt (by decide : ¬ ((1 : Int32) < (0 : Int32)))).2.2.2 (by decide) (by decide) ?_
      show Steps p.tables e below (T5.setTop (mkF m 103 #[.val (.int p1), .val (.int p2), .val (.int p3), .val (.int p4), .val (.int p5), .val (.int p6), .val (.int (0 : Int32)), .val (.int j2), .val (.int j3), .val (.ref b5_0), .unset, .unset, .unset] [])) _
      refine XS.iload X5.here hx rfl (hb hby at_103) rfl ?_
      show Steps p.tables e below (T5.setTop (mkF m 105 #[.val (.int p1), .val (.int p2), .val (.int p3), .val (.int p4), .val (.int p5), .val (.int p6), .val (.int (0 : Int32)), .val (.int j2), .val (.int j3), .val (.ref b5_0), .unset, .unset, .unset] [(.int (0 : Int32))])) _
      refine XS.iconst X5.here hx rfl (hb hby at_105) ?_
      exact k
    refine own_go (T' := T5) (g' := (mkF m 118 #[.val (.int p1), .val (.int p2), .val (.int p3), .val (.int p4), .val (.int p5), .val (.int p6), .val (.int (0 : Int32)), .val (.int j2), .val (.int j3), .val (.ref b5_0), .unset, .unset, .unset] [(.int (3 : Int32)), (.int (0 : Int32))])) (fun t k => ?_) ?_
    · show Steps p.tables e below (T5.setTop (mkF m 106 #[.val (.int p1), .val (.int p2), .val (.int p3), .val (.int p4), .val (.int p5), .val (.int p6), .val (.int (0 : Int32)), .val (.int j2), .val (.int j3), .val (.ref b5_0), .unset, .unset, .unset] [(.int (2 : Int32)), (.int (0 : Int32))])) _
      refine XS.icmpYes X5.here hx rfl (pc0 := 106) (pc' := 115) rfl (hb hby at_106) rfl (flt (by decide : ¬ ((2 : Int32) < (0 : Int32)))).2.2.2 (by decide) (by decide) ?_
      show Steps p.tables e below (T5.setTop (mkF m 115 #[.val (.int p1), .val (.int p2), .val (.int p3), .val (.int p4), .val (.int p5), .val (.int p6), .val (.int (0 : Int32)), .val (.int j2), .val (.int j3), .val (.ref b5_0), .unset, .unset, .unset] [])) _
      refine XS.iload X5.here hx rfl (hb hby at_115) rfl ?_
      show Steps p.tables e below (T5.setTop (mkF m 117 #[.val (.int p1), .val (.int p2), .val (.int p3), .val (.int p4), .val (.int p5), .val (.int p6), .val (.int (0 : Int32)), .val (.int j2), .val (.int j3), .val (.ref b5_0), .unset, .unset, .unset] [(.int (0 : Int32))])) _
      refine XS.iconst X5.here hx rfl (hb hby at_117) ?_
      exact k
    refine own_go (T' := T5) (g' := (mkF m 138 #[.val (.int p1), .val (.int p2), .val (.int p3), .val (.int p4), .val (.int p5), .val (.int p6), .val (.int (0 : Int32)), .val (.int j2), .val (.int j3), .val (.ref b5_0), .val (.int (0 : Int32)), .unset, .unset] [(.int j3), (.ref b5_0)])) (fun t k => ?_) ?_
    · show Steps p.tables e below (T5.setTop (mkF m 118 #[.val (.int p1), .val (.int p2), .val (.int p3), .val (.int p4), .val (.int p5), .val (.int p6), .val (.int (0 : Int32)), .val (.int j2), .val (.int j3), .val (.ref b5_0), .unset, .unset, .unset] [(.int (3 : Int32)), (.int (0 : Int32))])) _
      refine XS.icmpYes X5.here hx rfl (pc0 := 118) (pc' := 131) rfl (hb hby at_118) rfl (flt (by decide : ¬ ((3 : Int32) < (0 : Int32)))).2.2.2 (by decide) (by decide) ?_
      show Steps p.tables e below (T5.setTop (mkF m 131 #[.val (.int p1), .val (.int p2), .val (.int p3), .val (.int p4), .val (.int p5), .val (.int p6), .val (.int (0 : Int32)), .val (.int j2), .val (.int j3), .val (.ref b5_0), .unset, .unset, .unset] [])) _
      refine XS.iconst X5.here hx rfl (hb hby at_131) ?_
      show Steps p.tables e below (T5.setTop (mkF m 132 #[.val (.int p1), .val (.int p2), .val (.int p3), .val (.int p4), .val (.int p5), .val (.int p6), .val (.int (0 : Int32)), .val (.int j2), .val (.int j3), .val (.ref b5_0), .unset, .unset, .unset] [(.int (0 : Int32))])) _
      refine XS.istore X5.here hx rfl (hb hby at_132) rfl (l' := #[.val (.int p1), .val (.int p2), .val (.int p3), .val (.int p4), .val (.int p5), .val (.int p6), .val (.int (0 : Int32)), .val (.int j2), .val (.int j3), .val (.ref b5_0), .val (.int (0 : Int32)), .unset, .unset]) rfl ?_
      show Steps p.tables e below (T5.setTop (mkF m 134 #[.val (.int p1), .val (.int p2), .val (.int p3), .val (.int p4), .val (.int p5), .val (.int p6), .val (.int (0 : Int32)), .val (.int j2), .val (.int j3), .val (.ref b5_0), .val (.int (0 : Int32)), .unset, .unset] [])) _
      refine XS.aload X5.here hx rfl (hb hby at_134) rfl rfl ?_
      show Steps p.tables e below (T5.setTop (mkF m 136 #[.val (.int p1), .val (.int p2), .val (.int p3), .val (.int p4), .val (.int p5), .val (.int p6), .val (.int (0 : Int32)), .val (.int j2), .val (.int j3), .val (.ref b5_0), .val (.int (0 : Int32)), .unset, .unset] [(.ref b5_0)])) _
      refine XS.iload X5.here hx rfl (hb hby at_136) rfl ?_
      exact k
    obtain ⟨_, _, ⟨T6, L6, k6, n6⟩, -, X6, ⟨Lc6, hQ6, l6, y6, z6⟩, st6⟩ := Jvm.LawKit.callS X5 hx (y := (⟨"com/example/hopline/hopline/core/NodeStore", "hasLabel", "([II)Z"⟩ : MethodName)) hown (mvT hZ (hw _ (List.mem_of_getElem? (i := 5) rfl))) (mvT hZ (hw _ (List.mem_of_getElem? (i := 6) rfl))) (mvT hZ (hw _ (List.mem_of_getElem? (i := 7) rfl))) (mvT hZ (hw _ (List.mem_of_getElem? (i := 8) rfl))) (by decide) (backOf (W := 0) (rm2_0 l Z a0 hw [] b5_0 j3 k5_1 T5.heap n0 Z0 V_b5_0) hZ (hw _ (List.mem_of_getElem? (i := 8) rfl)) (hw _ (List.mem_of_getElem? (i := 7) rfl)) (by decide) (by decide)) (g := (mkF m 138 #[.val (.int p1), .val (.int p2), .val (.int p3), .val (.int p4), .val (.int p5), .val (.int p6), .val (.int (0 : Int32)), .val (.int j2), .val (.int j3), .val (.ref b5_0), .val (.int (0 : Int32)), .unset, .unset] [(.int j3), (.ref b5_0)])) rfl (by rw [hml]; rfl) (argsL := [(.ref b5_0), (.int j3)]) (rest := []) (lenOf pd_1 rfl) rfl (by show 2 * 0 + _ ≤ _; exact Nat.le_of_eq rfl) (hb hby at_138) (fun _ _ => ⟨rfl, rfl, (by decide : 1 + 0 ≤ _), (by decide : 0 + 0 ≤ _)⟩)
    dsimp only [Pt.U, Pt.locs, Pt.cells, Pt.slots] at X6 l6 y6 z6 st6 hQ6
    subst l6 y6 z6
    obtain ⟨rfl, N6q, e6⟩ := hQ6
    have NN := Fr.app NN N6q
    refine own_go st6 ?_
    show own_Go p.tables e below _ T6 (mkF m 141 #[.val (.int p1), .val (.int p2), .val (.int p3), .val (.int p4), .val (.int p5), .val (.int p6), .val (.int (0 : Int32)), .val (.int j2), .val (.int j3), .val (.ref b5_0), .val (.int (0 : Int32)), .unset, .unset] [(.int (r_2_0 j3))])
    refine own_go (T' := T6) (g' := (mkF m 143 #[.val (.int p1), .val (.int p2), .val (.int p3), .val (.int p4), .val (.int p5), .val (.int p6), .val (.int (0 : Int32)), .val (.int j2), .val (.int j3), .val (.ref b5_0), .val (.int (0 : Int32)), .val (.int (r_2_0 j3)), .unset] [])) (fun t k => ?_) ?_
    · show Steps p.tables e below (T6.setTop (mkF m 141 #[.val (.int p1), .val (.int p2), .val (.int p3), .val (.int p4), .val (.int p5), .val (.int p6), .val (.int (0 : Int32)), .val (.int j2), .val (.int j3), .val (.ref b5_0), .val (.int (0 : Int32)), .unset, .unset] [(.int (r_2_0 j3))])) _
      refine XS.istore X6.here hx rfl (hb hby at_141) rfl (l' := #[.val (.int p1), .val (.int p2), .val (.int p3), .val (.int p4), .val (.int p5), .val (.int p6), .val (.int (0 : Int32)), .val (.int j2), .val (.int j3), .val (.ref b5_0), .val (.int (0 : Int32)), .val (.int (r_2_0 j3)), .unset]) rfl ?_
      exact k
    show own_Go p.tables e below _ T6 (mkF m 143 #[.val (.int p1), .val (.int p2), .val (.int p3), .val (.int p4), .val (.int p5), .val (.int p6), .val (.int (0 : Int32)), .val (.int j2), .val (.int j3), .val (.ref b5_0), .val (.int (0 : Int32)), .val (.int (r_2_0 j3)), .unset] [])
    obtain ⟨j7, hj7⟩ : ∃ z : Int32, z = (r_2_0 j3) := ⟨_, rfl⟩
    rw [← hj7]
    show own_Go p.tables e below _ T6 (mkF m 143 #[.val (.int p1), .val (.int p2), .val (.int p3), .val (.int p4), .val (.int p5), .val (.int p6), .val (.int (0 : Int32)), .val (.int j2), .val (.int j3), .val (.ref b5_0), .val (.int (0 : Int32)), .val (.int j7), .unset] [])
    refine own_go (T' := T6) (g' := (mkF m 145 #[.val (.int p1), .val (.int p2), .val (.int p3), .val (.int p4), .val (.int p5), .val (.int p6), .val (.int (0 : Int32)), .val (.int j2), .val (.int j3), .val (.ref b5_0), .val (.int (0 : Int32)), .val (.int j7), .unset] [(.ref b5_0)])) (fun t k => ?_) ?_
    · show Steps p.tables e below (T6.setTop (mkF m 143 #[.val (.int p1), .val (.int p2), .val (.int p3), .val (.int p4), .val (.int p5), .val (.int p6), .val (.int (0 : Int32)), .val (.int j2), .val (.int j3), .val (.ref b5_0), .val (.int (0 : Int32)), .val (.int j7), .unset] [])) _
      refine XS.aload X6.here hx rfl (hb hby at_143) rfl rfl ?_
      exact k
    have Vq := V_b5_0
    obtain ⟨cl145, Ar145, -, Sz145, Ng145, -, -⟩ := Vq
    refine own_go (fun t k => X6.arraylength hx (by rw [e6]; exact Ar145.1) (State.isArrayOf_alike hZ.alike Ar145.2.1) (g := (mkF m 145 #[.val (.int p1), .val (.int p2), .val (.int p3), .val (.int p4), .val (.int p5), .val (.int p6), .val (.int (0 : Int32)), .val (.int j2), .val (.int j3), .val (.ref b5_0), .val (.int (0 : Int32)), .val (.int j7), .unset] [(.ref b5_0)])) rfl rfl (hb hby at_145) t k) ?_
    rw [len_of Sz145 Ng145]
    show own_Go p.tables e below _ T6 (mkF m 146 #[.val (.int p1), .val (.int p2), .val (.int p3), .val (.int p4), .val (.int p5), .val (.int p6), .val (.int (0 : Int32)), .val (.int j2), .val (.int j3), .val (.ref b5_0), .val (.int (0 : Int32)), .val (.int j7), .unset] [(.int (0 : Int32))])
    refine own_go (T' := T6) (g' := (mkF m 148 #[.val (.int p1), .val (.int p2), .val (.int p3), .val (.int p4), .val (.int p5), .val (.int p6), .val (.int (0 : Int32)), .val (.int j2), .val (.int j3), .val (.ref b5_0), .val (.int (0 : Int32)), .val (.int j7), .unset] [(.int (0 : Int32)), (.int (0 : Int32))])) (fun t k => ?_) ?_
    · show Steps p.tables e below (T6.setTop (mkF m 146 #[.val (.int p1), .val (.int p2), .val (.int p3), .val (.int p4), .val (.int p5), .val (.int p6), .val (.int (0 : Int32)), .val (.int j2), .val (.int j3), .val (.ref b5_0), .val (.int (0 : Int32)), .val (.int j7), .unset] [(.int (0 : Int32))])) _
      refine XS.iload X6.here hx rfl (hb hby at_146) rfl ?_
      exact k
    refine own_go (T' := T6) (g' := (mkF m 154 #[.val (.int p1), .val (.int p2), .val (.int p3), .val (.int p4), .val (.int p5), .val (.int p6), .val (.int (0 : Int32)), .val (.int j2), .val (.int j3), .val (.ref b5_0), .val (.int (0 : Int32)), .val (.int j7), .unset] [(.int (1 : Int32)), (.int (0 : Int32))])) (fun t k => ?_) ?_
    · show Steps p.tables e below (T6.setTop (mkF m 148 #[.val (.int p1), .val (.int p2), .val (.int p3), .val (.int p4), .val (.int p5), .val (.int p6), .val (.int (0 : Int32)), .val (.int j2), .val (.int j3), .val (.ref b5_0), .val (.int (0 : Int32)), .val (.int j7), .unset] [(.int (0 : Int32)), (.int (0 : Int32))])) _
      refine XS.icmpNo X6.here hx rfl (hb hby at_148) rfl (teq (rfl : (0 : Int32) = (0 : Int32))).2 ?_
      show Steps p.tables e below (T6.setTop (mkF m 151 #[.val (.int p1), .val (.int p2), .val (.int p3), .val (.int p4), .val (.int p5), .val (.int p6), .val (.int (0 : Int32)), .val (.int j2), .val (.int j3), .val (.ref b5_0), .val (.int (0 : Int32)), .val (.int j7), .unset] [])) _
      refine XS.iload X6.here hx rfl (hb hby at_151) rfl ?_
      show Steps p.tables e below (T6.setTop (mkF m 153 #[.val (.int p1), .val (.int p2), .val (.int p3), .val (.int p4), .val (.int p5), .val (.int p6), .val (.int (0 : Int32)), .val (.int j2), .val (.int j3), .val (.ref b5_0), .val (.int (0 : Int32)), .val (.int j7), .unset] [(.int (0 : Int32))])) _
      refine XS.iconst X6.here hx rfl (hb hby at_153) ?_
      exact k
    refine own_go (T' := T6) (g' := (mkF m 168 #[.val (.int p1), .val (.int p2), .val (.int p3), .val (.int p4), .val (.int p5), .val (.int p6), .val (.int (0 : Int32)), .val (.int j2), .val (.int j3), .val (.ref b5_0), .val (.int (0 : Int32)), .val (.int j7), .unset] [(.int (2 : Int32)), (.int (0 : Int32))])) (fun t k => ?_) ?_
    · show Steps p.tables e below (T6.setTop (mkF m 154 #[.val (.int p1), .val (.int p2), .val (.int p3), .val (.int p4), .val (.int p5), .val (.int p6), .val (.int (0 : Int32)), .val (.int j2), .val (.int j3), .val (.ref b5_0), .val (.int (0 : Int32)), .val (.int j7), .unset] [(.int (1 : Int32)), (.int (0 : Int32))])) _
      refine XS.icmpYes X6.here hx rfl (pc0 := 154) (pc' := 165) rfl (hb hby at_154) rfl (tlt (by decide : (0 : Int32) < (1 : Int32))).1 (by decide) (by decide) ?_
      show Steps p.tables e below (T6.setTop (mkF m 165 #[.val (.int p1), .val (.int p2), .val (.int p3), .val (.int p4), .val (.int p5), .val (.int p6), .val (.int (0 : Int32)), .val (.int j2), .val (.int j3), .val (.ref b5_0), .val (.int (0 : Int32)), .val (.int j7), .unset] [])) _
      refine XS.iload X6.here hx rfl (hb hby at_165) rfl ?_
      show Steps p.tables e below (T6.setTop (mkF m 167 #[.val (.int p1), .val (.int p2), .val (.int p3), .val (.int p4), .val (.int p5), .val (.int p6), .val (.int (0 : Int32)), .val (.int j2), .val (.int j3), .val (.ref b5_0), .val (.int (0 : Int32)), .val (.int j7), .unset] [(.int (0 : Int32))])) _
      refine XS.iconst X6.here hx rfl (hb hby at_167) ?_
      exact k
    refine own_go (T' := T6) (g' := (mkF m 182 #[.val (.int p1), .val (.int p2), .val (.int p3), .val (.int p4), .val (.int p5), .val (.int p6), .val (.int (0 : Int32)), .val (.int j2), .val (.int j3), .val (.ref b5_0), .val (.int (0 : Int32)), .val (.int j7), .unset] [(.int (3 : Int32)), (.int (0 : Int32))])) (fun t k => ?_) ?_
    · show Steps p.tables e below (T6.setTop (mkF m 168 #[.val (.int p1), .val (.int p2), .val (.int p3), .val (.int p4), .val (.int p5), .val (.int p6), .val (.int (0 : Int32)), .val (.int j2), .val (.int j3), .val (.ref b5_0), .val (.int (0 : Int32)), .val (.int j7), .unset] [(.int (2 : Int32)), (.int (0 : Int32))])) _
      refine XS.icmpYes X6.here hx rfl (pc0 := 168) (pc' := 179) rfl (hb hby at_168) rfl (tlt (by decide : (0 : Int32) < (2 : Int32))).1 (by decide) (by decide) ?_
      show Steps p.tables e below (T6.setTop (mkF m 179 #[.val (.int p1), .val (.int p2), .val (.int p3), .val (.int p4), .val (.int p5), .val (.int p6), .val (.int (0 : Int32)), .val (.int j2), .val (.int j3), .val (.ref b5_0), .val (.int (0 : Int32)), .val (.int j7), .unset] [])) _
      refine XS.iload X6.here hx rfl (hb hby at_179) rfl ?_
      show Steps p.tables e below (T6.setTop (mkF m 181 #[.val (.int p1), .val (.int p2), .val (.int p3), .val (.int p4), .val (.int p5), .val (.int p6), .val (.int (0 : Int32)), .val (.int j2), .val (.int j3), .val (.ref b5_0), .val (.int (0 : Int32)), .val (.int j7), .unset] [(.int (0 : Int32))])) _
      refine XS.iconst X6.here hx rfl (hb hby at_181) ?_
      exact k
    refine own_go (T' := T6) (g' := (mkF m 196 #[.val (.int p1), .val (.int p2), .val (.int p3), .val (.int p4), .val (.int p5), .val (.int p6), .val (.int (0 : Int32)), .val (.int j2), .val (.int j3), .val (.ref b5_0), .val (.int (0 : Int32)), .val (.int j7), .unset] [(.int (4 : Int32)), (.int (0 : Int32))])) (fun t k => ?_) ?_
    · show Steps p.tables e below (T6.setTop (mkF m 182 #[.val (.int p1), .val (.int p2), .val (.int p3), .val (.int p4), .val (.int p5), .val (.int p6), .val (.int (0 : Int32)), .val (.int j2), .val (.int j3), .val (.ref b5_0), .val (.int (0 : Int32)), .val (.int j7), .unset] [(.int (3 : Int32)), (.int (0 : Int32))])) _
      refine XS.icmpYes X6.here hx rfl (pc0 := 182) (pc' := 193) rfl (hb hby at_182) rfl (tlt (by decide : (0 : Int32) < (3 : Int32))).1 (by decide) (by decide) ?_
      show Steps p.tables e below (T6.setTop (mkF m 193 #[.val (.int p1), .val (.int p2), .val (.int p3), .val (.int p4), .val (.int p5), .val (.int p6), .val (.int (0 : Int32)), .val (.int j2), .val (.int j3), .val (.ref b5_0), .val (.int (0 : Int32)), .val (.int j7), .unset] [])) _
      refine XS.iload X6.here hx rfl (hb hby at_193) rfl ?_
      show Steps p.tables e below (T6.setTop (mkF m 195 #[.val (.int p1), .val (.int p2), .val (.int p3), .val (.int p4), .val (.int p5), .val (.int p6), .val (.int (0 : Int32)), .val (.int j2), .val (.int j3), .val (.ref b5_0), .val (.int (0 : Int32)), .val (.int j7), .unset] [(.int (0 : Int32))])) _
      refine XS.iconst X6.here hx rfl (hb hby at_195) ?_
      exact k
    refine own_go (T' := T6) (g' := (mkF m 218 #[.val (.int p1), .val (.int p2), .val (.int p3), .val (.int p4), .val (.int p5), .val (.int p6), .val (.int (0 : Int32)), .val (.int j2), .val (.int j3), .val (.ref b5_0), .val (.int (0 : Int32)), .val (.int j7), .val (.int (1 : Int32))] [(.int (0 : Int32)), (.int j7)])) (fun t k => ?_) ?_
    · show Steps p.tables e below (T6.setTop (mkF m 196 #[.val (.int p1), .val (.int p2), .val (.int p3), .val (.int p4), .val (.int p5), .val (.int p6), .val (.int (0 : Int32)), .val (.int j2), .val (.int j3), .val (.ref b5_0), .val (.int (0 : Int32)), .val (.int j7), .unset] [(.int (4 : Int32)), (.int (0 : Int32))])) _
      refine XS.icmpYes X6.here hx rfl (pc0 := 196) (pc' := 207) rfl (hb hby at_196) rfl (tlt (by decide : (0 : Int32) < (4 : Int32))).1 (by decide) (by decide) ?_
      show Steps p.tables e below (T6.setTop (mkF m 207 #[.val (.int p1), .val (.int p2), .val (.int p3), .val (.int p4), .val (.int p5), .val (.int p6), .val (.int (0 : Int32)), .val (.int j2), .val (.int j3), .val (.ref b5_0), .val (.int (0 : Int32)), .val (.int j7), .unset] [])) _
      refine XS.iconst X6.here hx rfl (hb hby at_207) ?_
      show Steps p.tables e below (T6.setTop (mkF m 208 #[.val (.int p1), .val (.int p2), .val (.int p3), .val (.int p4), .val (.int p5), .val (.int p6), .val (.int (0 : Int32)), .val (.int j2), .val (.int j3), .val (.ref b5_0), .val (.int (0 : Int32)), .val (.int j7), .unset] [(.int (1 : Int32))])) _
      refine XS.goto X6.here hx rfl (pc0 := 208) (pc' := 212) rfl (hb hby at_208) (by decide) (by decide) ?_
      show Steps p.tables e below (T6.setTop (mkF m 212 #[.val (.int p1), .val (.int p2), .val (.int p3), .val (.int p4), .val (.int p5), .val (.int p6), .val (.int (0 : Int32)), .val (.int j2), .val (.int j3), .val (.ref b5_0), .val (.int (0 : Int32)), .val (.int j7), .unset] [(.int (1 : Int32))])) _
      refine XS.istore X6.here hx rfl (hb hby at_212) rfl (l' := #[.val (.int p1), .val (.int p2), .val (.int p3), .val (.int p4), .val (.int p5), .val (.int p6), .val (.int (0 : Int32)), .val (.int j2), .val (.int j3), .val (.ref b5_0), .val (.int (0 : Int32)), .val (.int j7), .val (.int (1 : Int32))]) rfl ?_
      show Steps p.tables e below (T6.setTop (mkF m 214 #[.val (.int p1), .val (.int p2), .val (.int p3), .val (.int p4), .val (.int p5), .val (.int p6), .val (.int (0 : Int32)), .val (.int j2), .val (.int j3), .val (.ref b5_0), .val (.int (0 : Int32)), .val (.int j7), .val (.int (1 : Int32))] [])) _
      refine XS.iload X6.here hx rfl (hb hby at_214) rfl ?_
      show Steps p.tables e below (T6.setTop (mkF m 216 #[.val (.int p1), .val (.int p2), .val (.int p3), .val (.int p4), .val (.int p5), .val (.int p6), .val (.int (0 : Int32)), .val (.int j2), .val (.int j3), .val (.ref b5_0), .val (.int (0 : Int32)), .val (.int j7), .val (.int (1 : Int32))] [(.int j7)])) _
      refine XS.iload X6.here hx rfl (hb hby at_216) rfl ?_
      exact k
    obtain ⟨j8, hj8, st9⟩ : ∃ (j8 : Int32), j8 = (if j7 = (0 : Int32) then (1 : Int32) else (0 : Int32)) ∧ ∀ t, Steps p.tables e below (T6.setTop (mkF m 231 #[.val (.int p1), .val (.int p2), .val (.int p3), .val (.int p4), .val (.int p5), .val (.int p6), .val (.int (0 : Int32)), .val (.int j2), .val (.int j3), .val (.ref b5_0), .val (.int (0 : Int32)), .val (.int j7), .val (.int (1 : Int32))] [(.int j8)])) t → Steps p.tables e below (T6.setTop (mkF m 218 #[.val (.int p1), .val (.int p2), .val (.int p3), .val (.int p4), .val (.int p5), .val (.int p6), .val (.int (0 : Int32)), .val (.int j2), .val (.int j3), .val (.ref b5_0), .val (.int (0 : Int32)), .val (.int j7), .val (.int (1 : Int32))] [(.int (0 : Int32)), (.int j7)])) t := by
      by_cases hc218_5 : j7 = (0 : Int32)
      · skip
        refine ⟨(1 : Int32), (by simp only [if_pos hc218_5]), fun t k => ?_⟩
        show Steps p.tables e below (T6.setTop (mkF m 218 #[.val (.int p1), .val (.int p2), .val (.int p3), .val (.int p4), .val (.int p5), .val (.int p6), .val (.int (0 : Int32)), .val (.int j2), .val (.int j3), .val (.ref b5_0), .val (.int (0 : Int32)), .val (.int j7), .val (.int (1 : Int32))] [(.int (0 : Int32)), (.int j7)])) _
        refine XS.icmpNo X6.here hx rfl (hb hby at_218) rfl (teq hc218_5).2 ?_
        show Steps p.tables e below (T6.setTop (mkF m 221 #[.val (.int p1), .val (.int p2), .val (.int p3), .val (.int p4), .val (.int p5), .val (.int p6), .val (.int (0 : Int32)), .val (.int j2), .val (.int j3), .val (.ref b5_0), .val (.int (0 : Int32)), .val (.int j7), .val (.int (1 : Int32))] [])) _
        refine XS.iload X6.here hx rfl (hb hby at_221) rfl ?_
        show Steps p.tables e below (T6.setTop (mkF m 223 #[.val (.int p1), .val (.int p2), .val (.int p3), .val (.int p4), .val (.int p5), .val (.int p6), .val (.int (0 : Int32)), .val (.int j2), .val (.int j3), .val (.ref b5_0), .val (.int (0 : Int32)), .val (.int j7), .val (.int (1 : Int32))] [(.int (1 : Int32))])) _
        refine XS.ifNo X6.here hx rfl (hb hby at_223) rfl ((if0 _ _).trans (feq (by decide : ¬ ((1 : Int32) = (0 : Int32)))).1) ?_
        show Steps p.tables e below (T6.setTop (mkF m 226 #[.val (.int p1), .val (.int p2), .val (.int p3), .val (.int p4), .val (.int p5), .val (.int p6), .val (.int (0 : Int32)), .val (.int j2), .val (.int j3), .val (.ref b5_0), .val (.int (0 : Int32)), .val (.int j7), .val (.int (1 : Int32))] [])) _
        refine XS.iconst X6.here hx rfl (hb hby at_226) ?_
        show Steps p.tables e below (T6.setTop (mkF m 227 #[.val (.int p1), .val (.int p2), .val (.int p3), .val (.int p4), .val (.int p5), .val (.int p6), .val (.int (0 : Int32)), .val (.int j2), .val (.int j3), .val (.ref b5_0), .val (.int (0 : Int32)), .val (.int j7), .val (.int (1 : Int32))] [(.int (1 : Int32))])) _
        refine XS.goto X6.here hx rfl (pc0 := 227) (pc' := 231) rfl (hb hby at_227) (by decide) (by decide) ?_
        exact k
      · skip
        refine ⟨(0 : Int32), (by simp only [if_neg hc218_5]), fun t k => ?_⟩
        show Steps p.tables e below (T6.setTop (mkF m 218 #[.val (.int p1), .val (.int p2), .val (.int p3), .val (.int p4), .val (.int p5), .val (.int p6), .val (.int (0 : Int32)), .val (.int j2), .val (.int j3), .val (.ref b5_0), .val (.int (0 : Int32)), .val (.int j7), .val (.int (1 : Int32))] [(.int (0 : Int32)), (.int j7)])) _
        refine XS.icmpYes X6.here hx rfl (pc0 := 218) (pc' := 230) rfl (hb hby at_218) rfl (feq hc218_5).2 (by decide) (by decide) ?_
        show Steps p.tables e below (T6.setTop (mkF m 230 #[.val (.int p1), .val (.int p2), .val (.int p3), .val (.int p4), .val (.int p5), .val (.int p6), .val (.int (0 : Int32)), .val (.int j2), .val (.int j3), .val (.ref b5_0), .val (.int (0 : Int32)), .val (.int j7), .val (.int (1 : Int32))] [])) _
        refine XS.iconst X6.here hx rfl (hb hby at_230) ?_
        exact k
    refine own_go st9 ?_
    show own_Go p.tables e below _ T6 (mkF m 231 #[.val (.int p1), .val (.int p2), .val (.int p3), .val (.int p4), .val (.int p5), .val (.int p6), .val (.int (0 : Int32)), .val (.int j2), .val (.int j3), .val (.ref b5_0), .val (.int (0 : Int32)), .val (.int j7), .val (.int (1 : Int32))] [(.int j8)])
    have hv1 : (nar .boolean j8) = 1 := own_yes_0 p1 p2 p3 p4 p5 p6 j2 j3 j7 j8 hj2 hj3 hj7 hj8
    obtain ⟨fs, hr, hrun, hended, hW, hsame⟩ := X6.leave (v := some (.int (nar .boolean j8))) (fun h => by rw [Bd.returns] at h; cases h)
    refine ⟨_, _, ?_, hrun, hended, _, _, rfl, ?_, ⟨_, rfl⟩, hW, hsame.mono (by decide) (by decide)⟩
    · exact retN X6 hx (t := .boolean) Bd.returns (by simp) (hb hby at_231) hr
    · show Q0 Z p1 p2 p3 p4 p5 p6 h0 n0 _ _ _
      exact ⟨by rw [hv1], NN⟩
  · subst hn
    show own_Go p.tables e below _ s₁ (mkF m 69 #[.val (.int p1), .val (.int p2), .val (.int p3), .val (.int p4), .val (.int p5), .val (.int p6), .val (.int (1 : Int32)), .val (.int j2), .val (.int j3), .unset, .unset, .unset, .unset] [])
    refine own_go (T' := s₁) (g' := (mkF m 75 #[.val (.int p1), .val (.int p2), .val (.int p3), .val (.int p4), .val (.int p5), .val (.int p6), .val (.int (1 : Int32)), .val (.int j2), .val (.int j3), .unset, .unset, .unset, .unset] [(.int p4), (.int p3), (.int p2), (.int p1), (.int (1 : Int32))])) (fun t k => ?_) ?_
    · show Steps p.tables e below (s₁.setTop (mkF m 69 #[.val (.int p1), .val (.int p2), .val (.int p3), .val (.int p4), .val (.int p5), .val (.int p6), .val (.int (1 : Int32)), .val (.int j2), .val (.int j3), .unset, .unset, .unset, .unset] [])) _
      refine XS.iload X0.here hx rfl (hb hby at_69) rfl ?_
      show Steps p.tables e below (s₁.setTop (mkF m 71 #[.val (.int p1), .val (.int p2), .val (.int p3), .val (.int p4), .val (.int p5), .val (.int p6), .val (.int (1 : Int32)), .val (.int j2), .val (.int j3), .unset, .unset, .unset, .unset] [(.int (1 : Int32))])) _
      refine XS.iloadN X0.here hx rfl (hb hby at_71) rfl ?_
      show Steps p.tables e below (s₁.setTop (mkF m 72 #[.val (.int p1), .val (.int p2), .val (.int p3), .val (.int p4), .val (.int p5), .val (.int p6), .val (.int (1 : Int32)), .val (.int j2), .val (.int j3), .unset, .unset, .unset, .unset] [(.int p1), (.int (1 : Int32))])) _
      refine XS.iloadN X0.here hx rfl (hb hby at_72) rfl ?_
      show Steps p.tables e below (s₁.setTop (mkF m 73 #[.val (.int p1), .val (.int p2), .val (.int p3), .val (.int p4), .val (.int p5), .val (.int p6), .val (.int (1 : Int32)), .val (.int j2), .val (.int j3), .unset, .unset, .unset, .unset] [(.int p2), (.int p1), (.int (1 : Int32))])) _
      refine XS.iloadN X0.here hx rfl (hb hby at_73) rfl ?_
      show Steps p.tables e below (s₁.setTop (mkF m 74 #[.val (.int p1), .val (.int p2), .val (.int p3), .val (.int p4), .val (.int p5), .val (.int p6), .val (.int (1 : Int32)), .val (.int j2), .val (.int j3), .unset, .unset, .unset, .unset] [(.int p3), (.int p2), (.int p1), (.int (1 : Int32))])) _
      refine XS.iloadN X0.here hx rfl (hb hby at_74) rfl ?_
      exact k
    obtain ⟨_, _, ⟨T10, L10, k10, n10⟩, -, X10, ⟨Lc10, hQ10, l10, y10, z10⟩, st10⟩ := Jvm.LawKit.callS X0 hx (y := (⟨"com/example/hopline/hopline/core/NodeStoreHasLabelPinLaw", "make", "(IIIII)[I"⟩ : MethodName)) hown (mvT hZ (hw _ (List.mem_of_getElem? (i := 0) rfl))) (mvT hZ (hw _ (List.mem_of_getElem? (i := 1) rfl))) (mvT hZ (hw _ (List.mem_of_getElem? (i := 2) rfl))) (mvT hZ (hw _ (List.mem_of_getElem? (i := 3) rfl))) (by decide) (backOf (W := 0) (rm1_1 l Z a0 hw [] (1 : Int32) p1 p2 p3 p4 h0 n0 Z0 (by decide : ¬ ((1 : Int32) = (0 : Int32))) (by decide : (1 : Int32) = (1 : Int32))) hZ (hw _ (List.mem_of_getElem? (i := 3) rfl)) (hw _ (List.mem_of_getElem? (i := 2) rfl)) (by decide) (by decide)) (g := (mkF m 75 #[.val (.int p1), .val (.int p2), .val (.int p3), .val (.int p4), .val (.int p5), .val (.int p6), .val (.int (1 : Int32)), .val (.int j2), .val (.int j3), .unset, .unset, .unset, .unset] [(.int p4), (.int p3), (.int p2), (.int p1), (.int (1 : Int32))])) rfl (by rw [hml]; rfl) (argsL := [(.int (1 : Int32)), (.int p1), (.int p2), (.int p3), (.int p4)]) (rest := []) (lenOf pd_0 rfl) rfl (by show 2 * 0 + _ ≤ _; exact Nat.le_of_eq rfl) (hb hby at_75) (fun _ _ => ⟨rfl, e0, (by decide : 0 + 1 ≤ _), (by decide : 0 + 1 ≤ _)⟩)
    dsimp only [Pt.U, Pt.locs, Pt.cells, Pt.slots] at X10 l10 y10 z10 st10 hQ10
    subst l10 y10 z10
    obtain ⟨b10_0, k10_1, rfl, N10q, K10, R10_0, R10_1, R10_2⟩ := hQ10
    have g_b10_0 := R10_0
    have sz_b10_0 : h0.size ≤ b10_0 := Nat.le_trans KK.1 R10_1
    have V_b10_0 := R10_2
    have Z0 := Nat.le_trans Z0 K10.1
    have KK := KK.trans K10 all0
    have NN := Fr.app NN N10q
    refine own_go st10 ?_
    show own_Go p.tables e below _ T10 (mkF m 78 #[.val (.int p1), .val (.int p2), .val (.int p3), .val (.int p4), .val (.int p5), .val (.int p6), .val (.int (1 : Int32)), .val (.int j2), .val (.int j3), .unset, .unset, .unset, .unset] [(.ref b10_0)])
    refine own_go (T' := T10) (g' := (mkF m 82 #[.val (.int p1), .val (.int p2), .val (.int p3), .val (.int p4), .val (.int p5), .val (.int p6), .val (.int (1 : Int32)), .val (.int j2), .val (.int j3), .val (.ref b10_0), .unset, .unset, .unset] [(.int (1 : Int32))])) (fun t k => ?_) ?_
    · show Steps p.tables e below (T10.setTop (mkF m 78 #[.val (.int p1), .val (.int p2), .val (.int p3), .val (.int p4), .val (.int p5), .val (.int p6), .val (.int (1 : Int32)), .val (.int j2), .val (.int j3), .unset, .unset, .unset, .unset] [(.ref b10_0)])) _
      refine XS.astore X10.here hx rfl (hb hby at_78) rfl rfl (l' := #[.val (.int p1), .val (.int p2), .val (.int p3), .val (.int p4), .val (.int p5), .val (.int p6), .val (.int (1 : Int32)), .val (.int j2), .val (.int j3), .val (.ref b10_0), .unset, .unset, .unset]) rfl ?_
      show Steps p.tables e below (T10.setTop (mkF m 80 #[.val (.int p1), .val (.int p2), .val (.int p3), .val (.int p4), .val (.int p5), .val (.int p6), .val (.int (1 : Int32)), .val (.int j2), .val (.int j3), .val (.ref b10_0), .unset, .unset, .unset] [])) _
      refine XS.iload X10.here hx rfl (hb hby at_80) rfl ?_
      exact k
    refine own_go (T' := T10) (g' := (mkF m 88 #[.val (.int p1), .val (.int p2), .val (.int p3), .val (.int p4), .val (.int p5), .val (.int p6), .val (.int (1 : Int32)), .val (.int j2), .val (.int j3), .val (.ref b10_0), .unset, .unset, .unset] [(.int j3), (.int p1)])) (fun t k => ?_) ?_
    · show Steps p.tables e below (T10.setTop (mkF m 82 #[.val (.int p1), .val (.int p2), .val (.int p3), .val (.int p4), .val (.int p5), .val (.int p6), .val (.int (1 : Int32)), .val (.int j2), .val (.int j3), .val (.ref b10_0), .unset, .unset, .unset] [(.int (1 : Int32))])) _
      refine XS.ifNo X10.here hx rfl (hb hby at_82) rfl ((if0 _ _).trans (tlt (by decide : (0 : Int32) < (1 : Int32))).2.2.2) ?_
      show Steps p.tables e below (T10.setTop (mkF m 85 #[.val (.int p1), .val (.int p2), .val (.int p3), .val (.int p4), .val (.int p5), .val (.int p6), .val (.int (1 : Int32)), .val (.int j2), .val (.int j3), .val (.ref b10_0), .unset, .unset, .unset] [])) _
      refine XS.iloadN X10.here hx rfl (hb hby at_85) rfl ?_
      show Steps p.tables e below (T10.setTop (mkF m 86 #[.val (.int p1), .val (.int p2), .val (.int p3), .val (.int p4), .val (.int p5), .val (.int p6), .val (.int (1 : Int32)), .val (.int j2), .val (.int j3), .val (.ref b10_0), .unset, .unset, .unset] [(.int p1)])) _
      refine XS.iload X10.here hx rfl (hb hby at_86) rfl ?_
      exact k
    obtain ⟨j11, hj11, st12⟩ : ∃ (j11 : Int32), j11 = (if p1 = j3 then (1 : Int32) else (0 : Int32)) ∧ ∀ t, Steps p.tables e below (T10.setTop (mkF m 132 #[.val (.int p1), .val (.int p2), .val (.int p3), .val (.int p4), .val (.int p5), .val (.int p6), .val (.int (1 : Int32)), .val (.int j2), .val (.int j3), .val (.ref b10_0), .unset, .unset, .unset] [(.int j11)])) t → Steps p.tables e below (T10.setTop (mkF m 88 #[.val (.int p1), .val (.int p2), .val (.int p3), .val (.int p4), .val (.int p5), .val (.int p6), .val (.int (1 : Int32)), .val (.int j2), .val (.int j3), .val (.ref b10_0), .unset, .unset, .unset] [(.int j3), (.int p1)])) t := by
      by_cases hc88_6 : p1 = j3
      · skip
        refine ⟨(1 : Int32), (by simp only [if_pos hc88_6]), fun t k => ?_⟩
        show Steps p.tables e below (T10.setTop (mkF m 88 #[.val (.int p1), .val (.int p2), .val (.int p3), .val (.int p4), .val (.int p5), .val (.int p6), .val (.int (1 : Int32)), .val (.int j2), .val (.int j3), .val (.ref b10_0), .unset, .unset, .unset] [(.int j3), (.int p1)])) _
        refine XS.icmpYes X10.here hx rfl (pc0 := 88) (pc' := 127) rfl (hb hby at_88) rfl (teq hc88_6).1 (by decide) (by decide) ?_
        show Steps p.tables e below (T10.setTop (mkF m 127 #[.val (.int p1), .val (.int p2), .val (.int p3), .val (.int p4), .val (.int p5), .val (.int p6), .val (.int (1 : Int32)), .val (.int j2), .val (.int j3), .val (.ref b10_0), .unset, .unset, .unset] [])) _
        refine XS.iconst X10.here hx rfl (hb hby at_127) ?_
        show Steps p.tables e below (T10.setTop (mkF m 128 #[.val (.int p1), .val (.int p2), .val (.int p3), .val (.int p4), .val (.int p5), .val (.int p6), .val (.int (1 : Int32)), .val (.int j2), .val (.int j3), .val (.ref b10_0), .unset, .unset, .unset] [(.int (1 : Int32))])) _
        refine XS.goto X10.here hx rfl (pc0 := 128) (pc' := 132) rfl (hb hby at_128) (by decide) (by decide) ?_
        exact k
      · skip
        refine ⟨(0 : Int32), (by simp only [if_neg hc88_6]), fun t k => ?_⟩
        show Steps p.tables e below (T10.setTop (mkF m 88 #[.val (.int p1), .val (.int p2), .val (.int p3), .val (.int p4), .val (.int p5), .val (.int p6), .val (.int (1 : Int32)), .val (.int j2), .val (.int j3), .val (.ref b10_0), .unset, .unset, .unset] [(.int j3), (.int p1)])) _
        refine XS.icmpNo X10.here hx rfl (hb hby at_88) rfl (feq hc88_6).1 ?_
        show Steps p.tables e below (T10.setTop (mkF m 91 #[.val (.int p1), .val (.int p2), .val (.int p3), .val (.int p4), .val (.int p5), .val (.int p6), .val (.int (1 : Int32)), .val (.int j2), .val (.int j3), .val (.ref b10_0), .unset, .unset, .unset] [])) _
        refine XS.iload X10.here hx rfl (hb hby at_91) rfl ?_
        show Steps p.tables e below (T10.setTop (mkF m 93 #[.val (.int p1), .val (.int p2), .val (.int p3), .val (.int p4), .val (.int p5), .val (.int p6), .val (.int (1 : Int32)), .val (.int j2), .val (.int j3), .val (.ref b10_0), .unset, .unset, .unset] [(.int (1 : Int32))])) _
        refine XS.iconst X10.here hx rfl (hb hby at_93) ?_
        show Steps p.tables e below (T10.setTop (mkF m 94 #[.val (.int p1), .val (.int p2), .val (.int p3), .val (.int p4), .val (.int p5), .val (.int p6), .val (.int (1 : Int32)), .val (.int j2), .val (.int j3), .val (.ref b10_0), .unset, .unset, .unset] [(.int (1 : Int32)), (.int (1 : Int32))])) _
        refine XS.icmpYes X10.here hx rfl (pc0 := 94) (pc' := 103) rfl (hb hby at_94) rfl (flt (Int32.lt_irrefl)).2.2.2 (by decide) (by decide) ?_
        show Steps p.tables e below (T10.setTop (mkF m 103 #[.val (.int p1), .val (.int p2), .val (.int p3), .val (.int p4), .val (.int p5), .val (.int p6), .val (.int (1 : Int32)), .val (.int j2), .val (.int j3), .val (.ref b10_0), .unset, .unset, .unset] [])) _
        refine XS.iload X10.here hx rfl (hb hby at_103) rfl ?_
        show Steps p.tables e below (T10.setTop (mkF m 105 #[.val (.int p1), .val (.int p2), .val (.int p3), .val (.int p4), .val (.int p5), .val (.int p6), .val (.int (1 : Int32)), .val (.int j2), .val (.int j3), .val (.ref b10_0), .unset, .unset, .unset] [(.int (1 : Int32))])) _
        refine XS.iconst X10.here hx rfl (hb hby at_105) ?_
        show Steps p.tables e below (T10.setTop (mkF m 106 #[.val (.int p1), .val (.int p2), .val (.int p3), .val (.int p4), .val (.int p5), .val (.int p6), .val (.int (1 : Int32)), .val (.int j2), .val (.int j3), .val (.ref b10_0), .unset, .unset, .unset] [(.int (2 : Int32)), (.int (1 : Int32))])) _
        refine XS.icmpYes X10.here hx rfl (pc0 := 106) (pc' := 115) rfl (hb hby at_106) rfl (flt (by decide : ¬ ((2 : Int32) < (1 : Int32)))).2.2.2 (by decide) (by decide) ?_
        show Steps p.tables e below (T10.setTop (mkF m 115 #[.val (.int p1), .val (.int p2), .val (.int p3), .val (.int p4), .val (.int p5), .val (.int p6), .val (.int (1 : Int32)), .val (.int j2), .val (.int j3), .val (.ref b10_0), .unset, .unset, .unset] [])) _
        refine XS.iload X10.here hx rfl (hb hby at_115) rfl ?_
        show Steps p.tables e below (T10.setTop (mkF m 117 #[.val (.int p1), .val (.int p2), .val (.int p3), .val (.int p4), .val (.int p5), .val (.int p6), .val (.int (1 : Int32)), .val (.int j2), .val (.int j3), .val (.ref b10_0), .unset, .unset, .unset] [(.int (1 : Int32))])) _
        refine XS.iconst X10.here hx rfl (hb hby at_117) ?_
        show Steps p.tables e below (T10.setTop (mkF m 118 #[.val (.int p1), .val (.int p2), .val (.int p3), .val (.int p4), .val (.int p5), .val (.int p6), .val (.int (1 : Int32)), .val (.int j2), .val (.int j3), .val (.ref b10_0), .unset, .unset, .unset] [(.int (3 : Int32)), (.int (1 : Int32))])) _
        refine XS.icmpYes X10.here hx rfl (pc0 := 118) (pc' := 131) rfl (hb hby at_118) rfl (flt (by decide : ¬ ((3 : Int32) < (1 : Int32)))).2.2.2 (by decide) (by decide) ?_
        show Steps p.tables e below (T10.setTop (mkF m 131 #[.val (.int p1), .val (.int p2), .val (.int p3), .val (.int p4), .val (.int p5), .val (.int p6), .val (.int (1 : Int32)), .val (.int j2), .val (.int j3), .val (.ref b10_0), .unset, .unset, .unset] [])) _
        refine XS.iconst X10.here hx rfl (hb hby at_131) ?_
        exact k
    refine own_go st12 ?_
    show own_Go p.tables e below _ T10 (mkF m 132 #[.val (.int p1), .val (.int p2), .val (.int p3), .val (.int p4), .val (.int p5), .val (.int p6), .val (.int (1 : Int32)), .val (.int j2), .val (.int j3), .val (.ref b10_0), .unset, .unset, .unset] [(.int j11)])
    refine own_go (T' := T10) (g' := (mkF m 138 #[.val (.int p1), .val (.int p2), .val (.int p3), .val (.int p4), .val (.int p5), .val (.int p6), .val (.int (1 : Int32)), .val (.int j2), .val (.int j3), .val (.ref b10_0), .val (.int j11), .unset, .unset] [(.int j3), (.ref b10_0)])) (fun t k => ?_) ?_
    · show Steps p.tables e below (T10.setTop (mkF m 132 #[.val (.int p1), .val (.int p2), .val (.int p3), .val (.int p4), .val (.int p5), .val (.int p6), .val (.int (1 : Int32)), .val (.int j2), .val (.int j3), .val (.ref b10_0), .unset, .unset, .unset] [(.int j11)])) _
      refine XS.istore X10.here hx rfl (hb hby at_132) rfl (l' := #[.val (.int p1), .val (.int p2), .val (.int p3), .val (.int p4), .val (.int p5), .val (.int p6), .val (.int (1 : Int32)), .val (.int j2), .val (.int j3), .val (.ref b10_0), .val (.int j11), .unset, .unset]) rfl ?_
      show Steps p.tables e below (T10.setTop (mkF m 134 #[.val (.int p1), .val (.int p2), .val (.int p3), .val (.int p4), .val (.int p5), .val (.int p6), .val (.int (1 : Int32)), .val (.int j2), .val (.int j3), .val (.ref b10_0), .val (.int j11), .unset, .unset] [])) _
      refine XS.aload X10.here hx rfl (hb hby at_134) rfl rfl ?_
      show Steps p.tables e below (T10.setTop (mkF m 136 #[.val (.int p1), .val (.int p2), .val (.int p3), .val (.int p4), .val (.int p5), .val (.int p6), .val (.int (1 : Int32)), .val (.int j2), .val (.int j3), .val (.ref b10_0), .val (.int j11), .unset, .unset] [(.ref b10_0)])) _
      refine XS.iload X10.here hx rfl (hb hby at_136) rfl ?_
      exact k
    obtain ⟨_, _, ⟨T13, L13, k13, n13⟩, -, X13, ⟨Lc13, hQ13, l13, y13, z13⟩, st13⟩ := Jvm.LawKit.callS X10 hx (y := (⟨"com/example/hopline/hopline/core/NodeStore", "hasLabel", "([II)Z"⟩ : MethodName)) hown (mvT hZ (hw _ (List.mem_of_getElem? (i := 5) rfl))) (mvT hZ (hw _ (List.mem_of_getElem? (i := 6) rfl))) (mvT hZ (hw _ (List.mem_of_getElem? (i := 7) rfl))) (mvT hZ (hw _ (List.mem_of_getElem? (i := 8) rfl))) (by decide) (backOf (W := 0) (rm2_1 l Z a0 hw [] b10_0 j3 k10_1 p1 T10.heap n0 Z0 V_b10_0) hZ (hw _ (List.mem_of_getElem? (i := 8) rfl)) (hw _ (List.mem_of_getElem? (i := 7) rfl)) (by decide) (by decide)) (g := (mkF m 138 #[.val (.int p1), .val (.int p2), .val (.int p3), .val (.int p4), .val (.int p5), .val (.int p6), .val (.int (1 : Int32)), .val (.int j2), .val (.int j3), .val (.ref b10_0), .val (.int j11), .unset, .unset] [(.int j3), (.ref b10_0)])) rfl (by rw [hml]; rfl) (argsL := [(.ref b10_0), (.int j3)]) (rest := []) (lenOf pd_1 rfl) rfl (by show 2 * 0 + _ ≤ _; exact Nat.le_of_eq rfl) (hb hby at_138) (fun _ _ => ⟨rfl, rfl, (by decide : 1 + 0 ≤ _), (by decide : 1 + 0 ≤ _)⟩)
    dsimp only [Pt.U, Pt.locs, Pt.cells, Pt.slots] at X13 l13 y13 z13 st13 hQ13
    subst l13 y13 z13
    obtain ⟨rfl, N13q, e13⟩ := hQ13
    have NN := Fr.app NN N13q
    refine own_go st13 ?_
    show own_Go p.tables e below _ T13 (mkF m 141 #[.val (.int p1), .val (.int p2), .val (.int p3), .val (.int p4), .val (.int p5), .val (.int p6), .val (.int (1 : Int32)), .val (.int j2), .val (.int j3), .val (.ref b10_0), .val (.int j11), .unset, .unset] [(.int (r_2_1 j3 p1))])
    refine own_go (T' := T13) (g' := (mkF m 143 #[.val (.int p1), .val (.int p2), .val (.int p3), .val (.int p4), .val (.int p5), .val (.int p6), .val (.int (1 : Int32)), .val (.int j2), .val (.int j3), .val (.ref b10_0), .val (.int j11), .val (.int (r_2_1 j3 p1)), .unset] [])) (fun t k => ?_) ?_
    · show Steps p.tables e below (T13.setTop (mkF m 141 #[.val (.int p1), .val (.int p2), .val (.int p3), .val (.int p4), .val (.int p5), .val (.int p6), .val (.int (1 : Int32)), .val (.int j2), .val (.int j3), .val (.ref b10_0), .val (.int j11), .unset, .unset] [(.int (r_2_1 j3 p1))])) _
      refine XS.istore X13.here hx rfl (hb hby at_141) rfl (l' := #[.val (.int p1), .val (.int p2), .val (.int p3), .val (.int p4), .val (.int p5), .val (.int p6), .val (.int (1 : Int32)), .val (.int j2), .val (.int j3), .val (.ref b10_0), .val (.int j11), .val (.int (r_2_1 j3 p1)), .unset]) rfl ?_
      exact k
    show own_Go p.tables e below _ T13 (mkF m 143 #[.val (.int p1), .val (.int p2), .val (.int p3), .val (.int p4), .val (.int p5), .val (.int p6), .val (.int (1 : Int32)), .val (.int j2), .val (.int j3), .val (.ref b10_0), .val (.int j11), .val (.int (r_2_1 j3 p1)), .unset] [])
    obtain ⟨j14, hj14⟩ : ∃ z : Int32, z = (r_2_1 j3 p1) := ⟨_, rfl⟩
    rw [← hj14]
    show own_Go p.tables e below _ T13 (mkF m 143 #[.val (.int p1), .val (.int p2), .val (.int p3), .val (.int p4), .val (.int p5), .val (.int p6), .val (.int (1 : Int32)), .val (.int j2), .val (.int j3), .val (.ref b10_0), .val (.int j11), .val (.int j14), .unset] [])
    refine own_go (T' := T13) (g' := (mkF m 145 #[.val (.int p1), .val (.int p2), .val (.int p3), .val (.int p4), .val (.int p5), .val (.int p6), .val (.int (1 : Int32)), .val (.int j2), .val (.int j3), .val (.ref b10_0), .val (.int j11), .val (.int j14), .unset] [(.ref b10_0)])) (fun t k => ?_) ?_
    · show Steps p.tables e below (T13.setTop (mkF m 143 #[.val (.int p1), .val (.int p2), .val (.int p3), .val (.int p4), .val (.int p5), .val (.int p6), .val (.int (1 : Int32)), .val (.int j2), .val (.int j3), .val (.ref b10_0), .val (.int j11), .val (.int j14), .unset] [])) _
      refine XS.aload X13.here hx rfl (hb hby at_143) rfl rfl ?_
      exact k
    have Vq := V_b10_0
    obtain ⟨cl145, Ar145, -, Sz145, Ng145, -, -⟩ := Vq
    refine own_go (fun t k => X13.arraylength hx (by rw [e13]; exact Ar145.1) (State.isArrayOf_alike hZ.alike Ar145.2.1) (g := (mkF m 145 #[.val (.int p1), .val (.int p2), .val (.int p3), .val (.int p4), .val (.int p5), .val (.int p6), .val (.int (1 : Int32)), .val (.int j2), .val (.int j3), .val (.ref b10_0), .val (.int j11), .val (.int j14), .unset] [(.ref b10_0)])) rfl rfl (hb hby at_145) t k) ?_
    rw [len_of Sz145 Ng145]
    show own_Go p.tables e below _ T13 (mkF m 146 #[.val (.int p1), .val (.int p2), .val (.int p3), .val (.int p4), .val (.int p5), .val (.int p6), .val (.int (1 : Int32)), .val (.int j2), .val (.int j3), .val (.ref b10_0), .val (.int j11), .val (.int j14), .unset] [(.int (1 : Int32))])
    refine own_go (T' := T13) (g' := (mkF m 148 #[.val (.int p1), .val (.int p2), .val (.int p3), .val (.int p4), .val (.int p5), .val (.int p6), .val (.int (1 : Int32)), .val (.int j2), .val (.int j3), .val (.ref b10_0), .val (.int j11), .val (.int j14), .unset] [(.int (1 : Int32)), (.int (1 : Int32))])) (fun t k => ?_) ?_
    · show Steps p.tables e below (T13.setTop (mkF m 146 #[.val (.int p1), .val (.int p2), .val (.int p3), .val (.int p4), .val (.int p5), .val (.int p6), .val (.int (1 : Int32)), .val (.int j2), .val (.int j3), .val (.ref b10_0), .val (.int j11), .val (.int j14), .unset] [(.int (1 : Int32))])) _
      refine XS.iload X13.here hx rfl (hb hby at_146) rfl ?_
      exact k
    refine own_go (T' := T13) (g' := (mkF m 154 #[.val (.int p1), .val (.int p2), .val (.int p3), .val (.int p4), .val (.int p5), .val (.int p6), .val (.int (1 : Int32)), .val (.int j2), .val (.int j3), .val (.ref b10_0), .val (.int j11), .val (.int j14), .unset] [(.int (1 : Int32)), (.int (1 : Int32))])) (fun t k => ?_) ?_
    · show Steps p.tables e below (T13.setTop (mkF m 148 #[.val (.int p1), .val (.int p2), .val (.int p3), .val (.int p4), .val (.int p5), .val (.int p6), .val (.int (1 : Int32)), .val (.int j2), .val (.int j3), .val (.ref b10_0), .val (.int j11), .val (.int j14), .unset] [(.int (1 : Int32)), (.int (1 : Int32))])) _
      refine XS.icmpNo X13.here hx rfl (hb hby at_148) rfl (teq (rfl : (1 : Int32) = (1 : Int32))).2 ?_
      show Steps p.tables e below (T13.setTop (mkF m 151 #[.val (.int p1), .val (.int p2), .val (.int p3), .val (.int p4), .val (.int p5), .val (.int p6), .val (.int (1 : Int32)), .val (.int j2), .val (.int j3), .val (.ref b10_0), .val (.int j11), .val (.int j14), .unset] [])) _
      refine XS.iload X13.here hx rfl (hb hby at_151) rfl ?_
      show Steps p.tables e below (T13.setTop (mkF m 153 #[.val (.int p1), .val (.int p2), .val (.int p3), .val (.int p4), .val (.int p5), .val (.int p6), .val (.int (1 : Int32)), .val (.int j2), .val (.int j3), .val (.ref b10_0), .val (.int j11), .val (.int j14), .unset] [(.int (1 : Int32))])) _
      refine XS.iconst X13.here hx rfl (hb hby at_153) ?_
      exact k
    refine own_go (T' := T13) (g' := (mkF m 160 #[.val (.int p1), .val (.int p2), .val (.int p3), .val (.int p4), .val (.int p5), .val (.int p6), .val (.int (1 : Int32)), .val (.int j2), .val (.int j3), .val (.ref b10_0), .val (.int j11), .val (.int j14), .unset] [(.int (0 : Int32)), (.ref b10_0)])) (fun t k => ?_) ?_
    · show Steps p.tables e below (T13.setTop (mkF m 154 #[.val (.int p1), .val (.int p2), .val (.int p3), .val (.int p4), .val (.int p5), .val (.int p6), .val (.int (1 : Int32)), .val (.int j2), .val (.int j3), .val (.ref b10_0), .val (.int j11), .val (.int j14), .unset] [(.int (1 : Int32)), (.int (1 : Int32))])) _
      refine XS.icmpNo X13.here hx rfl (hb hby at_154) rfl (flt (Int32.lt_irrefl)).1 ?_
      show Steps p.tables e below (T13.setTop (mkF m 157 #[.val (.int p1), .val (.int p2), .val (.int p3), .val (.int p4), .val (.int p5), .val (.int p6), .val (.int (1 : Int32)), .val (.int j2), .val (.int j3), .val (.ref b10_0), .val (.int j11), .val (.int j14), .unset] [])) _
      refine XS.aload X13.here hx rfl (hb hby at_157) rfl rfl ?_
      show Steps p.tables e below (T13.setTop (mkF m 159 #[.val (.int p1), .val (.int p2), .val (.int p3), .val (.int p4), .val (.int p5), .val (.int p6), .val (.int (1 : Int32)), .val (.int j2), .val (.int j3), .val (.ref b10_0), .val (.int j11), .val (.int j14), .unset] [(.ref b10_0)])) _
      refine XS.iconst X13.here hx rfl (hb hby at_159) ?_
      exact k
    have Vq := V_b10_0
    obtain ⟨cl15, Ar15, q15, Sz15, Ng15, Hs15, Gs15⟩ := Vq
    have hin15 : ¬ ((0 : Int32) < 0 ∨ cl15.slots.size ≤ ((0 : Int32)).toNatClampNeg) := inb_of Sz15 ⟨by decide, by decide⟩
    have hat15 : cl15.slots[((0 : Int32)).toNatClampNeg]? = some (.int p1) := Hs15.at hin15 rfl
    refine own_go (fun t k => X13.iaload hx (j := (0 : Int32)) (v := (.int p1)) (by rw [e13]; exact Ar15.1) (State.isArrayOf_alike hZ.alike Ar15.2.1) Ar15.2.2 hin15 hat15 (g := (mkF m 160 #[.val (.int p1), .val (.int p2), .val (.int p3), .val (.int p4), .val (.int p5), .val (.int p6), .val (.int (1 : Int32)), .val (.int j2), .val (.int j3), .val (.ref b10_0), .val (.int j11), .val (.int j14), .unset] [(.int (0 : Int32)), (.ref b10_0)])) rfl rfl (hb hby at_160) t k) ?_
    show own_Go p.tables e below _ T13 (mkF m 161 #[.val (.int p1), .val (.int p2), .val (.int p3), .val (.int p4), .val (.int p5), .val (.int p6), .val (.int (1 : Int32)), .val (.int j2), .val (.int j3), .val (.ref b10_0), .val (.int j11), .val (.int j14), .unset] [(.int p1)])
    refine own_go (T' := T13) (g' := (mkF m 162 #[.val (.int p1), .val (.int p2), .val (.int p3), .val (.int p4), .val (.int p5), .val (.int p6), .val (.int (1 : Int32)), .val (.int j2), .val (.int j3), .val (.ref b10_0), .val (.int j11), .val (.int j14), .unset] [(.int p1), (.int p1)])) (fun t k => ?_) ?_
    · show Steps p.tables e below (T13.setTop (mkF m 161 #[.val (.int p1), .val (.int p2), .val (.int p3), .val (.int p4), .val (.int p5), .val (.int p6), .val (.int (1 : Int32)), .val (.int j2), .val (.int j3), .val (.ref b10_0), .val (.int j11), .val (.int j14), .unset] [(.int p1)])) _
      refine XS.iloadN X13.here hx rfl (hb hby at_161) rfl ?_
      exact k
    refine own_go (T' := T13) (g' := (mkF m 168 #[.val (.int p1), .val (.int p2), .val (.int p3), .val (.int p4), .val (.int p5), .val (.int p6), .val (.int (1 : Int32)), .val (.int j2), .val (.int j3), .val (.ref b10_0), .val (.int j11), .val (.int j14), .unset] [(.int (2 : Int32)), (.int (1 : Int32))])) (fun t k => ?_) ?_
    · show Steps p.tables e below (T13.setTop (mkF m 162 #[.val (.int p1), .val (.int p2), .val (.int p3), .val (.int p4), .val (.int p5), .val (.int p6), .val (.int (1 : Int32)), .val (.int j2), .val (.int j3), .val (.ref b10_0), .val (.int j11), .val (.int j14), .unset] [(.int p1), (.int p1)])) _
      refine XS.icmpNo X13.here hx rfl (hb hby at_162) rfl (teq (rfl : p1 = p1)).2 ?_
      show Steps p.tables e below (T13.setTop (mkF m 165 #[.val (.int p1), .val (.int p2), .val (.int p3), .val (.int p4), .val (.int p5), .val (.int p6), .val (.int (1 : Int32)), .val (.int j2), .val (.int j3), .val (.ref b10_0), .val (.int j11), .val (.int j14), .unset] [])) _
      refine XS.iload X13.here hx rfl (hb hby at_165) rfl ?_
      show Steps p.tables e below (T13.setTop (mkF m 167 #[.val (.int p1), .val (.int p2), .val (.int p3), .val (.int p4), .val (.int p5), .val (.int p6), .val (.int (1 : Int32)), .val (.int j2), .val (.int j3), .val (.ref b10_0), .val (.int j11), .val (.int j14), .unset] [(.int (1 : Int32))])) _
      refine XS.iconst X13.here hx rfl (hb hby at_167) ?_
      exact k
    refine own_go (T' := T13) (g' := (mkF m 182 #[.val (.int p1), .val (.int p2), .val (.int p3), .val (.int p4), .val (.int p5), .val (.int p6), .val (.int (1 : Int32)), .val (.int j2), .val (.int j3), .val (.ref b10_0), .val (.int j11), .val (.int j14), .unset] [(.int (3 : Int32)), (.int (1 : Int32))])) (fun t k => ?_) ?_
    · show Steps p.tables e below (T13.setTop (mkF m 168 #[.val (.int p1), .val (.int p2), .val (.int p3), .val (.int p4), .val (.int p5), .val (.int p6), .val (.int (1 : Int32)), .val (.int j2), .val (.int j3), .val (.ref b10_0), .val (.int j11), .val (.int j14), .unset] [(.int (2 : Int32)), (.int (1 : Int32))])) _
      refine XS.icmpYes X13.here hx rfl (pc0 := 168) (pc' := 179) rfl (hb hby at_168) rfl (tlt (by decide : (1 : Int32) < (2 : Int32))).1 (by decide) (by decide) ?_
      show Steps p.tables e below (T13.setTop (mkF m 179 #[.val (.int p1), .val (.int p2), .val (.int p3), .val (.int p4), .val (.int p5), .val (.int p6), .val (.int (1 : Int32)), .val (.int j2), .val (.int j3), .val (.ref b10_0), .val (.int j11), .val (.int j14), .unset] [])) _
      refine XS.iload X13.here hx rfl (hb hby at_179) rfl ?_
      show Steps p.tables e below (T13.setTop (mkF m 181 #[.val (.int p1), .val (.int p2), .val (.int p3), .val (.int p4), .val (.int p5), .val (.int p6), .val (.int (1 : Int32)), .val (.int j2), .val (.int j3), .val (.ref b10_0), .val (.int j11), .val (.int j14), .unset] [(.int (1 : Int32))])) _
      refine XS.iconst X13.here hx rfl (hb hby at_181) ?_
      exact k
    refine own_go (T' := T13) (g' := (mkF m 196 #[.val (.int p1), .val (.int p2), .val (.int p3), .val (.int p4), .val (.int p5), .val (.int p6), .val (.int (1 : Int32)), .val (.int j2), .val (.int j3), .val (.ref b10_0), .val (.int j11), .val (.int j14), .unset] [(.int (4 : Int32)), (.int (1 : Int32))])) (fun t k => ?_) ?_
    · show Steps p.tables e below (T13.setTop (mkF m 182 #[.val (.int p1), .val (.int p2), .val (.int p3), .val (.int p4), .val (.int p5), .val (.int p6), .val (.int (1 : Int32)), .val (.int j2), .val (.int j3), .val (.ref b10_0), .val (.int j11), .val (.int j14), .unset] [(.int (3 : Int32)), (.int (1 : Int32))])) _
      refine XS.icmpYes X13.here hx rfl (pc0 := 182) (pc' := 193) rfl (hb hby at_182) rfl (tlt (by decide : (1 : Int32) < (3 : Int32))).1 (by decide) (by decide) ?_
      show Steps p.tables e below (T13.setTop (mkF m 193 #[.val (.int p1), .val (.int p2), .val (.int p3), .val (.int p4), .val (.int p5), .val (.int p6), .val (.int (1 : Int32)), .val (.int j2), .val (.int j3), .val (.ref b10_0), .val (.int j11), .val (.int j14), .unset] [])) _
      refine XS.iload X13.here hx rfl (hb hby at_193) rfl ?_
      show Steps p.tables e below (T13.setTop (mkF m 195 #[.val (.int p1), .val (.int p2), .val (.int p3), .val (.int p4), .val (.int p5), .val (.int p6), .val (.int (1 : Int32)), .val (.int j2), .val (.int j3), .val (.ref b10_0), .val (.int j11), .val (.int j14), .unset] [(.int (1 : Int32))])) _
      refine XS.iconst X13.here hx rfl (hb hby at_195) ?_
      exact k
    refine own_go (T' := T13) (g' := (mkF m 218 #[.val (.int p1), .val (.int p2), .val (.int p3), .val (.int p4), .val (.int p5), .val (.int p6), .val (.int (1 : Int32)), .val (.int j2), .val (.int j3), .val (.ref b10_0), .val (.int j11), .val (.int j14), .val (.int (1 : Int32))] [(.int j11), (.int j14)])) (fun t k => ?_) ?_
    · show Steps p.tables e below (T13.setTop (mkF m 196 #[.val (.int p1), .val (.int p2), .val (.int p3), .val (.int p4), .val (.int p5), .val (.int p6), .val (.int (1 : Int32)), .val (.int j2), .val (.int j3), .val (.ref b10_0), .val (.int j11), .val (.int j14), .unset] [(.int (4 : Int32)), (.int (1 : Int32))])) _
      refine XS.icmpYes X13.here hx rfl (pc0 := 196) (pc' := 207) rfl (hb hby at_196) rfl (tlt (by decide : (1 : Int32) < (4 : Int32))).1 (by decide) (by decide) ?_
      show Steps p.tables e below (T13.setTop (mkF m 207 #[.val (.int p1), .val (.int p2), .val (.int p3), .val (.int p4), .val (.int p5), .val (.int p6), .val (.int (1 : Int32)), .val (.int j2), .val (.int j3), .val (.ref b10_0), .val (.int j11), .val (.int j14), .unset] [])) _
      refine XS.iconst X13.here hx rfl (hb hby at_207) ?_
      show Steps p.tables e below (T13.setTop (mkF m 208 #[.val (.int p1), .val (.int p2), .val (.int p3), .val (.int p4), .val (.int p5), .val (.int p6), .val (.int (1 : Int32)), .val (.int j2), .val (.int j3), .val (.ref b10_0), .val (.int j11), .val (.int j14), .unset] [(.int (1 : Int32))])) _
      refine XS.goto X13.here hx rfl (pc0 := 208) (pc' := 212) rfl (hb hby at_208) (by decide) (by decide) ?_
      show Steps p.tables e below (T13.setTop (mkF m 212 #[.val (.int p1), .val (.int p2), .val (.int p3), .val (.int p4), .val (.int p5), .val (.int p6), .val (.int (1 : Int32)), .val (.int j2), .val (.int j3), .val (.ref b10_0), .val (.int j11), .val (.int j14), .unset] [(.int (1 : Int32))])) _
      refine XS.istore X13.here hx rfl (hb hby at_212) rfl (l' := #[.val (.int p1), .val (.int p2), .val (.int p3), .val (.int p4), .val (.int p5), .val (.int p6), .val (.int (1 : Int32)), .val (.int j2), .val (.int j3), .val (.ref b10_0), .val (.int j11), .val (.int j14), .val (.int (1 : Int32))]) rfl ?_
      show Steps p.tables e below (T13.setTop (mkF m 214 #[.val (.int p1), .val (.int p2), .val (.int p3), .val (.int p4), .val (.int p5), .val (.int p6), .val (.int (1 : Int32)), .val (.int j2), .val (.int j3), .val (.ref b10_0), .val (.int j11), .val (.int j14), .val (.int (1 : Int32))] [])) _
      refine XS.iload X13.here hx rfl (hb hby at_214) rfl ?_
      show Steps p.tables e below (T13.setTop (mkF m 216 #[.val (.int p1), .val (.int p2), .val (.int p3), .val (.int p4), .val (.int p5), .val (.int p6), .val (.int (1 : Int32)), .val (.int j2), .val (.int j3), .val (.ref b10_0), .val (.int j11), .val (.int j14), .val (.int (1 : Int32))] [(.int j14)])) _
      refine XS.iload X13.here hx rfl (hb hby at_216) rfl ?_
      exact k
    obtain ⟨j16, hj16, st17⟩ : ∃ (j16 : Int32), j16 = (if j14 = j11 then (1 : Int32) else (0 : Int32)) ∧ ∀ t, Steps p.tables e below (T13.setTop (mkF m 231 #[.val (.int p1), .val (.int p2), .val (.int p3), .val (.int p4), .val (.int p5), .val (.int p6), .val (.int (1 : Int32)), .val (.int j2), .val (.int j3), .val (.ref b10_0), .val (.int j11), .val (.int j14), .val (.int (1 : Int32))] [(.int j16)])) t → Steps p.tables e below (T13.setTop (mkF m 218 #[.val (.int p1), .val (.int p2), .val (.int p3), .val (.int p4), .val (.int p5), .val (.int p6), .val (.int (1 : Int32)), .val (.int j2), .val (.int j3), .val (.ref b10_0), .val (.int j11), .val (.int j14), .val (.int (1 : Int32))] [(.int j11), (.int j14)])) t := by
      by_cases hc218_7 : j14 = j11
      · skip
        refine ⟨(1 : Int32), (by simp only [if_pos hc218_7]), fun t k => ?_⟩
        show Steps p.tables e below (T13.setTop (mkF m 218 #[.val (.int p1), .val (.int p2), .val (.int p3), .val (.int p4), .val (.int p5), .val (.int p6), .val (.int (1 : Int32)), .val (.int j2), .val (.int j3), .val (.ref b10_0), .val (.int j11), .val (.int j14), .val (.int (1 : Int32))] [(.int j11), (.int j14)])) _
        refine XS.icmpNo X13.here hx rfl (hb hby at_218) rfl (teq hc218_7).2 ?_
        show Steps p.tables e below (T13.setTop (mkF m 221 #[.val (.int p1), .val (.int p2), .val (.int p3), .val (.int p4), .val (.int p5), .val (.int p6), .val (.int (1 : Int32)), .val (.int j2), .val (.int j3), .val (.ref b10_0), .val (.int j11), .val (.int j14), .val (.int (1 : Int32))] [])) _
        refine XS.iload X13.here hx rfl (hb hby at_221) rfl ?_
        show Steps p.tables e below (T13.setTop (mkF m 223 #[.val (.int p1), .val (.int p2), .val (.int p3), .val (.int p4), .val (.int p5), .val (.int p6), .val (.int (1 : Int32)), .val (.int j2), .val (.int j3), .val (.ref b10_0), .val (.int j11), .val (.int j14), .val (.int (1 : Int32))] [(.int (1 : Int32))])) _
        refine XS.ifNo X13.here hx rfl (hb hby at_223) rfl ((if0 _ _).trans (feq (by decide : ¬ ((1 : Int32) = (0 : Int32)))).1) ?_
        show Steps p.tables e below (T13.setTop (mkF m 226 #[.val (.int p1), .val (.int p2), .val (.int p3), .val (.int p4), .val (.int p5), .val (.int p6), .val (.int (1 : Int32)), .val (.int j2), .val (.int j3), .val (.ref b10_0), .val (.int j11), .val (.int j14), .val (.int (1 : Int32))] [])) _
        refine XS.iconst X13.here hx rfl (hb hby at_226) ?_
        show Steps p.tables e below (T13.setTop (mkF m 227 #[.val (.int p1), .val (.int p2), .val (.int p3), .val (.int p4), .val (.int p5), .val (.int p6), .val (.int (1 : Int32)), .val (.int j2), .val (.int j3), .val (.ref b10_0), .val (.int j11), .val (.int j14), .val (.int (1 : Int32))] [(.int (1 : Int32))])) _
        refine XS.goto X13.here hx rfl (pc0 := 227) (pc' := 231) rfl (hb hby at_227) (by decide) (by decide) ?_
        exact k
      · skip
        refine ⟨(0 : Int32), (by simp only [if_neg hc218_7]), fun t k => ?_⟩
        show Steps p.tables e below (T13.setTop (mkF m 218 #[.val (.int p1), .val (.int p2), .val (.int p3), .val (.int p4), .val (.int p5), .val (.int p6), .val (.int (1 : Int32)), .val (.int j2), .val (.int j3), .val (.ref b10_0), .val (.int j11), .val (.int j14), .val (.int (1 : Int32))] [(.int j11), (.int j14)])) _
        refine XS.icmpYes X13.here hx rfl (pc0 := 218) (pc' := 230) rfl (hb hby at_218) rfl (feq hc218_7).2 (by decide) (by decide) ?_
        show Steps p.tables e below (T13.setTop (mkF m 230 #[.val (.int p1), .val (.int p2), .val (.int p3), .val (.int p4), .val (.int p5), .val (.int p6), .val (.int (1 : Int32)), .val (.int j2), .val (.int j3), .val (.ref b10_0), .val (.int j11), .val (.int j14), .val (.int (1 : Int32))] [])) _
        refine XS.iconst X13.here hx rfl (hb hby at_230) ?_
        exact k
    refine own_go st17 ?_
    show own_Go p.tables e below _ T13 (mkF m 231 #[.val (.int p1), .val (.int p2), .val (.int p3), .val (.int p4), .val (.int p5), .val (.int p6), .val (.int (1 : Int32)), .val (.int j2), .val (.int j3), .val (.ref b10_0), .val (.int j11), .val (.int j14), .val (.int (1 : Int32))] [(.int j16)])
    have hv1 : (nar .boolean j16) = 1 := own_yes_1 p1 p2 p3 p4 p5 p6 j2 j3 j11 j14 j16 hj2 hj3 hj11 hj14 hj16
    obtain ⟨fs, hr, hrun, hended, hW, hsame⟩ := X13.leave (v := some (.int (nar .boolean j16))) (fun h => by rw [Bd.returns] at h; cases h)
    refine ⟨_, _, ?_, hrun, hended, _, _, rfl, ?_, ⟨_, rfl⟩, hW, hsame.mono (by decide) (by decide)⟩
    · exact retN X13 hx (t := .boolean) Bd.returns (by simp) (hb hby at_231) hr
    · show Q0 Z p1 p2 p3 p4 p5 p6 h0 n0 _ _ _
      exact ⟨by rw [hv1], NN⟩
  · subst hn
    show own_Go p.tables e below _ s₁ (mkF m 69 #[.val (.int p1), .val (.int p2), .val (.int p3), .val (.int p4), .val (.int p5), .val (.int p6), .val (.int (2 : Int32)), .val (.int j2), .val (.int j3), .unset, .unset, .unset, .unset] [])
    refine own_go (T' := s₁) (g' := (mkF m 75 #[.val (.int p1), .val (.int p2), .val (.int p3), .val (.int p4), .val (.int p5), .val (.int p6), .val (.int (2 : Int32)), .val (.int j2), .val (.int j3), .unset, .unset, .unset, .unset] [(.int p4), (.int p3), (.int p2), (.int p1), (.int (2 : Int32))])) (fun t k => ?_) ?_
    · show Steps p.tables e below (s₁.setTop (mkF m 69 #[.val (.int p1), .val (.int p2), .val (.int p3), .val (.int p4), .val (.int p5), .val (.int p6), .val (.int (2 : Int32)), .val (.int j2), .val (.int j3), .unset, .unset, .unset, .unset] [])) _
      refine XS.iload X0.here hx rfl (hb hby at_69) rfl ?_
      show Steps p.tables e below (s₁.setTop (mkF m 71 #[.val (.int p1), .val (.int p2), .val (.int p3), .val (.int p4), .val (.int p5), .val (.int p6), .val (.int (2 : Int32)), .val (.int j2), .val (.int j3), .unset, .unset, .unset, .unset] [(.int (2 : Int32))])) _
      refine XS.iloadN X0.here hx rfl (hb hby at_71) rfl ?_
      show Steps p.tables e below (s₁.setTop (mkF m 72 #[.val (.int p1), .val (.int p2), .val (.int p3), .val (.int p4), .val (.int p5), .val (.int p6), .val (.int (2 : Int32)), .val (.int j2), .val (.int j3), .unset, .unset, .unset, .unset] [(.int p1), (.int (2 : Int32))])) _
      refine XS.iloadN X0.here hx rfl (hb hby at_72) rfl ?_
      show Steps p.tables e below (s₁.setTop (mkF m 73 #[.val (.int p1), .val (.int p2), .val (.int p3), .val (.int p4), .val (.int p5), .val (.int p6), .val (.int (2 : Int32)), .val (.int j2), .val (.int j3), .unset, .unset, .unset, .unset] [(.int p2), (.int p1), (.int (2 : Int32))])) _
      refine XS.iloadN X0.here hx rfl (hb hby at_73) rfl ?_
      show Steps p.tables e below (s₁.setTop (mkF m 74 #[.val (.int p1), .val (.int p2), .val (.int p3), .val (.int p4), .val (.int p5), .val (.int p6), .val (.int (2 : Int32)), .val (.int j2), .val (.int j3), .unset, .unset, .unset, .unset] [(.int p3), (.int p2), (.int p1), (.int (2 : Int32))])) _
      refine XS.iloadN X0.here hx rfl (hb hby at_74) rfl ?_
      exact k
    obtain ⟨_, _, ⟨T18, L18, k18, n18⟩, -, X18, ⟨Lc18, hQ18, l18, y18, z18⟩, st18⟩ := Jvm.LawKit.callS X0 hx (y := (⟨"com/example/hopline/hopline/core/NodeStoreHasLabelPinLaw", "make", "(IIIII)[I"⟩ : MethodName)) hown (mvT hZ (hw _ (List.mem_of_getElem? (i := 0) rfl))) (mvT hZ (hw _ (List.mem_of_getElem? (i := 1) rfl))) (mvT hZ (hw _ (List.mem_of_getElem? (i := 2) rfl))) (mvT hZ (hw _ (List.mem_of_getElem? (i := 3) rfl))) (by decide) (backOf (W := 0) (rm1_2 l Z a0 hw [] (2 : Int32) p1 p2 p3 p4 h0 n0 Z0 (by decide : ¬ ((2 : Int32) = (0 : Int32))) (by decide : ¬ ((2 : Int32) = (1 : Int32))) (by decide : (2 : Int32) = (2 : Int32))) hZ (hw _ (List.mem_of_getElem? (i := 3) rfl)) (hw _ (List.mem_of_getElem? (i := 2) rfl)) (by decide) (by decide)) (g := (mkF m 75 #[.val (.int p1), .val (.int p2), .val (.int p3), .val (.int p4), .val (.int p5), .val (.int p6), .val (.int (2 : Int32)), .val (.int j2), .val (.int j3), .unset, .unset, .unset, .unset] [(.int p4), (.int p3), (.int p2), (.int p1), (.int (2 : Int32))])) rfl (by rw [hml]; rfl) (argsL := [(.int (2 : Int32)), (.int p1), (.int p2), (.int p3), (.int p4)]) (rest := []) (lenOf pd_0 rfl) rfl (by show 2 * 0 + _ ≤ _; exact Nat.le_of_eq rfl) (hb hby at_75) (fun _ _ => ⟨rfl, e0, (by decide : 0 + 1 ≤ _), (by decide : 0 + 2 ≤ _)⟩)
    dsimp only [Pt.U, Pt.locs, Pt.cells, Pt.slots] at X18 l18 y18 z18 st18 hQ18
    subst l18 y18 z18
    obtain ⟨b18_0, k18_1, rfl, N18q, K18, R18_0, R18_1, R18_2⟩ := hQ18
    have g_b18_0 := R18_0
    have sz_b18_0 : h0.size ≤ b18_0 := Nat.le_trans KK.1 R18_1
    have V_b18_0 := R18_2
    have Z0 := Nat.le_trans Z0 K18.1
    have KK := KK.trans K18 all0
    have NN := Fr.app NN N18q
    refine own_go st18 ?_
    show own_Go p.tables e below _ T18 (mkF m 78 #[.val (.int p1), .val (.int p2), .val (.int p3), .val (.int p4), .val (.int p5), .val (.int p6), .val (.int (2 : Int32)), .val (.int j2), .val (.int j3), .unset, .unset, .unset, .unset] [(.ref b18_0)])
    refine own_go (T' := T18) (g' := (mkF m 82 #[.val (.int p1), .val (.int p2), .val (.int p3), .val (.int p4), .val (.int p5), .val (.int p6), .val (.int (2 : Int32)), .val (.int j2), .val (.int j3), .val (.ref b18_0), .unset, .unset, .unset] [(.int (2 : Int32))])) (fun t k => ?_) ?_
    · show Steps p.tables e below (T18.setTop (mkF m 78 #[.val (.int p1), .val (.int p2), .val (.int p3), .val (.int p4), .val (.int p5), .val (.int p6), .val (.int (2 : Int32)), .val (.int j2), .val (.int j3), .unset, .unset, .unset, .unset] [(.ref b18_0)])) _
      refine XS.astore X18.here hx rfl (hb hby at_78) rfl rfl (l' := #[.val (.int p1), .val (.int p2), .val (.int p3), .val (.int p4), .val (.int p5), .val (.int p6), .val (.int (2 : Int32)), .val (.int j2), .val (.int j3), .val (.ref b18_0), .unset, .unset, .unset]) rfl ?_
      show Steps p.tables e below (T18.setTop (mkF m 80 #[.val (.int p1), .val (.int p2), .val (.int p3), .val (.int p4), .val (.int p5), .val (.int p6), .val (.int (2 : Int32)), .val (.int j2), .val (.int j3), .val (.ref b18_0), .unset, .unset, .unset] [])) _
      refine XS.iload X18.here hx rfl (hb hby at_80) rfl ?_
      exact k
    refine own_go (T' := T18) (g' := (mkF m 88 #[.val (.int p1), .val (.int p2), .val (.int p3), .val (.int p4), .val (.int p5), .val (.int p6), .val (.int (2 : Int32)), .val (.int j2), .val (.int j3), .val (.ref b18_0), .unset, .unset, .unset] [(.int j3), (.int p1)])) (fun t k => ?_) ?_
    · show Steps p.tables e below (T18.setTop (mkF m 82 #[.val (.int p1), .val (.int p2), .val (.int p3), .val (.int p4), .val (.int p5), .val (.int p6), .val (.int (2 : Int32)), .val (.int j2), .val (.int j3), .val (.ref b18_0), .unset, .unset, .unset] [(.int (2 : Int32))])) _
      refine XS.ifNo X18.here hx rfl (hb hby at_82) rfl ((if0 _ _).trans (tlt (by decide : (0 : Int32) < (2 : Int32))).2.2.2) ?_
      show Steps p.tables e below (T18.setTop (mkF m 85 #[.val (.int p1), .val (.int p2), .val (.int p3), .val (.int p4), .val (.int p5), .val (.int p6), .val (.int (2 : Int32)), .val (.int j2), .val (.int j3), .val (.ref b18_0), .unset, .unset, .unset] [])) _
      refine XS.iloadN X18.here hx rfl (hb hby at_85) rfl ?_
      show Steps p.tables e below (T18.setTop (mkF m 86 #[.val (.int p1), .val (.int p2), .val (.int p3), .val (.int p4), .val (.int p5), .val (.int p6), .val (.int (2 : Int32)), .val (.int j2), .val (.int j3), .val (.ref b18_0), .unset, .unset, .unset] [(.int p1)])) _
      refine XS.iload X18.here hx rfl (hb hby at_86) rfl ?_
      exact k
    obtain ⟨j19, hj19, st20⟩ : ∃ (j19 : Int32), j19 = (if p1 = j3 then (1 : Int32) else (if p2 = j3 then (1 : Int32) else (0 : Int32))) ∧ ∀ t, Steps p.tables e below (T18.setTop (mkF m 132 #[.val (.int p1), .val (.int p2), .val (.int p3), .val (.int p4), .val (.int p5), .val (.int p6), .val (.int (2 : Int32)), .val (.int j2), .val (.int j3), .val (.ref b18_0), .unset, .unset, .unset] [(.int j19)])) t → Steps p.tables e below (T18.setTop (mkF m 88 #[.val (.int p1), .val (.int p2), .val (.int p3), .val (.int p4), .val (.int p5), .val (.int p6), .val (.int (2 : Int32)), .val (.int j2), .val (.int j3), .val (.ref b18_0), .unset, .unset, .unset] [(.int j3), (.int p1)])) t := by
      by_cases hc88_8 : p1 = j3
      · skip
        refine ⟨(1 : Int32), (by simp only [if_pos hc88_8]), fun t k => ?_⟩
        show Steps p.tables e below (T18.setTop (mkF m 88 #[.val (.int p1), .val (.int p2), .val (.int p3), .val (.int p4), .val (.int p5), .val (.int p6), .val (.int (2 : Int32)), .val (.int j2), .val (.int j3), .val (.ref b18_0), .unset, .unset, .unset] [(.int j3), (.int p1)])) _
        refine XS.icmpYes X18.here hx rfl (pc0 := 88) (pc' := 127) rfl (hb hby at_88) rfl (teq hc88_8).1 (by decide) (by decide) ?_
        show Steps p.tables e below (T18.setTop (mkF m 127 #[.val (.int p1), .val (.int p2), .val (.int p3), .val (.int p4), .val (.int p5), .val (.int p6), .val (.int (2 : Int32)), .val (.int j2), .val (.int j3), .val (.ref b18_0), .unset, .unset, .unset] [])) _
        refine XS.iconst X18.here hx rfl (hb hby at_127) ?_
        show Steps p.tables e below (T18.setTop (mkF m 128 #[.val (.int p1), .val (.int p2), .val (.int p3), .val (.int p4), .val (.int p5), .val (.int p6), .val (.int (2 : Int32)), .val (.int j2), .val (.int j3), .val (.ref b18_0), .unset, .unset, .unset] [(.int (1 : Int32))])) _
        refine XS.goto X18.here hx rfl (pc0 := 128) (pc' := 132) rfl (hb hby at_128) (by decide) (by decide) ?_
        exact k
      · skip
        by_cases hc100_9 : p2 = j3
        · skip
          refine ⟨(1 : Int32), (by simp only [if_neg hc88_8, if_pos hc100_9]), fun t k => ?_⟩
          show Steps p.tables e below (T18.setTop (mkF m 88 #[.val (.int p1), .val (.int p2), .val (.int p3), .val (.int p4), .val (.int p5), .val (.int p6), .val (.int (2 : Int32)), .val (.int j2), .val (.int j3), .val (.ref b18_0), .unset, .unset, .unset] [(.int j3), (.int p1)])) _
          refine XS.icmpNo X18.here hx rfl (hb hby at_88) rfl (feq hc88_8).1 ?_
          show Steps p.tables e below (T18.setTop (mkF m 91 #[.val (.int p1), .val (.int p2), .val (.int p3), .val (.int p4), .val (.int p5), .val (.int p6), .val (.int (2 : Int32)), .val (.int j2), .val (.int j3), .val (.ref b18_0), .unset, .unset, .unset] [])) _
          refine XS.iload X18.here hx rfl (hb hby at_91) rfl ?_
          show Steps p.tables e below (T18.setTop (mkF m 93 #[.val (.int p1), .val (.int p2), .val (.int p3), .val (.int p4), .val (.int p5), .val (.int p6), .val (.int (2 : Int32)), .val (.int j2), .val (.int j3), .val (.ref b18_0), .unset, .unset, .unset] [(.int (2 : Int32))])) _
          refine XS.iconst X18.here hx rfl (hb hby at_93) ?_
          show Steps p.tables e below (T18.setTop (mkF m 94 #[.val (.int p1), .val (.int p2), .val (.int p3), .val (.int p4), .val (.int p5), .val (.int p6), .val (.int (2 : Int32)), .val (.int j2), .val (.int j3), .val (.ref b18_0), .unset, .unset, .unset] [(.int (1 : Int32)), (.int (2 : Int32))])) _
          refine XS.icmpNo X18.here hx rfl (hb hby at_94) rfl (tlt (by decide : (1 : Int32) < (2 : Int32))).2.2.2 ?_
          show Steps p.tables e below (T18.setTop (mkF m 97 #[.val (.int p1), .val (.int p2), .val (.int p3), .val (.int p4), .val (.int p5), .val (.int p6), .val (.int (2 : Int32)), .val (.int j2), .val (.int j3), .val (.ref b18_0), .unset, .unset, .unset] [])) _
          refine XS.iloadN X18.here hx rfl (hb hby at_97) rfl ?_
          show Steps p.tables e below (T18.setTop (mkF m 98 #[.val (.int p1), .val (.int p2), .val (.int p3), .val (.int p4), .val (.int p5), .val (.int p6), .val (.int (2 : Int32)), .val (.int j2), .val (.int j3), .val (.ref b18_0), .unset, .unset, .unset] [(.int p2)])) _
          refine XS.iload X18.here hx rfl (hb hby at_98) rfl ?_
          show Steps p.tables e below (T18.setTop (mkF m 100 #[.val (.int p1), .val (.int p2), .val (.int p3), .val (.int p4), .val (.int p5), .val (.int p6), .val (.int (2 : Int32)), .val (.int j2), .val (.int j3), .val (.ref b18_0), .unset, .unset, .unset] [(.int j3), (.int p2)])) _
          refine XS.icmpYes X18.here hx rfl (pc0 := 100) (pc' := 127) rfl (hb hby at_100) rfl (teq hc100_9).1 (by decide) (by decide) ?_
          show Steps p.tables e below (T18.setTop (mkF m 127 #[.val (.int p1), .val (.int p2), .val (.int p3), .val (.int p4), .val (.int p5), .val (.int p6), .val (.int (2 : Int32)), .val (.int j2), .val (.int j3), .val (.ref b18_0), .unset, .unset, .unset] [])) _
          refine XS.iconst X18.here hx rfl (hb hby at_127) ?_
          show Steps p.tables e below (T18.setTop (mkF m 128 #[.val (.int p1), .val (.int p2), .val (.int p3), .val (.int p4), .val (.int p5), .val (.int p6), .val (.int (2 : Int32)), .val (.int j2), .val (.int j3), .val (.ref b18_0), .unset, .unset, .unset] [(.int (1 : Int32))])) _
          refine XS.goto X18.here hx rfl (pc0 := 128) (pc' := 132) rfl (hb hby at_128) (by decide) (by decide) ?_
          exact k
        · skip
          refine ⟨(0 : Int32), (by simp only [if_neg hc88_8, if_neg hc100_9]), fun t k => ?_⟩
          show Steps p.tables e below (T18.setTop (mkF m 88 #[.val (.int p1), .val (.int p2), .val (.int p3), .val (.int p4), .val (.int p5), .val (.int p6), .val (.int (2 : Int32)), .val (.int j2), .val (.int j3), .val (.ref b18_0), .unset, .unset, .unset] [(.int j3), (.int p1)])) _
          refine XS.icmpNo X18.here hx rfl (hb hby at_88) rfl (feq hc88_8).1 ?_
          show Steps p.tables e below (T18.setTop (mkF m 91 #[.val (.int p1), .val (.int p2), .val (.int p3), .val (.int p4), .val (.int p5), .val (.int p6), .val (.int (2 : Int32)), .val (.int j2), .val (.int j3), .val (.ref b18_0), .unset, .unset, .unset] [])) _
          refine XS.iload X18.here hx rfl (hb hby at_91) rfl ?_
          show Steps p.tables e below (T18.setTop (mkF m 93 #[.val (.int p1), .val (.int p2), .val (.int p3), .val (.int p4), .val (.int p5), .val (.int p6), .val (.int (2 : Int32)), .val (.int j2), .val (.int j3), .val (.ref b18_0), .unset, .unset, .unset] [(.int (2 : Int32))])) _
          refine XS.iconst X18.here hx rfl (hb hby at_93) ?_
          show Steps p.tables e below (T18.setTop (mkF m 94 #[.val (.int p1), .val (.int p2), .val (.int p3), .val (.int p4), .val (.int p5), .val (.int p6), .val (.int (2 : Int32)), .val (.int j2), .val (.int j3), .val (.ref b18_0), .unset, .unset, .unset] [(.int (1 : Int32)), (.int (2 : Int32))])) _
          refine XS.icmpNo X18.here hx rfl (hb hby at_94) rfl (tlt (by decide : (1 : Int32) < (2 : Int32))).2.2.2 ?_
          show Steps p.tables e below (T18.setTop (mkF m 97 #[.val (.int p1), .val (.int p2), .val (.int p3), .val (.int p4), .val (.int p5), .val (.int p6), .val (.int (2 : Int32)), .val (.int j2), .val (.int j3), .val (.ref b18_0), .unset, .unset, .unset] [])) _
          refine XS.iloadN X18.here hx rfl (hb hby at_97) rfl ?_
          show Steps p.tables e below (T18.setTop (mkF m 98 #[.val (.int p1), .val (.int p2), .val (.int p3), .val (.int p4), .val (.int p5), .val (.int p6), .val (.int (2 : Int32)), .val (.int j2), .val (.int j3), .val (.ref b18_0), .unset, .unset, .unset] [(.int p2)])) _
          refine XS.iload X18.here hx rfl (hb hby at_98) rfl ?_
          show Steps p.tables e below (T18.setTop (mkF m 100 #[.val (.int p1), .val (.int p2), .val (.int p3), .val (.int p4), .val (.int p5), .val (.int p6), .val (.int (2 : Int32)), .val (.int j2), .val (.int j3), .val (.ref b18_0), .unset, .unset, .unset] [(.int j3), (.int p2)])) _
          refine XS.icmpNo X18.here hx rfl (hb hby at_100) rfl (feq hc100_9).1 ?_
          show Steps p.tables e below (T18.setTop (mkF m 103 #[.val (.int p1), .val (.int p2), .val (.int p3), .val (.int p4), .val (.int p5), .val (.int p6), .val (.int (2 : Int32)), .val (.int j2), .val (.int j3), .val (.ref b18_0), .unset, .unset, .unset] [])) _
          refine XS.iload X18.here hx rfl (hb hby at_103) rfl ?_
          show Steps p.tables e below (T18.setTop (mkF m 105 #[.val (.int p1), .val (.int p2), .val (.int p3), .val (.int p4), .val (.int p5), .val (.int p6), .val (.int (2 : Int32)), .val (.int j2), .val (.int j3), .val (.ref b18_0), .unset, .unset, .unset] [(.int (2 : Int32))])) _
          refine XS.iconst X18.here hx rfl (hb hby at_105) ?_
          show Steps p.tables e below (T18.setTop (mkF m 106 #[.val (.int p1), .val (.int p2), .val (.int p3), .val (.int p4), .val (.int p5), .val (.int p6), .val (.int (2 : Int32)), .val (.int j2), .val (.int j3), .val (.ref b18_0), .unset, .unset, .unset] [(.int (2 : Int32)), (.int (2 : Int32))])) _
          refine XS.icmpYes X18.here hx rfl (pc0 := 106) (pc' := 115) rfl (hb hby at_106) rfl (flt (Int32.lt_irrefl)).2.2.2 (by decide) (by decide) ?_
          show Steps p.tables e below (T18.setTop (mkF m 115 #[.val (.int p1), .val (.int p2), .val (.int p3), .val (.int p4), .val (.int p5), .val (.int p6), .val (.int (2 : Int32)), .val (.int j2), .val (.int j3), .val (.ref b18_0), .unset, .unset, .unset] [])) _
          refine XS.iload X18.here hx rfl (hb hby at_115) rfl ?_
          show Steps p.tables e below (T18.setTop (mkF m 117 #[.val (.int p1), .val (.int p2), .val (.int p3), .val (.int p4), .val (.int p5), .val (.int p6), .val (.int (2 : Int32)), .val (.int j2), .val (.int j3), .val (.ref b18_0), .unset, .unset, .unset] [(.int (2 : Int32))])) _
          refine XS.iconst X18.here hx rfl (hb hby at_117) ?_
          show Steps p.tables e below (T18.setTop (mkF m 118 #[.val (.int p1), .val (.int p2), .val (.int p3), .val (.int p4), .val (.int p5), .val (.int p6), .val (.int (2 : Int32)), .val (.int j2), .val (.int j3), .val (.ref b18_0), .unset, .unset, .unset] [(.int (3 : Int32)), (.int (2 : Int32))])) _
          refine XS.icmpYes X18.here hx rfl (pc0 := 118) (pc' := 131) rfl (hb hby at_118) rfl (flt (by decide : ¬ ((3 : Int32) < (2 : Int32)))).2.2.2 (by decide) (by decide) ?_
          show Steps p.tables e below (T18.setTop (mkF m 131 #[.val (.int p1), .val (.int p2), .val (.int p3), .val (.int p4), .val (.int p5), .val (.int p6), .val (.int (2 : Int32)), .val (.int j2), .val (.int j3), .val (.ref b18_0), .unset, .unset, .unset] [])) _
          refine XS.iconst X18.here hx rfl (hb hby at_131) ?_
          exact k
    refine own_go st20 ?_
    show own_Go p.tables e below _ T18 (mkF m 132 #[.val (.int p1), .val (.int p2), .val (.int p3), .val (.int p4), .val (.int p5), .val (.int p6), .val (.int (2 : Int32)), .val (.int j2), .val (.int j3), .val (.ref b18_0), .unset, .unset, .unset] [(.int j19)])
    refine own_go (T' := T18) (g' := (mkF m 138 #[.val (.int p1), .val (.int p2), .val (.int p3), .val (.int p4), .val (.int p5), .val (.int p6), .val (.int (2 : Int32)), .val (.int j2), .val (.int j3), .val (.ref b18_0), .val (.int j19), .unset, .unset] [(.int j3), (.ref b18_0)])) (fun t k => ?_) ?_
    · show Steps p.tables e below (T18.setTop (mkF m 132 #[.val (.int p1), .val (.int p2), .val (.int p3), .val (.int p4), .val (.int p5), .val (.int p6), .val (.int (2 : Int32)), .val (.int j2), .val (.int j3), .val (.ref b18_0), .unset, .unset, .unset] [(.int j19)])) _
      refine XS.istore X18.here hx rfl (hb hby at_132) rfl (l' := #[.val (.int p1), .val (.int p2), .val (.int p3), .val (.int p4), .val (.int p5), .val (.int p6), .val (.int (2 : Int32)), .val (.int j2), .val (.int j3), .val (.ref b18_0), .val (.int j19), .unset, .unset]) rfl ?_
      show Steps p.tables e below (T18.setTop (mkF m 134 #[.val (.int p1), .val (.int p2), .val (.int p3), .val (.int p4), .val (.int p5), .val (.int p6), .val (.int (2 : Int32)), .val (.int j2), .val (.int j3), .val (.ref b18_0), .val (.int j19), .unset, .unset] [])) _
      refine XS.aload X18.here hx rfl (hb hby at_134) rfl rfl ?_
      show Steps p.tables e below (T18.setTop (mkF m 136 #[.val (.int p1), .val (.int p2), .val (.int p3), .val (.int p4), .val (.int p5), .val (.int p6), .val (.int (2 : Int32)), .val (.int j2), .val (.int j3), .val (.ref b18_0), .val (.int j19), .unset, .unset] [(.ref b18_0)])) _
      refine XS.iload X18.here hx rfl (hb hby at_136) rfl ?_
      exact k
    obtain ⟨_, _, ⟨T21, L21, k21, n21⟩, -, X21, ⟨Lc21, hQ21, l21, y21, z21⟩, st21⟩ := Jvm.LawKit.callS X18 hx (y := (⟨"com/example/hopline/hopline/core/NodeStore", "hasLabel", "([II)Z"⟩ : MethodName)) hown (mvT hZ (hw _ (List.mem_of_getElem? (i := 5) rfl))) (mvT hZ (hw _ (List.mem_of_getElem? (i := 6) rfl))) (mvT hZ (hw _ (List.mem_of_getElem? (i := 7) rfl))) (mvT hZ (hw _ (List.mem_of_getElem? (i := 8) rfl))) (by decide) (backOf (W := 0) (rm2_2 l Z a0 hw [] b18_0 j3 k18_1 p1 p2 T18.heap n0 Z0 V_b18_0) hZ (hw _ (List.mem_of_getElem? (i := 8) rfl)) (hw _ (List.mem_of_getElem? (i := 7) rfl)) (by decide) (by decide)) (g := (mkF m 138 #[.val (.int p1), .val (.int p2), .val (.int p3), .val (.int p4), .val (.int p5), .val (.int p6), .val (.int (2 : Int32)), .val (.int j2), .val (.int j3), .val (.ref b18_0), .val (.int j19), .unset, .unset] [(.int j3), (.ref b18_0)])) rfl (by rw [hml]; rfl) (argsL := [(.ref b18_0), (.int j3)]) (rest := []) (lenOf pd_1 rfl) rfl (by show 2 * 0 + _ ≤ _; exact Nat.le_of_eq rfl) (hb hby at_138) (fun _ _ => ⟨rfl, rfl, (by decide : 1 + 0 ≤ _), (by decide : 2 + 0 ≤ _)⟩)
    dsimp only [Pt.U, Pt.locs, Pt.cells, Pt.slots] at X21 l21 y21 z21 st21 hQ21
    subst l21 y21 z21
    obtain ⟨rfl, N21q, e21⟩ := hQ21
    have NN := Fr.app NN N21q
    refine own_go st21 ?_
    show own_Go p.tables e below _ T21 (mkF m 141 #[.val (.int p1), .val (.int p2), .val (.int p3), .val (.int p4), .val (.int p5), .val (.int p6), .val (.int (2 : Int32)), .val (.int j2), .val (.int j3), .val (.ref b18_0), .val (.int j19), .unset, .unset] [(.int (r_2_2 j3 p1 p2))])
    refine own_go (T' := T21) (g' := (mkF m 143 #[.val (.int p1), .val (.int p2), .val (.int p3), .val (.int p4), .val (.int p5), .val (.int p6), .val (.int (2 : Int32)), .val (.int j2), .val (.int j3), .val (.ref b18_0), .val (.int j19), .val (.int (r_2_2 j3 p1 p2)), .unset] [])) (fun t k => ?_) ?_
    · show Steps p.tables e below (T21.setTop (mkF m 141 #[.val (.int p1), .val (.int p2), .val (.int p3), .val (.int p4), .val (.int p5), .val (.int p6), .val (.int (2 : Int32)), .val (.int j2), .val (.int j3), .val (.ref b18_0), .val (.int j19), .unset, .unset] [(.int (r_2_2 j3 p1 p2))])) _
      refine XS.istore X21.here hx rfl (hb hby at_141) rfl (l' := #[.val (.int p1), .val (.int p2), .val (.int p3), .val (.int p4), .val (.int p5), .val (.int p6), .val (.int (2 : Int32)), .val (.int j2), .val (.int j3), .val (.ref b18_0), .val (.int j19), .val (.int (r_2_2 j3 p1 p2)), .unset]) rfl ?_
      exact k
    show own_Go p.tables e below _ T21 (mkF m 143 #[.val (.int p1), .val (.int p2), .val (.int p3), .val (.int p4), .val (.int p5), .val (.int p6), .val (.int (2 : Int32)), .val (.int j2), .val (.int j3), .val (.ref b18_0), .val (.int j19), .val (.int (r_2_2 j3 p1 p2)), .unset] [])
    obtain ⟨j22, hj22⟩ : ∃ z : Int32, z = (r_2_2 j3 p1 p2) := ⟨_, rfl⟩
    rw [← hj22]
    show own_Go p.tables e below _ T21 (mkF m 143 #[.val (.int p1), .val (.int p2), .val (.int p3), .val (.int p4), .val (.int p5), .val (.int p6), .val (.int (2 : Int32)), .val (.int j2), .val (.int j3), .val (.ref b18_0), .val (.int j19), .val (.int j22), .unset] [])
    refine own_go (T' := T21) (g' := (mkF m 145 #[.val (.int p1), .val (.int p2), .val (.int p3), .val (.int p4), .val (.int p5), .val (.int p6), .val (.int (2 : Int32)), .val (.int j2), .val (.int j3), .val (.ref b18_0), .val (.int j19), .val (.int j22), .unset] [(.ref b18_0)])) (fun t k => ?_) ?_
    · show Steps p.tables e below (T21.setTop (mkF m 143 #[.val (.int p1), .val (.int p2), .val (.int p3), .val (.int p4), .val (.int p5), .val (.int p6), .val (.int (2 : Int32)), .val (.int j2), .val (.int j3), .val (.ref b18_0), .val (.int j19), .val (.int j22), .unset] [])) _
      refine XS.aload X21.here hx rfl (hb hby at_143) rfl rfl ?_
      exact k
    have Vq := V_b18_0
    obtain ⟨cl145, Ar145, -, Sz145, Ng145, -, -⟩ := Vq
    refine own_go (fun t k => X21.arraylength hx (by rw [e21]; exact Ar145.1) (State.isArrayOf_alike hZ.alike Ar145.2.1) (g := (mkF m 145 #[.val (.int p1), .val (.int p2), .val (.int p3), .val (.int p4), .val (.int p5), .val (.int p6), .val (.int (2 : Int32)), .val (.int j2), .val (.int j3), .val (.ref b18_0), .val (.int j19), .val (.int j22), .unset] [(.ref b18_0)])) rfl rfl (hb hby at_145) t k) ?_
    rw [len_of Sz145 Ng145]
    show own_Go p.tables e below _ T21 (mkF m 146 #[.val (.int p1), .val (.int p2), .val (.int p3), .val (.int p4), .val (.int p5), .val (.int p6), .val (.int (2 : Int32)), .val (.int j2), .val (.int j3), .val (.ref b18_0), .val (.int j19), .val (.int j22), .unset] [(.int (2 : Int32))])
    refine own_go (T' := T21) (g' := (mkF m 148 #[.val (.int p1), .val (.int p2), .val (.int p3), .val (.int p4), .val (.int p5), .val (.int p6), .val (.int (2 : Int32)), .val (.int j2), .val (.int j3), .val (.ref b18_0), .val (.int j19), .val (.int j22), .unset] [(.int (2 : Int32)), (.int (2 : Int32))])) (fun t k => ?_) ?_
    · show Steps p.tables e below (T21.setTop (mkF m 146 #[.val (.int p1), .val (.int p2), .val (.int p3), .val (.int p4), .val (.int p5), .val (.int p6), .val (.int (2 : Int32)), .val (.int j2), .val (.int j3), .val (.ref b18_0), .val (.int j19), .val (.int j22), .unset] [(.int (2 : Int32))])) _
      refine XS.iload X21.here hx rfl (hb hby at_146) rfl ?_
      exact k
    refine own_go (T' := T21) (g' := (mkF m 154 #[.val (.int p1), .val (.int p2), .val (.int p3), .val (.int p4), .val (.int p5), .val (.int p6), .val (.int (2 : Int32)), .val (.int j2), .val (.int j3), .val (.ref b18_0), .val (.int j19), .val (.int j22), .unset] [(.int (1 : Int32)), (.int (2 : Int32))])) (fun t k => ?_) ?_
    · show Steps p.tables e below (T21.setTop (mkF m 148 #[.val (.int p1), .val (.int p2), .val (.int p3), .val (.int p4), .val (.int p5), .val (.int p6), .val (.int (2 : Int32)), .val (.int j2), .val (.int j3), .val (.ref b18_0), .val (.int j19), .val (.int j22), .unset] [(.int (2 : Int32)), (.int (2 : Int32))])) _
      refine XS.icmpNo X21.here hx rfl (hb hby at_148) rfl (teq (rfl : (2 : Int32) = (2 : Int32))).2 ?_
      show Steps p.tables e below (T21.setTop (mkF m 151 #[.val (.int p1), .val (.int p2), .val (.int p3), .val (.int p4), .val (.int p5), .val (.int p6), .val (.int (2 : Int32)), .val (.int j2), .val (.int j3), .val (.ref b18_0), .val (.int j19), .val (.int j22), .unset] [])) _
      refine XS.iload X21.here hx rfl (hb hby at_151) rfl ?_
      show Steps p.tables e below (T21.setTop (mkF m 153 #[.val (.int p1), .val (.int p2), .val (.int p3), .val (.int p4), .val (.int p5), .val (.int p6), .val (.int (2 : Int32)), .val (.int j2), .val (.int j3), .val (.ref b18_0), .val (.int j19), .val (.int j22), .unset] [(.int (2 : Int32))])) _
      refine XS.iconst X21.here hx rfl (hb hby at_153) ?_
      exact k
    refine own_go (T' := T21) (g' := (mkF m 160 #[.val (.int p1), .val (.int p2), .val (.int p3), .val (.int p4), .val (.int p5), .val (.int p6), .val (.int (2 : Int32)), .val (.int j2), .val (.int j3), .val (.ref b18_0), .val (.int j19), .val (.int j22), .unset] [(.int (0 : Int32)), (.ref b18_0)])) (fun t k => ?_) ?_
    · show Steps p.tables e below (T21.setTop (mkF m 154 #[.val (.int p1), .val (.int p2), .val (.int p3), .val (.int p4), .val (.int p5), .val (.int p6), .val (.int (2 : Int32)), .val (.int j2), .val (.int j3), .val (.ref b18_0), .val (.int j19), .val (.int j22), .unset] [(.int (1 : Int32)), (.int (2 : Int32))])) _
      refine XS.icmpNo X21.here hx rfl (hb hby at_154) rfl (flt (by decide : ¬ ((2 : Int32) < (1 : Int32)))).1 ?_
      show Steps p.tables e below (T21.setTop (mkF m 157 #[.val (.int p1), .val (.int p2), .val (.int p3), .val (.int p4), .val (.int p5), .val (.int p6), .val (.int (2 : Int32)), .val (.int j2), .val (.int j3), .val (.ref b18_0), .val (.int j19), .val (.int j22), .unset] [])) _
      refine XS.aload X21.here hx rfl (hb hby at_157) rfl rfl ?_
      show Steps p.tables e below (T21.setTop (mkF m 159 #[.val (.int p1), .val (.int p2), .val (.int p3), .val (.int p4), .val (.int p5), .val (.int p6), .val (.int (2 : Int32)), .val (.int j2), .val (.int j3), .val (.ref b18_0), .val (.int j19), .val (.int j22), .unset] [(.ref b18_0)])) _
      refine XS.iconst X21.here hx rfl (hb hby at_159) ?_
      exact k
    have Vq := V_b18_0
    obtain ⟨cl23, Ar23, q23, Sz23, Ng23, Hs23, Gs23⟩ := Vq
    have hin23 : ¬ ((0 : Int32) < 0 ∨ cl23.slots.size ≤ ((0 : Int32)).toNatClampNeg) := inb_of Sz23 ⟨by decide, by decide⟩
    have hat23 : cl23.slots[((0 : Int32)).toNatClampNeg]? = some (.int p1) := Hs23.at hin23 rfl
    refine own_go (fun t k => X21.iaload hx (j := (0 : Int32)) (v := (.int p1)) (by rw [e21]; exact Ar23.1) (State.isArrayOf_alike hZ.alike Ar23.2.1) Ar23.2.2 hin23 hat23 (g := (mkF m 160 #[.val (.int p1), .val (.int p2), .val (.int p3), .val (.int p4), .val (.int p5), .val (.int p6), .val (.int (2 : Int32)), .val (.int j2), .val (.int j3), .val (.ref b18_0), .val (.int j19), .val (.int j22), .unset] [(.int (0 : Int32)), (.ref b18_0)])) rfl rfl (hb hby at_160) t k) ?_
    show own_Go p.tables e below _ T21 (mkF m 161 #[.val (.int p1), .val (.int p2), .val (.int p3), .val (.int p4), .val (.int p5), .val (.int p6), .val (.int (2 : Int32)), .val (.int j2), .val (.int j3), .val (.ref b18_0), .val (.int j19), .val (.int j22), .unset] [(.int p1)])
    refine own_go (T' := T21) (g' := (mkF m 162 #[.val (.int p1), .val (.int p2), .val (.int p3), .val (.int p4), .val (.int p5), .val (.int p6), .val (.int (2 : Int32)), .val (.int j2), .val (.int j3), .val (.ref b18_0), .val (.int j19), .val (.int j22), .unset] [(.int p1), (.int p1)])) (fun t k => ?_) ?_
    · show Steps p.tables e below (T21.setTop (mkF m 161 #[.val (.int p1), .val (.int p2), .val (.int p3), .val (.int p4), .val (.int p5), .val (.int p6), .val (.int (2 : Int32)), .val (.int j2), .val (.int j3), .val (.ref b18_0), .val (.int j19), .val (.int j22), .unset] [(.int p1)])) _
      refine XS.iloadN X21.here hx rfl (hb hby at_161) rfl ?_
      exact k
    refine own_go (T' := T21) (g' := (mkF m 168 #[.val (.int p1), .val (.int p2), .val (.int p3), .val (.int p4), .val (.int p5), .val (.int p6), .val (.int (2 : Int32)), .val (.int j2), .val (.int j3), .val (.ref b18_0), .val (.int j19), .val (.int j22), .unset] [(.int (2 : Int32)), (.int (2 : Int32))])) (fun t k => ?_) ?_
    · show Steps p.tables e below (T21.setTop (mkF m 162 #[.val (.int p1), .val (.int p2), .val (.int p3), .val (.int p4), .val (.int p5), .val (.int p6), .val (.int (2 : Int32)), .val (.int j2), .val (.int j3), .val (.ref b18_0), .val (.int j19), .val (.int j22), .unset] [(.int p1), (.int p1)])) _
      refine XS.icmpNo X21.here hx rfl (hb hby at_162) rfl (teq (rfl : p1 = p1)).2 ?_
      show Steps p.tables e below (T21.setTop (mkF m 165 #[.val (.int p1), .val (.int p2), .val (.int p3), .val (.int p4), .val (.int p5), .val (.int p6), .val (.int (2 : Int32)), .val (.int j2), .val (.int j3), .val (.ref b18_0), .val (.int j19), .val (.int j22), .unset] [])) _
      refine XS.iload X21.here hx rfl (hb hby at_165) rfl ?_
      show Steps p.tables e below (T21.setTop (mkF m 167 #[.val (.int p1), .val (.int p2), .val (.int p3), .val (.int p4), .val (.int p5), .val (.int p6), .val (.int (2 : Int32)), .val (.int j2), .val (.int j3), .val (.ref b18_0), .val (.int j19), .val (.int j22), .unset] [(.int (2 : Int32))])) _
      refine XS.iconst X21.here hx rfl (hb hby at_167) ?_
      exact k
    refine own_go (T' := T21) (g' := (mkF m 174 #[.val (.int p1), .val (.int p2), .val (.int p3), .val (.int p4), .val (.int p5), .val (.int p6), .val (.int (2 : Int32)), .val (.int j2), .val (.int j3), .val (.ref b18_0), .val (.int j19), .val (.int j22), .unset] [(.int (1 : Int32)), (.ref b18_0)])) (fun t k => ?_) ?_
    · show Steps p.tables e below (T21.setTop (mkF m 168 #[.val (.int p1), .val (.int p2), .val (.int p3), .val (.int p4), .val (.int p5), .val (.int p6), .val (.int (2 : Int32)), .val (.int j2), .val (.int j3), .val (.ref b18_0), .val (.int j19), .val (.int j22), .unset] [(.int (2 : Int32)), (.int (2 : Int32))])) _
      refine XS.icmpNo X21.here hx rfl (hb hby at_168) rfl (flt (Int32.lt_irrefl)).1 ?_
      show Steps p.tables e below (T21.setTop (mkF m 171 #[.val (.int p1), .val (.int p2), .val (.int p3), .val (.int p4), .val (.int p5), .val (.int p6), .val (.int (2 : Int32)), .val (.int j2), .val (.int j3), .val (.ref b18_0), .val (.int j19), .val (.int j22), .unset] [])) _
      refine XS.aload X21.here hx rfl (hb hby at_171) rfl rfl ?_
      show Steps p.tables e below (T21.setTop (mkF m 173 #[.val (.int p1), .val (.int p2), .val (.int p3), .val (.int p4), .val (.int p5), .val (.int p6), .val (.int (2 : Int32)), .val (.int j2), .val (.int j3), .val (.ref b18_0), .val (.int j19), .val (.int j22), .unset] [(.ref b18_0)])) _
      refine XS.iconst X21.here hx rfl (hb hby at_173) ?_
      exact k
    have Vq := V_b18_0
    obtain ⟨cl24, Ar24, q24, Sz24, Ng24, Hs24, Gs24⟩ := Vq
    have hin24 : ¬ ((1 : Int32) < 0 ∨ cl24.slots.size ≤ ((1 : Int32)).toNatClampNeg) := inb_of Sz24 ⟨by decide, by decide⟩
    have hat24 : cl24.slots[((1 : Int32)).toNatClampNeg]? = some (.int p2) := Hs24.at hin24 rfl
    refine own_go (fun t k => X21.iaload hx (j := (1 : Int32)) (v := (.int p2)) (by rw [e21]; exact Ar24.1) (State.isArrayOf_alike hZ.alike Ar24.2.1) Ar24.2.2 hin24 hat24 (g := (mkF m 174 #[.val (.int p1), .val (.int p2), .val (.int p3), .val (.int p4), .val (.int p5), .val (.int p6), .val (.int (2 : Int32)), .val (.int j2), .val (.int j3), .val (.ref b18_0), .val (.int j19), .val (.int j22), .unset] [(.int (1 : Int32)), (.ref b18_0)])) rfl rfl (hb hby at_174) t k) ?_
    show own_Go p.tables e below _ T21 (mkF m 175 #[.val (.int p1), .val (.int p2), .val (.int p3), .val (.int p4), .val (.int p5), .val (.int p6), .val (.int (2 : Int32)), .val (.int j2), .val (.int j3), .val (.ref b18_0), .val (.int j19), .val (.int j22), .unset] [(.int p2)])
    refine own_go (T' := T21) (g' := (mkF m 176 #[.val (.int p1), .val (.int p2), .val (.int p3), .val (.int p4), .val (.int p5), .val (.int p6), .val (.int (2 : Int32)), .val (.int j2), .val (.int j3), .val (.ref b18_0), .val (.int j19), .val (.int j22), .unset] [(.int p2), (.int p2)])) (fun t k => ?_) ?_
    · show Steps p.tables e below (T21.setTop (mkF m 175 #[.val (.int p1), .val (.int p2), .val (.int p3), .val (.int p4), .val (.int p5), .val (.int p6), .val (.int (2 : Int32)), .val (.int j2), .val (.int j3), .val (.ref b18_0), .val (.int j19), .val (.int j22), .unset] [(.int p2)])) _
      refine XS.iloadN X21.here hx rfl (hb hby at_175) rfl ?_
      exact k
    refine own_go (T' := T21) (g' := (mkF m 182 #[.val (.int p1), .val (.int p2), .val (.int p3), .val (.int p4), .val (.int p5), .val (.int p6), .val (.int (2 : Int32)), .val (.int j2), .val (.int j3), .val (.ref b18_0), .val (.int j19), .val (.int j22), .unset] [(.int (3 : Int32)), (.int (2 : Int32))])) (fun t k => ?_) ?_
    · show Steps p.tables e below (T21.setTop (mkF m 176 #[.val (.int p1), .val (.int p2), .val (.int p3), .val (.int p4), .val (.int p5), .val (.int p6), .val (.int (2 : Int32)), .val (.int j2), .val (.int j3), .val (.ref b18_0), .val (.int j19), .val (.int j22), .unset] [(.int p2), (.int p2)])) _
      refine XS.icmpNo X21.here hx rfl (hb hby at_176) rfl (teq (rfl : p2 = p2)).2 ?_
      show Steps p.tables e below (T21.setTop (mkF m 179 #[.val (.int p1), .val (.int p2), .val (.int p3), .val (.int p4), .val (.int p5), .val (.int p6), .val (.int (2 : Int32)), .val (.int j2), .val (.int j3), .val (.ref b18_0), .val (.int j19), .val (.int j22), .unset] [])) _
      refine XS.iload X21.here hx rfl (hb hby at_179) rfl ?_
      show Steps p.tables e below (T21.setTop (mkF m 181 #[.val (.int p1), .val (.int p2), .val (.int p3), .val (.int p4), .val (.int p5), .val (.int p6), .val (.int (2 : Int32)), .val (.int j2), .val (.int j3), .val (.ref b18_0), .val (.int j19), .val (.int j22), .unset] [(.int (2 : Int32))])) _
      refine XS.iconst X21.here hx rfl (hb hby at_181) ?_
      exact k
    refine own_go (T' := T21) (g' := (mkF m 196 #[.val (.int p1), .val (.int p2), .val (.int p3), .val (.int p4), .val (.int p5), .val (.int p6), .val (.int (2 : Int32)), .val (.int j2), .val (.int j3), .val (.ref b18_0), .val (.int j19), .val (.int j22), .unset] [(.int (4 : Int32)), (.int (2 : Int32))])) (fun t k => ?_) ?_
    · show Steps p.tables e below (T21.setTop (mkF m 182 #[.val (.int p1), .val (.int p2), .val (.int p3), .val (.int p4), .val (.int p5), .val (.int p6), .val (.int (2 : Int32)), .val (.int j2), .val (.int j3), .val (.ref b18_0), .val (.int j19), .val (.int j22), .unset] [(.int (3 : Int32)), (.int (2 : Int32))])) _
      refine XS.icmpYes X21.here hx rfl (pc0 := 182) (pc' := 193) rfl (hb hby at_182) rfl (tlt (by decide : (2 : Int32) < (3 : Int32))).1 (by decide) (by decide) ?_
      show Steps p.tables e below (T21.setTop (mkF m 193 #[.val (.int p1), .val (.int p2), .val (.int p3), .val (.int p4), .val (.int p5), .val (.int p6), .val (.int (2 : Int32)), .val (.int j2), .val (.int j3), .val (.ref b18_0), .val (.int j19), .val (.int j22), .unset] [])) _
      refine XS.iload X21.here hx rfl (hb hby at_193) rfl ?_
      show Steps p.tables e below (T21.setTop (mkF m 195 #[.val (.int p1), .val (.int p2), .val (.int p3), .val (.int p4), .val (.int p5), .val (.int p6), .val (.int (2 : Int32)), .val (.int j2), .val (.int j3), .val (.ref b18_0), .val (.int j19), .val (.int j22), .unset] [(.int (2 : Int32))])) _
      refine XS.iconst X21.here hx rfl (hb hby at_195) ?_
      exact k
    refine own_go (T' := T21) (g' := (mkF m 218 #[.val (.int p1), .val (.int p2), .val (.int p3), .val (.int p4), .val (.int p5), .val (.int p6), .val (.int (2 : Int32)), .val (.int j2), .val (.int j3), .val (.ref b18_0), .val (.int j19), .val (.int j22), .val (.int (1 : Int32))] [(.int j19), (.int j22)])) (fun t k => ?_) ?_
    · show Steps p.tables e below (T21.setTop (mkF m 196 #[.val (.int p1), .val (.int p2), .val (.int p3), .val (.int p4), .val (.int p5), .val (.int p6), .val (.int (2 : Int32)), .val (.int j2), .val (.int j3), .val (.ref b18_0), .val (.int j19), .val (.int j22), .unset] [(.int (4 : Int32)), (.int (2 : Int32))])) _
      refine XS.icmpYes X21.here hx rfl (pc0 := 196) (pc' := 207) rfl (hb hby at_196) rfl (tlt (by decide : (2 : Int32) < (4 : Int32))).1 (by decide) (by decide) ?_
      show Steps p.tables e below (T21.setTop (mkF m 207 #[.val (.int p1), .val (.int p2), .val (.int p3), .val (.int p4), .val (.int p5), .val (.int p6), .val (.int (2 : Int32)), .val (.int j2), .val (.int j3), .val (.ref b18_0), .val (.int j19), .val (.int j22), .unset] [])) _
      refine XS.iconst X21.here hx rfl (hb hby at_207) ?_
      show Steps p.tables e below (T21.setTop (mkF m 208 #[.val (.int p1), .val (.int p2), .val (.int p3), .val (.int p4), .val (.int p5), .val (.int p6), .val (.int (2 : Int32)), .val (.int j2), .val (.int j3), .val (.ref b18_0), .val (.int j19), .val (.int j22), .unset] [(.int (1 : Int32))])) _
      refine XS.goto X21.here hx rfl (pc0 := 208) (pc' := 212) rfl (hb hby at_208) (by decide) (by decide) ?_
      show Steps p.tables e below (T21.setTop (mkF m 212 #[.val (.int p1), .val (.int p2), .val (.int p3), .val (.int p4), .val (.int p5), .val (.int p6), .val (.int (2 : Int32)), .val (.int j2), .val (.int j3), .val (.ref b18_0), .val (.int j19), .val (.int j22), .unset] [(.int (1 : Int32))])) _
      refine XS.istore X21.here hx rfl (hb hby at_212) rfl (l' := #[.val (.int p1), .val (.int p2), .val (.int p3), .val (.int p4), .val (.int p5), .val (.int p6), .val (.int (2 : Int32)), .val (.int j2), .val (.int j3), .val (.ref b18_0), .val (.int j19), .val (.int j22), .val (.int (1 : Int32))]) rfl ?_
      show Steps p.tables e below (T21.setTop (mkF m 214 #[.val (.int p1), .val (.int p2), .val (.int p3), .val (.int p4), .val (.int p5), .val (.int p6), .val (.int (2 : Int32)), .val (.int j2), .val (.int j3), .val (.ref b18_0), .val (.int j19), .val (.int j22), .val (.int (1 : Int32))] [])) _
      refine XS.iload X21.here hx rfl (hb hby at_214) rfl ?_
      show Steps p.tables e below (T21.setTop (mkF m 216 #[.val (.int p1), .val (.int p2), .val (.int p3), .val (.int p4), .val (.int p5), .val (.int p6), .val (.int (2 : Int32)), .val (.int j2), .val (.int j3), .val (.ref b18_0), .val (.int j19), .val (.int j22), .val (.int (1 : Int32))] [(.int j22)])) _
      refine XS.iload X21.here hx rfl (hb hby at_216) rfl ?_
      exact k
    obtain ⟨j25, hj25, st26⟩ : ∃ (j25 : Int32), j25 = (if j22 = j19 then (1 : Int32) else (0 : Int32)) ∧ ∀ t, Steps p.tables e below (T21.setTop (mkF m 231 #[.val (.int p1), .val (.int p2), .val (.int p3), .val (.int p4), .val (.int p5), .val (.int p6), .val (.int (2 : Int32)), .val (.int j2), .val (.int j3), .val (.ref b18_0), .val (.int j19), .val (.int j22), .val (.int (1 : Int32))] [(.int j25)])) t → Steps p.tables e below (T21.setTop (mkF m 218 #[.val (.int p1), .val (.int p2), .val (.int p3), .val (.int p4), .val (.int p5), .val (.int p6), .val (.int (2 : Int32)), .val (.int j2), .val (.int j3), .val (.ref b18_0), .val (.int j19), .val (.int j22), .val (.int (1 : Int32))] [(.int j19), (.int j22)])) t := by
      by_cases hc218_10 : j22 = j19
      · skip
        refine ⟨(1 : Int32), (by simp only [if_pos hc218_10]), fun t k => ?_⟩
        show Steps p.tables e below (T21.setTop (mkF m 218 #[.val (.int p1), .val (.int p2), .val (.int p3), .val (.int p4), .val (.int p5), .val (.int p6), .val (.int (2 : Int32)), .val (.int j2), .val (.int j3), .val (.ref b18_0), .val (.int j19), .val (.int j22), .val (.int (1 : Int32))] [(.int j19), (.int j22)])) _
        refine XS.icmpNo X21.here hx rfl (hb hby at_218) rfl (teq hc218_10).2 ?_
        show Steps p.tables e below (T21.setTop (mkF m 221 #[.val (.int p1), .val (.int p2), .val (.int p3), .val (.int p4), .val (.int p5), .val (.int p6), .val (.int (2 : Int32)), .val (.int j2), .val (.int j3), .val (.ref b18_0), .val (.int j19), .val (.int j22), .val (.int (1 : Int32))] [])) _
        refine XS.iload X21.here hx rfl (hb hby at_221) rfl ?_
        show Steps p.tables e below (T21.setTop (mkF m 223 #[.val (.int p1), .val (.int p2), .val (.int p3), .val (.int p4), .val (.int p5), .val (.int p6), .val (.int (2 : Int32)), .val (.int j2), .val (.int j3), .val (.ref b18_0), .val (.int j19), .val (.int j22), .val (.int (1 : Int32))] [(.int (1 : Int32))])) _
        refine XS.ifNo X21.here hx rfl (hb hby at_223) rfl ((if0 _ _).trans (feq (by decide : ¬ ((1 : Int32) = (0 : Int32)))).1) ?_
        show Steps p.tables e below (T21.setTop (mkF m 226 #[.val (.int p1), .val (.int p2), .val (.int p3), .val (.int p4), .val (.int p5), .val (.int p6), .val (.int (2 : Int32)), .val (.int j2), .val (.int j3), .val (.ref b18_0), .val (.int j19), .val (.int j22), .val (.int (1 : Int32))] [])) _
        refine XS.iconst X21.here hx rfl (hb hby at_226) ?_
        show Steps p.tables e below (T21.setTop (mkF m 227 #[.val (.int p1), .val (.int p2), .val (.int p3), .val (.int p4), .val (.int p5), .val (.int p6), .val (.int (2 : Int32)), .val (.int j2), .val (.int j3), .val (.ref b18_0), .val (.int j19), .val (.int j22), .val (.int (1 : Int32))] [(.int (1 : Int32))])) _
        refine XS.goto X21.here hx rfl (pc0 := 227) (pc' := 231) rfl (hb hby at_227) (by decide) (by decide) ?_
        exact k
      · skip
        refine ⟨(0 : Int32), (by simp only [if_neg hc218_10]), fun t k => ?_⟩
        show Steps p.tables e below (T21.setTop (mkF m 218 #[.val (.int p1), .val (.int p2), .val (.int p3), .val (.int p4), .val (.int p5), .val (.int p6), .val (.int (2 : Int32)), .val (.int j2), .val (.int j3), .val (.ref b18_0), .val (.int j19), .val (.int j22), .val (.int (1 : Int32))] [(.int j19), (.int j22)])) _
        refine XS.icmpYes X21.here hx rfl (pc0 := 218) (pc' := 230) rfl (hb hby at_218) rfl (feq hc218_10).2 (by decide) (by decide) ?_
        show Steps p.tables e below (T21.setTop (mkF m 230 #[.val (.int p1), .val (.int p2), .val (.int p3), .val (.int p4), .val (.int p5), .val (.int p6), .val (.int (2 : Int32)), .val (.int j2), .val (.int j3), .val (.ref b18_0), .val (.int j19), .val (.int j22), .val (.int (1 : Int32))] [])) _
        refine XS.iconst X21.here hx rfl (hb hby at_230) ?_
        exact k
    refine own_go st26 ?_
    show own_Go p.tables e below _ T21 (mkF m 231 #[.val (.int p1), .val (.int p2), .val (.int p3), .val (.int p4), .val (.int p5), .val (.int p6), .val (.int (2 : Int32)), .val (.int j2), .val (.int j3), .val (.ref b18_0), .val (.int j19), .val (.int j22), .val (.int (1 : Int32))] [(.int j25)])
    have hv1 : (nar .boolean j25) = 1 := own_yes_2 p1 p2 p3 p4 p5 p6 j2 j3 j19 j22 j25 hj2 hj3 hj19 hj22 hj25
    obtain ⟨fs, hr, hrun, hended, hW, hsame⟩ := X21.leave (v := some (.int (nar .boolean j25))) (fun h => by rw [Bd.returns] at h; cases h)
    refine ⟨_, _, ?_, hrun, hended, _, _, rfl, ?_, ⟨_, rfl⟩, hW, hsame.mono (by decide) (by decide)⟩
    · exact retN X21 hx (t := .boolean) Bd.returns (by simp) (hb hby at_231) hr
    · show Q0 Z p1 p2 p3 p4 p5 p6 h0 n0 _ _ _
      exact ⟨by rw [hv1], NN⟩
  · subst hn
    show own_Go p.tables e below _ s₁ (mkF m 69 #[.val (.int p1), .val (.int p2), .val (.int p3), .val (.int p4), .val (.int p5), .val (.int p6), .val (.int (3 : Int32)), .val (.int j2), .val (.int j3), .unset, .unset, .unset, .unset] [])
    refine own_go (T' := s₁) (g' := (mkF m 75 #[.val (.int p1), .val (.int p2), .val (.int p3), .val (.int p4), .val (.int p5), .val (.int p6), .val (.int (3 : Int32)), .val (.int j2), .val (.int j3), .unset, .unset, .unset, .unset] [(.int p4), (.int p3), (.int p2), (.int p1), (.int (3 : Int32))])) (fun t k => ?_) ?_
    · show Steps p.tables e below (s₁.setTop (mkF m 69 #[.val (.int p1), .val (.int p2), .val (.int p3), .val (.int p4), .val (.int p5), .val (.int p6), .val (.int (3 : Int32)), .val (.int j2), .val (.int j3), .unset, .unset, .unset, .unset] [])) _
      refine XS.iload X0.here hx rfl (hb hby at_69) rfl ?_
      show Steps p.tables e below (s₁.setTop (mkF m 71 #[.val (.int p1), .val (.int p2), .val (.int p3), .val (.int p4), .val (.int p5), .val (.int p6), .val (.int (3 : Int32)), .val (.int j2), .val (.int j3), .unset, .unset, .unset, .unset] [(.int (3 : Int32))])) _
      refine XS.iloadN X0.here hx rfl (hb hby at_71) rfl ?_
      show Steps p.tables e below (s₁.setTop (mkF m 72 #[.val (.int p1), .val (.int p2), .val (.int p3), .val (.int p4), .val (.int p5), .val (.int p6), .val (.int (3 : Int32)), .val (.int j2), .val (.int j3), .unset, .unset, .unset, .unset] [(.int p1), (.int (3 : Int32))])) _
      refine XS.iloadN X0.here hx rfl (hb hby at_72) rfl ?_
      show Steps p.tables e below (s₁.setTop (mkF m 73 #[.val (.int p1), .val (.int p2), .val (.int p3), .val (.int p4), .val (.int p5), .val (.int p6), .val (.int (3 : Int32)), .val (.int j2), .val (.int j3), .unset, .unset, .unset, .unset] [(.int p2), (.int p1), (.int (3 : Int32))])) _
      refine XS.iloadN X0.here hx rfl (hb hby at_73) rfl ?_
      show Steps p.tables e below (s₁.setTop (mkF m 74 #[.val (.int p1), .val (.int p2), .val (.int p3), .val (.int p4), .val (.int p5), .val (.int p6), .val (.int (3 : Int32)), .val (.int j2), .val (.int j3), .unset, .unset, .unset, .unset] [(.int p3), (.int p2), (.int p1), (.int (3 : Int32))])) _
      refine XS.iloadN X0.here hx rfl (hb hby at_74) rfl ?_
      exact k
    obtain ⟨_, _, ⟨T27, L27, k27, n27⟩, -, X27, ⟨Lc27, hQ27, l27, y27, z27⟩, st27⟩ := Jvm.LawKit.callS X0 hx (y := (⟨"com/example/hopline/hopline/core/NodeStoreHasLabelPinLaw", "make", "(IIIII)[I"⟩ : MethodName)) hown (mvT hZ (hw _ (List.mem_of_getElem? (i := 0) rfl))) (mvT hZ (hw _ (List.mem_of_getElem? (i := 1) rfl))) (mvT hZ (hw _ (List.mem_of_getElem? (i := 2) rfl))) (mvT hZ (hw _ (List.mem_of_getElem? (i := 3) rfl))) (by decide) (backOf (W := 0) (rm1_3 l Z a0 hw [] (3 : Int32) p1 p2 p3 p4 h0 n0 Z0 (by decide : ¬ ((3 : Int32) = (0 : Int32))) (by decide : ¬ ((3 : Int32) = (1 : Int32))) (by decide : ¬ ((3 : Int32) = (2 : Int32))) (by decide : (3 : Int32) = (3 : Int32))) hZ (hw _ (List.mem_of_getElem? (i := 3) rfl)) (hw _ (List.mem_of_getElem? (i := 2) rfl)) (by decide) (by decide)) (g := (mkF m 75 #[.val (.int p1), .val (.int p2), .val (.int p3), .val (.int p4), .val (.int p5), .val (.int p6), .val (.int (3 : Int32)), .val (.int j2), .val (.int j3), .unset, .unset, .unset, .unset] [(.int p4), (.int p3), (.int p2), (.int p1), (.int (3 : Int32))])) rfl (by rw [hml]; rfl) (argsL := [(.int (3 : Int32)), (.int p1), (.int p2), (.int p3), (.int p4)]) (rest := []) (lenOf pd_0 rfl) rfl (by show 2 * 0 + _ ≤ _; exact Nat.le_of_eq rfl) (hb hby at_75) (fun _ _ => ⟨rfl, e0, (by decide : 0 + 1 ≤ _), (by decide : 0 + 3 ≤ _)⟩)
    dsimp only [Pt.U, Pt.locs, Pt.cells, Pt.slots] at X27 l27 y27 z27 st27 hQ27
    subst l27 y27 z27
    obtain ⟨b27_0, k27_1, rfl, N27q, K27, R27_0, R27_1, R27_2⟩ := hQ27
    have g_b27_0 := R27_0
    have sz_b27_0 : h0.size ≤ b27_0 := Nat.le_trans KK.1 R27_1
    have V_b27_0 := R27_2
    have Z0 := Nat.le_trans Z0 K27.1
    have KK := KK.trans K27 all0
    have NN := Fr.app NN N27q
    refine own_go st27 ?_
    show own_Go p.tables e below _ T27 (mkF m 78 #[.val (.int p1), .val (.int p2), .val (.int p3), .val (.int p4), .val (.int p5), .val (.int p6), .val (.int (3 : Int32)), .val (.int j2), .val (.int j3), .unset, .unset, .unset, .unset] [(.ref b27_0)])
    refine own_go (T' := T27) (g' := (mkF m 82 #[.val (.int p1), .val (.int p2), .val (.int p3), .val (.int p4), .val (.int p5), .val (.int p6), .val (.int (3 : Int32)), .val (.int j2), .val (.int j3), .val (.ref b27_0), .unset, .unset, .unset] [(.int (3 : Int32))])) (fun t k => ?_) ?_
    · show Steps p.tables e below (T27.setTop (mkF m 78 #[.val (.int p1), .val (.int p2), .val (.int p3), .val (.int p4), .val (.int p5), .val (.int p6), .val (.int (3 : Int32)), .val (.int j2), .val (.int j3), .unset, .unset, .unset, .unset] [(.ref b27_0)])) _
      refine XS.astore X27.here hx rfl (hb hby at_78) rfl rfl (l' := #[.val (.int p1), .val (.int p2), .val (.int p3), .val (.int p4), .val (.int p5), .val (.int p6), .val (.int (3 : Int32)), .val (.int j2), .val (.int j3), .val (.ref b27_0), .unset, .unset, .unset]) rfl ?_
      show Steps p.tables e below (T27.setTop (mkF m 80 #[.val (.int p1), .val (.int p2), .val (.int p3), .val (.int p4), .val (.int p5), .val (.int p6), .val (.int (3 : Int32)), .val (.int j2), .val (.int j3), .val (.ref b27_0), .unset, .unset, .unset] [])) _
      refine XS.iload X27.here hx rfl (hb hby at_80) rfl ?_
      exact k
    refine own_go (T' := T27) (g' := (mkF m 88 #[.val (.int p1), .val (.int p2), .val (.int p3), .val (.int p4), .val (.int p5), .val (.int p6), .val (.int (3 : Int32)), .val (.int j2), .val (.int j3), .val (.ref b27_0), .unset, .unset, .unset] [(.int j3), (.int p1)])) (fun t k => ?_) ?_
    · show Steps p.tables e below (T27.setTop (mkF m 82 #[.val (.int p1), .val (.int p2), .val (.int p3), .val (.int p4), .val (.int p5), .val (.int p6), .val (.int (3 : Int32)), .val (.int j2), .val (.int j3), .val (.ref b27_0), .unset, .unset, .unset] [(.int (3 : Int32))])) _
      refine XS.ifNo X27.here hx rfl (hb hby at_82) rfl ((if0 _ _).trans (tlt (by decide : (0 : Int32) < (3 : Int32))).2.2.2) ?_
      show Steps p.tables e below (T27.setTop (mkF m 85 #[.val (.int p1), .val (.int p2), .val (.int p3), .val (.int p4), .val (.int p5), .val (.int p6), .val (.int (3 : Int32)), .val (.int j2), .val (.int j3), .val (.ref b27_0), .unset, .unset, .unset] [])) _
      refine XS.iloadN X27.here hx rfl (hb hby at_85) rfl ?_
      show Steps p.tables e below (T27.setTop (mkF m 86 #[.val (.int p1), .val (.int p2), .val (.int p3), .val (.int p4), .val (.int p5), .val (.int p6), .val (.int (3 : Int32)), .val (.int j2), .val (.int j3), .val (.ref b27_0), .unset, .unset, .unset] [(.int p1)])) _
      refine XS.iload X27.here hx rfl (hb hby at_86) rfl ?_
      exact k
    obtain ⟨j28, hj28, st29⟩ : ∃ (j28 : Int32), j28 = (if p1 = j3 then (1 : Int32) else (if p2 = j3 then (1 : Int32) else (if p3 = j3 then (1 : Int32) else (0 : Int32)))) ∧ ∀ t, Steps p.tables e below (T27.setTop (mkF m 132 #[.val (.int p1), .val (.int p2), .val (.int p3), .val (.int p4), .val (.int p5), .val (.int p6), .val (.int (3 : Int32)), .val (.int j2), .val (.int j3), .val (.ref b27_0), .unset, .unset, .unset] [(.int j28)])) t → Steps p.tables e below (T27.setTop (mkF m 88 #[.val (.int p1), .val (.int p2), .val (.int p3), .val (.int p4), .val (.int p5), .val (.int p6), .val (.int (3 : Int32)), .val (.int j2), .val (.int j3), .val (.ref b27_0), .unset, .unset, .unset] [(.int j3), (.int p1)])) t := by
      by_cases hc88_11 : p1 = j3
      · skip
        refine ⟨(1 : Int32), (by simp only [if_pos hc88_11]), fun t k => ?_⟩
        show Steps p.tables e below (T27.setTop (mkF m 88 #[.val (.int p1), .val (.int p2), .val (.int p3), .val (.int p4), .val (.int p5), .val (.int p6), .val (.int (3 : Int32)), .val (.int j2), .val (.int j3), .val (.ref b27_0), .unset, .unset, .unset] [(.int j3), (.int p1)])) _
        refine XS.icmpYes X27.here hx rfl (pc0 := 88) (pc' := 127) rfl (hb hby at_88) rfl (teq hc88_11).1 (by decide) (by decide) ?_
        show Steps p.tables e below (T27.setTop (mkF m 127 #[.val (.int p1), .val (.int p2), .val (.int p3), .val (.int p4), .val (.int p5), .val (.int p6), .val (.int (3 : Int32)), .val (.int j2), .val (.int j3), .val (.ref b27_0), .unset, .unset, .unset] [])) _
        refine XS.iconst X27.here hx rfl (hb hby at_127) ?_
        show Steps p.tables e below (T27.setTop (mkF m 128 #[.val (.int p1), .val (.int p2), .val (.int p3), .val (.int p4), .val (.int p5), .val (.int p6), .val (.int (3 : Int32)), .val (.int j2), .val (.int j3), .val (.ref b27_0), .unset, .unset, .unset] [(.int (1 : Int32))])) _
        refine XS.goto X27.here hx rfl (pc0 := 128) (pc' := 132) rfl (hb hby at_128) (by decide) (by decide) ?_
        exact k
      · skip
        by_cases hc100_12 : p2 = j3
        · skip
          refine ⟨(1 : Int32), (by simp only [if_neg hc88_11, if_pos hc100_12]), fun t k => ?_⟩
          show Steps p.tables e below (T27.setTop (mkF m 88 #[.val (.int p1), .val (.int p2), .val (.int p3), .val (.int p4), .val (.int p5), .val (.int p6), .val (.int (3 : Int32)), .val (.int j2), .val (.int j3), .val (.ref b27_0), .unset, .unset, .unset] [(.int j3), (.int p1)])) _
          refine XS.icmpNo X27.here hx rfl (hb hby at_88) rfl (feq hc88_11).1 ?_
          show Steps p.tables e below (T27.setTop (mkF m 91 #[.val (.int p1), .val (.int p2), .val (.int p3), .val (.int p4), .val (.int p5), .val (.int p6), .val (.int (3 : Int32)), .val (.int j2), .val (.int j3), .val (.ref b27_0), .unset, .unset, .unset] [])) _
          refine XS.iload X27.here hx rfl (hb hby at_91) rfl ?_
          show Steps p.tables e below (T27.setTop (mkF m 93 #[.val (.int p1), .val (.int p2), .val (.int p3), .val (.int p4), .val (.int p5), .val (.int p6), .val (.int (3 : Int32)), .val (.int j2), .val (.int j3), .val (.ref b27_0), .unset, .unset, .unset] [(.int (3 : Int32))])) _
          refine XS.iconst X27.here hx rfl (hb hby at_93) ?_
          show Steps p.tables e below (T27.setTop (mkF m 94 #[.val (.int p1), .val (.int p2), .val (.int p3), .val (.int p4), .val (.int p5), .val (.int p6), .val (.int (3 : Int32)), .val (.int j2), .val (.int j3), .val (.ref b27_0), .unset, .unset, .unset] [(.int (1 : Int32)), (.int (3 : Int32))])) _
          refine XS.icmpNo X27.here hx rfl (hb hby at_94) rfl (tlt (by decide : (1 : Int32) < (3 : Int32))).2.2.2 ?_
          show Steps p.tables e below (T27.setTop (mkF m 97 #[.val (.int p1), .val (.int p2), .val (.int p3), .val (.int p4), .val (.int p5), .val (.int p6), .val (.int (3 : Int32)), .val (.int j2), .val (.int j3), .val (.ref b27_0), .unset, .unset, .unset] [])) _
          refine XS.iloadN X27.here hx rfl (hb hby at_97) rfl ?_
          show Steps p.tables e below (T27.setTop (mkF m 98 #[.val (.int p1), .val (.int p2), .val (.int p3), .val (.int p4), .val (.int p5), .val (.int p6), .val (.int (3 : Int32)), .val (.int j2), .val (.int j3), .val (.ref b27_0), .unset, .unset, .unset] [(.int p2)])) _
          refine XS.iload X27.here hx rfl (hb hby at_98) rfl ?_
          show Steps p.tables e below (T27.setTop (mkF m 100 #[.val (.int p1), .val (.int p2), .val (.int p3), .val (.int p4), .val (.int p5), .val (.int p6), .val (.int (3 : Int32)), .val (.int j2), .val (.int j3), .val (.ref b27_0), .unset, .unset, .unset] [(.int j3), (.int p2)])) _
          refine XS.icmpYes X27.here hx rfl (pc0 := 100) (pc' := 127) rfl (hb hby at_100) rfl (teq hc100_12).1 (by decide) (by decide) ?_
          show Steps p.tables e below (T27.setTop (mkF m 127 #[.val (.int p1), .val (.int p2), .val (.int p3), .val (.int p4), .val (.int p5), .val (.int p6), .val (.int (3 : Int32)), .val (.int j2), .val (.int j3), .val (.ref b27_0), .unset, .unset, .unset] [])) _
          refine XS.iconst X27.here hx rfl (hb hby at_127) ?_
          show Steps p.tables e below (T27.setTop (mkF m 128 #[.val (.int p1), .val (.int p2), .val (.int p3), .val (.int p4), .val (.int p5), .val (.int p6), .val (.int (3 : Int32)), .val (.int j2), .val (.int j3), .val (.ref b27_0), .unset, .unset, .unset] [(.int (1 : Int32))])) _
          refine XS.goto X27.here hx rfl (pc0 := 128) (pc' := 132) rfl (hb hby at_128) (by decide) (by decide) ?_
          exact k
        · skip
          by_cases hc112_13 : p3 = j3
          · skip
            refine ⟨(1 : Int32), (by simp only [if_neg hc88_11, if_neg hc100_12, if_pos hc112_13]), fun t k => ?_⟩
            show Steps p.tables e below (T27.setTop (mkF m 88 #[.val (.int p1), .val (.int p2), .val (.int p3), .val (.int p4), .val (.int p5), .val (.int p6), .val (.int (3 : Int32)), .val (.int j2), .val (.int j3), .val (.ref b27_0), .unset, .unset, .unset] [(.int j3), (.int p1)])) _
            refine XS.icmpNo X27.here hx rfl (hb hby at_88) rfl (feq hc88_11).1 ?_
            show Steps p.tables e below (T27.setTop (mkF m 91 #[.val (.int p1), .val (.int p2), .val (.int p3), .val (.int p4), .val (.int p5), .val (.int p6), .val (.int (3 : Int32)), .val (.int j2), .val (.int j3), .val (.ref b27_0), .unset, .unset, .unset] [])) _
            refine XS.iload X27.here hx rfl (hb hby at_91) rfl ?_
            show Steps p.tables e below (T27.setTop (mkF m 93 #[.val (.int p1), .val (.int p2), .val (.int p3), .val (.int p4), .val (.int p5), .val (.int p6), .val (.int (3 : Int32)), .val (.int j2), .val (.int j3), .val (.ref b27_0), .unset, .unset, .unset] [(.int (3 : Int32))])) _
            refine XS.iconst X27.here hx rfl (hb hby at_93) ?_
            show Steps p.tables e below (T27.setTop (mkF m 94 #[.val (.int p1), .val (.int p2), .val (.int p3), .val (.int p4), .val (.int p5), .val (.int p6), .val (.int (3 : Int32)), .val (.int j2), .val (.int j3), .val (.ref b27_0), .unset, .unset, .unset] [(.int (1 : Int32)), (.int (3 : Int32))])) _
            refine XS.icmpNo X27.here hx rfl (hb hby at_94) rfl (tlt (by decide : (1 : Int32) < (3 : Int32))).2.2.2 ?_
            show Steps p.tables e below (T27.setTop (mkF m 97 #[.val (.int p1), .val (.int p2), .val (.int p3), .val (.int p4), .val (.int p5), .val (.int p6), .val (.int (3 : Int32)), .val (.int j2), .val (.int j3), .val (.ref b27_0), .unset, .unset, .unset] [])) _
            refine XS.iloadN X27.here hx rfl (hb hby at_97) rfl ?_
            show Steps p.tables e below (T27.setTop (mkF m 98 #[.val (.int p1), .val (.int p2), .val (.int p3), .val (.int p4), .val (.int p5), .val (.int p6), .val (.int (3 : Int32)), .val (.int j2), .val (.int j3), .val (.ref b27_0), .unset, .unset, .unset] [(.int p2)])) _
            refine XS.iload X27.here hx rfl (hb hby at_98) rfl ?_
            show Steps p.tables e below (T27.setTop (mkF m 100 #[.val (.int p1), .val (.int p2), .val (.int p3), .val (.int p4), .val (.int p5), .val (.int p6), .val (.int (3 : Int32)), .val (.int j2), .val (.int j3), .val (.ref b27_0), .unset, .unset, .unset] [(.int j3), (.int p2)])) _
            refine XS.icmpNo X27.here hx rfl (hb hby at_100) rfl (feq hc100_12).1 ?_
            show Steps p.tables e below (T27.setTop (mkF m 103 #[.val (.int p1), .val (.int p2), .val (.int p3), .val (.int p4), .val (.int p5), .val (.int p6), .val (.int (3 : Int32)), .val (.int j2), .val (.int j3), .val (.ref b27_0), .unset, .unset, .unset] [])) _
            refine XS.iload X27.here hx rfl (hb hby at_103) rfl ?_
            show Steps p.tables e below (T27.setTop (mkF m 105 #[.val (.int p1), .val (.int p2), .val (.int p3), .val (.int p4), .val (.int p5), .val (.int p6), .val (.int (3 : Int32)), .val (.int j2), .val (.int j3), .val (.ref b27_0), .unset, .unset, .unset] [(.int (3 : Int32))])) _
            refine XS.iconst X27.here hx rfl (hb hby at_105) ?_
            show Steps p.tables e below (T27.setTop (mkF m 106 #[.val (.int p1), .val (.int p2), .val (.int p3), .val (.int p4), .val (.int p5), .val (.int p6), .val (.int (3 : Int32)), .val (.int j2), .val (.int j3), .val (.ref b27_0), .unset, .unset, .unset] [(.int (2 : Int32)), (.int (3 : Int32))])) _
            refine XS.icmpNo X27.here hx rfl (hb hby at_106) rfl (tlt (by decide : (2 : Int32) < (3 : Int32))).2.2.2 ?_
            show Steps p.tables e below (T27.setTop (mkF m 109 #[.val (.int p1), .val (.int p2), .val (.int p3), .val (.int p4), .val (.int p5), .val (.int p6), .val (.int (3 : Int32)), .val (.int j2), .val (.int j3), .val (.ref b27_0), .unset, .unset, .unset] [])) _
            refine XS.iloadN X27.here hx rfl (hb hby at_109) rfl ?_
            show Steps p.tables e below (T27.setTop (mkF m 110 #[.val (.int p1), .val (.int p2), .val (.int p3), .val (.int p4), .val (.int p5), .val (.int p6), .val (.int (3 : Int32)), .val (.int j2), .val (.int j3), .val (.ref b27_0), .unset, .unset, .unset] [(.int p3)])) _
            refine XS.iload X27.here hx rfl (hb hby at_110) rfl ?_
            show Steps p.tables e below (T27.setTop (mkF m 112 #[.val (.int p1), .val (.int p2), .val (.int p3), .val (.int p4), .val (.int p5), .val (.int p6), .val (.int (3 : Int32)), .val (.int j2), .val (.int j3), .val (.ref b27_0), .unset, .unset, .unset] [(.int j3), (.int p3)])) _
            refine XS.icmpYes X27.here hx rfl (pc0 := 112) (pc' := 127) rfl (hb hby at_112) rfl (teq hc112_13).1 (by decide) (by decide) ?_
            show Steps p.tables e below (T27.setTop (mkF m 127 #[.val (.int p1), .val (.int p2), .val (.int p3), .val (.int p4), .val (.int p5), .val (.int p6), .val (.int (3 : Int32)), .val (.int j2), .val (.int j3), .val (.ref b27_0), .unset, .unset, .unset] [])) _
            refine XS.iconst X27.here hx rfl (hb hby at_127) ?_
            show Steps p.tables e below (T27.setTop (mkF m 128 #[.val (.int p1), .val (.int p2), .val (.int p3), .val (.int p4), .val (.int p5), .val (.int p6), .val (.int (3 : Int32)), .val (.int j2), .val (.int j3), .val (.ref b27_0), .unset, .unset, .unset] [(.int (1 : Int32))])) _
            refine XS.goto X27.here hx rfl (pc0 := 128) (pc' := 132) rfl (hb hby at_128) (by decide) (by decide) ?_
            exact k
          · skip
            refine ⟨(0 : Int32), (by simp only [if_neg hc88_11, if_neg hc100_12, if_neg hc112_13]), fun t k => ?_⟩
            show Steps p.tables e below (T27.setTop (mkF m 88 #[.val (.int p1), .val (.int p2), .val (.int p3), .val (.int p4), .val (.int p5), .val (.int p6), .val (.int (3 : Int32)), .val (.int j2), .val (.int j3), .val (.ref b27_0), .unset, .unset, .unset] [(.int j3), (.int p1)])) _
            refine XS.icmpNo X27.here hx rfl (hb hby at_88) rfl (feq hc88_11).1 ?_
            show Steps p.tables e below (T27.setTop (mkF m 91 #[.val (.int p1), .val (.int p2), .val (.int p3), .val (.int p4), .val (.int p5), .val (.int p6), .val (.int (3 : Int32)), .val (.int j2), .val (.int j3), .val (.ref b27_0), .unset, .unset, .unset] [])) _
            refine XS.iload X27.here hx rfl (hb hby at_91) rfl ?_
            show Steps p.tables e below (T27.setTop (mkF m 93 #[.val (.int p1), .val (.int p2), .val (.int p3), .val (.int p4), .val (.int p5), .val (.int p6), .val (.int (3 : Int32)), .val (.int j2), .val (.int j3), .val (.ref b27_0), .unset, .unset, .unset] [(.int (3 : Int32))])) _
            refine XS.iconst X27.here hx rfl (hb hby at_93) ?_
            show Steps p.tables e below (T27.setTop (mkF m 94 #[.val (.int p1), .val (.int p2), .val (.int p3), .val (.int p4), .val (.int p5), .val (.int p6), .val (.int (3 : Int32)), .val (.int j2), .val (.int j3), .val (.ref b27_0), .unset, .unset, .unset] [(.int (1 : Int32)), (.int (3 : Int32))])) _
            refine XS.icmpNo X27.here hx rfl (hb hby at_94) rfl (tlt (by decide : (1 : Int32) < (3 : Int32))).2.2.2 ?_
            show Steps p.tables e below (T27.setTop (mkF m 97 #[.val (.int p1), .val (.int p2), .val (.int p3), .val (.int p4), .val (.int p5), .val (.int p6), .val (.int (3 : Int32)), .val (.int j2), .val (.int j3), .val (.ref b27_0), .unset, .unset, .unset] [])) _
            refine XS.iloadN X27.here hx rfl (hb hby at_97) rfl ?_
            show Steps p.tables e below (T27.setTop (mkF m 98 #[.val (.int p1), .val (.int p2), .val (.int p3), .val (.int p4), .val (.int p5), .val (.int p6), .val (.int (3 : Int32)), .val (.int j2), .val (.int j3), .val (.ref b27_0), .unset, .unset, .unset] [(.int p2)])) _
            refine XS.iload X27.here hx rfl (hb hby at_98) rfl ?_
            show Steps p.tables e below (T27.setTop (mkF m 100 #[.val (.int p1), .val (.int p2), .val (.int p3), .val (.int p4), .val (.int p5), .val (.int p6), .val (.int (3 : Int32)), .val (.int j2), .val (.int j3), .val (.ref b27_0), .unset, .unset, .unset] [(.int j3), (.int p2)])) _
            refine XS.icmpNo X27.here hx rfl (hb hby at_100) rfl (feq hc100_12).1 ?_
            show Steps p.tables e below (T27.setTop (mkF m 103 #[.val (.int p1), .val (.int p2), .val (.int p3), .val (.int p4), .val (.int p5), .val (.int p6), .val (.int (3 : Int32)), .val (.int j2), .val (.int j3), .val (.ref b27_0), .unset, .unset, .unset] [])) _
            refine XS.iload X27.here hx rfl (hb hby at_103) rfl ?_
            show Steps p.tables e below (T27.setTop (mkF m 105 #[.val (.int p1), .val (.int p2), .val (.int p3), .val (.int p4), .val (.int p5), .val (.int p6), .val (.int (3 : Int32)), .val (.int j2), .val (.int j3), .val (.ref b27_0), .unset, .unset, .unset] [(.int (3 : Int32))])) _
            refine XS.iconst X27.here hx rfl (hb hby at_105) ?_
            show Steps p.tables e below (T27.setTop (mkF m 106 #[.val (.int p1), .val (.int p2), .val (.int p3), .val (.int p4), .val (.int p5), .val (.int p6), .val (.int (3 : Int32)), .val (.int j2), .val (.int j3), .val (.ref b27_0), .unset, .unset, .unset] [(.int (2 : Int32)), (.int (3 : Int32))])) _
            refine XS.icmpNo X27.here hx rfl (hb hby at_106) rfl (tlt (by decide : (2 : Int32) < (3 : Int32))).2.2.2 ?_
            show Steps p.tables e below (T27.setTop (mkF m 109 #[.val (.int p1), .val (.int p2), .val (.int p3), .val (.int p4), .val (.int p5), .val (.int p6), .val (.int (3 : Int32)), .val (.int j2), .val (.int j3), .val (.ref b27_0), .unset, .unset, .unset] [])) _
            refine XS.iloadN X27.here hx rfl (hb hby at_109) rfl ?_
            show Steps p.tables e below (T27.setTop (mkF m 110 #[.val (.int p1), .val (.int p2), .val (.int p3), .val (.int p4), .val (.int p5), .val (.int p6), .val (.int (3 : Int32)), .val (.int j2), .val (.int j3), .val (.ref b27_0), .unset, .unset, .unset] [(.int p3)])) _
            refine XS.iload X27.here hx rfl (hb hby at_110) rfl ?_
            show Steps p.tables e below (T27.setTop (mkF m 112 #[.val (.int p1), .val (.int p2), .val (.int p3), .val (.int p4), .val (.int p5), .val (.int p6), .val (.int (3 : Int32)), .val (.int j2), .val (.int j3), .val (.ref b27_0), .unset, .unset, .unset] [(.int j3), (.int p3)])) _
            refine XS.icmpNo X27.here hx rfl (hb hby at_112) rfl (feq hc112_13).1 ?_
            show Steps p.tables e below (T27.setTop (mkF m 115 #[.val (.int p1), .val (.int p2), .val (.int p3), .val (.int p4), .val (.int p5), .val (.int p6), .val (.int (3 : Int32)), .val (.int j2), .val (.int j3), .val (.ref b27_0), .unset, .unset, .unset] [])) _
            refine XS.iload X27.here hx rfl (hb hby at_115) rfl ?_
            show Steps p.tables e below (T27.setTop (mkF m 117 #[.val (.int p1), .val (.int p2), .val (.int p3), .val (.int p4), .val (.int p5), .val (.int p6), .val (.int (3 : Int32)), .val (.int j2), .val (.int j3), .val (.ref b27_0), .unset, .unset, .unset] [(.int (3 : Int32))])) _
            refine XS.iconst X27.here hx rfl (hb hby at_117) ?_
            show Steps p.tables e below (T27.setTop (mkF m 118 #[.val (.int p1), .val (.int p2), .val (.int p3), .val (.int p4), .val (.int p5), .val (.int p6), .val (.int (3 : Int32)), .val (.int j2), .val (.int j3), .val (.ref b27_0), .unset, .unset, .unset] [(.int (3 : Int32)), (.int (3 : Int32))])) _
            refine XS.icmpYes X27.here hx rfl (pc0 := 118) (pc' := 131) rfl (hb hby at_118) rfl (flt (Int32.lt_irrefl)).2.2.2 (by decide) (by decide) ?_
            show Steps p.tables e below (T27.setTop (mkF m 131 #[.val (.int p1), .val (.int p2), .val (.int p3), .val (.int p4), .val (.int p5), .val (.int p6), .val (.int (3 : Int32)), .val (.int j2), .val (.int j3), .val (.ref b27_0), .unset, .unset, .unset] [])) _
            refine XS.iconst X27.here hx rfl (hb hby at_131) ?_
            exact k
    refine own_go st29 ?_
    show own_Go p.tables e below _ T27 (mkF m 132 #[.val (.int p1), .val (.int p2), .val (.int p3), .val (.int p4), .val (.int p5), .val (.int p6), .val (.int (3 : Int32)), .val (.int j2), .val (.int j3), .val (.ref b27_0), .unset, .unset, .unset] [(.int j28)])
    refine own_go (T' := T27) (g' := (mkF m 138 #[.val (.int p1), .val (.int p2), .val (.int p3), .val (.int p4), .val (.int p5), .val (.int p6), .val (.int (3 : Int32)), .val (.int j2), .val (.int j3), .val (.ref b27_0), .val (.int j28), .unset, .unset] [(.int j3), (.ref b27_0)])) (fun t k => ?_) ?_
    · show Steps p.tables e below (T27.setTop (mkF m 132 #[.val (.int p1), .val (.int p2), .val (.int p3), .val (.int p4), .val (.int p5), .val (.int p6), .val (.int (3 : Int32)), .val (.int j2), .val (.int j3), .val (.ref b27_0), .unset, .unset, .unset] [(.int j28)])) _
      refine XS.istore X27.here hx rfl (hb hby at_132) rfl (l' := #[.val (.int p1), .val (.int p2), .val (.int p3), .val (.int p4), .val (.int p5), .val (.int p6), .val (.int (3 : Int32)), .val (.int j2), .val (.int j3), .val (.ref b27_0), .val (.int j28), .unset, .unset]) rfl ?_
      show Steps p.tables e below (T27.setTop (mkF m 134 #[.val (.int p1), .val (.int p2), .val (.int p3), .val (.int p4), .val (.int p5), .val (.int p6), .val (.int (3 : Int32)), .val (.int j2), .val (.int j3), .val (.ref b27_0), .val (.int j28), .unset, .unset] [])) _
      refine XS.aload X27.here hx rfl (hb hby at_134) rfl rfl ?_
      show Steps p.tables e below (T27.setTop (mkF m 136 #[.val (.int p1), .val (.int p2), .val (.int p3), .val (.int p4), .val (.int p5), .val (.int p6), .val (.int (3 : Int32)), .val (.int j2), .val (.int j3), .val (.ref b27_0), .val (.int j28), .unset, .unset] [(.ref b27_0)])) _
      refine XS.iload X27.here hx rfl (hb hby at_136) rfl ?_
      exact k
    obtain ⟨_, _, ⟨T30, L30, k30, n30⟩, -, X30, ⟨Lc30, hQ30, l30, y30, z30⟩, st30⟩ := Jvm.LawKit.callS X27 hx (y := (⟨"com/example/hopline/hopline/core/NodeStore", "hasLabel", "([II)Z"⟩ : MethodName)) hown (mvT hZ (hw _ (List.mem_of_getElem? (i := 5) rfl))) (mvT hZ (hw _ (List.mem_of_getElem? (i := 6) rfl))) (mvT hZ (hw _ (List.mem_of_getElem? (i := 7) rfl))) (mvT hZ (hw _ (List.mem_of_getElem? (i := 8) rfl))) (by decide) (backOf (W := 0) (rm2_3 l Z a0 hw [] b27_0 j3 k27_1 p1 p2 p3 T27.heap n0 Z0 V_b27_0) hZ (hw _ (List.mem_of_getElem? (i := 8) rfl)) (hw _ (List.mem_of_getElem? (i := 7) rfl)) (by decide) (by decide)) (g := (mkF m 138 #[.val (.int p1), .val (.int p2), .val (.int p3), .val (.int p4), .val (.int p5), .val (.int p6), .val (.int (3 : Int32)), .val (.int j2), .val (.int j3), .val (.ref b27_0), .val (.int j28), .unset, .unset] [(.int j3), (.ref b27_0)])) rfl (by rw [hml]; rfl) (argsL := [(.ref b27_0), (.int j3)]) (rest := []) (lenOf pd_1 rfl) rfl (by show 2 * 0 + _ ≤ _; exact Nat.le_of_eq rfl) (hb hby at_138) (fun _ _ => ⟨rfl, rfl, (by decide : 1 + 0 ≤ _), (by decide : 3 + 0 ≤ _)⟩)
    dsimp only [Pt.U, Pt.locs, Pt.cells, Pt.slots] at X30 l30 y30 z30 st30 hQ30
    subst l30 y30 z30
    obtain ⟨rfl, N30q, e30⟩ := hQ30
    have NN := Fr.app NN N30q
    refine own_go st30 ?_
    show own_Go p.tables e below _ T30 (mkF m 141 #[.val (.int p1), .val (.int p2), .val (.int p3), .val (.int p4), .val (.int p5), .val (.int p6), .val (.int (3 : Int32)), .val (.int j2), .val (.int j3), .val (.ref b27_0), .val (.int j28), .unset, .unset] [(.int (r_2_3 j3 p1 p2 p3))])
    refine own_go (T' := T30) (g' := (mkF m 143 #[.val (.int p1), .val (.int p2), .val (.int p3), .val (.int p4), .val (.int p5), .val (.int p6), .val (.int (3 : Int32)), .val (.int j2), .val (.int j3), .val (.ref b27_0), .val (.int j28), .val (.int (r_2_3 j3 p1 p2 p3)), .unset] [])) (fun t k => ?_) ?_
    · show Steps p.tables e below (T30.setTop (mkF m 141 #[.val (.int p1), .val (.int p2), .val (.int p3), .val (.int p4), .val (.int p5), .val (.int p6), .val (.int (3 : Int32)), .val (.int j2), .val (.int j3), .val (.ref b27_0), .val (.int j28), .unset, .unset] [(.int (r_2_3 j3 p1 p2 p3))])) _
      refine XS.istore X30.here hx rfl (hb hby at_141) rfl (l' := #[.val (.int p1), .val (.int p2), .val (.int p3), .val (.int p4), .val (.int p5), .val (.int p6), .val (.int (3 : Int32)), .val (.int j2), .val (.int j3), .val (.ref b27_0), .val (.int j28), .val (.int (r_2_3 j3 p1 p2 p3)), .unset]) rfl ?_
      exact k
    show own_Go p.tables e below _ T30 (mkF m 143 #[.val (.int p1), .val (.int p2), .val (.int p3), .val (.int p4), .val (.int p5), .val (.int p6), .val (.int (3 : Int32)), .val (.int j2), .val (.int j3), .val (.ref b27_0), .val (.int j28), .val (.int (r_2_3 j3 p1 p2 p3)), .unset] [])
    obtain ⟨j31, hj31⟩ : ∃ z : Int32, z = (r_2_3 j3 p1 p2 p3) := ⟨_, rfl⟩
    rw [← hj31]
    show own_Go p.tables e below _ T30 (mkF m 143 #[.val (.int p1), .val (.int p2), .val (.int p3), .val (.int p4), .val (.int p5), .val (.int p6), .val (.int (3 : Int32)), .val (.int j2), .val (.int j3), .val (.ref b27_0), .val (.int j28), .val (.int j31), .unset] [])
    refine own_go (T' := T30) (g' := (mkF m 145 #[.val (.int p1), .val (.int p2), .val (.int p3), .val (.int p4), .val (.int p5), .val (.int p6), .val (.int (3 : Int32)), .val (.int j2), .val (.int j3), .val (.ref b27_0), .val (.int j28), .val (.int j31), .unset] [(.ref b27_0)])) (fun t k => ?_) ?_
    · show Steps p.tables e below (T30.setTop (mkF m 143 #[.val (.int p1), .val (.int p2), .val (.int p3), .val (.int p4), .val (.int p5), .val (.int p6), .val (.int (3 : Int32)), .val (.int j2), .val (.int j3), .val (.ref b27_0), .val (.int j28), .val (.int j31), .unset] [])) _
      refine XS.aload X30.here hx rfl (hb hby at_143) rfl rfl ?_
      exact k
    have Vq := V_b27_0
    obtain ⟨cl145, Ar145, -, Sz145, Ng145, -, -⟩ := Vq
    refine own_go (fun t k => X30.arraylength hx (by rw [e30]; exact Ar145.1) (State.isArrayOf_alike hZ.alike Ar145.2.1) (g := (mkF m 145 #[.val (.int p1), .val (.int p2), .val (.int p3), .val (.int p4), .val (.int p5), .val (.int p6), .val (.int (3 : Int32)), .val (.int j2), .val (.int j3), .val (.ref b27_0), .val (.int j28), .val (.int j31), .unset] [(.ref b27_0)])) rfl rfl (hb hby at_145) t k) ?_
    rw [len_of Sz145 Ng145]
    show own_Go p.tables e below _ T30 (mkF m 146 #[.val (.int p1), .val (.int p2), .val (.int p3), .val (.int p4), .val (.int p5), .val (.int p6), .val (.int (3 : Int32)), .val (.int j2), .val (.int j3), .val (.ref b27_0), .val (.int j28), .val (.int j31), .unset] [(.int (3 : Int32))])
    refine own_go (T' := T30) (g' := (mkF m 148 #[.val (.int p1), .val (.int p2), .val (.int p3), .val (.int p4), .val (.int p5), .val (.int p6), .val (.int (3 : Int32)), .val (.int j2), .val (.int j3), .val (.ref b27_0), .val (.int j28), .val (.int j31), .unset] [(.int (3 : Int32)), (.int (3 : Int32))])) (fun t k => ?_) ?_
    · show Steps p.tables e below (T30.setTop (mkF m 146 #[.val (.int p1), .val (.int p2), .val (.int p3), .val (.int p4), .val (.int p5), .val (.int p6), .val (.int (3 : Int32)), .val (.int j2), .val (.int j3), .val (.ref b27_0), .val (.int j28), .val (.int j31), .unset] [(.int (3 : Int32))])) _
      refine XS.iload X30.here hx rfl (hb hby at_146) rfl ?_
      exact k
    refine own_go (T' := T30) (g' := (mkF m 154 #[.val (.int p1), .val (.int p2), .val (.int p3), .val (.int p4), .val (.int p5), .val (.int p6), .val (.int (3 : Int32)), .val (.int j2), .val (.int j3), .val (.ref b27_0), .val (.int j28), .val (.int j31), .unset] [(.int (1 : Int32)), (.int (3 : Int32))])) (fun t k => ?_) ?_
    · show Steps p.tables e below (T30.setTop (mkF m 148 #[.val (.int p1), .val (.int p2), .val (.int p3), .val (.int p4), .val (.int p5), .val (.int p6), .val (.int (3 : Int32)), .val (.int j2), .val (.int j3), .val (.ref b27_0), .val (.int j28), .val (.int j31), .unset] [(.int (3 : Int32)), (.int (3 : Int32))])) _
      refine XS.icmpNo X30.here hx rfl (hb hby at_148) rfl (teq (rfl : (3 : Int32) = (3 : Int32))).2 ?_
      show Steps p.tables e below (T30.setTop (mkF m 151 #[.val (.int p1), .val (.int p2), .val (.int p3), .val (.int p4), .val (.int p5), .val (.int p6), .val (.int (3 : Int32)), .val (.int j2), .val (.int j3), .val (.ref b27_0), .val (.int j28), .val (.int j31), .unset] [])) _
      refine XS.iload X30.here hx rfl (hb hby at_151) rfl ?_
      show Steps p.tables e below (T30.setTop (mkF m 153 #[.val (.int p1), .val (.int p2), .val (.int p3), .val (.int p4), .val (.int p5), .val (.int p6), .val (.int (3 : Int32)), .val (.int j2), .val (.int j3), .val (.ref b27_0), .val (.int j28), .val (.int j31), .unset] [(.int (3 : Int32))])) _
      refine XS.iconst X30.here hx rfl (hb hby at_153) ?_
      exact k
    refine own_go (T' := T30) (g' := (mkF m 160 #[.val (.int p1), .val (.int p2), .val (.int p3), .val (.int p4), .val (.int p5), .val (.int p6), .val (.int (3 : Int32)), .val (.int j2), .val (.int j3), .val (.ref b27_0), .val (.int j28), .val (.int j31), .unset] [(.int (0 : Int32)), (.ref b27_0)])) (fun t k => ?_) ?_
    · show Steps p.tables e below (T30.setTop (mkF m 154 #[.val (.int p1), .val (.int p2), .val (.int p3), .val (.int p4), .val (.int p5), .val (.int p6), .val (.int (3 : Int32)), .val (.int j2), .val (.int j3), .val (.ref b27_0), .val (.int j28), .val (.int j31), .unset] [(.int (1 : Int32)), (.int (3 : Int32))])) _
      refine XS.icmpNo X30.here hx rfl (hb hby at_154) rfl (flt (by decide : ¬ ((3 : Int32) < (1 : Int32)))).1 ?_
      show Steps p.tables e below (T30.setTop (mkF m 157 #[.val (.int p1), .val (.int p2), .val (.int p3), .val (.int p4), .val (.int p5), .val (.int p6), .val (.int (3 : Int32)), .val (.int j2), .val (.int j3), .val (.ref b27_0), .val (.int j28), .val (.int j31), .unset] [])) _
      refine XS.aload X30.here hx rfl (hb hby at_157) rfl rfl ?_
      show Steps p.tables e below (T30.setTop (mkF m 159 #[.val (.int p1), .val (.int p2), .val (.int p3), .val (.int p4), .val (.int p5), .val (.int p6), .val (.int (3 : Int32)), .val (.int j2), .val (.int j3), .val (.ref b27_0), .val (.int j28), .val (.int j31), .unset] [(.ref b27_0)])) _
      refine XS.iconst X30.here hx rfl (hb hby at_159) ?_
      exact k
    have Vq := V_b27_0
    obtain ⟨cl32, Ar32, q32, Sz32, Ng32, Hs32, Gs32⟩ := Vq
    have hin32 : ¬ ((0 : Int32) < 0 ∨ cl32.slots.size ≤ ((0 : Int32)).toNatClampNeg) := inb_of Sz32 ⟨by decide, by decide⟩
    have hat32 : cl32.slots[((0 : Int32)).toNatClampNeg]? = some (.int p1) := Hs32.at hin32 rfl
    refine own_go (fun t k => X30.iaload hx (j := (0 : Int32)) (v := (.int p1)) (by rw [e30]; exact Ar32.1) (State.isArrayOf_alike hZ.alike Ar32.2.1) Ar32.2.2 hin32 hat32 (g := (mkF m 160 #[.val (.int p1), .val (.int p2), .val (.int p3), .val (.int p4), .val (.int p5), .val (.int p6), .val (.int (3 : Int32)), .val (.int j2), .val (.int j3), .val (.ref b27_0), .val (.int j28), .val (.int j31), .unset] [(.int (0 : Int32)), (.ref b27_0)])) rfl rfl (hb hby at_160) t k) ?_
    show own_Go p.tables e below _ T30 (mkF m 161 #[.val (.int p1), .val (.int p2), .val (.int p3), .val (.int p4), .val (.int p5), .val (.int p6), .val (.int (3 : Int32)), .val (.int j2), .val (.int j3), .val (.ref b27_0), .val (.int j28), .val (.int j31), .unset] [(.int p1)])
    refine own_go (T' := T30) (g' := (mkF m 162 #[.val (.int p1), .val (.int p2), .val (.int p3), .val (.int p4), .val (.int p5), .val (.int p6), .val (.int (3 : Int32)), .val (.int j2), .val (.int j3), .val (.ref b27_0), .val (.int j28), .val (.int j31), .unset] [(.int p1), (.int p1)])) (fun t k => ?_) ?_
    · show Steps p.tables e below (T30.setTop (mkF m 161 #[.val (.int p1), .val (.int p2), .val (.int p3), .val (.int p4), .val (.int p5), .val (.int p6), .val (.int (3 : Int32)), .val (.int j2), .val (.int j3), .val (.ref b27_0), .val (.int j28), .val (.int j31), .unset] [(.int p1)])) _
      refine XS.iloadN X30.here hx rfl (hb hby at_161) rfl ?_
      exact k
    refine own_go (T' := T30) (g' := (mkF m 168 #[.val (.int p1), .val (.int p2), .val (.int p3), .val (.int p4), .val (.int p5), .val (.int p6), .val (.int (3 : Int32)), .val (.int j2), .val (.int j3), .val (.ref b27_0), .val (.int j28), .val (.int j31), .unset] [(.int (2 : Int32)), (.int (3 : Int32))])) (fun t k => ?_) ?_
    · show Steps p.tables e below (T30.setTop (mkF m 162 #[.val (.int p1), .val (.int p2), .val (.int p3), .val (.int p4), .val (.int p5), .val (.int p6), .val (.int (3 : Int32)), .val (.int j2), .val (.int j3), .val (.ref b27_0), .val (.int j28), .val (.int j31), .unset] [(.int p1), (.int p1)])) _
      refine XS.icmpNo X30.here hx rfl (hb hby at_162) rfl (teq (rfl : p1 = p1)).2 ?_
      show Steps p.tables e below (T30.setTop (mkF m 165 #[.val (.int p1), .val (.int p2), .val (.int p3), .val (.int p4), .val (.int p5), .val (.int p6), .val (.int (3 : Int32)), .val (.int j2), .val (.int j3), .val (.ref b27_0), .val (.int j28), .val (.int j31), .unset] [])) _
      refine XS.iload X30.here hx rfl (hb hby at_165) rfl ?_
      show Steps p.tables e below (T30.setTop (mkF m 167 #[.val (.int p1), .val (.int p2), .val (.int p3), .val (.int p4), .val (.int p5), .val (.int p6), .val (.int (3 : Int32)), .val (.int j2), .val (.int j3), .val (.ref b27_0), .val (.int j28), .val (.int j31), .unset] [(.int (3 : Int32))])) _
      refine XS.iconst X30.here hx rfl (hb hby at_167) ?_
      exact k
    refine own_go (T' := T30) (g' := (mkF m 174 #[.val (.int p1), .val (.int p2), .val (.int p3), .val (.int p4), .val (.int p5), .val (.int p6), .val (.int (3 : Int32)), .val (.int j2), .val (.int j3), .val (.ref b27_0), .val (.int j28), .val (.int j31), .unset] [(.int (1 : Int32)), (.ref b27_0)])) (fun t k => ?_) ?_
    · show Steps p.tables e below (T30.setTop (mkF m 168 #[.val (.int p1), .val (.int p2), .val (.int p3), .val (.int p4), .val (.int p5), .val (.int p6), .val (.int (3 : Int32)), .val (.int j2), .val (.int j3), .val (.ref b27_0), .val (.int j28), .val (.int j31), .unset] [(.int (2 : Int32)), (.int (3 : Int32))])) _
      refine XS.icmpNo X30.here hx rfl (hb hby at_168) rfl (flt (by decide : ¬ ((3 : Int32) < (2 : Int32)))).1 ?_
      show Steps p.tables e below (T30.setTop (mkF m 171 #[.val (.int p1), .val (.int p2), .val (.int p3), .val (.int p4), .val (.int p5), .val (.int p6), .val (.int (3 : Int32)), .val (.int j2), .val (.int j3), .val (.ref b27_0), .val (.int j28), .val (.int j31), .unset] [])) _
      refine XS.aload X30.here hx rfl (hb hby at_171) rfl rfl ?_
      show Steps p.tables e below (T30.setTop (mkF m 173 #[.val (.int p1), .val (.int p2), .val (.int p3), .val (.int p4), .val (.int p5), .val (.int p6), .val (.int (3 : Int32)), .val (.int j2), .val (.int j3), .val (.ref b27_0), .val (.int j28), .val (.int j31), .unset] [(.ref b27_0)])) _
      refine XS.iconst X30.here hx rfl (hb hby at_173) ?_
      exact k
    have Vq := V_b27_0
    obtain ⟨cl33, Ar33, q33, Sz33, Ng33, Hs33, Gs33⟩ := Vq
    have hin33 : ¬ ((1 : Int32) < 0 ∨ cl33.slots.size ≤ ((1 : Int32)).toNatClampNeg) := inb_of Sz33 ⟨by decide, by decide⟩
    have hat33 : cl33.slots[((1 : Int32)).toNatClampNeg]? = some (.int p2) := Hs33.at hin33 rfl
    refine own_go (fun t k => X30.iaload hx (j := (1 : Int32)) (v := (.int p2)) (by rw [e30]; exact Ar33.1) (State.isArrayOf_alike hZ.alike Ar33.2.1) Ar33.2.2 hin33 hat33 (g := (mkF m 174 #[.val (.int p1), .val (.int p2), .val (.int p3), .val (.int p4), .val (.int p5), .val (.int p6), .val (.int (3 : Int32)), .val (.int j2), .val (.int j3), .val (.ref b27_0), .val (.int j28), .val (.int j31), .unset] [(.int (1 : Int32)), (.ref b27_0)])) rfl rfl (hb hby at_174) t k) ?_
    show own_Go p.tables e below _ T30 (mkF m 175 #[.val (.int p1), .val (.int p2), .val (.int p3), .val (.int p4), .val (.int p5), .val (.int p6), .val (.int (3 : Int32)), .val (.int j2), .val (.int j3), .val (.ref b27_0), .val (.int j28), .val (.int j31), .unset] [(.int p2)])
    refine own_go (T' := T30) (g' := (mkF m 176 #[.val (.int p1), .val (.int p2), .val (.int p3), .val (.int p4), .val (.int p5), .val (.int p6), .val (.int (3 : Int32)), .val (.int j2), .val (.int j3), .val (.ref b27_0), .val (.int j28), .val (.int j31), .unset] [(.int p2), (.int p2)])) (fun t k => ?_) ?_
    · show Steps p.tables e below (T30.setTop (mkF m 175 #[.val (.int p1), .val (.int p2), .val (.int p3), .val (.int p4), .val (.int p5), .val (.int p6), .val (.int (3 : Int32)), .val (.int j2), .val (.int j3), .val (.ref b27_0), .val (.int j28), .val (.int j31), .unset] [(.int p2)])) _
      refine XS.iloadN X30.here hx rfl (hb hby at_175) rfl ?_
      exact k
    refine own_go (T' := T30) (g' := (mkF m 182 #[.val (.int p1), .val (.int p2), .val (.int p3), .val (.int p4), .val (.int p5), .val (.int p6), .val (.int (3 : Int32)), .val (.int j2), .val (.int j3), .val (.ref b27_0), .val (.int j28), .val (.int j31), .unset] [(.int (3 : Int32)), (.int (3 : Int32))])) (fun t k => ?_) ?_
    · show Steps p.tables e below (T30.setTop (mkF m 176 #[.val (.int p1), .val (.int p2), .val (.int p3), .val (.int p4), .val (.int p5), .val (.int p6), .val (.int (3 : Int32)), .val (.int j2), .val (.int j3), .val (.ref b27_0), .val (.int j28), .val (.int j31), .unset] [(.int p2), (.int p2)])) _
      refine XS.icmpNo X30.here hx rfl (hb hby at_176) rfl (teq (rfl : p2 = p2)).2 ?_
      show Steps p.tables e below (T30.setTop (mkF m 179 #[.val (.int p1), .val (.int p2), .val (.int p3), .val (.int p4), .val (.int p5), .val (.int p6), .val (.int (3 : Int32)), .val (.int j2), .val (.int j3), .val (.ref b27_0), .val (.int j28), .val (.int j31), .unset] [])) _
      refine XS.iload X30.here hx rfl (hb hby at_179) rfl ?_
      show Steps p.tables e below (T30.setTop (mkF m 181 #[.val (.int p1), .val (.int p2), .val (.int p3), .val (.int p4), .val (.int p5), .val (.int p6), .val (.int (3 : Int32)), .val (.int j2), .val (.int j3), .val (.ref b27_0), .val (.int j28), .val (.int j31), .unset] [(.int (3 : Int32))])) _
      refine XS.iconst X30.here hx rfl (hb hby at_181) ?_
      exact k
    refine own_go (T' := T30) (g' := (mkF m 188 #[.val (.int p1), .val (.int p2), .val (.int p3), .val (.int p4), .val (.int p5), .val (.int p6), .val (.int (3 : Int32)), .val (.int j2), .val (.int j3), .val (.ref b27_0), .val (.int j28), .val (.int j31), .unset] [(.int (2 : Int32)), (.ref b27_0)])) (fun t k => ?_) ?_
    · show Steps p.tables e below (T30.setTop (mkF m 182 #[.val (.int p1), .val (.int p2), .val (.int p3), .val (.int p4), .val (.int p5), .val (.int p6), .val (.int (3 : Int32)), .val (.int j2), .val (.int j3), .val (.ref b27_0), .val (.int j28), .val (.int j31), .unset] [(.int (3 : Int32)), (.int (3 : Int32))])) _
      refine XS.icmpNo X30.here hx rfl (hb hby at_182) rfl (flt (Int32.lt_irrefl)).1 ?_
      show Steps p.tables e below (T30.setTop (mkF m 185 #[.val (.int p1), .val (.int p2), .val (.int p3), .val (.int p4), .val (.int p5), .val (.int p6), .val (.int (3 : Int32)), .val (.int j2), .val (.int j3), .val (.ref b27_0), .val (.int j28), .val (.int j31), .unset] [])) _
      refine XS.aload X30.here hx rfl (hb hby at_185) rfl rfl ?_
      show Steps p.tables e below (T30.setTop (mkF m 187 #[.val (.int p1), .val (.int p2), .val (.int p3), .val (.int p4), .val (.int p5), .val (.int p6), .val (.int (3 : Int32)), .val (.int j2), .val (.int j3), .val (.ref b27_0), .val (.int j28), .val (.int j31), .unset] [(.ref b27_0)])) _
      refine XS.iconst X30.here hx rfl (hb hby at_187) ?_
      exact k
    have Vq := V_b27_0
    obtain ⟨cl34, Ar34, q34, Sz34, Ng34, Hs34, Gs34⟩ := Vq
    have hin34 : ¬ ((2 : Int32) < 0 ∨ cl34.slots.size ≤ ((2 : Int32)).toNatClampNeg) := inb_of Sz34 ⟨by decide, by decide⟩
    have hat34 : cl34.slots[((2 : Int32)).toNatClampNeg]? = some (.int p3) := Hs34.at hin34 rfl
    refine own_go (fun t k => X30.iaload hx (j := (2 : Int32)) (v := (.int p3)) (by rw [e30]; exact Ar34.1) (State.isArrayOf_alike hZ.alike Ar34.2.1) Ar34.2.2 hin34 hat34 (g := (mkF m 188 #[.val (.int p1), .val (.int p2), .val (.int p3), .val (.int p4), .val (.int p5), .val (.int p6), .val (.int (3 : Int32)), .val (.int j2), .val (.int j3), .val (.ref b27_0), .val (.int j28), .val (.int j31), .unset] [(.int (2 : Int32)), (.ref b27_0)])) rfl rfl (hb hby at_188) t k) ?_
    show own_Go p.tables e below _ T30 (mkF m 189 #[.val (.int p1), .val (.int p2), .val (.int p3), .val (.int p4), .val (.int p5), .val (.int p6), .val (.int (3 : Int32)), .val (.int j2), .val (.int j3), .val (.ref b27_0), .val (.int j28), .val (.int j31), .unset] [(.int p3)])
    refine own_go (T' := T30) (g' := (mkF m 190 #[.val (.int p1), .val (.int p2), .val (.int p3), .val (.int p4), .val (.int p5), .val (.int p6), .val (.int (3 : Int32)), .val (.int j2), .val (.int j3), .val (.ref b27_0), .val (.int j28), .val (.int j31), .unset] [(.int p3), (.int p3)])) (fun t k => ?_) ?_
    · show Steps p.tables e below (T30.setTop (mkF m 189 #[.val (.int p1), .val (.int p2), .val (.int p3), .val (.int p4), .val (.int p5), .val (.int p6), .val (.int (3 : Int32)), .val (.int j2), .val (.int j3), .val (.ref b27_0), .val (.int j28), .val (.int j31), .unset] [(.int p3)])) _
      refine XS.iloadN X30.here hx rfl (hb hby at_189) rfl ?_
      exact k
    refine own_go (T' := T30) (g' := (mkF m 196 #[.val (.int p1), .val (.int p2), .val (.int p3), .val (.int p4), .val (.int p5), .val (.int p6), .val (.int (3 : Int32)), .val (.int j2), .val (.int j3), .val (.ref b27_0), .val (.int j28), .val (.int j31), .unset] [(.int (4 : Int32)), (.int (3 : Int32))])) (fun t k => ?_) ?_
    · show Steps p.tables e below (T30.setTop (mkF m 190 #[.val (.int p1), .val (.int p2), .val (.int p3), .val (.int p4), .val (.int p5), .val (.int p6), .val (.int (3 : Int32)), .val (.int j2), .val (.int j3), .val (.ref b27_0), .val (.int j28), .val (.int j31), .unset] [(.int p3), (.int p3)])) _
      refine XS.icmpNo X30.here hx rfl (hb hby at_190) rfl (teq (rfl : p3 = p3)).2 ?_
      show Steps p.tables e below (T30.setTop (mkF m 193 #[.val (.int p1), .val (.int p2), .val (.int p3), .val (.int p4), .val (.int p5), .val (.int p6), .val (.int (3 : Int32)), .val (.int j2), .val (.int j3), .val (.ref b27_0), .val (.int j28), .val (.int j31), .unset] [])) _
      refine XS.iload X30.here hx rfl (hb hby at_193) rfl ?_
      show Steps p.tables e below (T30.setTop (mkF m 195 #[.val (.int p1), .val (.int p2), .val (.int p3), .val (.int p4), .val (.int p5), .val (.int p6), .val (.int (3 : Int32)), .val (.int j2), .val (.int j3), .val (.ref b27_0), .val (.int j28), .val (.int j31), .unset] [(.int (3 : Int32))])) _
      refine XS.iconst X30.here hx rfl (hb hby at_195) ?_
      exact k
    refine own_go (T' := T30) (g' := (mkF m 218 #[.val (.int p1), .val (.int p2), .val (.int p3), .val (.int p4), .val (.int p5), .val (.int p6), .val (.int (3 : Int32)), .val (.int j2), .val (.int j3), .val (.ref b27_0), .val (.int j28), .val (.int j31), .val (.int (1 : Int32))] [(.int j28), (.int j31)])) (fun t k => ?_) ?_
    · show Steps p.tables e below (T30.setTop (mkF m 196 #[.val (.int p1), .val (.int p2), .val (.int p3), .val (.int p4), .val (.int p5), .val (.int p6), .val (.int (3 : Int32)), .val (.int j2), .val (.int j3), .val (.ref b27_0), .val (.int j28), .val (.int j31), .unset] [(.int (4 : Int32)), (.int (3 : Int32))])) _
      refine XS.icmpYes X30.here hx rfl (pc0 := 196) (pc' := 207) rfl (hb hby at_196) rfl (tlt (by decide : (3 : Int32) < (4 : Int32))).1 (by decide) (by decide) ?_
      show Steps p.tables e below (T30.setTop (mkF m 207 #[.val (.int p1), .val (.int p2), .val (.int p3), .val (.int p4), .val (.int p5), .val (.int p6), .val (.int (3 : Int32)), .val (.int j2), .val (.int j3), .val (.ref b27_0), .val (.int j28), .val (.int j31), .unset] [])) _
      refine XS.iconst X30.here hx rfl (hb hby at_207) ?_
      show Steps p.tables e below (T30.setTop (mkF m 208 #[.val (.int p1), .val (.int p2), .val (.int p3), .val (.int p4), .val (.int p5), .val (.int p6), .val (.int (3 : Int32)), .val (.int j2), .val (.int j3), .val (.ref b27_0), .val (.int j28), .val (.int j31), .unset] [(.int (1 : Int32))])) _
      refine XS.goto X30.here hx rfl (pc0 := 208) (pc' := 212) rfl (hb hby at_208) (by decide) (by decide) ?_
      show Steps p.tables e below (T30.setTop (mkF m 212 #[.val (.int p1), .val (.int p2), .val (.int p3), .val (.int p4), .val (.int p5), .val (.int p6), .val (.int (3 : Int32)), .val (.int j2), .val (.int j3), .val (.ref b27_0), .val (.int j28), .val (.int j31), .unset] [(.int (1 : Int32))])) _
      refine XS.istore X30.here hx rfl (hb hby at_212) rfl (l' := #[.val (.int p1), .val (.int p2), .val (.int p3), .val (.int p4), .val (.int p5), .val (.int p6), .val (.int (3 : Int32)), .val (.int j2), .val (.int j3), .val (.ref b27_0), .val (.int j28), .val (.int j31), .val (.int (1 : Int32))]) rfl ?_
      show Steps p.tables e below (T30.setTop (mkF m 214 #[.val (.int p1), .val (.int p2), .val (.int p3), .val (.int p4), .val (.int p5), .val (.int p6), .val (.int (3 : Int32)), .val (.int j2), .val (.int j3), .val (.ref b27_0), .val (.int j28), .val (.int j31), .val (.int (1 : Int32))] [])) _
      refine XS.iload X30.here hx rfl (hb hby at_214) rfl ?_
      show Steps p.tables e below (T30.setTop (mkF m 216 #[.val (.int p1), .val (.int p2), .val (.int p3), .val (.int p4), .val (.int p5), .val (.int p6), .val (.int (3 : Int32)), .val (.int j2), .val (.int j3), .val (.ref b27_0), .val (.int j28), .val (.int j31), .val (.int (1 : Int32))] [(.int j31)])) _
      refine XS.iload X30.here hx rfl (hb hby at_216) rfl ?_
      exact k
    obtain ⟨j35, hj35, st36⟩ : ∃ (j35 : Int32), j35 = (if j31 = j28 then (1 : Int32) else (0 : Int32)) ∧ ∀ t, Steps p.tables e below (T30.setTop (mkF m 231 #[.val (.int p1), .val (.int p2), .val (.int p3), .val (.int p4), .val (.int p5), .val (.int p6), .val (.int (3 : Int32)), .val (.int j2), .val (.int j3), .val (.ref b27_0), .val (.int j28), .val (.int j31), .val (.int (1 : Int32))] [(.int j35)])) t → Steps p.tables e below (T30.setTop (mkF m 218 #[.val (.int p1), .val (.int p2), .val (.int p3), .val (.int p4), .val (.int p5), .val (.int p6), .val (.int (3 : Int32)), .val (.int j2), .val (.int j3), .val (.ref b27_0), .val (.int j28), .val (.int j31), .val (.int (1 : Int32))] [(.int j28), (.int j31)])) t := by
      by_cases hc218_14 : j31 = j28
      · skip
        refine ⟨(1 : Int32), (by simp only [if_pos hc218_14]), fun t k => ?_⟩
        show Steps p.tables e below (T30.setTop (mkF m 218 #[.val (.int p1), .val (.int p2), .val (.int p3), .val (.int p4), .val (.int p5), .val (.int p6), .val (.int (3 : Int32)), .val (.int j2), .val (.int j3), .val (.ref b27_0), .val (.int j28), .val (.int j31), .val (.int (1 : Int32))] [(.int j28), (.int j31)])) _
        refine XS.icmpNo X30.here hx rfl (hb hby at_218) rfl (teq hc218_14).2 ?_
        show Steps p.tables e below (T30.setTop (mkF m 221 #[.val (.int p1), .val (.int p2), .val (.int p3), .val (.int p4), .val (.int p5), .val (.int p6), .val (.int (3 : Int32)), .val (.int j2), .val (.int j3), .val (.ref b27_0), .val (.int j28), .val (.int j31), .val (.int (1 : Int32))] [])) _
        refine XS.iload X30.here hx rfl (hb hby at_221) rfl ?_
        show Steps p.tables e below (T30.setTop (mkF m 223 #[.val (.int p1), .val (.int p2), .val (.int p3), .val (.int p4), .val (.int p5), .val (.int p6), .val (.int (3 : Int32)), .val (.int j2), .val (.int j3), .val (.ref b27_0), .val (.int j28), .val (.int j31), .val (.int (1 : Int32))] [(.int (1 : Int32))])) _
        refine XS.ifNo X30.here hx rfl (hb hby at_223) rfl ((if0 _ _).trans (feq (by decide : ¬ ((1 : Int32) = (0 : Int32)))).1) ?_
        show Steps p.tables e below (T30.setTop (mkF m 226 #[.val (.int p1), .val (.int p2), .val (.int p3), .val (.int p4), .val (.int p5), .val (.int p6), .val (.int (3 : Int32)), .val (.int j2), .val (.int j3), .val (.ref b27_0), .val (.int j28), .val (.int j31), .val (.int (1 : Int32))] [])) _
        refine XS.iconst X30.here hx rfl (hb hby at_226) ?_
        show Steps p.tables e below (T30.setTop (mkF m 227 #[.val (.int p1), .val (.int p2), .val (.int p3), .val (.int p4), .val (.int p5), .val (.int p6), .val (.int (3 : Int32)), .val (.int j2), .val (.int j3), .val (.ref b27_0), .val (.int j28), .val (.int j31), .val (.int (1 : Int32))] [(.int (1 : Int32))])) _
        refine XS.goto X30.here hx rfl (pc0 := 227) (pc' := 231) rfl (hb hby at_227) (by decide) (by decide) ?_
        exact k
      · skip
        refine ⟨(0 : Int32), (by simp only [if_neg hc218_14]), fun t k => ?_⟩
        show Steps p.tables e below (T30.setTop (mkF m 218 #[.val (.int p1), .val (.int p2), .val (.int p3), .val (.int p4), .val (.int p5), .val (.int p6), .val (.int (3 : Int32)), .val (.int j2), .val (.int j3), .val (.ref b27_0), .val (.int j28), .val (.int j31), .val (.int (1 : Int32))] [(.int j28), (.int j31)])) _
        refine XS.icmpYes X30.here hx rfl (pc0 := 218) (pc' := 230) rfl (hb hby at_218) rfl (feq hc218_14).2 (by decide) (by decide) ?_
        show Steps p.tables e below (T30.setTop (mkF m 230 #[.val (.int p1), .val (.int p2), .val (.int p3), .val (.int p4), .val (.int p5), .val (.int p6), .val (.int (3 : Int32)), .val (.int j2), .val (.int j3), .val (.ref b27_0), .val (.int j28), .val (.int j31), .val (.int (1 : Int32))] [])) _
        refine XS.iconst X30.here hx rfl (hb hby at_230) ?_
        exact k
    refine own_go st36 ?_
    show own_Go p.tables e below _ T30 (mkF m 231 #[.val (.int p1), .val (.int p2), .val (.int p3), .val (.int p4), .val (.int p5), .val (.int p6), .val (.int (3 : Int32)), .val (.int j2), .val (.int j3), .val (.ref b27_0), .val (.int j28), .val (.int j31), .val (.int (1 : Int32))] [(.int j35)])
    have hv1 : (nar .boolean j35) = 1 := own_yes_3 p1 p2 p3 p4 p5 p6 j2 j3 j28 j31 j35 hj2 hj3 hj28 hj31 hj35
    obtain ⟨fs, hr, hrun, hended, hW, hsame⟩ := X30.leave (v := some (.int (nar .boolean j35))) (fun h => by rw [Bd.returns] at h; cases h)
    refine ⟨_, _, ?_, hrun, hended, _, _, rfl, ?_, ⟨_, rfl⟩, hW, hsame.mono (by decide) (by decide)⟩
    · exact retN X30 hx (t := .boolean) Bd.returns (by simp) (hb hby at_231) hr
    · show Q0 Z p1 p2 p3 p4 p5 p6 h0 n0 _ _ _
      exact ⟨by rw [hv1], NN⟩
  · subst hn
    show own_Go p.tables e below _ s₁ (mkF m 69 #[.val (.int p1), .val (.int p2), .val (.int p3), .val (.int p4), .val (.int p5), .val (.int p6), .val (.int (4 : Int32)), .val (.int j2), .val (.int j3), .unset, .unset, .unset, .unset] [])
    refine own_go (T' := s₁) (g' := (mkF m 75 #[.val (.int p1), .val (.int p2), .val (.int p3), .val (.int p4), .val (.int p5), .val (.int p6), .val (.int (4 : Int32)), .val (.int j2), .val (.int j3), .unset, .unset, .unset, .unset] [(.int p4), (.int p3), (.int p2), (.int p1), (.int (4 : Int32))])) (fun t k => ?_) ?_
    · show Steps p.tables e below (s₁.setTop (mkF m 69 #[.val (.int p1), .val (.int p2), .val (.int p3), .val (.int p4), .val (.int p5), .val (.int p6), .val (.int (4 : Int32)), .val (.int j2), .val (.int j3), .unset, .unset, .unset, .unset] [])) _
      refine XS.iload X0.here hx rfl (hb hby at_69) rfl ?_
      show Steps p.tables e below (s₁.setTop (mkF m 71 #[.val (.int p1), .val (.int p2), .val (.int p3), .val (.int p4), .val (.int p5), .val (.int p6), .val (.int (4 : Int32)), .val (.int j2), .val (.int j3), .unset, .unset, .unset, .unset] [(.int (4 : Int32))])) _
      refine XS.iloadN X0.here hx rfl (hb hby at_71) rfl ?_
      show Steps p.tables e below (s₁.setTop (mkF m 72 #[.val (.int p1), .val (.int p2), .val (.int p3), .val (.int p4), .val (.int p5), .val (.int p6), .val (.int (4 : Int32)), .val (.int j2), .val (.int j3), .unset, .unset, .unset, .unset] [(.int p1), (.int (4 : Int32))])) _
      refine XS.iloadN X0.here hx rfl (hb hby at_72) rfl ?_
      show Steps p.tables e below (s₁.setTop (mkF m 73 #[.val (.int p1), .val (.int p2), .val (.int p3), .val (.int p4), .val (.int p5), .val (.int p6), .val (.int (4 : Int32)), .val (.int j2), .val (.int j3), .unset, .unset, .unset, .unset] [(.int p2), (.int p1), (.int (4 : Int32))])) _
      refine XS.iloadN X0.here hx rfl (hb hby at_73) rfl ?_
      show Steps p.tables e below (s₁.setTop (mkF m 74 #[.val (.int p1), .val (.int p2), .val (.int p3), .val (.int p4), .val (.int p5), .val (.int p6), .val (.int (4 : Int32)), .val (.int j2), .val (.int j3), .unset, .unset, .unset, .unset] [(.int p3), (.int p2), (.int p1), (.int (4 : Int32))])) _
      refine XS.iloadN X0.here hx rfl (hb hby at_74) rfl ?_
      exact k
    obtain ⟨_, _, ⟨T37, L37, k37, n37⟩, -, X37, ⟨Lc37, hQ37, l37, y37, z37⟩, st37⟩ := Jvm.LawKit.callS X0 hx (y := (⟨"com/example/hopline/hopline/core/NodeStoreHasLabelPinLaw", "make", "(IIIII)[I"⟩ : MethodName)) hown (mvT hZ (hw _ (List.mem_of_getElem? (i := 0) rfl))) (mvT hZ (hw _ (List.mem_of_getElem? (i := 1) rfl))) (mvT hZ (hw _ (List.mem_of_getElem? (i := 2) rfl))) (mvT hZ (hw _ (List.mem_of_getElem? (i := 3) rfl))) (by decide) (backOf (W := 0) (rm1_4 l Z a0 hw [] (4 : Int32) p1 p2 p3 p4 h0 n0 Z0 (by decide : ¬ ((4 : Int32) = (0 : Int32))) (by decide : ¬ ((4 : Int32) = (1 : Int32))) (by decide : ¬ ((4 : Int32) = (2 : Int32))) (by decide : ¬ ((4 : Int32) = (3 : Int32)))) hZ (hw _ (List.mem_of_getElem? (i := 3) rfl)) (hw _ (List.mem_of_getElem? (i := 2) rfl)) (by decide) (by decide)) (g := (mkF m 75 #[.val (.int p1), .val (.int p2), .val (.int p3), .val (.int p4), .val (.int p5), .val (.int p6), .val (.int (4 : Int32)), .val (.int j2), .val (.int j3), .unset, .unset, .unset, .unset] [(.int p4), (.int p3), (.int p2), (.int p1), (.int (4 : Int32))])) rfl (by rw [hml]; rfl) (argsL := [(.int (4 : Int32)), (.int p1), (.int p2), (.int p3), (.int p4)]) (rest := []) (lenOf pd_0 rfl) rfl (by show 2 * 0 + _ ≤ _; exact Nat.le_of_eq rfl) (hb hby at_75) (fun _ _ => ⟨rfl, e0, (by decide : 0 + 1 ≤ _), (by decide : 0 + 4 ≤ _)⟩)
    dsimp only [Pt.U, Pt.locs, Pt.cells, Pt.slots] at X37 l37 y37 z37 st37 hQ37
    subst l37 y37 z37
    obtain ⟨b37_0, k37_1, rfl, N37q, K37, R37_0, R37_1, R37_2⟩ := hQ37
    have g_b37_0 := R37_0
    have sz_b37_0 : h0.size ≤ b37_0 := Nat.le_trans KK.1 R37_1
    have V_b37_0 := R37_2
    have Z0 := Nat.le_trans Z0 K37.1
    have KK := KK.trans K37 all0
    have NN := Fr.app NN N37q
    refine own_go st37 ?_
    show own_Go p.tables e below _ T37 (mkF m 78 #[.val (.int p1), .val (.int p2), .val (.int p3), .val (.int p4), .val (.int p5), .val (.int p6), .val (.int (4 : Int32)), .val (.int j2), .val (.int j3), .unset, .unset, .unset, .unset] [(.ref b37_0)])
    refine own_go (T' := T37) (g' := (mkF m 82 #[.val (.int p1), .val (.int p2), .val (.int p3), .val (.int p4), .val (.int p5), .val (.int p6), .val (.int (4 : Int32)), .val (.int j2), .val (.int j3), .val (.ref b37_0), .unset, .unset, .unset] [(.int (4 : Int32))])) (fun t k => ?_) ?_
    · show Steps p.tables e below (T37.setTop (mkF m 78 #[.val (.int p1), .val (.int p2), .val (.int p3), .val (.int p4), .val (.int p5), .val (.int p6), .val (.int (4 : Int32)), .val (.int j2), .val (.int j3), .unset, .unset, .unset, .unset] [(.ref b37_0)])) _
      refine XS.astore X37.here hx rfl (hb hby at_78) rfl rfl (l' := #[.val (.int p1), .val (.int p2), .val (.int p3), .val (.int p4), .val (.int p5), .val (.int p6), .val (.int (4 : Int32)), .val (.int j2), .val (.int j3), .val (.ref b37_0), .unset, .unset, .unset]) rfl ?_
      show Steps p.tables e below (T37.setTop (mkF m 80 #[.val (.int p1), .val (.int p2), .val (.int p3), .val (.int p4), .val (.int p5), .val (.int p6), .val (.int (4 : Int32)), .val (.int j2), .val (.int j3), .val (.ref b37_0), .unset, .unset, .unset] [])) _
      refine XS.iload X37.here hx rfl (hb hby at_80) rfl ?_
      exact k
    refine own_go (T' := T37) (g' := (mkF m 88 #[.val (.int p1), .val (.int p2), .val (.int p3), .val (.int p4), .val (.int p5), .val (.int p6), .val (.int (4 : Int32)), .val (.int j2), .val (.int j3), .val (.ref b37_0), .unset, .unset, .unset] [(.int j3), (.int p1)])) (fun t k => ?_) ?_
    · show Steps p.tables e below (T37.setTop (mkF m 82 #[.val (.int p1), .val (.int p2), .val (.int p3), .val (.int p4), .val (.int p5), .val (.int p6), .val (.int (4 : Int32)), .val (.int j2), .val (.int j3), .val (.ref b37_0), .unset, .unset, .unset] [(.int (4 : Int32))])) _
      refine XS.ifNo X37.here hx rfl (hb hby at_82) rfl ((if0 _ _).trans (tlt (by decide : (0 : Int32) < (4 : Int32))).2.2.2) ?_
      show Steps p.tables e below (T37.setTop (mkF m 85 #[.val (.int p1), .val (.int p2), .val (.int p3), .val (.int p4), .val (.int p5), .val (.int p6), .val (.int (4 : Int32)), .val (.int j2), .val (.int j3), .val (.ref b37_0), .unset, .unset, .unset] [])) _
      refine XS.iloadN X37.here hx rfl (hb hby at_85) rfl ?_
      show Steps p.tables e below (T37.setTop (mkF m 86 #[.val (.int p1), .val (.int p2), .val (.int p3), .val (.int p4), .val (.int p5), .val (.int p6), .val (.int (4 : Int32)), .val (.int j2), .val (.int j3), .val (.ref b37_0), .unset, .unset, .unset] [(.int p1)])) _
      refine XS.iload X37.here hx rfl (hb hby at_86) rfl ?_
      exact k
    obtain ⟨j38, hj38, st39⟩ : ∃ (j38 : Int32), j38 = (if p1 = j3 then (1 : Int32) else (if p2 = j3 then (1 : Int32) else (if p3 = j3 then (1 : Int32) else (if p4 = j3 then (1 : Int32) else (0 : Int32))))) ∧ ∀ t, Steps p.tables e below (T37.setTop (mkF m 132 #[.val (.int p1), .val (.int p2), .val (.int p3), .val (.int p4), .val (.int p5), .val (.int p6), .val (.int (4 : Int32)), .val (.int j2), .val (.int j3), .val (.ref b37_0), .unset, .unset, .unset] [(.int j38)])) t → Steps p.tables e below (T37.setTop (mkF m 88 #[.val (.int p1), .val (.int p2), .val (.int p3), .val (.int p4), .val (.int p5), .val (.int p6), .val (.int (4 : Int32)), .val (.int j2), .val (.int j3), .val (.ref b37_0), .unset, .unset, .unset] [(.int j3), (.int p1)])) t := by
      by_cases hc88_15 : p1 = j3
      · skip
        refine ⟨(1 : Int32), (by simp only [if_pos hc88_15]), fun t k => ?_⟩
        show Steps p.tables e below (T37.setTop (mkF m 88 #[.val (.int p1), .val (.int p2), .val (.int p3), .val (.int p4), .val (.int p5), .val (.int p6), .val (.int (4 : Int32)), .val (.int j2), .val (.int j3), .val (.ref b37_0), .unset, .unset, .unset] [(.int j3), (.int p1)])) _
        refine XS.icmpYes X37.here hx rfl (pc0 := 88) (pc' := 127) rfl (hb hby at_88) rfl (teq hc88_15).1 (by decide) (by decide) ?_
        show Steps p.tables e below (T37.setTop (mkF m 127 #[.val (.int p1), .val (.int p2), .val (.int p3), .val (.int p4), .val (.int p5), .val (.int p6), .val (.int (4 : Int32)), .val (.int j2), .val (.int j3), .val (.ref b37_0), .unset, .unset, .unset] [])) _
        refine XS.iconst X37.here hx rfl (hb hby at_127) ?_
        show Steps p.tables e below (T37.setTop (mkF m 128 #[.val (.int p1), .val (.int p2), .val (.int p3), .val (.int p4), .val (.int p5), .val (.int p6), .val (.int (4 : Int32)), .val (.int j2), .val (.int j3), .val (.ref b37_0), .unset, .unset, .unset] [(.int (1 : Int32))])) _
        refine XS.goto X37.here hx rfl (pc0 := 128) (pc' := 132) rfl (hb hby at_128) (by decide) (by decide) ?_
        exact k
      · skip
        by_cases hc100_16 : p2 = j3
        · skip
          refine ⟨(1 : Int32), (by simp only [if_neg hc88_15, if_pos hc100_16]), fun t k => ?_⟩
          show Steps p.tables e below (T37.setTop (mkF m 88 #[.val (.int p1), .val (.int p2), .val (.int p3), .val (.int p4), .val (.int p5), .val (.int p6), .val (.int (4 : Int32)), .val (.int j2), .val (.int j3), .val (.ref b37_0), .unset, .unset, .unset] [(.int j3), (.int p1)])) _
          refine XS.icmpNo X37.here hx rfl (hb hby at_88) rfl (feq hc88_15).1 ?_
          show Steps p.tables e below (T37.setTop (mkF m 91 #[.val (.int p1), .val (.int p2), .val (.int p3), .val (.int p4), .val (.int p5), .val (.int p6), .val (.int (4 : Int32)), .val (.int j2), .val (.int j3), .val (.ref b37_0), .unset, .unset, .unset] [])) _
          refine XS.iload X37.here hx rfl (hb hby at_91) rfl ?_
          show Steps p.tables e below (T37.setTop (mkF m 93 #[.val (.int p1), .val (.int p2), .val (.int p3), .val (.int p4), .val (.int p5), .val (.int p6), .val (.int (4 : Int32)), .val (.int j2), .val (.int j3), .val (.ref b37_0), .unset, .unset, .unset] [(.int (4 : Int32))])) _
          refine XS.iconst X37.here hx rfl (hb hby at_93) ?_
          show Steps p.tables e below (T37.setTop (mkF m 94 #[.val (.int p1), .val (.int p2), .val (.int p3), .val (.int p4), .val (.int p5), .val (.int p6), .val (.int (4 : Int32)), .val (.int j2), .val (.int j3), .val (.ref b37_0), .unset, .unset, .unset] [(.int (1 : Int32)), (.int (4 : Int32))])) _
          refine XS.icmpNo X37.here hx rfl (hb hby at_94) rfl (tlt (by decide : (1 : Int32) < (4 : Int32))).2.2.2 ?_
          show Steps p.tables e below (T37.setTop (mkF m 97 #[.val (.int p1), .val (.int p2), .val (.int p3), .val (.int p4), .val (.int p5), .val (.int p6), .val (.int (4 : Int32)), .val (.int j2), .val (.int j3), .val (.ref b37_0), .unset, .unset, .unset] [])) _
          refine XS.iloadN X37.here hx rfl (hb hby at_97) rfl ?_
          show Steps p.tables e below (T37.setTop (mkF m 98 #[.val (.int p1), .val (.int p2), .val (.int p3), .val (.int p4), .val (.int p5), .val (.int p6), .val (.int (4 : Int32)), .val (.int j2), .val (.int j3), .val (.ref b37_0), .unset, .unset, .unset] [(.int p2)])) _
          refine XS.iload X37.here hx rfl (hb hby at_98) rfl ?_
          show Steps p.tables e below (T37.setTop (mkF m 100 #[.val (.int p1), .val (.int p2), .val (.int p3), .val (.int p4), .val (.int p5), .val (.int p6), .val (.int (4 : Int32)), .val (.int j2), .val (.int j3), .val (.ref b37_0), .unset, .unset, .unset] [(.int j3), (.int p2)])) _
          refine XS.icmpYes X37.here hx rfl (pc0 := 100) (pc' := 127) rfl (hb hby at_100) rfl (teq hc100_16).1 (by decide) (by decide) ?_
          show Steps p.tables e below (T37.setTop (mkF m 127 #[.val (.int p1), .val (.int p2), .val (.int p3), .val (.int p4), .val (.int p5), .val (.int p6), .val (.int (4 : Int32)), .val (.int j2), .val (.int j3), .val (.ref b37_0), .unset, .unset, .unset] [])) _
          refine XS.iconst X37.here hx rfl (hb hby at_127) ?_
          show Steps p.tables e below (T37.setTop (mkF m 128 #[.val (.int p1), .val (.int p2), .val (.int p3), .val (.int p4), .val (.int p5), .val (.int p6), .val (.int (4 : Int32)), .val (.int j2), .val (.int j3), .val (.ref b37_0), .unset, .unset, .unset] [(.int (1 : Int32))])) _
          refine XS.goto X37.here hx rfl (pc0 := 128) (pc' := 132) rfl (hb hby at_128) (by decide) (by decide) ?_
          exact k
        · skip
          by_cases hc112_17 : p3 = j3
          · skip
            refine ⟨(1 : Int32), (by simp only [if_neg hc88_15, if_neg hc100_16, if_pos hc112_17]), fun t k => ?_⟩
            show Steps p.tables e below (T37.setTop (mkF m 88 #[.val (.int p1), .val (.int p2), .val (.int p3), .val (.int p4), .val (.int p5), .val (.int p6), .val (.int (4 : Int32)), .val (.int j2), .val (.int j3), .val (.ref b37_0), .unset, .unset, .unset] [(.int j3), (.int p1)])) _
            refine XS.icmpNo X37.here hx rfl (hb hby at_88) rfl (feq hc88_15).1 ?_
            show Steps p.tables e below (T37.setTop (mkF m 91 #[.val (.int p1), .val (.int p2), .val (.int p3), .val (.int p4), .val (.int p5), .val (.int p6), .val (.int (4 : Int32)), .val (.int j2), .val (.int j3), .val (.ref b37_0), .unset, .unset, .unset] [])) _
            refine XS.iload X37.here hx rfl (hb hby at_91) rfl ?_
            show Steps p.tables e below (T37.setTop (mkF m 93 #[.val (.int p1), .val (.int p2), .val (.int p3), .val (.int p4), .val (.int p5), .val (.int p6), .val (.int (4 : Int32)), .val (.int j2), .val (.int j3), .val (.ref b37_0), .unset, .unset, .unset] [(.int (4 : Int32))])) _
            refine XS.iconst X37.here hx rfl (hb hby at_93) ?_
            show Steps p.tables e below (T37.setTop (mkF m 94 #[.val (.int p1), .val (.int p2), .val (.int p3), .val (.int p4), .val (.int p5), .val (.int p6), .val (.int (4 : Int32)), .val (.int j2), .val (.int j3), .val (.ref b37_0), .unset, .unset, .unset] [(.int (1 : Int32)), (.int (4 : Int32))])) _
            refine XS.icmpNo X37.here hx rfl (hb hby at_94) rfl (tlt (by decide : (1 : Int32) < (4 : Int32))).2.2.2 ?_
            show Steps p.tables e below (T37.setTop (mkF m 97 #[.val (.int p1), .val (.int p2), .val (.int p3), .val (.int p4), .val (.int p5), .val (.int p6), .val (.int (4 : Int32)), .val (.int j2), .val (.int j3), .val (.ref b37_0), .unset, .unset, .unset] [])) _
            refine XS.iloadN X37.here hx rfl (hb hby at_97) rfl ?_
            show Steps p.tables e below (T37.setTop (mkF m 98 #[.val (.int p1), .val (.int p2), .val (.int p3), .val (.int p4), .val (.int p5), .val (.int p6), .val (.int (4 : Int32)), .val (.int j2), .val (.int j3), .val (.ref b37_0), .unset, .unset, .unset] [(.int p2)])) _
            refine XS.iload X37.here hx rfl (hb hby at_98) rfl ?_
            show Steps p.tables e below (T37.setTop (mkF m 100 #[.val (.int p1), .val (.int p2), .val (.int p3), .val (.int p4), .val (.int p5), .val (.int p6), .val (.int (4 : Int32)), .val (.int j2), .val (.int j3), .val (.ref b37_0), .unset, .unset, .unset] [(.int j3), (.int p2)])) _
            refine XS.icmpNo X37.here hx rfl (hb hby at_100) rfl (feq hc100_16).1 ?_
            show Steps p.tables e below (T37.setTop (mkF m 103 #[.val (.int p1), .val (.int p2), .val (.int p3), .val (.int p4), .val (.int p5), .val (.int p6), .val (.int (4 : Int32)), .val (.int j2), .val (.int j3), .val (.ref b37_0), .unset, .unset, .unset] [])) _
            refine XS.iload X37.here hx rfl (hb hby at_103) rfl ?_
            show Steps p.tables e below (T37.setTop (mkF m 105 #[.val (.int p1), .val (.int p2), .val (.int p3), .val (.int p4), .val (.int p5), .val (.int p6), .val (.int (4 : Int32)), .val (.int j2), .val (.int j3), .val (.ref b37_0), .unset, .unset, .unset] [(.int (4 : Int32))])) _
            refine XS.iconst X37.here hx rfl (hb hby at_105) ?_
            show Steps p.tables e below (T37.setTop (mkF m 106 #[.val (.int p1), .val (.int p2), .val (.int p3), .val (.int p4), .val (.int p5), .val (.int p6), .val (.int (4 : Int32)), .val (.int j2), .val (.int j3), .val (.ref b37_0), .unset, .unset, .unset] [(.int (2 : Int32)), (.int (4 : Int32))])) _
            refine XS.icmpNo X37.here hx rfl (hb hby at_106) rfl (tlt (by decide : (2 : Int32) < (4 : Int32))).2.2.2 ?_
            show Steps p.tables e below (T37.setTop (mkF m 109 #[.val (.int p1), .val (.int p2), .val (.int p3), .val (.int p4), .val (.int p5), .val (.int p6), .val (.int (4 : Int32)), .val (.int j2), .val (.int j3), .val (.ref b37_0), .unset, .unset, .unset] [])) _
            refine XS.iloadN X37.here hx rfl (hb hby at_109) rfl ?_
            show Steps p.tables e below (T37.setTop (mkF m 110 #[.val (.int p1), .val (.int p2), .val (.int p3), .val (.int p4), .val (.int p5), .val (.int p6), .val (.int (4 : Int32)), .val (.int j2), .val (.int j3), .val (.ref b37_0), .unset, .unset, .unset] [(.int p3)])) _
            refine XS.iload X37.here hx rfl (hb hby at_110) rfl ?_
            show Steps p.tables e below (T37.setTop (mkF m 112 #[.val (.int p1), .val (.int p2), .val (.int p3), .val (.int p4), .val (.int p5), .val (.int p6), .val (.int (4 : Int32)), .val (.int j2), .val (.int j3), .val (.ref b37_0), .unset, .unset, .unset] [(.int j3), (.int p3)])) _
            refine XS.icmpYes X37.here hx rfl (pc0 := 112) (pc' := 127) rfl (hb hby at_112) rfl (teq hc112_17).1 (by decide) (by decide) ?_
            show Steps p.tables e below (T37.setTop (mkF m 127 #[.val (.int p1), .val (.int p2), .val (.int p3), .val (.int p4), .val (.int p5), .val (.int p6), .val (.int (4 : Int32)), .val (.int j2), .val (.int j3), .val (.ref b37_0), .unset, .unset, .unset] [])) _
            refine XS.iconst X37.here hx rfl (hb hby at_127) ?_
            show Steps p.tables e below (T37.setTop (mkF m 128 #[.val (.int p1), .val (.int p2), .val (.int p3), .val (.int p4), .val (.int p5), .val (.int p6), .val (.int (4 : Int32)), .val (.int j2), .val (.int j3), .val (.ref b37_0), .unset, .unset, .unset] [(.int (1 : Int32))])) _
            refine XS.goto X37.here hx rfl (pc0 := 128) (pc' := 132) rfl (hb hby at_128) (by decide) (by decide) ?_
            exact k
          · skip
            by_cases hc124_18 : p4 = j3
            · skip
              refine ⟨(1 : Int32), (by simp only [if_neg hc88_15, if_neg hc100_16, if_neg hc112_17, if_pos hc124_18]), fun t k => ?_⟩
              show Steps p.tables e below (T37.setTop (mkF m 88 #[.val (.int p1), .val (.int p2), .val (.int p3), .val (.int p4), .val (.int p5), .val (.int p6), .val (.int (4 : Int32)), .val (.int j2), .val (.int j3), .val (.ref b37_0), .unset, .unset, .unset] [(.int j3), (.int p1)])) _
              refine XS.icmpNo X37.here hx rfl (hb hby at_88) rfl (feq hc88_15).1 ?_
              show Steps p.tables e below (T37.setTop (mkF m 91 #[.val (.int p1), .val (.int p2), .val (.int p3), .val (.int p4), .val (.int p5), .val (.int p6), .val (.int (4 : Int32)), .val (.int j2), .val (.int j3), .val (.ref b37_0), .unset, .unset, .unset] [])) _
              refine XS.iload X37.here hx rfl (hb hby at_91) rfl ?_
              show Steps p.tables e below (T37.setTop (mkF m 93 #[.val (.int p1), .val (.int p2), .val (.int p3), .val (.int p4), .val (.int p5), .val (.int p6), .val (.int (4 : Int32)), .val (.int j2), .val (.int j3), .val (.ref b37_0), .unset, .unset, .unset] [(.int (4 : Int32))])) _
              refine XS.iconst X37.here hx rfl (hb hby at_93) ?_
              show Steps p.tables e below (T37.setTop (mkF m 94 #[.val (.int p1), .val (.int p2), .val (.int p3), .val (.int p4), .val (.int p5), .val (.int p6), .val (.int (4 : Int32)), .val (.int j2), .val (.int j3), .val (.ref b37_0), .unset, .unset, .unset] [(.int (1 : Int32)), (.int (4 : Int32))])) _
              refine XS.icmpNo X37.here hx rfl (hb hby at_94) rfl (tlt (by decide : (1 : Int32) < (4 : Int32))).2.2.2 ?_
              show Steps p.tables e below (T37.setTop (mkF m 97 #[.val (.int p1), .val (.int p2), .val (.int p3), .val (.int p4), .val (.int p5), .val (.int p6), .val (.int (4 : Int32)), .val (.int j2), .val (.int j3), .val (.ref b37_0), .unset, .unset, .unset] [])) _
              refine XS.iloadN X37.here hx rfl (hb hby at_97) rfl ?_
              show Steps p.tables e below (T37.setTop (mkF m 98 #[.val (.int p1), .val (.int p2), .val (.int p3), .val (.int p4), .val (.int p5), .val (.int p6), .val (.int (4 : Int32)), .val (.int j2), .val (.int j3), .val (.ref b37_0), .unset, .unset, .unset] [(.int p2)])) _
              refine XS.iload X37.here hx rfl (hb hby at_98) rfl ?_
              show Steps p.tables e below (T37.setTop (mkF m 100 #[.val (.int p1), .val (.int p2), .val (.int p3), .val (.int p4), .val (.int p5), .val (.int p6), .val (.int (4 : Int32)), .val (.int j2), .val (.int j3), .val (.ref b37_0), .unset, .unset, .unset] [(.int j3), (.int p2)])) _
              refine XS.icmpNo X37.here hx rfl (hb hby at_100) rfl (feq hc100_16).1 ?_
              show Steps p.tables e below (T37.setTop (mkF m 103 #[.val (.int p1), .val (.int p2), .val (.int p3), .val (.int p4), .val (.int p5), .val (.int p6), .val (.int (4 : Int32)), .val (.int j2), .val (.int j3), .val (.ref b37_0), .unset, .unset, .unset] [])) _
              refine XS.iload X37.here hx rfl (hb hby at_103) rfl ?_
              show Steps p.tables e below (T37.setTop (mkF m 105 #[.val (.int p1), .val (.int p2), .val (.int p3), .val (.int p4), .val (.int p5), .val (.int p6), .val (.int (4 : Int32)), .val (.int j2), .val (.int j3), .val (.ref b37_0), .unset, .unset, .unset] [(.int (4 : Int32))])) _
              refine XS.iconst X37.here hx rfl (hb hby at_105) ?_
              show Steps p.tables e below (T37.setTop (mkF m 106 #[.val (.int p1), .val (.int p2), .val (.int p3), .val (.int p4), .val (.int p5), .val (.int p6), .val (.int (4 : Int32)), .val (.int j2), .val (.int j3), .val (.ref b37_0), .unset, .unset, .unset] [(.int (2 : Int32)), (.int (4 : Int32))])) _
              refine XS.icmpNo X37.here hx rfl (hb hby at_106) rfl (tlt (by decide : (2 : Int32) < (4 : Int32))).2.2.2 ?_
              show Steps p.tables e below (T37.setTop (mkF m 109 #[.val (.int p1), .val (.int p2), .val (.int p3), .val (.int p4), .val (.int p5), .val (.int p6), .val (.int (4 : Int32)), .val (.int j2), .val (.int j3), .val (.ref b37_0), .unset, .unset, .unset] [])) _
              refine XS.iloadN X37.here hx rfl (hb hby at_109) rfl ?_
              show Steps p.tables e below (T37.setTop (mkF m 110 #[.val (.int p1), .val (.int p2), .val (.int p3), .val (.int p4), .val (.int p5), .val (.int p6), .val (.int (4 : Int32)), .val (.int j2), .val (.int j3), .val (.ref b37_0), .unset, .unset, .unset] [(.int p3)])) _
              refine XS.iload X37.here hx rfl (hb hby at_110) rfl ?_
              show Steps p.tables e below (T37.setTop (mkF m 112 #[.val (.int p1), .val (.int p2), .val (.int p3), .val (.int p4), .val (.int p5), .val (.int p6), .val (.int (4 : Int32)), .val (.int j2), .val (.int j3), .val (.ref b37_0), .unset, .unset, .unset] [(.int j3), (.int p3)])) _
              refine XS.icmpNo X37.here hx rfl (hb hby at_112) rfl (feq hc112_17).1 ?_
              show Steps p.tables e below (T37.setTop (mkF m 115 #[.val (.int p1), .val (.int p2), .val (.int p3), .val (.int p4), .val (.int p5), .val (.int p6), .val (.int (4 : Int32)), .val (.int j2), .val (.int j3), .val (.ref b37_0), .unset, .unset, .unset] [])) _
              refine XS.iload X37.here hx rfl (hb hby at_115) rfl ?_
              show Steps p.tables e below (T37.setTop (mkF m 117 #[.val (.int p1), .val (.int p2), .val (.int p3), .val (.int p4), .val (.int p5), .val (.int p6), .val (.int (4 : Int32)), .val (.int j2), .val (.int j3), .val (.ref b37_0), .unset, .unset, .unset] [(.int (4 : Int32))])) _
              refine XS.iconst X37.here hx rfl (hb hby at_117) ?_
              show Steps p.tables e below (T37.setTop (mkF m 118 #[.val (.int p1), .val (.int p2), .val (.int p3), .val (.int p4), .val (.int p5), .val (.int p6), .val (.int (4 : Int32)), .val (.int j2), .val (.int j3), .val (.ref b37_0), .unset, .unset, .unset] [(.int (3 : Int32)), (.int (4 : Int32))])) _
              refine XS.icmpNo X37.here hx rfl (hb hby at_118) rfl (tlt (by decide : (3 : Int32) < (4 : Int32))).2.2.2 ?_
              show Steps p.tables e below (T37.setTop (mkF m 121 #[.val (.int p1), .val (.int p2), .val (.int p3), .val (.int p4), .val (.int p5), .val (.int p6), .val (.int (4 : Int32)), .val (.int j2), .val (.int j3), .val (.ref b37_0), .unset, .unset, .unset] [])) _
              refine XS.iloadN X37.here hx rfl (hb hby at_121) rfl ?_
              show Steps p.tables e below (T37.setTop (mkF m 122 #[.val (.int p1), .val (.int p2), .val (.int p3), .val (.int p4), .val (.int p5), .val (.int p6), .val (.int (4 : Int32)), .val (.int j2), .val (.int j3), .val (.ref b37_0), .unset, .unset, .unset] [(.int p4)])) _
              refine XS.iload X37.here hx rfl (hb hby at_122) rfl ?_
              show Steps p.tables e below (T37.setTop (mkF m 124 #[.val (.int p1), .val (.int p2), .val (.int p3), .val (.int p4), .val (.int p5), .val (.int p6), .val (.int (4 : Int32)), .val (.int j2), .val (.int j3), .val (.ref b37_0), .unset, .unset, .unset] [(.int j3), (.int p4)])) _
              refine XS.icmpNo X37.here hx rfl (hb hby at_124) rfl (teq hc124_18).2 ?_
              show Steps p.tables e below (T37.setTop (mkF m 127 #[.val (.int p1), .val (.int p2), .val (.int p3), .val (.int p4), .val (.int p5), .val (.int p6), .val (.int (4 : Int32)), .val (.int j2), .val (.int j3), .val (.ref b37_0), .unset, .unset, .unset] [])) _
              refine XS.iconst X37.here hx rfl (hb hby at_127) ?_
              show Steps p.tables e below (T37.setTop (mkF m 128 #[.val (.int p1), .val (.int p2), .val (.int p3), .val (.int p4), .val (.int p5), .val (.int p6), .val (.int (4 : Int32)), .val (.int j2), .val (.int j3), .val (.ref b37_0), .unset, .unset, .unset] [(.int (1 : Int32))])) _
              refine XS.goto X37.here hx rfl (pc0 := 128) (pc' := 132) rfl (hb hby at_128) (by decide) (by decide) ?_
              exact k
            · skip
              refine ⟨(0 : Int32), (by simp only [if_neg hc88_15, if_neg hc100_16, if_neg hc112_17, if_neg hc124_18]), fun t k => ?_⟩
              show Steps p.tables e below (T37.setTop (mkF m 88 #[.val (.int p1), .val (.int p2), .val (.int p3), .val (.int p4), .val (.int p5), .val (.int p6), .val (.int (4 : Int32)), .val (.int j2), .val (.int j3), .val (.ref b37_0), .unset, .unset, .unset] [(.int j3), (.int p1)])) _
              refine XS.icmpNo X37.here hx rfl (hb hby at_88) rfl (feq hc88_15).1 ?_
              show Steps p.tables e below (T37.setTop (mkF m 91 #[.val (.int p1), .val (.int p2), .val (.int p3), .val (.int p4), .val (.int p5), .val (.int p6), .val (.int (4 : Int32)), .val (.int j2), .val (.int j3), .val (.ref b37_0), .unset, .unset, .unset] [])) _
              refine XS.iload X37.here hx rfl (hb hby at_91) rfl ?_
              show Steps p.tables e below (T37.setTop (mkF m 93 #[.val (.int p1), .val (.int p2), .val (.int p3), .val (.int p4), .val (.int p5), .val (.int p6), .val (.int (4 : Int32)), .val (.int j2), .val (.int j3), .val (.ref b37_0), .unset, .unset, .unset] [(.int (4 : Int32))])) _
              refine XS.iconst X37.here hx rfl (hb hby at_93) ?_
              show Steps p.tables e below (T37.setTop (mkF m 94 #[.val (.int p1), .val (.int p2), .val (.int p3), .val (.int p4), .val (.int p5), .val (.int p6), .val (.int (4 : Int32)), .val (.int j2), .val (.int j3), .val (.ref b37_0), .unset, .unset, .unset] [(.int (1 : Int32)), (.int (4 : Int32))])) _
              refine XS.icmpNo X37.here hx rfl (hb hby at_94) rfl (tlt (by decide : (1 : Int32) < (4 : Int32))).2.2.2 ?_
              show Steps p.tables e below (T37.setTop (mkF m 97 #[.val (.int p1), .val (.int p2), .val (.int p3), .val (.int p4), .val (.int p5), .val (.int p6), .val (.int (4 : Int32)), .val (.int j2), .val (.int j3), .val (.ref b37_0), .unset, .unset, .unset] [])) _
              refine XS.iloadN X37.here hx rfl (hb hby at_97) rfl ?_
              show Steps p.tables e below (T37.setTop (mkF m 98 #[.val (.int p1), .val (.int p2), .val (.int p3), .val (.int p4), .val (.int p5), .val (.int p6), .val (.int (4 : Int32)), .val (.int j2), .val (.int j3), .val (.ref b37_0), .unset, .unset, .unset] [(.int p2)])) _
              refine XS.iload X37.here hx rfl (hb hby at_98) rfl ?_
              show Steps p.tables e below (T37.setTop (mkF m 100 #[.val (.int p1), .val (.int p2), .val (.int p3), .val (.int p4), .val (.int p5), .val (.int p6), .val (.int (4 : Int32)), .val (.int j2), .val (.int j3), .val (.ref b37_0), .unset, .unset, .unset] [(.int j3), (.int p2)])) _
              refine XS.icmpNo X37.here hx rfl (hb hby at_100) rfl (feq hc100_16).1 ?_
              show Steps p.tables e below (T37.setTop (mkF m 103 #[.val (.int p1), .val (.int p2), .val (.int p3), .val (.int p4), .val (.int p5), .val (.int p6), .val (.int (4 : Int32)), .val (.int j2), .val (.int j3), .val (.ref b37_0), .unset, .unset, .unset] [])) _
              refine XS.iload X37.here hx rfl (hb hby at_103) rfl ?_
              show Steps p.tables e below (T37.setTop (mkF m 105 #[.val (.int p1), .val (.int p2), .val (.int p3), .val (.int p4), .val (.int p5), .val (.int p6), .val (.int (4 : Int32)), .val (.int j2), .val (.int j3), .val (.ref b37_0), .unset, .unset, .unset] [(.int (4 : Int32))])) _
              refine XS.iconst X37.here hx rfl (hb hby at_105) ?_
              show Steps p.tables e below (T37.setTop (mkF m 106 #[.val (.int p1), .val (.int p2), .val (.int p3), .val (.int p4), .val (.int p5), .val (.int p6), .val (.int (4 : Int32)), .val (.int j2), .val (.int j3), .val (.ref b37_0), .unset, .unset, .unset] [(.int (2 : Int32)), (.int (4 : Int32))])) _
              refine XS.icmpNo X37.here hx rfl (hb hby at_106) rfl (tlt (by decide : (2 : Int32) < (4 : Int32))).2.2.2 ?_
              show Steps p.tables e below (T37.setTop (mkF m 109 #[.val (.int p1), .val (.int p2), .val (.int p3), .val (.int p4), .val (.int p5), .val (.int p6), .val (.int (4 : Int32)), .val (.int j2), .val (.int j3), .val (.ref b37_0), .unset, .unset, .unset] [])) _
              refine XS.iloadN X37.here hx rfl (hb hby at_109) rfl ?_
              show Steps p.tables e below (T37.setTop (mkF m 110 #[.val (.int p1), .val (.int p2), .val (.int p3), .val (.int p4), .val (.int p5), .val (.int p6), .val (.int (4 : Int32)), .val (.int j2), .val (.int j3), .val (.ref b37_0), .unset, .unset, .unset] [(.int p3)])) _
              refine XS.iload X37.here hx rfl (hb hby at_110) rfl ?_
              show Steps p.tables e below (T37.setTop (mkF m 112 #[.val (.int p1), .val (.int p2), .val (.int p3), .val (.int p4), .val (.int p5), .val (.int p6), .val (.int (4 : Int32)), .val (.int j2), .val (.int j3), .val (.ref b37_0), .unset, .unset, .unset] [(.int j3), (.int p3)])) _
              refine XS.icmpNo X37.here hx rfl (hb hby at_112) rfl (feq hc112_17).1 ?_
              show Steps p.tables e below (T37.setTop (mkF m 115 #[.val (.int p1), .val (.int p2), .val (.int p3), .val (.int p4), .val (.int p5), .val (.int p6), .val (.int (4 : Int32)), .val (.int j2), .val (.int j3), .val (.ref b37_0), .unset, .unset, .unset] [])) _
              refine XS.iload X37.here hx rfl (hb hby at_115) rfl ?_
              show Steps p.tables e below (T37.setTop (mkF m 117 #[.val (.int p1), .val (.int p2), .val (.int p3), .val (.int p4), .val (.int p5), .val (.int p6), .val (.int (4 : Int32)), .val (.int j2), .val (.int j3), .val (.ref b37_0), .unset, .unset, .unset] [(.int (4 : Int32))])) _
              refine XS.iconst X37.here hx rfl (hb hby at_117) ?_
              show Steps p.tables e below (T37.setTop (mkF m 118 #[.val (.int p1), .val (.int p2), .val (.int p3), .val (.int p4), .val (.int p5), .val (.int p6), .val (.int (4 : Int32)), .val (.int j2), .val (.int j3), .val (.ref b37_0), .unset, .unset, .unset] [(.int (3 : Int32)), (.int (4 : Int32))])) _
              refine XS.icmpNo X37.here hx rfl (hb hby at_118) rfl (tlt (by decide : (3 : Int32) < (4 : Int32))).2.2.2 ?_
              show Steps p.tables e below (T37.setTop (mkF m 121 #[.val (.int p1), .val (.int p2), .val (.int p3), .val (.int p4), .val (.int p5), .val (.int p6), .val (.int (4 : Int32)), .val (.int j2), .val (.int j3), .val (.ref b37_0), .unset, .unset, .unset] [])) _
              refine XS.iloadN X37.here hx rfl (hb hby at_121) rfl ?_
              show Steps p.tables e below (T37.setTop (mkF m 122 #[.val (.int p1), .val (.int p2), .val (.int p3), .val (.int p4), .val (.int p5), .val (.int p6), .val (.int (4 : Int32)), .val (.int j2), .val (.int j3), .val (.ref b37_0), .unset, .unset, .unset] [(.int p4)])) _
              refine XS.iload X37.here hx rfl (hb hby at_122) rfl ?_
              show Steps p.tables e below (T37.setTop (mkF m 124 #[.val (.int p1), .val (.int p2), .val (.int p3), .val (.int p4), .val (.int p5), .val (.int p6), .val (.int (4 : Int32)), .val (.int j2), .val (.int j3), .val (.ref b37_0), .unset, .unset, .unset] [(.int j3), (.int p4)])) _
              refine XS.icmpYes X37.here hx rfl (pc0 := 124) (pc' := 131) rfl (hb hby at_124) rfl (feq hc124_18).2 (by decide) (by decide) ?_
              show Steps p.tables e below (T37.setTop (mkF m 131 #[.val (.int p1), .val (.int p2), .val (.int p3), .val (.int p4), .val (.int p5), .val (.int p6), .val (.int (4 : Int32)), .val (.int j2), .val (.int j3), .val (.ref b37_0), .unset, .unset, .unset] [])) _
              refine XS.iconst X37.here hx rfl (hb hby at_131) ?_
              exact k
    refine own_go st39 ?_
    show own_Go p.tables e below _ T37 (mkF m 132 #[.val (.int p1), .val (.int p2), .val (.int p3), .val (.int p4), .val (.int p5), .val (.int p6), .val (.int (4 : Int32)), .val (.int j2), .val (.int j3), .val (.ref b37_0), .unset, .unset, .unset] [(.int j38)])
    refine own_go (T' := T37) (g' := (mkF m 138 #[.val (.int p1), .val (.int p2), .val (.int p3), .val (.int p4), .val (.int p5), .val (.int p6), .val (.int (4 : Int32)), .val (.int j2), .val (.int j3), .val (.ref b37_0), .val (.int j38), .unset, .unset] [(.int j3), (.ref b37_0)])) (fun t k => ?_) ?_
    · show Steps p.tables e below (T37.setTop (mkF m 132 #[.val (.int p1), .val (.int p2), .val (.int p3), .val (.int p4), .val (.int p5), .val (.int p6), .val (.int (4 : Int32)), .val (.int j2), .val (.int j3), .val (.ref b37_0), .unset, .unset, .unset] [(.int j38)])) _
      refine XS.istore X37.here hx rfl (hb hby at_132) rfl (l' := #[.val (.int p1), .val (.int p2), .val (.int p3), .val (.int p4), .val (.int p5), .val (.int p6), .val (.int (4 : Int32)), .val (.int j2), .val (.int j3), .val (.ref b37_0), .val (.int j38), .unset, .unset]) rfl ?_
      show Steps p.tables e below (T37.setTop (mkF m 134 #[.val (.int p1), .val (.int p2), .val (.int p3), .val (.int p4), .val (.int p5), .val (.int p6), .val (.int (4 : Int32)), .val (.int j2), .val (.int j3), .val (.ref b37_0), .val (.int j38), .unset, .unset] [])) _
      refine XS.aload X37.here hx rfl (hb hby at_134) rfl rfl ?_
      show Steps p.tables e below (T37.setTop (mkF m 136 #[.val (.int p1), .val (.int p2), .val (.int p3), .val (.int p4), .val (.int p5), .val (.int p6), .val (.int (4 : Int32)), .val (.int j2), .val (.int j3), .val (.ref b37_0), .val (.int j38), .unset, .unset] [(.ref b37_0)])) _
      refine XS.iload X37.here hx rfl (hb hby at_136) rfl ?_
      exact k
    obtain ⟨_, _, ⟨T40, L40, k40, n40⟩, -, X40, ⟨Lc40, hQ40, l40, y40, z40⟩, st40⟩ := Jvm.LawKit.callS X37 hx (y := (⟨"com/example/hopline/hopline/core/NodeStore", "hasLabel", "([II)Z"⟩ : MethodName)) hown (mvT hZ (hw _ (List.mem_of_getElem? (i := 5) rfl))) (mvT hZ (hw _ (List.mem_of_getElem? (i := 6) rfl))) (mvT hZ (hw _ (List.mem_of_getElem? (i := 7) rfl))) (mvT hZ (hw _ (List.mem_of_getElem? (i := 8) rfl))) (by decide) (backOf (W := 0) (rm2_4 l Z a0 hw [] b37_0 j3 k37_1 p1 p2 p3 p4 T37.heap n0 Z0 V_b37_0) hZ (hw _ (List.mem_of_getElem? (i := 8) rfl)) (hw _ (List.mem_of_getElem? (i := 7) rfl)) (by decide) (by decide)) (g := (mkF m 138 #[.val (.int p1), .val (.int p2), .val (.int p3), .val (.int p4), .val (.int p5), .val (.int p6), .val (.int (4 : Int32)), .val (.int j2), .val (.int j3), .val (.ref b37_0), .val (.int j38), .unset, .unset] [(.int j3), (.ref b37_0)])) rfl (by rw [hml]; rfl) (argsL := [(.ref b37_0), (.int j3)]) (rest := []) (lenOf pd_1 rfl) rfl (by show 2 * 0 + _ ≤ _; exact Nat.le_of_eq rfl) (hb hby at_138) (fun _ _ => ⟨rfl, rfl, (by decide : 1 + 0 ≤ _), (by decide : 4 + 0 ≤ _)⟩)
    dsimp only [Pt.U, Pt.locs, Pt.cells, Pt.slots] at X40 l40 y40 z40 st40 hQ40
    subst l40 y40 z40
    obtain ⟨rfl, N40q, e40⟩ := hQ40
    have NN := Fr.app NN N40q
    refine own_go st40 ?_
    show own_Go p.tables e below _ T40 (mkF m 141 #[.val (.int p1), .val (.int p2), .val (.int p3), .val (.int p4), .val (.int p5), .val (.int p6), .val (.int (4 : Int32)), .val (.int j2), .val (.int j3), .val (.ref b37_0), .val (.int j38), .unset, .unset] [(.int (r_2_4 j3 p1 p2 p3 p4))])
    refine own_go (T' := T40) (g' := (mkF m 143 #[.val (.int p1), .val (.int p2), .val (.int p3), .val (.int p4), .val (.int p5), .val (.int p6), .val (.int (4 : Int32)), .val (.int j2), .val (.int j3), .val (.ref b37_0), .val (.int j38), .val (.int (r_2_4 j3 p1 p2 p3 p4)), .unset] [])) (fun t k => ?_) ?_
    · show Steps p.tables e below (T40.setTop (mkF m 141 #[.val (.int p1), .val (.int p2), .val (.int p3), .val (.int p4), .val (.int p5), .val (.int p6), .val (.int (4 : Int32)), .val (.int j2), .val (.int j3), .val (.ref b37_0), .val (.int j38), .unset, .unset] [(.int (r_2_4 j3 p1 p2 p3 p4))])) _
      refine XS.istore X40.here hx rfl (hb hby at_141) rfl (l' := #[.val (.int p1), .val (.int p2), .val (.int p3), .val (.int p4), .val (.int p5), .val (.int p6), .val (.int (4 : Int32)), .val (.int j2), .val (.int j3), .val (.ref b37_0), .val (.int j38), .val (.int (r_2_4 j3 p1 p2 p3 p4)), .unset]) rfl ?_
      exact k
    show own_Go p.tables e below _ T40 (mkF m 143 #[.val (.int p1), .val (.int p2), .val (.int p3), .val (.int p4), .val (.int p5), .val (.int p6), .val (.int (4 : Int32)), .val (.int j2), .val (.int j3), .val (.ref b37_0), .val (.int j38), .val (.int (r_2_4 j3 p1 p2 p3 p4)), .unset] [])
    obtain ⟨j41, hj41⟩ : ∃ z : Int32, z = (r_2_4 j3 p1 p2 p3 p4) := ⟨_, rfl⟩
    rw [← hj41]
    show own_Go p.tables e below _ T40 (mkF m 143 #[.val (.int p1), .val (.int p2), .val (.int p3), .val (.int p4), .val (.int p5), .val (.int p6), .val (.int (4 : Int32)), .val (.int j2), .val (.int j3), .val (.ref b37_0), .val (.int j38), .val (.int j41), .unset] [])
    refine own_go (T' := T40) (g' := (mkF m 145 #[.val (.int p1), .val (.int p2), .val (.int p3), .val (.int p4), .val (.int p5), .val (.int p6), .val (.int (4 : Int32)), .val (.int j2), .val (.int j3), .val (.ref b37_0), .val (.int j38), .val (.int j41), .unset] [(.ref b37_0)])) (fun t k => ?_) ?_
    · show Steps p.tables e below (T40.setTop (mkF m 143 #[.val (.int p1), .val (.int p2), .val (.int p3), .val (.int p4), .val (.int p5), .val (.int p6), .val (.int (4 : Int32)), .val (.int j2), .val (.int j3), .val (.ref b37_0), .val (.int j38), .val (.int j41), .unset] [])) _
      refine XS.aload X40.here hx rfl (hb hby at_143) rfl rfl ?_
      exact k
    have Vq := V_b37_0
    obtain ⟨cl145, Ar145, -, Sz145, Ng145, -, -⟩ := Vq
    refine own_go (fun t k => X40.arraylength hx (by rw [e40]; exact Ar145.1) (State.isArrayOf_alike hZ.alike Ar145.2.1) (g := (mkF m 145 #[.val (.int p1), .val (.int p2), .val (.int p3), .val (.int p4), .val (.int p5), .val (.int p6), .val (.int (4 : Int32)), .val (.int j2), .val (.int j3), .val (.ref b37_0), .val (.int j38), .val (.int j41), .unset] [(.ref b37_0)])) rfl rfl (hb hby at_145) t k) ?_
    rw [len_of Sz145 Ng145]
    show own_Go p.tables e below _ T40 (mkF m 146 #[.val (.int p1), .val (.int p2), .val (.int p3), .val (.int p4), .val (.int p5), .val (.int p6), .val (.int (4 : Int32)), .val (.int j2), .val (.int j3), .val (.ref b37_0), .val (.int j38), .val (.int j41), .unset] [(.int (4 : Int32))])
    refine own_go (T' := T40) (g' := (mkF m 148 #[.val (.int p1), .val (.int p2), .val (.int p3), .val (.int p4), .val (.int p5), .val (.int p6), .val (.int (4 : Int32)), .val (.int j2), .val (.int j3), .val (.ref b37_0), .val (.int j38), .val (.int j41), .unset] [(.int (4 : Int32)), (.int (4 : Int32))])) (fun t k => ?_) ?_
    · show Steps p.tables e below (T40.setTop (mkF m 146 #[.val (.int p1), .val (.int p2), .val (.int p3), .val (.int p4), .val (.int p5), .val (.int p6), .val (.int (4 : Int32)), .val (.int j2), .val (.int j3), .val (.ref b37_0), .val (.int j38), .val (.int j41), .unset] [(.int (4 : Int32))])) _
      refine XS.iload X40.here hx rfl (hb hby at_146) rfl ?_
      exact k
    refine own_go (T' := T40) (g' := (mkF m 154 #[.val (.int p1), .val (.int p2), .val (.int p3), .val (.int p4), .val (.int p5), .val (.int p6), .val (.int (4 : Int32)), .val (.int j2), .val (.int j3), .val (.ref b37_0), .val (.int j38), .val (.int j41), .unset] [(.int (1 : Int32)), (.int (4 : Int32))])) (fun t k => ?_) ?_
    · show Steps p.tables e below (T40.setTop (mkF m 148 #[.val (.int p1), .val (.int p2), .val (.int p3), .val (.int p4), .val (.int p5), .val (.int p6), .val (.int (4 : Int32)), .val (.int j2), .val (.int j3), .val (.ref b37_0), .val (.int j38), .val (.int j41), .unset] [(.int (4 : Int32)), (.int (4 : Int32))])) _
      refine XS.icmpNo X40.here hx rfl (hb hby at_148) rfl (teq (rfl : (4 : Int32) = (4 : Int32))).2 ?_
      show Steps p.tables e below (T40.setTop (mkF m 151 #[.val (.int p1), .val (.int p2), .val (.int p3), .val (.int p4), .val (.int p5), .val (.int p6), .val (.int (4 : Int32)), .val (.int j2), .val (.int j3), .val (.ref b37_0), .val (.int j38), .val (.int j41), .unset] [])) _
      refine XS.iload X40.here hx rfl (hb hby at_151) rfl ?_
      show Steps p.tables e below (T40.setTop (mkF m 153 #[.val (.int p1), .val (.int p2), .val (.int p3), .val (.int p4), .val (.int p5), .val (.int p6), .val (.int (4 : Int32)), .val (.int j2), .val (.int j3), .val (.ref b37_0), .val (.int j38), .val (.int j41), .unset] [(.int (4 : Int32))])) _
      refine XS.iconst X40.here hx rfl (hb hby at_153) ?_
      exact k
    refine own_go (T' := T40) (g' := (mkF m 160 #[.val (.int p1), .val (.int p2), .val (.int p3), .val (.int p4), .val (.int p5), .val (.int p6), .val (.int (4 : Int32)), .val (.int j2), .val (.int j3), .val (.ref b37_0), .val (.int j38), .val (.int j41), .unset] [(.int (0 : Int32)), (.ref b37_0)])) (fun t k => ?_) ?_
    · show Steps p.tables e below (T40.setTop (mkF m 154 #[.val (.int p1), .val (.int p2), .val (.int p3), .val (.int p4), .val (.int p5), .val (.int p6), .val (.int (4 : Int32)), .val (.int j2), .val (.int j3), .val (.ref b37_0), .val (.int j38), .val (.int j41), .unset] [(.int (1 : Int32)), (.int (4 : Int32))])) _
      refine XS.icmpNo X40.here hx rfl (hb hby at_154) rfl (flt (by decide : ¬ ((4 : Int32) < (1 : Int32)))).1 ?_
      show Steps p.tables e below (T40.setTop (mkF m 157 #[.val (.int p1), .val (.int p2), .val (.int p3), .val (.int p4), .val (.int p5), .val (.int p6), .val (.int (4 : Int32)), .val (.int j2), .val (.int j3), .val (.ref b37_0), .val (.int j38), .val (.int j41), .unset] [])) _
      refine XS.aload X40.here hx rfl (hb hby at_157) rfl rfl ?_
      show Steps p.tables e below (T40.setTop (mkF m 159 #[.val (.int p1), .val (.int p2), .val (.int p3), .val (.int p4), .val (.int p5), .val (.int p6), .val (.int (4 : Int32)), .val (.int j2), .val (.int j3), .val (.ref b37_0), .val (.int j38), .val (.int j41), .unset] [(.ref b37_0)])) _
      refine XS.iconst X40.here hx rfl (hb hby at_159) ?_
      exact k
    have Vq := V_b37_0
    obtain ⟨cl42, Ar42, q42, Sz42, Ng42, Hs42, Gs42⟩ := Vq
    have hin42 : ¬ ((0 : Int32) < 0 ∨ cl42.slots.size ≤ ((0 : Int32)).toNatClampNeg) := inb_of Sz42 ⟨by decide, by decide⟩
    have hat42 : cl42.slots[((0 : Int32)).toNatClampNeg]? = some (.int p1) := Hs42.at hin42 rfl
    refine own_go (fun t k => X40.iaload hx (j := (0 : Int32)) (v := (.int p1)) (by rw [e40]; exact Ar42.1) (State.isArrayOf_alike hZ.alike Ar42.2.1) Ar42.2.2 hin42 hat42 (g := (mkF m 160 #[.val (.int p1), .val (.int p2), .val (.int p3), .val (.int p4), .val (.int p5), .val (.int p6), .val (.int (4 : Int32)), .val (.int j2), .val (.int j3), .val (.ref b37_0), .val (.int j38), .val (.int j41), .unset] [(.int (0 : Int32)), (.ref b37_0)])) rfl rfl (hb hby at_160) t k) ?_
    show own_Go p.tables e below _ T40 (mkF m 161 #[.val (.int p1), .val (.int p2), .val (.int p3), .val (.int p4), .val (.int p5), .val (.int p6), .val (.int (4 : Int32)), .val (.int j2), .val (.int j3), .val (.ref b37_0), .val (.int j38), .val (.int j41), .unset] [(.int p1)])
    refine own_go (T' := T40) (g' := (mkF m 162 #[.val (.int p1), .val (.int p2), .val (.int p3), .val (.int p4), .val (.int p5), .val (.int p6), .val (.int (4 : Int32)), .val (.int j2), .val (.int j3), .val (.ref b37_0), .val (.int j38), .val (.int j41), .unset] [(.int p1), (.int p1)])) (fun t k => ?_) ?_
    · show Steps p.tables e below (T40.setTop (mkF m 161 #[.val (.int p1), .val (.int p2), .val (.int p3), .val (.int p4), .val (.int p5), .val (.int p6), .val (.int (4 : Int32)), .val (.int j2), .val (.int j3), .val (.ref b37_0), .val (.int j38), .val (.int j41), .unset] [(.int p1)])) _
      refine XS.iloadN X40.here hx rfl (hb hby at_161) rfl ?_
      exact k
    refine own_go (T' := T40) (g' := (mkF m 168 #[.val (.int p1), .val (.int p2), .val (.int p3), .val (.int p4), .val (.int p5), .val (.int p6), .val (.int (4 : Int32)), .val (.int j2), .val (.int j3), .val (.ref b37_0), .val (.int j38), .val (.int j41), .unset] [(.int (2 : Int32)), (.int (4 : Int32))])) (fun t k => ?_) ?_
    · show Steps p.tables e below (T40.setTop (mkF m 162 #[.val (.int p1), .val (.int p2), .val (.int p3), .val (.int p4), .val (.int p5), .val (.int p6), .val (.int (4 : Int32)), .val (.int j2), .val (.int j3), .val (.ref b37_0), .val (.int j38), .val (.int j41), .unset] [(.int p1), (.int p1)])) _
      refine XS.icmpNo X40.here hx rfl (hb hby at_162) rfl (teq (rfl : p1 = p1)).2 ?_
      show Steps p.tables e below (T40.setTop (mkF m 165 #[.val (.int p1), .val (.int p2), .val (.int p3), .val (.int p4), .val (.int p5), .val (.int p6), .val (.int (4 : Int32)), .val (.int j2), .val (.int j3), .val (.ref b37_0), .val (.int j38), .val (.int j41), .unset] [])) _
      refine XS.iload X40.here hx rfl (hb hby at_165) rfl ?_
      show Steps p.tables e below (T40.setTop (mkF m 167 #[.val (.int p1), .val (.int p2), .val (.int p3), .val (.int p4), .val (.int p5), .val (.int p6), .val (.int (4 : Int32)), .val (.int j2), .val (.int j3), .val (.ref b37_0), .val (.int j38), .val (.int j41), .unset] [(.int (4 : Int32))])) _
      refine XS.iconst X40.here hx rfl (hb hby at_167) ?_
      exact k
    refine own_go (T' := T40) (g' := (mkF m 174 #[.val (.int p1), .val (.int p2), .val (.int p3), .val (.int p4), .val (.int p5), .val (.int p6), .val (.int (4 : Int32)), .val (.int j2), .val (.int j3), .val (.ref b37_0), .val (.int j38), .val (.int j41), .unset] [(.int (1 : Int32)), (.ref b37_0)])) (fun t k => ?_) ?_
    · show Steps p.tables e below (T40.setTop (mkF m 168 #[.val (.int p1), .val (.int p2), .val (.int p3), .val (.int p4), .val (.int p5), .val (.int p6), .val (.int (4 : Int32)), .val (.int j2), .val (.int j3), .val (.ref b37_0), .val (.int j38), .val (.int j41), .unset] [(.int (2 : Int32)), (.int (4 : Int32))])) _
      refine XS.icmpNo X40.here hx rfl (hb hby at_168) rfl (flt (by decide : ¬ ((4 : Int32) < (2 : Int32)))).1 ?_
      show Steps p.tables e below (T40.setTop (mkF m 171 #[.val (.int p1), .val (.int p2), .val (.int p3), .val (.int p4), .val (.int p5), .val (.int p6), .val (.int (4 : Int32)), .val (.int j2), .val (.int j3), .val (.ref b37_0), .val (.int j38), .val (.int j41), .unset] [])) _
      refine XS.aload X40.here hx rfl (hb hby at_171) rfl rfl ?_
      show Steps p.tables e below (T40.setTop (mkF m 173 #[.val (.int p1), .val (.int p2), .val (.int p3), .val (.int p4), .val (.int p5), .val (.int p6), .val (.int (4 : Int32)), .val (.int j2), .val (.int j3), .val (.ref b37_0), .val (.int j38), .val (.int j41), .unset] [(.ref b37_0)])) _
      refine XS.iconst X40.here hx rfl (hb hby at_173) ?_
      exact k
    have Vq := V_b37_0
    obtain ⟨cl43, Ar43, q43, Sz43, Ng43, Hs43, Gs43⟩ := Vq
    have hin43 : ¬ ((1 : Int32) < 0 ∨ cl43.slots.size ≤ ((1 : Int32)).toNatClampNeg) := inb_of Sz43 ⟨by decide, by decide⟩
    have hat43 : cl43.slots[((1 : Int32)).toNatClampNeg]? = some (.int p2) := Hs43.at hin43 rfl
    refine own_go (fun t k => X40.iaload hx (j := (1 : Int32)) (v := (.int p2)) (by rw [e40]; exact Ar43.1) (State.isArrayOf_alike hZ.alike Ar43.2.1) Ar43.2.2 hin43 hat43 (g := (mkF m 174 #[.val (.int p1), .val (.int p2), .val (.int p3), .val (.int p4), .val (.int p5), .val (.int p6), .val (.int (4 : Int32)), .val (.int j2), .val (.int j3), .val (.ref b37_0), .val (.int j38), .val (.int j41), .unset] [(.int (1 : Int32)), (.ref b37_0)])) rfl rfl (hb hby at_174) t k) ?_
    show own_Go p.tables e below _ T40 (mkF m 175 #[.val (.int p1), .val (.int p2), .val (.int p3), .val (.int p4), .val (.int p5), .val (.int p6), .val (.int (4 : Int32)), .val (.int j2), .val (.int j3), .val (.ref b37_0), .val (.int j38), .val (.int j41), .unset] [(.int p2)])
    refine own_go (T' := T40) (g' := (mkF m 176 #[.val (.int p1), .val (.int p2), .val (.int p3), .val (.int p4), .val (.int p5), .val (.int p6), .val (.int (4 : Int32)), .val (.int j2), .val (.int j3), .val (.ref b37_0), .val (.int j38), .val (.int j41), .unset] [(.int p2), (.int p2)])) (fun t k => ?_) ?_
    · show Steps p.tables e below (T40.setTop (mkF m 175 #[.val (.int p1), .val (.int p2), .val (.int p3), .val (.int p4), .val (.int p5), .val (.int p6), .val (.int (4 : Int32)), .val (.int j2), .val (.int j3), .val (.ref b37_0), .val (.int j38), .val (.int j41), .unset] [(.int p2)])) _
      refine XS.iloadN X40.here hx rfl (hb hby at_175) rfl ?_
      exact k
    refine own_go (T' := T40) (g' := (mkF m 182 #[.val (.int p1), .val (.int p2), .val (.int p3), .val (.int p4), .val (.int p5), .val (.int p6), .val (.int (4 : Int32)), .val (.int j2), .val (.int j3), .val (.ref b37_0), .val (.int j38), .val (.int j41), .unset] [(.int (3 : Int32)), (.int (4 : Int32))])) (fun t k => ?_) ?_
    · show Steps p.tables e below (T40.setTop (mkF m 176 #[.val (.int p1), .val (.int p2), .val (.int p3), .val (.int p4), .val (.int p5), .val (.int p6), .val (.int (4 : Int32)), .val (.int j2), .val (.int j3), .val (.ref b37_0), .val (.int j38), .val (.int j41), .unset] [(.int p2), (.int p2)])) _
      refine XS.icmpNo X40.here hx rfl (hb hby at_176) rfl (teq (rfl : p2 = p2)).2 ?_
      show Steps p.tables e below (T40.setTop (mkF m 179 #[.val (.int p1), .val (.int p2), .val (.int p3), .val (.int p4), .val (.int p5), .val (.int p6), .val (.int (4 : Int32)), .val (.int j2), .val (.int j3), .val (.ref b37_0), .val (.int j38), .val (.int j41), .unset] [])) _
      refine XS.iload X40.here hx rfl (hb hby at_179) rfl ?_
      show Steps p.tables e below (T40.setTop (mkF m 181 #[.val (.int p1), .val (.int p2), .val (.int p3), .val (.int p4), .val (.int p5), .val (.int p6), .val (.int (4 : Int32)), .val (.int j2), .val (.int j3), .val (.ref b37_0), .val (.int j38), .val (.int j41), .unset] [(.int (4 : Int32))])) _
      refine XS.iconst X40.here hx rfl (hb hby at_181) ?_
      exact k
    refine own_go (T' := T40) (g' := (mkF m 188 #[.val (.int p1), .val (.int p2), .val (.int p3), .val (.int p4), .val (.int p5), .val (.int p6), .val (.int (4 : Int32)), .val (.int j2), .val (.int j3), .val (.ref b37_0), .val (.int j38), .val (.int j41), .unset] [(.int (2 : Int32)), (.ref b37_0)])) (fun t k => ?_) ?_
    · show Steps p.tables e below (T40.setTop (mkF m 182 #[.val (.int p1), .val (.int p2), .val (.int p3), .val (.int p4), .val (.int p5), .val (.int p6), .val (.int (4 : Int32)), .val (.int j2), .val (.int j3), .val (.ref b37_0), .val (.int j38), .val (.int j41), .unset] [(.int (3 : Int32)), (.int (4 : Int32))])) _
      refine XS.icmpNo X40.here hx rfl (hb hby at_182) rfl (flt (by decide : ¬ ((4 : Int32) < (3 : Int32)))).1 ?_
      show Steps p.tables e below (T40.setTop (mkF m 185 #[.val (.int p1), .val (.int p2), .val (.int p3), .val (.int p4), .val (.int p5), .val (.int p6), .val (.int (4 : Int32)), .val (.int j2), .val (.int j3), .val (.ref b37_0), .val (.int j38), .val (.int j41), .unset] [])) _
      refine XS.aload X40.here hx rfl (hb hby at_185) rfl rfl ?_
      show Steps p.tables e below (T40.setTop (mkF m 187 #[.val (.int p1), .val (.int p2), .val (.int p3), .val (.int p4), .val (.int p5), .val (.int p6), .val (.int (4 : Int32)), .val (.int j2), .val (.int j3), .val (.ref b37_0), .val (.int j38), .val (.int j41), .unset] [(.ref b37_0)])) _
      refine XS.iconst X40.here hx rfl (hb hby at_187) ?_
      exact k
    have Vq := V_b37_0
    obtain ⟨cl44, Ar44, q44, Sz44, Ng44, Hs44, Gs44⟩ := Vq
    have hin44 : ¬ ((2 : Int32) < 0 ∨ cl44.slots.size ≤ ((2 : Int32)).toNatClampNeg) := inb_of Sz44 ⟨by decide, by decide⟩
    have hat44 : cl44.slots[((2 : Int32)).toNatClampNeg]? = some (.int p3) := Hs44.at hin44 rfl
    refine own_go (fun t k => X40.iaload hx (j := (2 : Int32)) (v := (.int p3)) (by rw [e40]; exact Ar44.1) (State.isArrayOf_alike hZ.alike Ar44.2.1) Ar44.2.2 hin44 hat44 (g := (mkF m 188 #[.val (.int p1), .val (.int p2), .val (.int p3), .val (.int p4), .val (.int p5), .val (.int p6), .val (.int (4 : Int32)), .val (.int j2), .val (.int j3), .val (.ref b37_0), .val (.int j38), .val (.int j41), .unset] [(.int (2 : Int32)), (.ref b37_0)])) rfl rfl (hb hby at_188) t k) ?_
    show own_Go p.tables e below _ T40 (mkF m 189 #[.val (.int p1), .val (.int p2), .val (.int p3), .val (.int p4), .val (.int p5), .val (.int p6), .val (.int (4 : Int32)), .val (.int j2), .val (.int j3), .val (.ref b37_0), .val (.int j38), .val (.int j41), .unset] [(.int p3)])
    refine own_go (T' := T40) (g' := (mkF m 190 #[.val (.int p1), .val (.int p2), .val (.int p3), .val (.int p4), .val (.int p5), .val (.int p6), .val (.int (4 : Int32)), .val (.int j2), .val (.int j3), .val (.ref b37_0), .val (.int j38), .val (.int j41), .unset] [(.int p3), (.int p3)])) (fun t k => ?_) ?_
    · show Steps p.tables e below (T40.setTop (mkF m 189 #[.val (.int p1), .val (.int p2), .val (.int p3), .val (.int p4), .val (.int p5), .val (.int p6), .val (.int (4 : Int32)), .val (.int j2), .val (.int j3), .val (.ref b37_0), .val (.int j38), .val (.int j41), .unset] [(.int p3)])) _
      refine XS.iloadN X40.here hx rfl (hb hby at_189) rfl ?_
      exact k
    refine own_go (T' := T40) (g' := (mkF m 196 #[.val (.int p1), .val (.int p2), .val (.int p3), .val (.int p4), .val (.int p5), .val (.int p6), .val (.int (4 : Int32)), .val (.int j2), .val (.int j3), .val (.ref b37_0), .val (.int j38), .val (.int j41), .unset] [(.int (4 : Int32)), (.int (4 : Int32))])) (fun t k => ?_) ?_
    · show Steps p.tables e below (T40.setTop (mkF m 190 #[.val (.int p1), .val (.int p2), .val (.int p3), .val (.int p4), .val (.int p5), .val (.int p6), .val (.int (4 : Int32)), .val (.int j2), .val (.int j3), .val (.ref b37_0), .val (.int j38), .val (.int j41), .unset] [(.int p3), (.int p3)])) _
      refine XS.icmpNo X40.here hx rfl (hb hby at_190) rfl (teq (rfl : p3 = p3)).2 ?_
      show Steps p.tables e below (T40.setTop (mkF m 193 #[.val (.int p1), .val (.int p2), .val (.int p3), .val (.int p4), .val (.int p5), .val (.int p6), .val (.int (4 : Int32)), .val (.int j2), .val (.int j3), .val (.ref b37_0), .val (.int j38), .val (.int j41), .unset] [])) _
      refine XS.iload X40.here hx rfl (hb hby at_193) rfl ?_
      show Steps p.tables e below (T40.setTop (mkF m 195 #[.val (.int p1), .val (.int p2), .val (.int p3), .val (.int p4), .val (.int p5), .val (.int p6), .val (.int (4 : Int32)), .val (.int j2), .val (.int j3), .val (.ref b37_0), .val (.int j38), .val (.int j41), .unset] [(.int (4 : Int32))])) _
      refine XS.iconst X40.here hx rfl (hb hby at_195) ?_
      exact k
    refine own_go (T' := T40) (g' := (mkF m 202 #[.val (.int p1), .val (.int p2), .val (.int p3), .val (.int p4), .val (.int p5), .val (.int p6), .val (.int (4 : Int32)), .val (.int j2), .val (.int j3), .val (.ref b37_0), .val (.int j38), .val (.int j41), .unset] [(.int (3 : Int32)), (.ref b37_0)])) (fun t k => ?_) ?_
    · show Steps p.tables e below (T40.setTop (mkF m 196 #[.val (.int p1), .val (.int p2), .val (.int p3), .val (.int p4), .val (.int p5), .val (.int p6), .val (.int (4 : Int32)), .val (.int j2), .val (.int j3), .val (.ref b37_0), .val (.int j38), .val (.int j41), .unset] [(.int (4 : Int32)), (.int (4 : Int32))])) _
      refine XS.icmpNo X40.here hx rfl (hb hby at_196) rfl (flt (Int32.lt_irrefl)).1 ?_
      show Steps p.tables e below (T40.setTop (mkF m 199 #[.val (.int p1), .val (.int p2), .val (.int p3), .val (.int p4), .val (.int p5), .val (.int p6), .val (.int (4 : Int32)), .val (.int j2), .val (.int j3), .val (.ref b37_0), .val (.int j38), .val (.int j41), .unset] [])) _
      refine XS.aload X40.here hx rfl (hb hby at_199) rfl rfl ?_
      show Steps p.tables e below (T40.setTop (mkF m 201 #[.val (.int p1), .val (.int p2), .val (.int p3), .val (.int p4), .val (.int p5), .val (.int p6), .val (.int (4 : Int32)), .val (.int j2), .val (.int j3), .val (.ref b37_0), .val (.int j38), .val (.int j41), .unset] [(.ref b37_0)])) _
      refine XS.iconst X40.here hx rfl (hb hby at_201) ?_
      exact k
    have Vq := V_b37_0
    obtain ⟨cl45, Ar45, q45, Sz45, Ng45, Hs45, Gs45⟩ := Vq
    have hin45 : ¬ ((3 : Int32) < 0 ∨ cl45.slots.size ≤ ((3 : Int32)).toNatClampNeg) := inb_of Sz45 ⟨by decide, by decide⟩
    have hat45 : cl45.slots[((3 : Int32)).toNatClampNeg]? = some (.int p4) := Hs45.at hin45 rfl
    refine own_go (fun t k => X40.iaload hx (j := (3 : Int32)) (v := (.int p4)) (by rw [e40]; exact Ar45.1) (State.isArrayOf_alike hZ.alike Ar45.2.1) Ar45.2.2 hin45 hat45 (g := (mkF m 202 #[.val (.int p1), .val (.int p2), .val (.int p3), .val (.int p4), .val (.int p5), .val (.int p6), .val (.int (4 : Int32)), .val (.int j2), .val (.int j3), .val (.ref b37_0), .val (.int j38), .val (.int j41), .unset] [(.int (3 : Int32)), (.ref b37_0)])) rfl rfl (hb hby at_202) t k) ?_
    show own_Go p.tables e below _ T40 (mkF m 203 #[.val (.int p1), .val (.int p2), .val (.int p3), .val (.int p4), .val (.int p5), .val (.int p6), .val (.int (4 : Int32)), .val (.int j2), .val (.int j3), .val (.ref b37_0), .val (.int j38), .val (.int j41), .unset] [(.int p4)])
    refine own_go (T' := T40) (g' := (mkF m 204 #[.val (.int p1), .val (.int p2), .val (.int p3), .val (.int p4), .val (.int p5), .val (.int p6), .val (.int (4 : Int32)), .val (.int j2), .val (.int j3), .val (.ref b37_0), .val (.int j38), .val (.int j41), .unset] [(.int p4), (.int p4)])) (fun t k => ?_) ?_
    · show Steps p.tables e below (T40.setTop (mkF m 203 #[.val (.int p1), .val (.int p2), .val (.int p3), .val (.int p4), .val (.int p5), .val (.int p6), .val (.int (4 : Int32)), .val (.int j2), .val (.int j3), .val (.ref b37_0), .val (.int j38), .val (.int j41), .unset] [(.int p4)])) _
      refine XS.iloadN X40.here hx rfl (hb hby at_203) rfl ?_
      exact k
    refine own_go (T' := T40) (g' := (mkF m 218 #[.val (.int p1), .val (.int p2), .val (.int p3), .val (.int p4), .val (.int p5), .val (.int p6), .val (.int (4 : Int32)), .val (.int j2), .val (.int j3), .val (.ref b37_0), .val (.int j38), .val (.int j41), .val (.int (1 : Int32))] [(.int j38), (.int j41)])) (fun t k => ?_) ?_
    · show Steps p.tables e below (T40.setTop (mkF m 204 #[.val (.int p1), .val (.int p2), .val (.int p3), .val (.int p4), .val (.int p5), .val (.int p6), .val (.int (4 : Int32)), .val (.int j2), .val (.int j3), .val (.ref b37_0), .val (.int j38), .val (.int j41), .unset] [(.int p4), (.int p4)])) _
      refine XS.icmpNo X40.here hx rfl (hb hby at_204) rfl (teq (rfl : p4 = p4)).2 ?_
      show Steps p.tables e below (T40.setTop (mkF m 207 #[.val (.int p1), .val (.int p2), .val (.int p3), .val (.int p4), .val (.int p5), .val (.int p6), .val (.int (4 : Int32)), .val (.int j2), .val (.int j3), .val (.ref b37_0), .val (.int j38), .val (.int j41), .unset] [])) _
      refine XS.iconst X40.here hx rfl (hb hby at_207) ?_
      show Steps p.tables e below (T40.setTop (mkF m 208 #[.val (.int p1), .val (.int p2), .val (.int p3), .val (.int p4), .val (.int p5), .val (.int p6), .val (.int (4 : Int32)), .val (.int j2), .val (.int j3), .val (.ref b37_0), .val (.int j38), .val (.int j41), .unset] [(.int (1 : Int32))])) _
      refine XS.goto X40.here hx rfl (pc0 := 208) (pc' := 212) rfl (hb hby at_208) (by decide) (by decide) ?_
      show Steps p.tables e below (T40.setTop (mkF m 212 #[.val (.int p1), .val (.int p2), .val (.int p3), .val (.int p4), .val (.int p5), .val (.int p6), .val (.int (4 : Int32)), .val (.int j2), .val (.int j3), .val (.ref b37_0), .val (.int j38), .val (.int j41), .unset] [(.int (1 : Int32))])) _
      refine XS.istore X40.here hx rfl (hb hby at_212) rfl (l' := #[.val (.int p1), .val (.int p2), .val (.int p3), .val (.int p4), .val (.int p5), .val (.int p6), .val (.int (4 : Int32)), .val (.int j2), .val (.int j3), .val (.ref b37_0), .val (.int j38), .val (.int j41), .val (.int (1 : Int32))]) rfl ?_
      show Steps p.tables e below (T40.setTop (mkF m 214 #[.val (.int p1), .val (.int p2), .val (.int p3), .val (.int p4), .val (.int p5), .val (.int p6), .val (.int (4 : Int32)), .val (.int j2), .val (.int j3), .val (.ref b37_0), .val (.int j38), .val (.int j41), .val (.int (1 : Int32))] [])) _
      refine XS.iload X40.here hx rfl (hb hby at_214) rfl ?_
      show Steps p.tables e below (T40.setTop (mkF m 216 #[.val (.int p1), .val (.int p2), .val (.int p3), .val (.int p4), .val (.int p5), .val (.int p6), .val (.int (4 : Int32)), .val (.int j2), .val (.int j3), .val (.ref b37_0), .val (.int j38), .val (.int j41), .val (.int (1 : Int32))] [(.int j41)])) _
      refine XS.iload X40.here hx rfl (hb hby at_216) rfl ?_
      exact k
    obtain ⟨j46, hj46, st47⟩ : ∃ (j46 : Int32), j46 = (if j41 = j38 then (1 : Int32) else (0 : Int32)) ∧ ∀ t, Steps p.tables e below (T40.setTop (mkF m 231 #[.val (.int p1), .val (.int p2), .val (.int p3), .val (.int p4), .val (.int p5), .val (.int p6), .val (.int (4 : Int32)), .val (.int j2), .val (.int j3), .val (.ref b37_0), .val (.int j38), .val (.int j41), .val (.int (1 : Int32))] [(.int j46)])) t → Steps p.tables e below (T40.setTop (mkF m 218 #[.val (.int p1), .val (.int p2), .val (.int p3), .val (.int p4), .val (.int p5), .val (.int p6), .val (.int (4 : Int32)), .val (.int j2), .val (.int j3), .val (.ref b37_0), .val (.int j38), .val (.int j41), .val (.int (1 : Int32))] [(.int j38), (.int j41)])) t := by
      by_cases hc218_19 : j41 = j38
      · skip
        refine ⟨(1 : Int32), (by simp only [if_pos hc218_19]), fun t k => ?_⟩
        show Steps p.tables e below (T40.setTop (mkF m 218 #[.val (.int p1), .val (.int p2), .val (.int p3), .val (.int p4), .val (.int p5), .val (.int p6), .val (.int (4 : Int32)), .val (.int j2), .val (.int j3), .val (.ref b37_0), .val (.int j38), .val (.int j41), .val (.int (1 : Int32))] [(.int j38), (.int j41)])) _
        refine XS.icmpNo X40.here hx rfl (hb hby at_218) rfl (teq hc218_19).2 ?_
        show Steps p.tables e below (T40.setTop (mkF m 221 #[.val (.int p1), .val (.int p2), .val (.int p3), .val (.int p4), .val (.int p5), .val (.int p6), .val (.int (4 : Int32)), .val (.int j2), .val (.int j3), .val (.ref b37_0), .val (.int j38), .val (.int j41), .val (.int (1 : Int32))] [])) _
        refine XS.iload X40.here hx rfl (hb hby at_221) rfl ?_
        show Steps p.tables e below (T40.setTop (mkF m 223 #[.val (.int p1), .val (.int p2), .val (.int p3), .val (.int p4), .val (.int p5), .val (.int p6), .val (.int (4 : Int32)), .val (.int j2), .val (.int j3), .val (.ref b37_0), .val (.int j38), .val (.int j41), .val (.int (1 : Int32))] [(.int (1 : Int32))])) _
        refine XS.ifNo X40.here hx rfl (hb hby at_223) rfl ((if0 _ _).trans (feq (by decide : ¬ ((1 : Int32) = (0 : Int32)))).1) ?_
        show Steps p.tables e below (T40.setTop (mkF m 226 #[.val (.int p1), .val (.int p2), .val (.int p3), .val (.int p4), .val (.int p5), .val (.int p6), .val (.int (4 : Int32)), .val (.int j2), .val (.int j3), .val (.ref b37_0), .val (.int j38), .val (.int j41), .val (.int (1 : Int32))] [])) _
        refine XS.iconst X40.here hx rfl (hb hby at_226) ?_
        show Steps p.tables e below (T40.setTop (mkF m 227 #[.val (.int p1), .val (.int p2), .val (.int p3), .val (.int p4), .val (.int p5), .val (.int p6), .val (.int (4 : Int32)), .val (.int j2), .val (.int j3), .val (.ref b37_0), .val (.int j38), .val (.int j41), .val (.int (1 : Int32))] [(.int (1 : Int32))])) _
        refine XS.goto X40.here hx rfl (pc0 := 227) (pc' := 231) rfl (hb hby at_227) (by decide) (by decide) ?_
        exact k
      · skip
        refine ⟨(0 : Int32), (by simp only [if_neg hc218_19]), fun t k => ?_⟩
        show Steps p.tables e below (T40.setTop (mkF m 218 #[.val (.int p1), .val (.int p2), .val (.int p3), .val (.int p4), .val (.int p5), .val (.int p6), .val (.int (4 : Int32)), .val (.int j2), .val (.int j3), .val (.ref b37_0), .val (.int j38), .val (.int j41), .val (.int (1 : Int32))] [(.int j38), (.int j41)])) _
        refine XS.icmpYes X40.here hx rfl (pc0 := 218) (pc' := 230) rfl (hb hby at_218) rfl (feq hc218_19).2 (by decide) (by decide) ?_
        show Steps p.tables e below (T40.setTop (mkF m 230 #[.val (.int p1), .val (.int p2), .val (.int p3), .val (.int p4), .val (.int p5), .val (.int p6), .val (.int (4 : Int32)), .val (.int j2), .val (.int j3), .val (.ref b37_0), .val (.int j38), .val (.int j41), .val (.int (1 : Int32))] [])) _
        refine XS.iconst X40.here hx rfl (hb hby at_230) ?_
        exact k
    refine own_go st47 ?_
    show own_Go p.tables e below _ T40 (mkF m 231 #[.val (.int p1), .val (.int p2), .val (.int p3), .val (.int p4), .val (.int p5), .val (.int p6), .val (.int (4 : Int32)), .val (.int j2), .val (.int j3), .val (.ref b37_0), .val (.int j38), .val (.int j41), .val (.int (1 : Int32))] [(.int j46)])
    have hv1 : (nar .boolean j46) = 1 := own_yes_4 p1 p2 p3 p4 p5 p6 j2 j3 j38 j41 j46 hj2 hj3 hj38 hj41 hj46
    obtain ⟨fs, hr, hrun, hended, hW, hsame⟩ := X40.leave (v := some (.int (nar .boolean j46))) (fun h => by rw [Bd.returns] at h; cases h)
    refine ⟨_, _, ?_, hrun, hended, _, _, rfl, ?_, ⟨_, rfl⟩, hW, hsame.mono (by decide) (by decide)⟩
    · exact retN X40 hx (t := .boolean) Bd.returns (by simp) (hb hby at_231) hr
    · show Q0 Z p1 p2 p3 p4 p5 p6 h0 n0 _ _ _
      exact ⟨by rw [hv1], NN⟩
set_option maxRecDepth 65536 in
set_option maxHeartbeats 40000000 in
theorem comes_1 {Post : Tables → Env → Array Value → State → Outcome → State → Prop} (hpost : ∀ tb e args s v u, (limb_1_1.after args s (.returned v) u = true ∧ limb_1_2.after args s (.returned v) u = true ∧ True) → FrameEnd s (.returned v) u (Jvm.fieldLocs frame_1_writes args s ++ Jvm.arrayLocs frame_1_arrays args s ++ Jvm.staticLocs frame_1_statics s) 16 128 → Post tb e args s (.returned v) u) :
    ArmFor flags0 classFile x code maxLocals ret World_1 tables_1 room_1 Calls_1 rest_1 Pre_1 Post := by
  intro l hfl _ _ p e ha hc hk s m args below hf hA hF happ hP
  obtain ⟨hcalls, hrest, hpre⟩ := hP
  obtain ⟨-, -, -, hnamed, -, -, -, hat⟩ := (Spec.applies_iff hf).mp happ
  obtain ⟨hg, hn⟩ := and_e (Cond.before_iff.mp (show (Jvm.Cond.and given_1 narrow_1).before args s = true from hpre))
  obtain ⟨hcount, hg0⟩ := and_e hg
  obtain ⟨ha0, hg1⟩ := and_e hg0
  obtain ⟨ha1, hg2⟩ := and_e hg1
  obtain ⟨ha2, hg3⟩ := and_e hg2
  obtain ⟨ha3, hg4⟩ := and_e hg3
  obtain ⟨ha4, hg5⟩ := and_e hg4
  have ha5 := hg5
  obtain ⟨w0, w1, w2, w3, w4, w5, rfl⟩ : ∃ w0 w1 w2 w3 w4 w5 : Value, args = #[w0, w1, w2, w3, w4, w5] := by
    have hs : args.size = 6 := by simpa [Cond.value, given_1] using hcount
    obtain ⟨L⟩ := args
    match L, hs with
    | [w0, w1, w2, w3, w4, w5], _ => exact ⟨w0, w1, w2, w3, w4, w5, rfl⟩
  have hw := fun d (hd : d ∈ tables_1) => atoms_spec (ws := Jvm.Cond.code x code maxLocals ret :: tables_1) hat d (List.mem_cons_of_mem _ hd)
  obtain ⟨i0, ei0⟩ := is_v ha0
  obtain rfl : w0 = (.int i0) := Option.some.inj ei0
  obtain ⟨i1, ei1⟩ := is_v ha1
  obtain rfl : w1 = (.int i1) := Option.some.inj ei1
  obtain ⟨i2, ei2⟩ := is_v ha2
  obtain rfl : w2 = (.int i2) := Option.some.inj ei2
  obtain ⟨i3, ei3⟩ := is_v ha3
  obtain rfl : w3 = (.int i3) := Option.some.inj ei3
  obtain ⟨i4, ei4⟩ := is_v ha4
  obtain rfl : w4 = (.int i4) := Option.some.inj ei4
  obtain ⟨i5, ei5⟩ := is_v ha5
  obtain rfl : w5 = (.int i5) := Option.some.inj ei5
  obtain ⟨n, o, h1, h2, h3, _, L, rfl, ⟨rfl, N⟩, hq⟩ := rm0 l s _ hw tables_1 i0 i1 i2 i3 i4 i5 s.heap s.heap.size (Nat.le_refl _) p e ha hc hk s m _ below hf ((Spec.applies_iff_loose hf).mp happ).1 ⟨rfl, State.Warmed39.refl s, rfl⟩ trivial
  refine ⟨n, _, h1, h2, h3, hpost _ _ _ _ _ _ ⟨Cond.after_iff.mpr rfl, Cond.after_iff.mpr (eq_i res_at (Term.int_eval (1)) rfl), trivial⟩ ⟨hq.1, hq.2.1, (hq.2.2.sift fun y hy => Or.inr (N y hy)).mono (by decide) (by decide)⟩⟩
theorem main_1_1 : Claimed_1_1 := comes_1 fun _ _ _ _ _ _ h hF => ⟨h.1, hF⟩
theorem main_1_2 : Claimed_1_2 := comes_1 fun _ _ _ _ _ _ h hF => ⟨h.2.1, hF⟩
end Jvm.Pilot.@@N@@
namespace Jvm.Pilot.@@N@@
open Jvm Jvm.ClassFile Sem Op Lib Jvm.Free Jvm.Stand Jvm.Pilot.@@N@@.Jvm.D
/-! MADE BY PROGRAM (witnessworld.py) out of the Statement's table words and the real class files: 9 classes; the members and pool entries that the words name. The judged class is class 1, her method 2. -/
namespace start1
open Jvm.ClassFile
def u (s : String) : CpInfo := .utf8 (stringToUtf16 s)
/-- a pool by its gaps: so many unusable entries, then the entry; so many at the end -/
def gap : Nat → List CpInfo → List CpInfo
  | 0, r => r
  | n + 1, r => .unusable :: gap n r
def poolList (es : List (Nat × CpInfo)) (last : Nat) : List CpInfo := es.foldr (fun e r => gap e.1 (e.2 :: r)) (gap last [])
def pool (es : List (Nat × CpInfo)) (last : Nat) : Array CpInfo := ⟨poolList es last⟩
def fileOf (pool : Array CpInfo) (this : Nat) (attrs : Array Attribute := #[]) (ms : Array MethodInfo := #[]) (fl : Nat := 33) (sup : Nat := 0) (ifs : Array Nat := #[]) (fds : Array FieldInfo := #[]) : ClassFile where
  minorVersion := 0
  majorVersion := 65
  constantPool := pool
  accessFlags := fl
  thisClass := this
  superClass := sup
  interfaces := ifs
  fields := fds
  methods := ms
  attributes := attrs
def plain (name : String) (sup : Option ClassId) : Class where
  name := name
  kind := .ordinary
  loader := none
  accessFlags := 33
  super := sup
  interfaces := #[]
  cf := none
  fields := #[]
  methods := #[]
  instanceTypes := #[]
  staticTypes := #[]
  resolved := #[]
  callSites := []
  init := .initialized
  statics := none
  mirror := none

def pool0 : Array CpInfo := pool [(5, u "<init>"), (0, u "()V"), (1, .class_ 10), (1, u "java/lang/Object")] 113

def k0m0 : Method := { name := "<init>", desc := "()V", sig := { parameters := [], returnType := none }, accessFlags := 1, code := none }
/-- java/lang/Object -/
def k0 : Class := { plain "java/lang/Object" none with
  accessFlags := 33
  interfaces := #[]
  cf := some (fileOf pool0 8 #[] #[{ accessFlags := 1, nameIndex := 5, descriptorIndex := 6, attributes := #[] }] 33 0 #[] #[])
  fields := #[]
  methods := #[k0m0]
  instanceTypes := #[]
  staticTypes := #[]
  resolved := Array.replicate 124 none
  statics := none }

def pool1 : Array CpInfo := pool [(2, .class_ 4), (1, u "java/lang/Object"), (0, u "<init>"), (0, u "()V"), (0, .methodref 8 9), (0, .class_ 10), (0, .nameAndType 11 12), (0, u "com/example/hopline/hopline/core/NodeStoreHasLabelPinLaw"), (0, u "make"), (0, u "(IIIII)[I"), (0, .methodref 14 15), (0, .class_ 16), (0, .nameAndType 17 18), (0, u "com/example/hopline/hopline/core/NodeStore"), (0, u "hasLabel"), (0, u "([II)Z"), (3, u "law"), (0, u "(IIIIII)Z")] 4

def k1m0 : Method := { name := "<init>", desc := "()V", sig := { parameters := [], returnType := none }, accessFlags := 2, code := none }
def k1c1 : Code := { maxStack := 4, maxLocals := 5, code := method_2_code, exceptionTable := #[], attributes := #[] }
def k1m1 : Method := { name := "make", desc := "(IIIII)[I", sig := { parameters := [.int, .int, .int, .int, .int], returnType := some (.array .int) }, accessFlags := 10, code := some k1c1 }
def k1c2 : Code := { maxStack := 5, maxLocals := 13, code := code, exceptionTable := #[], attributes := #[] }
def k1m2 : Method := { name := "law", desc := "(IIIIII)Z", sig := { parameters := [.int, .int, .int, .int, .int, .int], returnType := some .boolean }, accessFlags := 9, code := some k1c2 }
/-- com/example/hopline/hopline/core/NodeStoreHasLabelPinLaw -/
def k1 : Class := { plain "com/example/hopline/hopline/core/NodeStoreHasLabelPinLaw" (some 0) with
  accessFlags := 49
  interfaces := #[]
  cf := some (fileOf pool1 8 #[] #[{ accessFlags := 2, nameIndex := 5, descriptorIndex := 6, attributes := #[] }, { accessFlags := 10, nameIndex := 11, descriptorIndex := 12, attributes := #[] }, { accessFlags := 9, nameIndex := 22, descriptorIndex := 23, attributes := #[] }] 49 2 #[] #[])
  fields := #[]
  methods := #[k1m0, k1m1, k1m2]
  instanceTypes := #[]
  staticTypes := #[]
  resolved := Array.replicate 28 none
  statics := none }

def pool2 : Array CpInfo := pool [(4, .class_ 6), (1, u "java/lang/Object"), (13, .class_ 22), (1, u "com/example/hopline/hopline/core/NodeStore"), (0, u "kept"), (0, u "Ljava/lang/ThreadLocal;"), (2, u "file"), (0, u "Lcom/example/hopline/hopline/core/RecordFile;"), (101, .class_ 131), (0, u "com/example/hopline/hopline/core/NodeStore$Kept"), (7, u "I"), (9, u "MAX_LABELS"), (2, u "FIRST_RELATIONSHIP"), (1, u "FIRST_PROPERTY"), (1, u "LABEL_COUNT"), (1, u "LABELS"), (6, u "hasLabel"), (0, u "([II)Z")] 49

def k2c0 : Code := { maxStack := 2, maxLocals := 6, code := prog_35_method_2_code, exceptionTable := #[], attributes := #[] }
def k2m0 : Method := { name := "hasLabel", desc := "([II)Z", sig := { parameters := [(.array .int), .int], returnType := some .boolean }, accessFlags := 8, code := some k2c0 }
/-- com/example/hopline/hopline/core/NodeStore -/
def k2 : Class := { plain "com/example/hopline/hopline/core/NodeStore" (some 0) with
  accessFlags := 48
  interfaces := #[]
  cf := some (fileOf pool2 20 #[.nestMembers #[130]] #[{ accessFlags := 8, nameIndex := 165, descriptorIndex := 166, attributes := #[] }] 48 4 #[] #[{ accessFlags := 24, nameIndex := 149, descriptorIndex := 139, attributes := #[] }, { accessFlags := 26, nameIndex := 152, descriptorIndex := 139, attributes := #[] }, { accessFlags := 26, nameIndex := 154, descriptorIndex := 139, attributes := #[] }, { accessFlags := 26, nameIndex := 156, descriptorIndex := 139, attributes := #[] }, { accessFlags := 26, nameIndex := 158, descriptorIndex := 139, attributes := #[] }, { accessFlags := 18, nameIndex := 27, descriptorIndex := 28, attributes := #[] }, { accessFlags := 18, nameIndex := 23, descriptorIndex := 24, attributes := #[] }])
  fields := #[{ name := "MAX_LABELS", type := .int, accessFlags := 24, slot := 0, constantValue := 0 }, { name := "FIRST_RELATIONSHIP", type := .int, accessFlags := 26, slot := 1, constantValue := 0 }, { name := "FIRST_PROPERTY", type := .int, accessFlags := 26, slot := 2, constantValue := 0 }, { name := "LABEL_COUNT", type := .int, accessFlags := 26, slot := 3, constantValue := 0 }, { name := "LABELS", type := .int, accessFlags := 26, slot := 4, constantValue := 0 }, { name := "file", type := (.object "com/example/hopline/hopline/core/RecordFile"), accessFlags := 18, slot := 0, constantValue := 0 }, { name := "kept", type := (.object "java/lang/ThreadLocal"), accessFlags := 18, slot := 1, constantValue := 0 }]
  methods := #[k2m0]
  instanceTypes := #[(.object "com/example/hopline/hopline/core/RecordFile"), (.object "java/lang/ThreadLocal")]
  staticTypes := #[.int, .int, .int, .int, .int]
  resolved := Array.replicate 216 none
  statics := none }

def pool3 : Array CpInfo := pool [(1, u "java/lang/Cloneable"), (0, .class_ 1), (0, u "java/lang/Object"), (0, .class_ 3)] 3

/-- java/lang/Cloneable -/
def k3 : Class := { plain "java/lang/Cloneable" (some 0) with
  accessFlags := 1537
  interfaces := #[]
  cf := some (fileOf pool3 2 #[] #[] 1537 4 #[] #[])
  fields := #[]
  methods := #[]
  instanceTypes := #[]
  staticTypes := #[]
  resolved := Array.replicate 8 none
  statics := none }

def pool4 : Array CpInfo := pool [(1, u "java/io/Serializable"), (0, .class_ 1), (0, u "java/lang/Object"), (0, .class_ 3)] 3

/-- java/io/Serializable -/
def k4 : Class := { plain "java/io/Serializable" (some 0) with
  accessFlags := 1537
  interfaces := #[]
  cf := some (fileOf pool4 2 #[] #[] 1537 4 #[] #[])
  fields := #[]
  methods := #[]
  instanceTypes := #[]
  staticTypes := #[]
  resolved := Array.replicate 8 none
  statics := none }

/-- the primitive byte -/
def k5 : Class := { plain "byte" none with kind := .primitive 'B', accessFlags := 0x411 }
/-- [B -/
def k6 : Class := { plain "[B" (some 0) with kind := .array 5 .byte, interfaces := #[3, 4], accessFlags := 1041 }

/-- the primitive int -/
def k7 : Class := { plain "int" none with kind := .primitive 'I', accessFlags := 0x411 }
/-- [I -/
def k8 : Class := { plain "[I" (some 0) with kind := .array 7 .int, interfaces := #[3, 4], accessFlags := 1041 }

def heap : Heap := #[]
def classes : Array Class := #[k0, k1, k2, k3, k4, k5, k6, k7, k8]
def interned : List (Array UInt16 × Addr) := []
def slotsUsed : Nat := 0
def theMethod : MethodId := ⟨1, 2⟩
def args0 : Array Value := #[.int 5, .int 6, .int 7, .int 8, .int 9, .int 10]
def aboutOver (below : List Frame) : State where
  vm := { classes := classes, interned := interned.toArray }
  heap := heap
  slotsUsed := slotsUsed
  threads := #[{ frames := .invoking theMethod args0 :: below }]
def below0 : List Frame := [.native { method := ⟨0, 0⟩, args := #[] }]
def about1 : State := aboutOver below0
def p0 : Program := .bare "" "" ""
def e0 : Env := launch0.env 0 0 0
theorem w_frames : about1.frames = Frame.invoking theMethod args0 :: below0 := rfl
set_option maxRecDepth 65536 in
theorem w_args : argsFit about1.vm theMethod args0 = true := by decide +kernel
set_option maxRecDepth 65536 in
theorem w_heap : heapFits about1 = true := by decide +kernel
set_option maxRecDepth 65536 in
theorem w_runnable : about1.curStatus? = some .runnable := by decide +kernel
set_option maxRecDepth 65536 in
theorem w_alone : about1.alone = true := by decide +kernel
set_option maxRecDepth 65536 in
theorem w_named : about1.methodNamed? x = some theMethod := by decide +kernel
set_option maxRecDepth 65536 in
theorem w_hears : about1.hears theMethod below0 = true := by decide +kernel
set_option maxRecDepth 65536 in
theorem w_ripe : about1.ripe theMethod args0 below0 = true := by decide +kernel
theorem w_running : about1.status = .running := rfl
set_option maxRecDepth 65536 in
theorem w_room : about1.hasRoom e0.platform room_1 = true :=
  launch0.hasRoom_least _ room_1 (by decide +kernel) (by decide +kernel) (by decide +kernel) (by decide +kernel) (by decide +kernel) (by decide +kernel)
theorem allAtoms_all (ts : List Jvm.Cond) (a : Array Jvm.Value) (st : Jvm.State) : (allAtoms ts).before a st = ts.all (fun c => c.before a st) := by
  induction ts with
  | nil => rfl
  | cons c t ih =>
    show (Jvm.Cond.and c (allAtoms t)).before a st = _
    rw [Jvm.Cond.before_and, ih, List.all_cons]
def words1 : List Jvm.Cond := Jvm.Cond.code x code maxLocals ret :: tables_1
/-- a 'code' word, met by the world's own term for the bytes: nothing is compared byte by byte -/
theorem code_word {y : MethodName} {bytes : ByteArray} {mx : Nat} {rt : Option FieldType} {a : Array Value} {s : State} {m : MethodId} {meth : Method} {c : Code} (h1 : s.methodNamed? y = some m) (h2 : s.vm.method? m = some meth) (h3 : meth.code = some c) (h4 : c.code = bytes)
    (h5 : (c.maxLocals == mx && c.exceptionTable.isEmpty && decide (c.maxStack ≤ mostOperands) && decide (meth.sig.returnType = rt) && !meth.locks && decide (parseMethodDescriptor y.desc = some meth.sig)) = true) : (Jvm.Cond.code y bytes mx rt).before a s = true := by
  simp only [Bool.and_eq_true, beq_iff_eq, Bool.not_eq_true', decide_eq_true_eq] at h5
  obtain ⟨⟨⟨⟨⟨g1, g2⟩, g3⟩, g4⟩, g5⟩, g6⟩ := h5
  simp [Cond.before, Cond.holds, Cond.value, h1, h2, h3, h4, g1, g2, g3, g4, g5, g6]
def isCode : Jvm.Cond → Bool
  | .code _ _ _ _ => true
  | _ => false
theorem all_split {L : List Jvm.Cond} {P : Jvm.Cond → Bool} (h1 : L.all (fun c => isCode c || P c) = true) (h2 : ∀ c ∈ L.filter isCode, P c = true) : L.all P = true := by
  refine List.all_eq_true.mpr fun c hc => ?_
  have h := List.all_eq_true.mp h1 c hc
  rcases Bool.eq_false_or_eq_true (isCode c) with hi | hi
  · exact h2 c (List.mem_filter.mpr ⟨hc, hi⟩)
  · simpa [hi] using h
set_option maxRecDepth 65536 in
theorem w_c0 : (Jvm.Cond.code x code maxLocals ret).before args0 about1 = true := code_word (m := ⟨1, 2⟩) (meth := k1m2) (c := k1c2) (by decide +kernel) rfl rfl rfl (by decide +kernel)
set_option maxRecDepth 65536 in
theorem w_c1 : (Jvm.Cond.code ({ cls := "com/example/hopline/hopline/core/NodeStoreHasLabelPinLaw", name := "make", desc := "(IIIII)[I" } : Jvm.MethodName) method_2_code (5 : Nat) (Option.some (Jvm.ClassFile.FieldType.array Jvm.ClassFile.FieldType.int))).before args0 about1 = true := code_word (m := ⟨1, 1⟩) (meth := k1m1) (c := k1c1) (by decide +kernel) rfl rfl rfl (by decide +kernel)
set_option maxRecDepth 65536 in
theorem w_c2 : (Jvm.Cond.code ({ cls := "com/example/hopline/hopline/core/NodeStore", name := "hasLabel", desc := "([II)Z" } : Jvm.MethodName) prog_35_method_2_code (6 : Nat) (Option.some Jvm.ClassFile.FieldType.boolean)).before args0 about1 = true := code_word (m := ⟨2, 0⟩) (meth := k2m0) (c := k2c0) (by decide +kernel) rfl rfl rfl (by decide +kernel)
def codes1 : List Jvm.Cond := [Jvm.Cond.code x code maxLocals ret, Jvm.Cond.code ({ cls := "com/example/hopline/hopline/core/NodeStoreHasLabelPinLaw", name := "make", desc := "(IIIII)[I" } : Jvm.MethodName) method_2_code (5 : Nat) (Option.some (Jvm.ClassFile.FieldType.array Jvm.ClassFile.FieldType.int)), Jvm.Cond.code ({ cls := "com/example/hopline/hopline/core/NodeStore", name := "hasLabel", desc := "([II)Z" } : Jvm.MethodName) prog_35_method_2_code (6 : Nat) (Option.some Jvm.ClassFile.FieldType.boolean)]
set_option maxRecDepth 65536 in
theorem codes_eq : words1.filter isCode = codes1 := rfl
theorem w_codes : ∀ c ∈ words1.filter isCode, c.before args0 about1 = true := by
  rw [codes_eq]
  intro c hc
  simp only [codes1, List.mem_cons, List.not_mem_nil, or_false] at hc
  rcases hc with rfl | rfl | rfl
  · exact w_c0
  · exact w_c1
  · exact w_c2
set_option maxRecDepth 65536 in
theorem w_t1 : words1.all (fun c => isCode c || c.before args0 about1) = true := by decide +kernel
theorem w_tables : (allAtoms (Jvm.Cond.code x code maxLocals ret :: tables_1)).before args0 about1 = true := by
  rw [allAtoms_all]
  show words1.all (fun c => c.before args0 about1) = true
  refine all_split ?_ w_codes
  rw [w_t1]
set_option maxRecDepth 65536 in
theorem w_case : (Jvm.Cond.and given_1 narrow_1).before args0 about1 = true := by decide +kernel
theorem w_applies : (headSpec (Jvm.Cond.code x code maxLocals ret :: tables_1) room_1).applies x e0.platform about1 = true :=
  (Spec.applies_iff w_frames).mpr ⟨w_running, w_runnable, w_alone, w_named, w_hears, w_ripe, w_room, w_tables⟩
theorem atStart : AtStart classFile x code maxLocals ret World_1 tables_1 room_1 Calls_1 rest_1 Pre_1 launch0 p0 e0 about1 theMethod args0 below0 :=
  ⟨lists_1, trivial, launch0.admits_env _ _ _, launch0.least_env, fairChoices_fair.cas, fairChoices_fair.clock, w_frames, w_args, w_heap, w_applies, trivial, trivial, w_case⟩
end start1
theorem witness_1 : WitnessClaimed_1 := ⟨start1.p0, start1.e0, start1.about1, start1.theMethod, start1.args0, start1.below0, start1.atStart⟩
end Jvm.Pilot.@@N@@

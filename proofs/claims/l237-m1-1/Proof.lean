import JvmDerived
import JvmDerived.Pilot.@@N@@Statement
import JvmDerived.Pilot.@@N@@Code
set_option linter.unusedVariables false
set_option linter.unusedSimpArgs false
namespace Jvm.RoadKit
open Sem ClassFile Op Lib Jvm.Stand Jvm.Free Jvm.LawKit
section New
variable {p : Program} {l : Launch} {e : Env} {R : Room} {s : State} {m : MethodId} {args : Array Value} {below : List Frame} {meth : Method} {c : Code} {T : State} {locs : List Loc} {cells slots : Nat}
theorem retI (X : Stand p l e R s m args below meth c T locs cells slots) (hx : p.tables.exec = Jvm.exec) {pc : Nat} {Ls : Array Slot} {z : Int32} {rest : List Value} (hret : meth.sig.returnType = some .int) (hd : decode c.code pc = .ok (.ireturn, 1)) {fs : List Frame}
    (hl : ∀ (f : JFrame) (acts : List Action), f.method = m → f.locked = none → f.entered = [] → (doReturn e (T.setTop f) acts (some (.int z))).1 = T.setFrames fs) : Steps p.tables e below (T.setTop (mkF m pc Ls (.int z :: rest))) (T.setFrames fs) := by
  have hm' : T.vm.method? m = some meth := X.method'
  have hn : narrow .int (.int z) = .int z := rfl
  show Steps p.tables e below (T.setTop { method := m, pc := pc, locals := Ls, stack := _ :: rest, locked := none }) _
  jvm_step X.here [X.here.top, hx, hd, hm', hret, hn]
  first | (intro acts; rw [hl _ acts rfl rfl rfl]) | rw [hl _ _ rfl rfl rfl]
  exact Steps.refl _
theorem own_retJ (X : Stand p l e R s m args below meth c T locs cells slots) (hx : p.tables.exec = Jvm.exec) {pc : Nat} {Ls : Array Slot} {z : Int64} {rest : List Value} (hret : meth.sig.returnType = some .long) (hd : decode c.code pc = .ok (.lreturn, 1)) {fs : List Frame}
    (hl : ∀ (f : JFrame) (acts : List Action), f.method = m → f.locked = none → f.entered = [] → (doReturn e (T.setTop f) acts (some (.long z))).1 = T.setFrames fs) : Steps p.tables e below (T.setTop (mkF m pc Ls (.long z :: rest))) (T.setFrames fs) :=
  retOut X hx (t := .long) (i := .lreturn) hret rfl (Or.inr (Or.inl ⟨rfl, rfl, z, rfl⟩)) hd hl
theorem own_retR (X : Stand p l e R s m args below meth c T locs cells slots) (hx : p.tables.exec = Jvm.exec) {pc : Nat} {Ls : Array Slot} {w : Value} {t : FieldType} {rest : List Value} (hret : meth.sig.returnType = some t) (ht : t.isReference = true) (hw : w.isRef = true) (hd : decode c.code pc = .ok (.areturn, 1)) {fs : List Frame}
    (hl : ∀ (f : JFrame) (acts : List Action), f.method = m → f.locked = none → f.entered = [] → (doReturn e (T.setTop f) acts (some w)).1 = T.setFrames fs) : Steps p.tables e below (T.setTop (mkF m pc Ls (w :: rest))) (T.setFrames fs) :=
  retOut X hx (i := .areturn) hret (by cases t <;> simp_all [FieldType.isReference, narrow]) (Or.inr (Or.inr (Or.inr (Or.inr ⟨rfl, ht, hw⟩)))) hd hl
theorem own_narZ (x : Int32) : nar .boolean x = x &&& 1 := rfl
theorem own_narC (x : Int32) : nar .char x = x.toUInt32.toUInt16.toUInt32.toInt32 := rfl
theorem own_narB (x : Int32) : nar .byte x = x.toInt8.toInt32 := rfl
/-- where the run stands, and how it ends -/
abbrev own_Go (tb : Tables) (e : Env) (below : List Frame) (P : State → Outcome → Prop) (T : State) (g : JFrame) : Prop := ∃ s₂ o, Steps tb e below (T.setTop g) s₂ ∧ s₂.status = .running ∧ Ended s₂ below o ∧ P s₂ o
theorem own_go {tb : Tables} {P : State → Outcome → Prop} {T' : State} {g g' : JFrame} (st : ∀ t, Steps tb e below (T'.setTop g') t → Steps tb e below (T.setTop g) t) (k : own_Go tb e below P T' g') : own_Go tb e below P T g := by
  obtain ⟨s₂, o, h1, h2⟩ := k
  exact ⟨s₂, o, st _ h1, h2⟩
theorem own_start {tb : Tables} {P : State → Outcome → Prop} {g g' : JFrame} (q : g = g') (k : own_Go tb e below P T g') : own_Go tb e below P T g := q ▸ k
theorem own_selPriv {z y : MethodName} (hz : z.cls = y.cls) (hs : (Cond.selects y.cls z z).before args s = true) (hp : s.PrivateAt y) (hi : (Cond.instanceMethod y).before args s = true) (hy : y.cls ≠ "java/lang/invoke/MethodHandle" ∧ y.cls ≠ "java/lang/invoke/VarHandle") : (Cond.selects y.cls y y).before args s = true := by
  obtain ⟨c, r, m, h1, -, h3, -, k, h5, h6⟩ := Cond.selects_spec hs
  exact selects_self_of_private (hz ▸ findClass_of_methodNamed h3) h5 h6 hp hi hy
end New
end Jvm.RoadKit
namespace Jvm.Pilot.@@N@@
open Jvm Jvm.ClassFile Sem Op Lib Jvm.Free Jvm.Stand Jvm.LawKit Jvm.RoadKit Bundle Jvm.Pilot.@@N@@.Jvm.D
theorem d1_0 : decode jdk_29_method_65_code 0 = .ok (.iload_n 0, 1) := by decide +kernel
theorem d1_1 : decode jdk_29_method_65_code 1 = .ok (.iload_n 1, 1) := by decide +kernel
theorem d1_2 : decode jdk_29_method_65_code 2 = .ok (.if_icmp .lt 7, 3) := by decide +kernel
theorem d1_5 : decode jdk_29_method_65_code 5 = .ok (.iload_n 0, 1) := by decide +kernel
theorem d1_6 : decode jdk_29_method_65_code 6 = .ok (.goto 4, 3) := by decide +kernel
theorem d1_9 : decode jdk_29_method_65_code 9 = .ok (.iload_n 1, 1) := by decide +kernel
theorem d1_10 : decode jdk_29_method_65_code 10 = .ok (.ireturn, 1) := by decide +kernel
theorem ef_1 (m : MethodId) (p1 : Int32) (p2 : Int32) : entryFrame m #[(.int p1), (.int p2)] 2 = mkF m 0 #[.val (.int p1), .val (.int p2)] [] := by first | (simp [entryFrame, mkF, argsToLocals, Value.category]; done) | rfl
def r_1 (p1 : Int32) (p2 : Int32) : Int32 := ((if p1 < p2 then p2 else p1))
def Q1 (Z : State) (p1 : Int32) (p2 : Int32) (h0 : Heap) (n0 : Nat) (v : Option Value) (h : Heap) (L : List Loc) : Prop := v = some (.int (r_1 p1 p2)) ∧ Fr n0 L ∧ h = h0
set_option maxRecDepth 65536 in
set_option maxHeartbeats 40000000 in
theorem rm1 (l : Launch) (Z : State) (a0 : Array Value) (hw : ∀ d ∈ tables_1, d.before a0 Z = true) (ws : List Jvm.Cond) (p1 : Int32) (p2 : Int32) (h0 : Heap) (n0 : Nat) (Z0 : n0 ≤ h0.size) :
    MetFree l (⟨"java/lang/Math", "max", "(II)I"⟩ : MethodName) (head1 (Jvm.Cond.code (⟨"java/lang/Math", "max", "(II)I"⟩ : MethodName) jdk_29_method_65_code 2 (some .int) :: ws) ({ frames := 0, cells := 0, slots := 0, locals := 0 } : Room)) (fun a U => a = #[(.int p1), (.int p2)] ∧ Z.Warmed39 U.vm ∧ U.heap = h0) (fun _ _ _ _ _ => True) (fun _ U o U' => ∃ v L, o = .returned v ∧ Q1 Z p1 p2 h0 n0 v U'.heap L ∧ FrameEnd U o U' L ({ frames := 0, cells := 0, slots := 0, locals := 0 } : Room).cells ({ frames := 0, cells := 0, slots := 0, locals := 0 } : Room).slots) := by
  refine MetFree.of_bodySF (Jvm.Free.JP.mathPlain rfl (by decide +kernel)) hisR ?_
  intro p e s m args below meth c s₁ Bd hml0 hP hK
  obtain ⟨rfl, hZ, hh⟩ := hP
  have hx := Bd.exec
  have hby := Bd.bytes
  have hml : c.maxLocals = 2 := hml0
  have hown : s.vm.findClass "java/lang/Math" = some m.cls := findClass_of_methodNamed Bd.named
  have hnm := (name_of_methodNamed Bd.named Bd.method).1
  have X0 : Stand p l e ({ frames := 0, cells := 0, slots := 0, locals := 0 } : Room) s m #[(.int p1), (.int p2)] below meth c s₁ [] 0 0 := Stand.of_body Bd
  have e0 : s₁.heap = h0 := by rw [← hh, Bd.state]; rfl
  have NN := Fr.nil n0
  have KK : Keep h0 h0 [] := Keep.refl h0 []
  refine own_start (ef_1 m p1 p2) ?_
  refine own_go (T' := s₁) (g' := (mkF m 2 #[.val (.int p1), .val (.int p2)] [(.int p2), (.int p1)])) (fun t k => ?_) ?_
  · show Steps p.tables e below (s₁.setTop (mkF m 0 #[.val (.int p1), .val (.int p2)] [])) _
    refine XS.iloadN X0.here hx rfl (hb hby d1_0) rfl ?_
    show Steps p.tables e below (s₁.setTop (mkF m 1 #[.val (.int p1), .val (.int p2)] [(.int p1)])) _
    refine XS.iloadN X0.here hx rfl (hb hby d1_1) rfl ?_
    exact k
  obtain ⟨j1, hj1, st2⟩ : ∃ (j1 : Int32), j1 = (if p1 < p2 then p2 else p1) ∧ ∀ t, Steps p.tables e below (s₁.setTop (mkF m 10 #[.val (.int p1), .val (.int p2)] [(.int j1)])) t → Steps p.tables e below (s₁.setTop (mkF m 2 #[.val (.int p1), .val (.int p2)] [(.int p2), (.int p1)])) t := by
    by_cases hc2_1 : p1 < p2
    · skip
      refine ⟨p2, (by simp only [if_pos hc2_1]), fun t k => ?_⟩
      show Steps p.tables e below (s₁.setTop (mkF m 2 #[.val (.int p1), .val (.int p2)] [(.int p2), (.int p1)])) _
      refine XS.icmpYes X0.here hx rfl (pc0 := 2) (pc' := 9) rfl (hb hby d1_2) rfl (tlt hc2_1).1 (by decide) (by decide) ?_
      show Steps p.tables e below (s₁.setTop (mkF m 9 #[.val (.int p1), .val (.int p2)] [])) _
      refine XS.iloadN X0.here hx rfl (hb hby d1_9) rfl ?_
      exact k
    · skip
      refine ⟨p1, (by simp only [if_neg hc2_1]), fun t k => ?_⟩
      show Steps p.tables e below (s₁.setTop (mkF m 2 #[.val (.int p1), .val (.int p2)] [(.int p2), (.int p1)])) _
      refine XS.icmpNo X0.here hx rfl (hb hby d1_2) rfl (flt hc2_1).1 ?_
      show Steps p.tables e below (s₁.setTop (mkF m 5 #[.val (.int p1), .val (.int p2)] [])) _
      refine XS.iloadN X0.here hx rfl (hb hby d1_5) rfl ?_
      show Steps p.tables e below (s₁.setTop (mkF m 6 #[.val (.int p1), .val (.int p2)] [(.int p1)])) _
      refine XS.goto X0.here hx rfl (pc0 := 6) (pc' := 10) rfl (hb hby d1_6) (by decide) (by decide) ?_
      exact k
  refine own_go st2 ?_
  show own_Go p.tables e below _ s₁ (mkF m 10 #[.val (.int p1), .val (.int p2)] [(.int j1)])
  obtain ⟨fs, hr, hrun, hended, hW, hsame⟩ := X0.leave (v := some (.int j1)) (fun h => by rw [Bd.returns] at h; cases h)
  refine ⟨_, _, ?_, hrun, hended, _, _, rfl, ?_, ⟨_, rfl⟩, hW, hsame.mono (by decide) (by decide)⟩
  · exact retI X0 hx Bd.returns (hb hby d1_10) hr
  · show Q1 Z p1 p2 h0 n0 _ s₁.heap _
    rw [e0]
    exact ⟨(by first | (simp only [hj1, r_1]; done) | (subst hj1; first | (simp only [r_1]; done) | rfl)), NN, rfl⟩
theorem d2_0 : decode prog_7_method_1_code 0 = .ok (.aload_n 0, 1) := by decide +kernel
theorem d2_1 : decode prog_7_method_1_code 1 = .ok (.invokespecial 1, 3) := by decide +kernel
theorem d2_4 : decode prog_7_method_1_code 4 = .ok (.iload_n 1, 1) := by decide +kernel
theorem d2_5 : decode prog_7_method_1_code 5 = .ok (.iconst 1, 1) := by decide +kernel
theorem d2_6 : decode prog_7_method_1_code 6 = .ok (.if_icmp .ge 17, 3) := by decide +kernel
theorem d2_23 : decode prog_7_method_1_code 23 = .ok (.aload_n 0, 1) := by decide +kernel
theorem d2_24 : decode prog_7_method_1_code 24 = .ok (.iload_n 1, 1) := by decide +kernel
theorem d2_25 : decode prog_7_method_1_code 25 = .ok (.putfield 16, 3) := by decide +kernel
theorem d2_28 : decode prog_7_method_1_code 28 = .ok (.return_, 1) := by decide +kernel
theorem pn_0 : plainName "com/example/firecrest/firecrest/network/Complete" = true := by first | (simp [plainName, overriddenIn]; done) | decide +kernel
theorem ef_2 (m : MethodId) (a1 : Addr) (p2 : Int32) : entryFrame m #[(.ref a1), (.int p2)] 2 = mkF m 0 #[.val (.ref a1), .val (.int p2)] [] := by first | (simp [entryFrame, mkF, argsToLocals, Value.category]; done) | rfl
def Q2 (Z : State) (a1 : Addr) (p2 : Int32) (u_size_a1 : Value) (h0 : Heap) (n0 : Nat) (v : Option Value) (h : Heap) (L : List Loc) : Prop := v = none ∧ Fr n0 L ∧ Keep h0 h [a1] ∧ Exa Z h a1 "com/example/firecrest/firecrest/network/Complete" ∧ Fld Z h a1 "com/example/firecrest/firecrest/network/Complete" "size" "I" (.int p2)
set_option maxRecDepth 65536 in
set_option maxHeartbeats 40000000 in
theorem rm2 (l : Launch) (Z : State) (a0 : Array Value) (hw : ∀ d ∈ tables_1, d.before a0 Z = true) (ws : List Jvm.Cond) (a1 : Addr) (p2 : Int32) (u_size_a1 : Value) (h0 : Heap) (n0 : Nat) (Z0 : n0 ≤ h0.size) (hc6 : ¬ (p2 < (1 : Int32))) (E_a1 : Exa Z h0 a1 "com/example/firecrest/firecrest/network/Complete") (F_a1_size : Fld Z h0 a1 "com/example/firecrest/firecrest/network/Complete" "size" "I" u_size_a1) (g_a1 : n0 ≤ a1) :
    MetFree l (⟨"com/example/firecrest/firecrest/network/Complete", "<init>", "(I)V"⟩ : MethodName) (head1 (Jvm.Cond.code (⟨"com/example/firecrest/firecrest/network/Complete", "<init>", "(I)V"⟩ : MethodName) prog_7_method_1_code 2 none :: ws) ({ frames := 1, cells := 0, slots := 0, locals := 12 } : Room)) (fun a U => a = #[(.ref a1), (.int p2)] ∧ Z.Warmed39 U.vm ∧ U.heap = h0) (fun _ _ _ _ _ => True) (fun _ U o U' => ∃ v L, o = .returned v ∧ Q2 Z a1 p2 u_size_a1 h0 n0 v U'.heap L ∧ FrameEnd U o U' L ({ frames := 1, cells := 0, slots := 0, locals := 12 } : Room).cells ({ frames := 1, cells := 0, slots := 0, locals := 12 } : Room).slots) := by
  refine MetFree.of_bodySF (plainFor_of_name pn_0) hisR ?_
  intro p e s m args below meth c s₁ Bd hml0 hP hK
  obtain ⟨rfl, hZ, hh⟩ := hP
  have hx := Bd.exec
  have hby := Bd.bytes
  have hml : c.maxLocals = 2 := hml0
  have hown : s.vm.findClass "com/example/firecrest/firecrest/network/Complete" = some m.cls := findClass_of_methodNamed Bd.named
  have hnm := (name_of_methodNamed Bd.named Bd.method).1
  have X0 : Stand p l e ({ frames := 1, cells := 0, slots := 0, locals := 12 } : Room) s m #[(.ref a1), (.int p2)] below meth c s₁ [] 0 0 := Stand.of_body Bd
  have e0 : s₁.heap = h0 := by rw [← hh, Bd.state]; rfl
  have NN := Fr.nil n0
  have KK : Keep h0 h0 [a1] := Keep.refl h0 [a1]
  refine own_start (ef_2 m a1 p2) ?_
  refine own_go (T' := s₁) (g' := (mkF m 1 #[.val (.ref a1), .val (.int p2)] [(.ref a1)])) (fun t k => ?_) ?_
  · show Steps p.tables e below (s₁.setTop (mkF m 0 #[.val (.ref a1), .val (.int p2)] [])) _
    refine XS.aloadN X0.here hx rfl (hb hby d2_0) rfl rfl ?_
    exact k
  obtain ⟨T1, X1, e1, st1⟩ := initO X0 hx hZ hown (hw _ (List.mem_of_getElem? (i := 11) rfl)) (hw _ (List.mem_of_getElem? (i := 12) rfl)) (hw _ (List.mem_of_getElem? (i := 13) rfl)) e0 (g := (mkF m 1 #[.val (.ref a1), .val (.int p2)] [(.ref a1)])) rfl (by rw [hml]; rfl) rfl (hb hby d2_1) (by decide) (W := 0) (by show 2 * 0 + _ ≤ _; exact Nat.le_of_eq rfl) (by decide)
  refine own_go st1 ?_
  show own_Go p.tables e below _ T1 (mkF m 4 #[.val (.ref a1), .val (.int p2)] [])
  refine own_go (T' := T1) (g' := (mkF m 6 #[.val (.ref a1), .val (.int p2)] [(.int (1 : Int32)), (.int p2)])) (fun t k => ?_) ?_
  · show Steps p.tables e below (T1.setTop (mkF m 4 #[.val (.ref a1), .val (.int p2)] [])) _
    refine XS.iloadN X1.here hx rfl (hb hby d2_4) rfl ?_
    show Steps p.tables e below (T1.setTop (mkF m 5 #[.val (.ref a1), .val (.int p2)] [(.int p2)])) _
    refine XS.iconst X1.here hx rfl (hb hby d2_5) ?_
    exact k
  refine own_go (T' := T1) (g' := (mkF m 25 #[.val (.ref a1), .val (.int p2)] [(.int p2), (.ref a1)])) (fun t k => ?_) ?_
  · show Steps p.tables e below (T1.setTop (mkF m 6 #[.val (.ref a1), .val (.int p2)] [(.int (1 : Int32)), (.int p2)])) _
    refine XS.icmpYes X1.here hx rfl (pc0 := 6) (pc' := 23) rfl (hb hby d2_6) rfl (flt hc6).2.1 (by decide) (by decide) ?_
    show Steps p.tables e below (T1.setTop (mkF m 23 #[.val (.ref a1), .val (.int p2)] [])) _
    refine XS.aloadN X1.here hx rfl (hb hby d2_23) rfl rfl ?_
    show Steps p.tables e below (T1.setTop (mkF m 24 #[.val (.ref a1), .val (.int p2)] [(.ref a1)])) _
    refine XS.iloadN X1.here hx rfl (hb hby d2_24) rfl ?_
    exact k
  obtain ⟨T2, h2, X2, e2, W2, st2⟩ := putF X1 hx hZ hown (host := "") (Or.inl (hw _ (List.mem_of_getElem? (i := 14) rfl))) Via.refl e1 F_a1_size E_a1 (Or.inr ⟨(hw _ (List.mem_of_getElem? (i := 15) rfl)), rfl, hnm⟩) (hw _ (List.mem_of_getElem? (i := 6) rfl)) (ty := .int) (by decide) rfl rfl (g := (mkF m 25 #[.val (.ref a1), .val (.int p2)] [(.int p2), (.ref a1)])) rfl rfl (hb hby d2_25)
  refine own_go st2 ?_
  have E_a1 := E_a1.wr W2
  have F_a1_size := F_a1_size.same W2
  have Z0 := Nat.le_trans Z0 (Keep.of_wr W2).1
  have KK := KK.wr W2 (Or.inl (List.mem_of_getElem? (i := 0) rfl))
  have NN := Fr.snoc X2 NN g_a1
  show own_Go p.tables e below _ T2 (mkF m 28 #[.val (.ref a1), .val (.int p2)] [])
  obtain ⟨fs, hr, hrun, hended, hW, hsame⟩ := X2.leave (v := none) (fun _ => rfl)
  refine ⟨_, _, ?_, hrun, hended, _, _, rfl, ?_, ⟨_, rfl⟩, hW, hsame.mono (by decide) (by decide)⟩
  · exact X2.returnOut hx Bd.returns (hb hby d2_28) hr
  · show Q2 Z a1 p2 u_size_a1 h0 n0 _ T2.heap _
    rw [e2]
    exact ⟨rfl, NN, KK, E_a1, F_a1_size⟩
theorem d8_0 : decode jdk_41_method_11_code 0 = .ok (.iload_n 0, 1) := by decide +kernel
theorem d8_1 : decode jdk_41_method_11_code 1 = .ok (.ifCond .lt 8, 3) := by decide +kernel
theorem d8_4 : decode jdk_41_method_11_code 4 = .ok (.iload_n 0, 1) := by decide +kernel
theorem d8_5 : decode jdk_41_method_11_code 5 = .ok (.iload_n 1, 1) := by decide +kernel
theorem d8_6 : decode jdk_41_method_11_code 6 = .ok (.if_icmp .lt 10, 3) := by decide +kernel
theorem d8_16 : decode jdk_41_method_11_code 16 = .ok (.iload_n 0, 1) := by decide +kernel
theorem d8_17 : decode jdk_41_method_11_code 17 = .ok (.ireturn, 1) := by decide +kernel
theorem pn_1 : plainName "jdk/internal/util/Preconditions" = true := by first | (simp [plainName, overriddenIn]; done) | decide +kernel
theorem ef_8 (m : MethodId) (p1 : Int32) (p2 : Int32) : entryFrame m #[(.int p1), (.int p2), .null] 3 = mkF m 0 #[.val (.int p1), .val (.int p2), .val .null] [] := by first | (simp [entryFrame, mkF, argsToLocals, Value.category]; done) | rfl
def r_8 (p1 : Int32) (p2 : Int32) : Int32 := p1
def Q8 (Z : State) (p1 : Int32) (p2 : Int32) (h0 : Heap) (n0 : Nat) (v : Option Value) (h : Heap) (L : List Loc) : Prop := v = some (.int (r_8 p1 p2)) ∧ Fr n0 L ∧ h = h0
set_option maxRecDepth 65536 in
set_option maxHeartbeats 40000000 in
theorem rm8 (l : Launch) (Z : State) (a0 : Array Value) (hw : ∀ d ∈ tables_1, d.before a0 Z = true) (ws : List Jvm.Cond) (p1 : Int32) (p2 : Int32) (h0 : Heap) (n0 : Nat) (Z0 : n0 ≤ h0.size) (hc1 : ¬ (p1 < (0 : Int32))) (hc6 : p1 < p2) :
    MetFree l (⟨"jdk/internal/util/Preconditions", "checkIndex", "(IILjava/util/function/BiFunction;)I"⟩ : MethodName) (head1 (Jvm.Cond.code (⟨"jdk/internal/util/Preconditions", "checkIndex", "(IILjava/util/function/BiFunction;)I"⟩ : MethodName) jdk_41_method_11_code 3 (some .int) :: ws) ({ frames := 0, cells := 0, slots := 0, locals := 0 } : Room)) (fun a U => a = #[(.int p1), (.int p2), .null] ∧ Z.Warmed39 U.vm ∧ U.heap = h0) (fun _ _ _ _ _ => True) (fun _ U o U' => ∃ v L, o = .returned v ∧ Q8 Z p1 p2 h0 n0 v U'.heap L ∧ FrameEnd U o U' L ({ frames := 0, cells := 0, slots := 0, locals := 0 } : Room).cells ({ frames := 0, cells := 0, slots := 0, locals := 0 } : Room).slots) := by
  refine MetFree.of_bodySF (plainFor_of_name pn_1) hisR ?_
  intro p e s m args below meth c s₁ Bd hml0 hP hK
  obtain ⟨rfl, hZ, hh⟩ := hP
  have hx := Bd.exec
  have hby := Bd.bytes
  have hml : c.maxLocals = 3 := hml0
  have hown : s.vm.findClass "jdk/internal/util/Preconditions" = some m.cls := findClass_of_methodNamed Bd.named
  have hnm := (name_of_methodNamed Bd.named Bd.method).1
  have X0 : Stand p l e ({ frames := 0, cells := 0, slots := 0, locals := 0 } : Room) s m #[(.int p1), (.int p2), .null] below meth c s₁ [] 0 0 := Stand.of_body Bd
  have e0 : s₁.heap = h0 := by rw [← hh, Bd.state]; rfl
  have NN := Fr.nil n0
  have KK : Keep h0 h0 [] := Keep.refl h0 []
  refine own_start (ef_8 m p1 p2) ?_
  refine own_go (T' := s₁) (g' := (mkF m 1 #[.val (.int p1), .val (.int p2), .val .null] [(.int p1)])) (fun t k => ?_) ?_
  · show Steps p.tables e below (s₁.setTop (mkF m 0 #[.val (.int p1), .val (.int p2), .val .null] [])) _
    refine XS.iloadN X0.here hx rfl (hb hby d8_0) rfl ?_
    exact k
  refine own_go (T' := s₁) (g' := (mkF m 6 #[.val (.int p1), .val (.int p2), .val .null] [(.int p2), (.int p1)])) (fun t k => ?_) ?_
  · show Steps p.tables e below (s₁.setTop (mkF m 1 #[.val (.int p1), .val (.int p2), .val .null] [(.int p1)])) _
    refine XS.ifNo X0.here hx rfl (hb hby d8_1) rfl ((if0 _ _).trans (flt hc1).1) ?_
    show Steps p.tables e below (s₁.setTop (mkF m 4 #[.val (.int p1), .val (.int p2), .val .null] [])) _
    refine XS.iloadN X0.here hx rfl (hb hby d8_4) rfl ?_
    show Steps p.tables e below (s₁.setTop (mkF m 5 #[.val (.int p1), .val (.int p2), .val .null] [(.int p1)])) _
    refine XS.iloadN X0.here hx rfl (hb hby d8_5) rfl ?_
    exact k
  refine own_go (T' := s₁) (g' := (mkF m 17 #[.val (.int p1), .val (.int p2), .val .null] [(.int p1)])) (fun t k => ?_) ?_
  · show Steps p.tables e below (s₁.setTop (mkF m 6 #[.val (.int p1), .val (.int p2), .val .null] [(.int p2), (.int p1)])) _
    refine XS.icmpYes X0.here hx rfl (pc0 := 6) (pc' := 16) rfl (hb hby d8_6) rfl (tlt hc6).1 (by decide) (by decide) ?_
    show Steps p.tables e below (s₁.setTop (mkF m 16 #[.val (.int p1), .val (.int p2), .val .null] [])) _
    refine XS.iloadN X0.here hx rfl (hb hby d8_16) rfl ?_
    exact k
  obtain ⟨fs, hr, hrun, hended, hW, hsame⟩ := X0.leave (v := some (.int p1)) (fun h => by rw [Bd.returns] at h; cases h)
  refine ⟨_, _, ?_, hrun, hended, _, _, rfl, ?_, ⟨_, rfl⟩, hW, hsame.mono (by decide) (by decide)⟩
  · exact retI X0 hx Bd.returns (hb hby d8_17) hr
  · show Q8 Z p1 p2 h0 n0 _ s₁.heap _
    rw [e0]
    exact ⟨rfl, NN, rfl⟩
theorem d7_0 : decode jdk_31_method_17_code 0 = .ok (.iload_n 0, 1) := by decide +kernel
theorem d7_1 : decode jdk_31_method_17_code 1 = .ok (.iload_n 1, 1) := by decide +kernel
theorem d7_2 : decode jdk_31_method_17_code 2 = .ok (.aconst_null, 1) := by decide +kernel
theorem d7_3 : decode jdk_31_method_17_code 3 = .ok (.invokestatic 105, 3) := by decide +kernel
theorem d7_6 : decode jdk_31_method_17_code 6 = .ok (.ireturn, 1) := by decide +kernel
theorem pn_2 : plainName "java/util/Objects" = true := by first | (simp [plainName, overriddenIn]; done) | decide +kernel
theorem pd_5 : parseMethodDescriptor "(IILjava/util/function/BiFunction;)I" = some ⟨[.int, .int, (.object "java/util/function/BiFunction")], some .int⟩ := by decide +kernel
theorem ef_7 (m : MethodId) (p1 : Int32) (p2 : Int32) : entryFrame m #[(.int p1), (.int p2)] 2 = mkF m 0 #[.val (.int p1), .val (.int p2)] [] := by first | (simp [entryFrame, mkF, argsToLocals, Value.category]; done) | rfl
def r_7 (p1 : Int32) (p2 : Int32) : Int32 := (r_8 p1 p2)
def Q7 (Z : State) (p1 : Int32) (p2 : Int32) (h0 : Heap) (n0 : Nat) (v : Option Value) (h : Heap) (L : List Loc) : Prop := v = some (.int (r_7 p1 p2)) ∧ Fr n0 L ∧ h = h0
set_option maxRecDepth 65536 in
set_option maxHeartbeats 40000000 in
theorem rm7 (l : Launch) (Z : State) (a0 : Array Value) (hw : ∀ d ∈ tables_1, d.before a0 Z = true) (ws : List Jvm.Cond) (p1 : Int32) (p2 : Int32) (h0 : Heap) (n0 : Nat) (Z0 : n0 ≤ h0.size) (hhc1_3 : ¬ (p1 < (0 : Int32))) (hhc6_3 : p1 < p2) :
    MetFree l (⟨"java/util/Objects", "checkIndex", "(II)I"⟩ : MethodName) (head1 (Jvm.Cond.code (⟨"java/util/Objects", "checkIndex", "(II)I"⟩ : MethodName) jdk_31_method_17_code 2 (some .int) :: ws) ({ frames := 1, cells := 0, slots := 0, locals := 14 } : Room)) (fun a U => a = #[(.int p1), (.int p2)] ∧ Z.Warmed39 U.vm ∧ U.heap = h0) (fun _ _ _ _ _ => True) (fun _ U o U' => ∃ v L, o = .returned v ∧ Q7 Z p1 p2 h0 n0 v U'.heap L ∧ FrameEnd U o U' L ({ frames := 1, cells := 0, slots := 0, locals := 14 } : Room).cells ({ frames := 1, cells := 0, slots := 0, locals := 14 } : Room).slots) := by
  refine MetFree.of_bodySF (plainFor_of_name pn_2) hisR ?_
  intro p e s m args below meth c s₁ Bd hml0 hP hK
  obtain ⟨rfl, hZ, hh⟩ := hP
  have hx := Bd.exec
  have hby := Bd.bytes
  have hml : c.maxLocals = 2 := hml0
  have hown : s.vm.findClass "java/util/Objects" = some m.cls := findClass_of_methodNamed Bd.named
  have hnm := (name_of_methodNamed Bd.named Bd.method).1
  have X0 : Stand p l e ({ frames := 1, cells := 0, slots := 0, locals := 14 } : Room) s m #[(.int p1), (.int p2)] below meth c s₁ [] 0 0 := Stand.of_body Bd
  have e0 : s₁.heap = h0 := by rw [← hh, Bd.state]; rfl
  have NN := Fr.nil n0
  have KK : Keep h0 h0 [] := Keep.refl h0 []
  refine own_start (ef_7 m p1 p2) ?_
  refine own_go (T' := s₁) (g' := (mkF m 3 #[.val (.int p1), .val (.int p2)] [.null, (.int p2), (.int p1)])) (fun t k => ?_) ?_
  · show Steps p.tables e below (s₁.setTop (mkF m 0 #[.val (.int p1), .val (.int p2)] [])) _
    refine XS.iloadN X0.here hx rfl (hb hby d7_0) rfl ?_
    show Steps p.tables e below (s₁.setTop (mkF m 1 #[.val (.int p1), .val (.int p2)] [(.int p1)])) _
    refine XS.iloadN X0.here hx rfl (hb hby d7_1) rfl ?_
    show Steps p.tables e below (s₁.setTop (mkF m 2 #[.val (.int p1), .val (.int p2)] [(.int p2), (.int p1)])) _
    refine XS.aconstNull X0.here hx rfl (hb hby d7_2) ?_
    exact k
  obtain ⟨_, _, ⟨T1, L1, k1, n1⟩, -, X1, ⟨Lc1, hQ1, l1, y1, z1⟩, st1⟩ := Jvm.LawKit.callS X0 hx (y := (⟨"jdk/internal/util/Preconditions", "checkIndex", "(IILjava/util/function/BiFunction;)I"⟩ : MethodName)) hown (mvT hZ (hw _ (List.mem_of_getElem? (i := 35) rfl))) (mvT hZ (hw _ (List.mem_of_getElem? (i := 36) rfl))) (mvT hZ (hw _ (List.mem_of_getElem? (i := 37) rfl))) (mvT hZ (hw _ (List.mem_of_getElem? (i := 38) rfl))) (by decide) (backOf (W := 0) (rm8 l Z a0 hw [] p1 p2 h0 n0 Z0 hhc1_3 hhc6_3) hZ (hw _ (List.mem_of_getElem? (i := 38) rfl)) (hw _ (List.mem_of_getElem? (i := 37) rfl)) (by decide) (by decide)) (g := (mkF m 3 #[.val (.int p1), .val (.int p2)] [.null, (.int p2), (.int p1)])) rfl (by rw [hml]; rfl) (argsL := [(.int p1), (.int p2), .null]) (rest := []) (lenOf pd_5 rfl) rfl (by show 2 * 0 + _ ≤ _; exact Nat.le_of_eq rfl) (hb hby d7_3) (fun _ _ => ⟨rfl, e0, (by decide : 0 + 0 ≤ _), (by decide : 0 + 0 ≤ _)⟩)
  dsimp only [Pt.U, Pt.locs, Pt.cells, Pt.slots] at X1 l1 y1 z1 st1 hQ1
  subst l1 y1 z1
  obtain ⟨rfl, N1q, e1⟩ := hQ1
  have NN := Fr.app NN N1q
  refine own_go st1 ?_
  show own_Go p.tables e below _ T1 (mkF m 6 #[.val (.int p1), .val (.int p2)] [(.int (r_8 p1 p2))])
  obtain ⟨fs, hr, hrun, hended, hW, hsame⟩ := X1.leave (v := some (.int (r_8 p1 p2))) (fun h => by rw [Bd.returns] at h; cases h)
  refine ⟨_, _, ?_, hrun, hended, _, _, rfl, ?_, ⟨_, rfl⟩, hW, hsame.mono (by decide) (by decide)⟩
  · exact retI X1 hx Bd.returns (hb hby d7_6) hr
  · show Q7 Z p1 p2 h0 n0 _ T1.heap _
    rw [e1]
    exact ⟨rfl, NN, rfl⟩
theorem d6_0 : decode prog_7_method_4_code 0 = .ok (.iload_n 1, 1) := by decide +kernel
theorem d6_1 : decode prog_7_method_4_code 1 = .ok (.aload_n 0, 1) := by decide +kernel
theorem d6_2 : decode prog_7_method_4_code 2 = .ok (.getfield 16, 3) := by decide +kernel
theorem d6_5 : decode prog_7_method_4_code 5 = .ok (.invokestatic 22, 3) := by decide +kernel
theorem d6_8 : decode prog_7_method_4_code 8 = .ok (.pop, 1) := by decide +kernel
theorem d6_9 : decode prog_7_method_4_code 9 = .ok (.aload_n 0, 1) := by decide +kernel
theorem d6_10 : decode prog_7_method_4_code 10 = .ok (.getfield 16, 3) := by decide +kernel
theorem d6_13 : decode prog_7_method_4_code 13 = .ok (.iconst 1, 1) := by decide +kernel
theorem d6_14 : decode prog_7_method_4_code 14 = .ok (.isub, 1) := by decide +kernel
theorem d6_15 : decode prog_7_method_4_code 15 = .ok (.ireturn, 1) := by decide +kernel
theorem pd_0 : parseMethodDescriptor "(II)I" = some ⟨[.int, .int], some .int⟩ := by decide +kernel
theorem ef_6 (m : MethodId) (a1 : Addr) (p2 : Int32) : entryFrame m #[(.ref a1), (.int p2)] 2 = mkF m 0 #[.val (.ref a1), .val (.int p2)] [] := by first | (simp [entryFrame, mkF, argsToLocals, Value.category]; done) | rfl
def r_6 (p2 : Int32) (w_size_a1 : Int32) : Int32 := (w_size_a1 - (1 : Int32))
def Q6 (Z : State) (a1 : Addr) (p2 : Int32) (w_size_a1 : Int32) (h0 : Heap) (n0 : Nat) (v : Option Value) (h : Heap) (L : List Loc) : Prop := v = some (.int (r_6 p2 w_size_a1)) ∧ Fr n0 L ∧ h = h0
set_option maxRecDepth 65536 in
set_option maxHeartbeats 40000000 in
theorem rm6 (l : Launch) (Z : State) (a0 : Array Value) (hw : ∀ d ∈ tables_1, d.before a0 Z = true) (ws : List Jvm.Cond) (a1 : Addr) (p2 : Int32) (w_size_a1 : Int32) (h0 : Heap) (n0 : Nat) (Z0 : n0 ≤ h0.size) (F_a1_size : Fld Z h0 a1 "com/example/firecrest/firecrest/network/Complete" "size" "I" (.int w_size_a1)) (hhhc1_3_5 : ¬ (p2 < (0 : Int32))) (hhhc6_3_5 : p2 < w_size_a1) :
    MetFree l (⟨"com/example/firecrest/firecrest/network/Complete", "degree", "(I)I"⟩ : MethodName) (head1 (Jvm.Cond.code (⟨"com/example/firecrest/firecrest/network/Complete", "degree", "(I)I"⟩ : MethodName) prog_7_method_4_code 2 (some .int) :: ws) ({ frames := 2, cells := 0, slots := 0, locals := 27 } : Room)) (fun a U => a = #[(.ref a1), (.int p2)] ∧ Z.Warmed39 U.vm ∧ U.heap = h0) (fun _ _ _ _ _ => True) (fun _ U o U' => ∃ v L, o = .returned v ∧ Q6 Z a1 p2 w_size_a1 h0 n0 v U'.heap L ∧ FrameEnd U o U' L ({ frames := 2, cells := 0, slots := 0, locals := 27 } : Room).cells ({ frames := 2, cells := 0, slots := 0, locals := 27 } : Room).slots) := by
  refine MetFree.of_bodySF (plainFor_of_name pn_0) hisR ?_
  intro p e s m args below meth c s₁ Bd hml0 hP hK
  obtain ⟨rfl, hZ, hh⟩ := hP
  have hx := Bd.exec
  have hby := Bd.bytes
  have hml : c.maxLocals = 2 := hml0
  have hown : s.vm.findClass "com/example/firecrest/firecrest/network/Complete" = some m.cls := findClass_of_methodNamed Bd.named
  have hnm := (name_of_methodNamed Bd.named Bd.method).1
  have X0 : Stand p l e ({ frames := 2, cells := 0, slots := 0, locals := 27 } : Room) s m #[(.ref a1), (.int p2)] below meth c s₁ [] 0 0 := Stand.of_body Bd
  have e0 : s₁.heap = h0 := by rw [← hh, Bd.state]; rfl
  have NN := Fr.nil n0
  have KK : Keep h0 h0 [] := Keep.refl h0 []
  refine own_start (ef_6 m a1 p2) ?_
  refine own_go (T' := s₁) (g' := (mkF m 2 #[.val (.ref a1), .val (.int p2)] [(.ref a1), (.int p2)])) (fun t k => ?_) ?_
  · show Steps p.tables e below (s₁.setTop (mkF m 0 #[.val (.ref a1), .val (.int p2)] [])) _
    refine XS.iloadN X0.here hx rfl (hb hby d6_0) rfl ?_
    show Steps p.tables e below (s₁.setTop (mkF m 1 #[.val (.ref a1), .val (.int p2)] [(.int p2)])) _
    refine XS.aloadN X0.here hx rfl (hb hby d6_1) rfl rfl ?_
    exact k
  obtain ⟨T1, X1, e1, st1⟩ := getF X0 hx hZ hown (host := "") (Or.inl (hw _ (List.mem_of_getElem? (i := 14) rfl))) Via.refl e0 F_a1_size (g := (mkF m 2 #[.val (.ref a1), .val (.int p2)] [(.ref a1), (.int p2)])) rfl rfl (hb hby d6_2)
  refine own_go st1 ?_
  show own_Go p.tables e below _ T1 (mkF m 5 #[.val (.ref a1), .val (.int p2)] [(.int w_size_a1), (.int p2)])
  obtain ⟨_, _, ⟨T2, L2, k2, n2⟩, -, X2, ⟨Lc2, hQ2, l2, y2, z2⟩, st2⟩ := Jvm.LawKit.callS X1 hx (y := (⟨"java/util/Objects", "checkIndex", "(II)I"⟩ : MethodName)) hown (mvT hZ (hw _ (List.mem_of_getElem? (i := 31) rfl))) (mvT hZ (hw _ (List.mem_of_getElem? (i := 32) rfl))) (mvT hZ (hw _ (List.mem_of_getElem? (i := 33) rfl))) (mvT hZ (hw _ (List.mem_of_getElem? (i := 34) rfl))) (by decide) (backOf (W := 0) (rm7 l Z a0 hw [] p2 w_size_a1 h0 n0 Z0 hhhc1_3_5 hhhc6_3_5) hZ (hw _ (List.mem_of_getElem? (i := 34) rfl)) (hw _ (List.mem_of_getElem? (i := 33) rfl)) (by decide) (by decide)) (g := (mkF m 5 #[.val (.ref a1), .val (.int p2)] [(.int w_size_a1), (.int p2)])) rfl (by rw [hml]; rfl) (argsL := [(.int p2), (.int w_size_a1)]) (rest := []) (lenOf pd_0 rfl) rfl (by show 2 * 0 + _ ≤ _; exact Nat.le_of_eq rfl) (hb hby d6_5) (fun _ _ => ⟨rfl, e1, (by decide : 0 + 0 ≤ _), (by decide : 0 + 0 ≤ _)⟩)
  dsimp only [Pt.U, Pt.locs, Pt.cells, Pt.slots] at X2 l2 y2 z2 st2 hQ2
  subst l2 y2 z2
  obtain ⟨rfl, N2q, e2⟩ := hQ2
  have NN := Fr.app NN N2q
  refine own_go st2 ?_
  show own_Go p.tables e below _ T2 (mkF m 8 #[.val (.ref a1), .val (.int p2)] [(.int (r_7 p2 w_size_a1))])
  refine own_go (T' := T2) (g' := (mkF m 10 #[.val (.ref a1), .val (.int p2)] [(.ref a1)])) (fun t k => ?_) ?_
  · show Steps p.tables e below (T2.setTop (mkF m 8 #[.val (.ref a1), .val (.int p2)] [(.int (r_7 p2 w_size_a1))])) _
    refine XS.pop X2.here hx rfl (hb hby d6_8) rfl rfl ?_
    show Steps p.tables e below (T2.setTop (mkF m 9 #[.val (.ref a1), .val (.int p2)] [])) _
    refine XS.aloadN X2.here hx rfl (hb hby d6_9) rfl rfl ?_
    exact k
  obtain ⟨T3, X3, e3, st3⟩ := getF X2 hx hZ hown (host := "") (Or.inl (hw _ (List.mem_of_getElem? (i := 14) rfl))) Via.refl e2 F_a1_size (g := (mkF m 10 #[.val (.ref a1), .val (.int p2)] [(.ref a1)])) rfl rfl (hb hby d6_10)
  refine own_go st3 ?_
  show own_Go p.tables e below _ T3 (mkF m 13 #[.val (.ref a1), .val (.int p2)] [(.int w_size_a1)])
  refine own_go (T' := T3) (g' := (mkF m 15 #[.val (.ref a1), .val (.int p2)] [(.int (w_size_a1 - (1 : Int32)))])) (fun t k => ?_) ?_
  · show Steps p.tables e below (T3.setTop (mkF m 13 #[.val (.ref a1), .val (.int p2)] [(.int w_size_a1)])) _
    refine XS.iconst X3.here hx rfl (hb hby d6_13) ?_
    show Steps p.tables e below (T3.setTop (mkF m 14 #[.val (.ref a1), .val (.int p2)] [(.int (1 : Int32)), (.int w_size_a1)])) _
    refine XS.isub X3.here hx rfl (hb hby d6_14) rfl ?_
    exact k
  obtain ⟨fs, hr, hrun, hended, hW, hsame⟩ := X3.leave (v := some (.int (w_size_a1 - (1 : Int32)))) (fun h => by rw [Bd.returns] at h; cases h)
  refine ⟨_, _, ?_, hrun, hended, _, _, rfl, ?_, ⟨_, rfl⟩, hW, hsame.mono (by decide) (by decide)⟩
  · exact retI X3 hx Bd.returns (hb hby d6_15) hr
  · show Q6 Z a1 p2 w_size_a1 h0 n0 _ T3.heap _
    rw [e3]
    exact ⟨rfl, NN, rfl⟩
theorem d5_0 : decode prog_7_method_5_code 0 = .ok (.iload_n 2, 1) := by decide +kernel
theorem d5_1 : decode prog_7_method_5_code 1 = .ok (.aload_n 0, 1) := by decide +kernel
theorem d5_2 : decode prog_7_method_5_code 2 = .ok (.iload_n 1, 1) := by decide +kernel
theorem d5_3 : decode prog_7_method_5_code 3 = .ok (.invokevirtual 28, 3) := by decide +kernel
theorem d5_6 : decode prog_7_method_5_code 6 = .ok (.invokestatic 22, 3) := by decide +kernel
theorem d5_9 : decode prog_7_method_5_code 9 = .ok (.iload_n 1, 1) := by decide +kernel
theorem d5_10 : decode prog_7_method_5_code 10 = .ok (.if_icmp .ge 7, 3) := by decide +kernel
theorem d5_13 : decode prog_7_method_5_code 13 = .ok (.iload_n 2, 1) := by decide +kernel
theorem d5_14 : decode prog_7_method_5_code 14 = .ok (.goto 6, 3) := by decide +kernel
theorem d5_17 : decode prog_7_method_5_code 17 = .ok (.iload_n 2, 1) := by decide +kernel
theorem d5_18 : decode prog_7_method_5_code 18 = .ok (.iconst 1, 1) := by decide +kernel
theorem d5_19 : decode prog_7_method_5_code 19 = .ok (.iadd, 1) := by decide +kernel
theorem d5_20 : decode prog_7_method_5_code 20 = .ok (.ireturn, 1) := by decide +kernel
theorem pd_4 : parseMethodDescriptor "(I)I" = some ⟨[.int], some .int⟩ := by decide +kernel
theorem ef_5 (m : MethodId) (a1 : Addr) (p2 : Int32) (p3 : Int32) : entryFrame m #[(.ref a1), (.int p2), (.int p3)] 3 = mkF m 0 #[.val (.ref a1), .val (.int p2), .val (.int p3)] [] := by first | (simp [entryFrame, mkF, argsToLocals, Value.category]; done) | rfl
def r_5 (p2 : Int32) (p3 : Int32) (w_size_a1 : Int32) : Int32 := ((if (r_7 p3 (r_6 p2 w_size_a1)) < p2 then p3 else (p3 + (1 : Int32))))
def Q5 (Z : State) (a1 : Addr) (p2 : Int32) (p3 : Int32) (w_size_a1 : Int32) (h0 : Heap) (n0 : Nat) (v : Option Value) (h : Heap) (L : List Loc) : Prop := v = some (.int (r_5 p2 p3 w_size_a1)) ∧ Fr n0 L ∧ h = h0
set_option maxRecDepth 65536 in
set_option maxHeartbeats 40000000 in
theorem rm5 (l : Launch) (Z : State) (a0 : Array Value) (hw : ∀ d ∈ tables_1, d.before a0 Z = true) (ws : List Jvm.Cond) (a1 : Addr) (p2 : Int32) (p3 : Int32) (w_size_a1 : Int32) (h0 : Heap) (n0 : Nat) (Z0 : n0 ≤ h0.size) (F_a1_size : Fld Z h0 a1 "com/example/firecrest/firecrest/network/Complete" "size" "I" (.int w_size_a1)) (hhhhc1_3_5_3 : ¬ (p2 < (0 : Int32))) (hhhhc6_3_5_3 : p2 < w_size_a1) (E_a1 : Exa Z h0 a1 "com/example/firecrest/firecrest/network/Complete") (hhhc1_3_6 : ¬ (p3 < (0 : Int32))) (hhhc6_3_6 : p3 < (r_6 p2 w_size_a1)) :
    MetFree l (⟨"com/example/firecrest/firecrest/network/Complete", "neighbour", "(II)I"⟩ : MethodName) (head1 (Jvm.Cond.code (⟨"com/example/firecrest/firecrest/network/Complete", "neighbour", "(II)I"⟩ : MethodName) prog_7_method_5_code 3 (some .int) :: ws) ({ frames := 3, cells := 0, slots := 0, locals := 41 } : Room)) (fun a U => a = #[(.ref a1), (.int p2), (.int p3)] ∧ Z.Warmed39 U.vm ∧ U.heap = h0) (fun _ _ _ _ _ => True) (fun _ U o U' => ∃ v L, o = .returned v ∧ Q5 Z a1 p2 p3 w_size_a1 h0 n0 v U'.heap L ∧ FrameEnd U o U' L ({ frames := 3, cells := 0, slots := 0, locals := 41 } : Room).cells ({ frames := 3, cells := 0, slots := 0, locals := 41 } : Room).slots) := by
  refine MetFree.of_bodySF (plainFor_of_name pn_0) hisR ?_
  intro p e s m args below meth c s₁ Bd hml0 hP hK
  obtain ⟨rfl, hZ, hh⟩ := hP
  have hx := Bd.exec
  have hby := Bd.bytes
  have hml : c.maxLocals = 3 := hml0
  have hown : s.vm.findClass "com/example/firecrest/firecrest/network/Complete" = some m.cls := findClass_of_methodNamed Bd.named
  have hnm := (name_of_methodNamed Bd.named Bd.method).1
  have X0 : Stand p l e ({ frames := 3, cells := 0, slots := 0, locals := 41 } : Room) s m #[(.ref a1), (.int p2), (.int p3)] below meth c s₁ [] 0 0 := Stand.of_body Bd
  have e0 : s₁.heap = h0 := by rw [← hh, Bd.state]; rfl
  have NN := Fr.nil n0
  have KK : Keep h0 h0 [] := Keep.refl h0 []
  refine own_start (ef_5 m a1 p2 p3) ?_
  refine own_go (T' := s₁) (g' := (mkF m 3 #[.val (.ref a1), .val (.int p2), .val (.int p3)] [(.int p2), (.ref a1), (.int p3)])) (fun t k => ?_) ?_
  · show Steps p.tables e below (s₁.setTop (mkF m 0 #[.val (.ref a1), .val (.int p2), .val (.int p3)] [])) _
    refine XS.iloadN X0.here hx rfl (hb hby d5_0) rfl ?_
    show Steps p.tables e below (s₁.setTop (mkF m 1 #[.val (.ref a1), .val (.int p2), .val (.int p3)] [(.int p3)])) _
    refine XS.aloadN X0.here hx rfl (hb hby d5_1) rfl rfl ?_
    show Steps p.tables e below (s₁.setTop (mkF m 2 #[.val (.ref a1), .val (.int p2), .val (.int p3)] [(.ref a1), (.int p3)])) _
    refine XS.iloadN X0.here hx rfl (hb hby d5_2) rfl ?_
    exact k
  obtain ⟨cq1, kq1, q1a, q1b, q1c⟩ := isOf hZ e0 E_a1
  obtain ⟨_, _, ⟨T1, L1, k1, n1⟩, -, X1, ⟨Lc1, hQ1, l1, y1, z1⟩, st1⟩ := X0.virtualBack hx (y := (⟨"com/example/firecrest/firecrest/network/Complete", "degree", "(I)I"⟩ : MethodName)) (z := (⟨"com/example/firecrest/firecrest/network/Complete", "degree", "(I)I"⟩ : MethodName)) hown (mvT hZ (hw _ (List.mem_of_getElem? (i := 26) rfl))) (mvT hZ (hw _ (List.mem_of_getElem? (i := 27) rfl))) (notFace_of_selects (args := #[]) (mvT hZ (hw _ (List.mem_of_getElem? (i := 29) rfl)))) (mvT hZ (hw _ (List.mem_of_getElem? (i := 29) rfl))) (mvT hZ (hw _ (List.mem_of_getElem? (i := 28) rfl))) (by decide) (backOf (W := 1) (rm6 l Z a0 hw [] a1 p2 w_size_a1 h0 n0 Z0 F_a1_size hhhhc1_3_5_3 hhhhc6_3_5_3) hZ (hw _ (List.mem_of_getElem? (i := 30) rfl)) (hw _ (List.mem_of_getElem? (i := 7) rfl)) (by decide) (by decide)) q1a q1c (g := (mkF m 3 #[.val (.ref a1), .val (.int p2), .val (.int p3)] [(.int p2), (.ref a1), (.int p3)])) rfl (by rw [hml]; rfl) (Steps.refl _) (argsL := [(.int p2)]) (rest := [(.int p3)]) (lenOf pd_4 rfl) rfl (by show 2 * 0 + _ ≤ _; exact Nat.le_of_eq rfl) (hb hby d5_3) (fun _ _ => ⟨rfl, e0, (by decide : 0 + 0 ≤ _), (by decide : 0 + 0 ≤ _)⟩)
  dsimp only [Pt.U, Pt.locs, Pt.cells, Pt.slots] at X1 l1 y1 z1 st1 hQ1
  subst l1 y1 z1
  obtain ⟨rfl, N1q, e1⟩ := hQ1
  have NN := Fr.app NN N1q
  refine own_go (fun t k => st1.trans k) ?_
  show own_Go p.tables e below _ T1 (mkF m 6 #[.val (.ref a1), .val (.int p2), .val (.int p3)] [(.int (r_6 p2 w_size_a1)), (.int p3)])
  obtain ⟨_, _, ⟨T2, L2, k2, n2⟩, -, X2, ⟨Lc2, hQ2, l2, y2, z2⟩, st2⟩ := Jvm.LawKit.callS X1 hx (y := (⟨"java/util/Objects", "checkIndex", "(II)I"⟩ : MethodName)) hown (mvT hZ (hw _ (List.mem_of_getElem? (i := 31) rfl))) (mvT hZ (hw _ (List.mem_of_getElem? (i := 32) rfl))) (mvT hZ (hw _ (List.mem_of_getElem? (i := 33) rfl))) (mvT hZ (hw _ (List.mem_of_getElem? (i := 34) rfl))) (by decide) (backOf (W := 0) (rm7 l Z a0 hw [] p3 (r_6 p2 w_size_a1) h0 n0 Z0 hhhc1_3_6 hhhc6_3_6) hZ (hw _ (List.mem_of_getElem? (i := 34) rfl)) (hw _ (List.mem_of_getElem? (i := 33) rfl)) (by decide) (by decide)) (g := (mkF m 6 #[.val (.ref a1), .val (.int p2), .val (.int p3)] [(.int (r_6 p2 w_size_a1)), (.int p3)])) rfl (by rw [hml]; rfl) (argsL := [(.int p3), (.int (r_6 p2 w_size_a1))]) (rest := []) (lenOf pd_0 rfl) rfl (by show 2 * 0 + _ ≤ _; exact Nat.le_of_eq rfl) (hb hby d5_6) (fun _ _ => ⟨rfl, e1, (by decide : 0 + 0 ≤ _), (by decide : 0 + 0 ≤ _)⟩)
  dsimp only [Pt.U, Pt.locs, Pt.cells, Pt.slots] at X2 l2 y2 z2 st2 hQ2
  subst l2 y2 z2
  obtain ⟨rfl, N2q, e2⟩ := hQ2
  have NN := Fr.app NN N2q
  refine own_go st2 ?_
  show own_Go p.tables e below _ T2 (mkF m 9 #[.val (.ref a1), .val (.int p2), .val (.int p3)] [(.int (r_7 p3 (r_6 p2 w_size_a1)))])
  refine own_go (T' := T2) (g' := (mkF m 10 #[.val (.ref a1), .val (.int p2), .val (.int p3)] [(.int p2), (.int (r_7 p3 (r_6 p2 w_size_a1)))])) (fun t k => ?_) ?_
  · show Steps p.tables e below (T2.setTop (mkF m 9 #[.val (.ref a1), .val (.int p2), .val (.int p3)] [(.int (r_7 p3 (r_6 p2 w_size_a1)))])) _
    refine XS.iloadN X2.here hx rfl (hb hby d5_9) rfl ?_
    exact k
  obtain ⟨j3, hj3, st4⟩ : ∃ (j3 : Int32), j3 = (if (r_7 p3 (r_6 p2 w_size_a1)) < p2 then p3 else (p3 + (1 : Int32))) ∧ ∀ t, Steps p.tables e below (T2.setTop (mkF m 20 #[.val (.ref a1), .val (.int p2), .val (.int p3)] [(.int j3)])) t → Steps p.tables e below (T2.setTop (mkF m 10 #[.val (.ref a1), .val (.int p2), .val (.int p3)] [(.int p2), (.int (r_7 p3 (r_6 p2 w_size_a1)))])) t := by
    by_cases hc10_1 : (r_7 p3 (r_6 p2 w_size_a1)) < p2
    · skip
      refine ⟨p3, (by simp only [if_pos hc10_1]), fun t k => ?_⟩
      show Steps p.tables e below (T2.setTop (mkF m 10 #[.val (.ref a1), .val (.int p2), .val (.int p3)] [(.int p2), (.int (r_7 p3 (r_6 p2 w_size_a1)))])) _
      refine XS.icmpNo X2.here hx rfl (hb hby d5_10) rfl (tlt hc10_1).2.1 ?_
      show Steps p.tables e below (T2.setTop (mkF m 13 #[.val (.ref a1), .val (.int p2), .val (.int p3)] [])) _
      refine XS.iloadN X2.here hx rfl (hb hby d5_13) rfl ?_
      show Steps p.tables e below (T2.setTop (mkF m 14 #[.val (.ref a1), .val (.int p2), .val (.int p3)] [(.int p3)])) _
      refine XS.goto X2.here hx rfl (pc0 := 14) (pc' := 20) rfl (hb hby d5_14) (by decide) (by decide) ?_
      exact k
    · skip
      refine ⟨(p3 + (1 : Int32)), (by simp only [if_neg hc10_1]), fun t k => ?_⟩
      show Steps p.tables e below (T2.setTop (mkF m 10 #[.val (.ref a1), .val (.int p2), .val (.int p3)] [(.int p2), (.int (r_7 p3 (r_6 p2 w_size_a1)))])) _
      refine XS.icmpYes X2.here hx rfl (pc0 := 10) (pc' := 17) rfl (hb hby d5_10) rfl (flt hc10_1).2.1 (by decide) (by decide) ?_
      show Steps p.tables e below (T2.setTop (mkF m 17 #[.val (.ref a1), .val (.int p2), .val (.int p3)] [])) _
      refine XS.iloadN X2.here hx rfl (hb hby d5_17) rfl ?_
      show Steps p.tables e below (T2.setTop (mkF m 18 #[.val (.ref a1), .val (.int p2), .val (.int p3)] [(.int p3)])) _
      refine XS.iconst X2.here hx rfl (hb hby d5_18) ?_
      show Steps p.tables e below (T2.setTop (mkF m 19 #[.val (.ref a1), .val (.int p2), .val (.int p3)] [(.int (1 : Int32)), (.int p3)])) _
      refine XS.iadd X2.here hx rfl (hb hby d5_19) rfl ?_
      exact k
  refine own_go st4 ?_
  show own_Go p.tables e below _ T2 (mkF m 20 #[.val (.ref a1), .val (.int p2), .val (.int p3)] [(.int j3)])
  obtain ⟨fs, hr, hrun, hended, hW, hsame⟩ := X2.leave (v := some (.int j3)) (fun h => by rw [Bd.returns] at h; cases h)
  refine ⟨_, _, ?_, hrun, hended, _, _, rfl, ?_, ⟨_, rfl⟩, hW, hsame.mono (by decide) (by decide)⟩
  · exact retI X2 hx Bd.returns (hb hby d5_20) hr
  · show Q5 Z a1 p2 p3 w_size_a1 h0 n0 _ T2.heap _
    rw [e2]
    exact ⟨(by first | (simp only [hj3, r_5]; done) | (subst hj3; first | (simp only [r_5]; done) | rfl)), NN, rfl⟩
theorem d4_0 : decode prog_7_method_7_code 0 = .ok (.aload_n 0, 1) := by decide +kernel
theorem d4_1 : decode prog_7_method_7_code 1 = .ok (.getfield 16, 3) := by decide +kernel
theorem d4_4 : decode prog_7_method_7_code 4 = .ok (.iconst 1, 1) := by decide +kernel
theorem d4_5 : decode prog_7_method_7_code 5 = .ok (.if_icmp .le 7, 3) := by decide +kernel
theorem d4_8 : decode prog_7_method_7_code 8 = .ok (.iconst 1, 1) := by decide +kernel
theorem d4_9 : decode prog_7_method_7_code 9 = .ok (.goto 4, 3) := by decide +kernel
theorem d4_12 : decode prog_7_method_7_code 12 = .ok (.iconst 0, 1) := by decide +kernel
theorem d4_13 : decode prog_7_method_7_code 13 = .ok (.ireturn, 1) := by decide +kernel
theorem ef_4 (m : MethodId) (a1 : Addr) : entryFrame m #[(.ref a1)] 1 = mkF m 0 #[.val (.ref a1)] [] := by first | (simp [entryFrame, mkF, argsToLocals, Value.category]; done) | rfl
def r_4 (w_size_a1 : Int32) : Int32 := ((if (1 : Int32) < w_size_a1 then (1 : Int32) else (0 : Int32)))
def Q4 (Z : State) (a1 : Addr) (w_size_a1 : Int32) (h0 : Heap) (n0 : Nat) (v : Option Value) (h : Heap) (L : List Loc) : Prop := v = some (.int (r_4 w_size_a1)) ∧ Fr n0 L ∧ h = h0
set_option maxRecDepth 65536 in
set_option maxHeartbeats 40000000 in
theorem rm4 (l : Launch) (Z : State) (a0 : Array Value) (hw : ∀ d ∈ tables_1, d.before a0 Z = true) (ws : List Jvm.Cond) (a1 : Addr) (w_size_a1 : Int32) (h0 : Heap) (n0 : Nat) (Z0 : n0 ≤ h0.size) (F_a1_size : Fld Z h0 a1 "com/example/firecrest/firecrest/network/Complete" "size" "I" (.int w_size_a1)) :
    MetFree l (⟨"com/example/firecrest/firecrest/network/Complete", "diameter", "()I"⟩ : MethodName) (head1 (Jvm.Cond.code (⟨"com/example/firecrest/firecrest/network/Complete", "diameter", "()I"⟩ : MethodName) prog_7_method_7_code 1 (some .int) :: ws) ({ frames := 0, cells := 0, slots := 0, locals := 0 } : Room)) (fun a U => a = #[(.ref a1)] ∧ Z.Warmed39 U.vm ∧ U.heap = h0) (fun _ _ _ _ _ => True) (fun _ U o U' => ∃ v L, o = .returned v ∧ Q4 Z a1 w_size_a1 h0 n0 v U'.heap L ∧ FrameEnd U o U' L ({ frames := 0, cells := 0, slots := 0, locals := 0 } : Room).cells ({ frames := 0, cells := 0, slots := 0, locals := 0 } : Room).slots) := by
  refine MetFree.of_bodySF (plainFor_of_name pn_0) hisR ?_
  intro p e s m args below meth c s₁ Bd hml0 hP hK
  obtain ⟨rfl, hZ, hh⟩ := hP
  have hx := Bd.exec
  have hby := Bd.bytes
  have hml : c.maxLocals = 1 := hml0
  have hown : s.vm.findClass "com/example/firecrest/firecrest/network/Complete" = some m.cls := findClass_of_methodNamed Bd.named
  have hnm := (name_of_methodNamed Bd.named Bd.method).1
  have X0 : Stand p l e ({ frames := 0, cells := 0, slots := 0, locals := 0 } : Room) s m #[(.ref a1)] below meth c s₁ [] 0 0 := Stand.of_body Bd
  have e0 : s₁.heap = h0 := by rw [← hh, Bd.state]; rfl
  have NN := Fr.nil n0
  have KK : Keep h0 h0 [] := Keep.refl h0 []
  refine own_start (ef_4 m a1) ?_
  refine own_go (T' := s₁) (g' := (mkF m 1 #[.val (.ref a1)] [(.ref a1)])) (fun t k => ?_) ?_
  · show Steps p.tables e below (s₁.setTop (mkF m 0 #[.val (.ref a1)] [])) _
    refine XS.aloadN X0.here hx rfl (hb hby d4_0) rfl rfl ?_
    exact k
  obtain ⟨T1, X1, e1, st1⟩ := getF X0 hx hZ hown (host := "") (Or.inl (hw _ (List.mem_of_getElem? (i := 14) rfl))) Via.refl e0 F_a1_size (g := (mkF m 1 #[.val (.ref a1)] [(.ref a1)])) rfl rfl (hb hby d4_1)
  refine own_go st1 ?_
  show own_Go p.tables e below _ T1 (mkF m 4 #[.val (.ref a1)] [(.int w_size_a1)])
  refine own_go (T' := T1) (g' := (mkF m 5 #[.val (.ref a1)] [(.int (1 : Int32)), (.int w_size_a1)])) (fun t k => ?_) ?_
  · show Steps p.tables e below (T1.setTop (mkF m 4 #[.val (.ref a1)] [(.int w_size_a1)])) _
    refine XS.iconst X1.here hx rfl (hb hby d4_4) ?_
    exact k
  obtain ⟨j2, hj2, st3⟩ : ∃ (j2 : Int32), j2 = (if (1 : Int32) < w_size_a1 then (1 : Int32) else (0 : Int32)) ∧ ∀ t, Steps p.tables e below (T1.setTop (mkF m 13 #[.val (.ref a1)] [(.int j2)])) t → Steps p.tables e below (T1.setTop (mkF m 5 #[.val (.ref a1)] [(.int (1 : Int32)), (.int w_size_a1)])) t := by
    by_cases hc5_1 : (1 : Int32) < w_size_a1
    · skip
      refine ⟨(1 : Int32), (by simp only [if_pos hc5_1]), fun t k => ?_⟩
      show Steps p.tables e below (T1.setTop (mkF m 5 #[.val (.ref a1)] [(.int (1 : Int32)), (.int w_size_a1)])) _
      refine XS.icmpNo X1.here hx rfl (hb hby d4_5) rfl (tlt hc5_1).2.2.2 ?_
      show Steps p.tables e below (T1.setTop (mkF m 8 #[.val (.ref a1)] [])) _
      refine XS.iconst X1.here hx rfl (hb hby d4_8) ?_
      show Steps p.tables e below (T1.setTop (mkF m 9 #[.val (.ref a1)] [(.int (1 : Int32))])) _
      refine XS.goto X1.here hx rfl (pc0 := 9) (pc' := 13) rfl (hb hby d4_9) (by decide) (by decide) ?_
      exact k
    · skip
      refine ⟨(0 : Int32), (by simp only [if_neg hc5_1]), fun t k => ?_⟩
      show Steps p.tables e below (T1.setTop (mkF m 5 #[.val (.ref a1)] [(.int (1 : Int32)), (.int w_size_a1)])) _
      refine XS.icmpYes X1.here hx rfl (pc0 := 5) (pc' := 12) rfl (hb hby d4_5) rfl (flt hc5_1).2.2.2 (by decide) (by decide) ?_
      show Steps p.tables e below (T1.setTop (mkF m 12 #[.val (.ref a1)] [])) _
      refine XS.iconst X1.here hx rfl (hb hby d4_12) ?_
      exact k
  refine own_go st3 ?_
  show own_Go p.tables e below _ T1 (mkF m 13 #[.val (.ref a1)] [(.int j2)])
  obtain ⟨fs, hr, hrun, hended, hW, hsame⟩ := X1.leave (v := some (.int j2)) (fun h => by rw [Bd.returns] at h; cases h)
  refine ⟨_, _, ?_, hrun, hended, _, _, rfl, ?_, ⟨_, rfl⟩, hW, hsame.mono (by decide) (by decide)⟩
  · exact retI X1 hx Bd.returns (hb hby d4_13) hr
  · show Q4 Z a1 w_size_a1 h0 n0 _ T1.heap _
    rw [e1]
    exact ⟨(by first | (simp only [hj2, r_4]; done) | (subst hj2; first | (simp only [r_4]; done) | rfl)), NN, rfl⟩
theorem own_pl_a (p : Int32) : 1 ≤ (r_1 (1 : Int32) (p &&& (2147483647 : Int32))).toInt := by
  have h := c_mask p (2147483647 : Int32) 31 (by decide) (by decide)
  simp only [r_1]
  split
  · next g =>
    rw [Int32.lt_iff_toInt_lt] at g
    have k : (1 : Int32).toInt = 1 := rfl
    omega
  · decide
theorem own_pl_b (x d : Int32) (hd : 0 < d.toInt) : 0 ≤ ((x &&& (2147483647 : Int32)) % d).toInt ∧ ((x &&& (2147483647 : Int32)) % d).toInt < d.toInt := by
  have h := c_mask x (2147483647 : Int32) 31 (by decide) (by decide)
  have g := (c_iremV (x &&& (2147483647 : Int32)) d).1 (by omega) hd
  exact ⟨g.1, g.2.1⟩
theorem own_pl_s (d : Int32) (h : -2147483648 < d.toInt) : (d - (1 : Int32)).toInt = d.toInt - 1 := by
  have e := c_isub d 1
  have r := rng32 (d - 1)
  have r2 := rng32 d
  have k : (1 : Int32).toInt = 1 := rfl
  omega
theorem own_pl_i (d : Int32) (h : d.toInt < 2147483647) : (d + (1 : Int32)).toInt = d.toInt + 1 := by
  have e := c_iadd d 1
  have r := rng32 (d + 1)
  have r2 := rng32 d
  have k : (1 : Int32).toInt = 1 := rfl
  omega
theorem own_pl_all (p1 p2 p3 j2 j9 j10 j11 : Int32) (hj2 : j2 = (r_1 (1 : Int32) (p1 &&& (2147483647 : Int32)))) (hj9 : j9 = ((p2 &&& (2147483647 : Int32)) % j2)) (hj10 : j10 = ((p3 &&& (2147483647 : Int32)) % j2)) (hj11 : j11 = (if j9 = j10 then ((j9 + (1 : Int32)) % j2) else j10)) (h1 : ¬ (j2 = (1 : Int32))) : 2 ≤ j2.toInt ∧ 0 ≤ j9.toInt ∧ j9.toInt < j2.toInt ∧ 0 ≤ j11.toInt ∧ j11.toInt < j2.toInt ∧ j11.toInt ≠ j9.toInt := by
  have a : 1 ≤ j2.toInt := by rw [hj2]; exact own_pl_a p1
  have b := own_pl_b p2 j2 (by omega)
  have c := own_pl_b p3 j2 (by omega)
  rw [← hj9] at b
  rw [← hj10] at c
  have r2 := rng32 j2
  rw [← Int32.toInt_inj] at h1
  have k1 : (1 : Int32).toInt = 1 := rfl
  by_cases q : j9 = j10
  · rw [if_pos q] at hj11
    have i := own_pl_i j9 (by omega)
    have g := (c_iremV (j9 + 1) j2).1 (by omega) (by omega)
    rw [← hj11, i] at g
    omega
  · rw [if_neg q] at hj11
    rw [← Int32.toInt_inj] at q
    rw [hj11]
    omega
theorem own_pl_r5 (p2 p3 w : Int32) (h1 : p3.toInt < 2147483647) : (r_5 p2 p3 w).toInt = if p3.toInt < p2.toInt then p3.toInt else p3.toInt + 1 := by
  simp only [r_5, r_7, r_8, Int32.lt_iff_toInt_lt]
  split
  · rfl
  · exact own_pl_i _ h1
theorem own_pl_k (j9 j11 j13 : Int32) (h : -2147483648 < j11.toInt) (hj13 : j13 = (if j11 < j9 then j11 else (j11 - (1 : Int32)))) : j13.toInt = if j11.toInt < j9.toInt then j11.toInt else j11.toInt - 1 := by
  rw [hj13]
  simp only [Int32.lt_iff_toInt_lt]
  split
  · rfl
  · exact own_pl_s _ h
theorem pn_3 : plainName "com/example/firecrest/firecrest/network/CompleteDiameterPinLaw" = true := by first | (simp [plainName, overriddenIn]; done) | decide +kernel
theorem pd_1 : parseMethodDescriptor "(I)V" = some ⟨[.int], none⟩ := by decide +kernel
theorem pd_3 : parseMethodDescriptor "()I" = some ⟨[], some .int⟩ := by decide +kernel
theorem ef_0 (m : MethodId) (p1 : Int32) (p2 : Int32) (p3 : Int32) : entryFrame m #[(.int p1), (.int p2), (.int p3)] maxLocals = mkF m 0 #[.val (.int p1), .val (.int p2), .val (.int p3), .unset, .unset, .unset, .unset, .unset, .unset] [] := by first | (simp [entryFrame, mkF, argsToLocals, Value.category, maxLocals]; done) | rfl
def Q0 (Z : State) (p1 : Int32) (p2 : Int32) (p3 : Int32) (h0 : Heap) (n0 : Nat) (v : Option Value) (h : Heap) (L : List Loc) : Prop := v = some (.int 1) ∧ Fr n0 L
theorem own_at_hhc6_14 (p1 : Int32) (j2 : Int32) (hj2 : j2 = (r_1 (1 : Int32) (p1 &&& (2147483647 : Int32)))) : ¬ (j2 < (1 : Int32)) := by
  have a : 1 ≤ j2.toInt := by rw [hj2]; exact own_pl_a p1
  have k0 : (0 : Int32).toInt = 0 := rfl
  have k1 : (1 : Int32).toInt = 1 := rfl
  rw [Int32.lt_iff_toInt_lt]; omega
theorem own_yes_t (p1 : Int32) (j2 : Int32) (j6 : Int32) (j7 : Int32) (hj2 : j2 = (r_1 (1 : Int32) (p1 &&& (2147483647 : Int32)))) (hj6 : j6 = (r_4 j2)) (hj7 : j7 = (if j6 = (0 : Int32) then (1 : Int32) else (0 : Int32))) (hhc6_14 : ¬ (j2 < (1 : Int32))) (hc28_1 : j2 = (1 : Int32)) : (nar .boolean j7) = 1 := by
  have e : j6 = (0 : Int32) := by rw [hj6, hc28_1]; decide
  rw [hj7, if_pos e]
  rfl
theorem own_at_hnz47_f (p1 : Int32) (j2 : Int32) (hj2 : j2 = (r_1 (1 : Int32) (p1 &&& (2147483647 : Int32)))) (hhc6_14 : ¬ (j2 < (1 : Int32))) (hc28_1 : ¬ (j2 = (1 : Int32))) : ¬ (j2 = (0 : Int32)) := by
  have a : 1 ≤ j2.toInt := by rw [hj2]; exact own_pl_a p1
  have k0 : (0 : Int32).toInt = 0 := rfl
  have k1 : (1 : Int32).toInt = 1 := rfl
  rw [← Int32.toInt_inj]; omega
theorem own_at_hhhhhc1_3_5_3_103_ft (p1 : Int32) (p2 : Int32) (j2 : Int32) (j6 : Int32) (j9 : Int32) (hj2 : j2 = (r_1 (1 : Int32) (p1 &&& (2147483647 : Int32)))) (hj6 : j6 = (r_4 j2)) (hj9 : j9 = ((p2 &&& (2147483647 : Int32)) % j2)) (hhc6_14 : ¬ (j2 < (1 : Int32))) (hc28_1 : ¬ (j2 = (1 : Int32))) (hnz47 : ¬ (j2 = (0 : Int32))) (hc94_5 : j6 = (1 : Int32)) : ¬ (j9 < (0 : Int32)) := by
  have a : 1 ≤ j2.toInt := by rw [hj2]; exact own_pl_a p1
  have k0 : (0 : Int32).toInt = 0 := rfl
  have k1 : (1 : Int32).toInt = 1 := rfl
  have b := own_pl_b p2 j2 (by omega)
  rw [← hj9] at b
  rw [Int32.lt_iff_toInt_lt]; omega
theorem own_at_hhhhhc6_3_5_3_103_ft (p1 : Int32) (p2 : Int32) (j2 : Int32) (j6 : Int32) (j9 : Int32) (hj2 : j2 = (r_1 (1 : Int32) (p1 &&& (2147483647 : Int32)))) (hj6 : j6 = (r_4 j2)) (hj9 : j9 = ((p2 &&& (2147483647 : Int32)) % j2)) (hhc6_14 : ¬ (j2 < (1 : Int32))) (hc28_1 : ¬ (j2 = (1 : Int32))) (hnz47 : ¬ (j2 = (0 : Int32))) (hc94_5 : j6 = (1 : Int32)) (hhhhhc1_3_5_3_103 : ¬ (j9 < (0 : Int32))) : j9 < j2 := by
  have a : 1 ≤ j2.toInt := by rw [hj2]; exact own_pl_a p1
  have k0 : (0 : Int32).toInt = 0 := rfl
  have k1 : (1 : Int32).toInt = 1 := rfl
  have b := own_pl_b p2 j2 (by omega)
  rw [← hj9] at b
  rw [Int32.lt_iff_toInt_lt]; omega
theorem own_at_hhhhc1_3_6_103_ft (p1 : Int32) (p2 : Int32) (p3 : Int32) (j2 : Int32) (j6 : Int32) (j9 : Int32) (j10 : Int32) (j11 : Int32) (j13 : Int32) (hj2 : j2 = (r_1 (1 : Int32) (p1 &&& (2147483647 : Int32)))) (hj6 : j6 = (r_4 j2)) (hj9 : j9 = ((p2 &&& (2147483647 : Int32)) % j2)) (hj10 : j10 = ((p3 &&& (2147483647 : Int32)) % j2)) (hj11 : j11 = (if j9 = j10 then ((j9 + (1 : Int32)) % j2) else j10)) (hj13 : j13 = (if j11 < j9 then j11 else (j11 - (1 : Int32)))) (hhc6_14 : ¬ (j2 < (1 : Int32))) (hc28_1 : ¬ (j2 = (1 : Int32))) (hnz47 : ¬ (j2 = (0 : Int32))) (hc94_5 : j6 = (1 : Int32)) (hhhhhc1_3_5_3_103 : ¬ (j9 < (0 : Int32))) (hhhhhc6_3_5_3_103 : j9 < j2) : ¬ (j13 < (0 : Int32)) := by
  have a := own_pl_all p1 p2 p3 j2 j9 j10 j11 hj2 hj9 hj10 hj11 hc28_1
  have r2 := rng32 j2
  have s := own_pl_s j2 (by omega)
  have e13 := own_pl_k j9 j11 j13 (by omega) hj13
  have k0 : (0 : Int32).toInt = 0 := rfl
  have k1 : (1 : Int32).toInt = 1 := rfl
  rw [Int32.lt_iff_toInt_lt]; split at e13 <;> omega
theorem own_at_hhhhc6_3_6_103_ft (p1 : Int32) (p2 : Int32) (p3 : Int32) (j2 : Int32) (j6 : Int32) (j9 : Int32) (j10 : Int32) (j11 : Int32) (j13 : Int32) (hj2 : j2 = (r_1 (1 : Int32) (p1 &&& (2147483647 : Int32)))) (hj6 : j6 = (r_4 j2)) (hj9 : j9 = ((p2 &&& (2147483647 : Int32)) % j2)) (hj10 : j10 = ((p3 &&& (2147483647 : Int32)) % j2)) (hj11 : j11 = (if j9 = j10 then ((j9 + (1 : Int32)) % j2) else j10)) (hj13 : j13 = (if j11 < j9 then j11 else (j11 - (1 : Int32)))) (hhc6_14 : ¬ (j2 < (1 : Int32))) (hc28_1 : ¬ (j2 = (1 : Int32))) (hnz47 : ¬ (j2 = (0 : Int32))) (hc94_5 : j6 = (1 : Int32)) (hhhhhc1_3_5_3_103 : ¬ (j9 < (0 : Int32))) (hhhhhc6_3_5_3_103 : j9 < j2) (hhhhc1_3_6_103 : ¬ (j13 < (0 : Int32))) : j13 < (r_6 j9 j2) := by
  have a := own_pl_all p1 p2 p3 j2 j9 j10 j11 hj2 hj9 hj10 hj11 hc28_1
  have r2 := rng32 j2
  have s := own_pl_s j2 (by omega)
  have e13 := own_pl_k j9 j11 j13 (by omega) hj13
  have k0 : (0 : Int32).toInt = 0 := rfl
  have k1 : (1 : Int32).toInt = 1 := rfl
  rw [Int32.lt_iff_toInt_lt, r_6, s]; split at e13 <;> omega
theorem own_yes_ft (p1 : Int32) (p2 : Int32) (p3 : Int32) (j2 : Int32) (j6 : Int32) (j9 : Int32) (j10 : Int32) (j11 : Int32) (j13 : Int32) (j16 : Int32) (hj2 : j2 = (r_1 (1 : Int32) (p1 &&& (2147483647 : Int32)))) (hj6 : j6 = (r_4 j2)) (hj9 : j9 = ((p2 &&& (2147483647 : Int32)) % j2)) (hj10 : j10 = ((p3 &&& (2147483647 : Int32)) % j2)) (hj11 : j11 = (if j9 = j10 then ((j9 + (1 : Int32)) % j2) else j10)) (hj13 : j13 = (if j11 < j9 then j11 else (j11 - (1 : Int32)))) (hj16 : j16 = (if (r_5 j9 j13 j2) = j11 then (1 : Int32) else (0 : Int32))) (hhc6_14 : ¬ (j2 < (1 : Int32))) (hc28_1 : ¬ (j2 = (1 : Int32))) (hnz47 : ¬ (j2 = (0 : Int32))) (hc94_5 : j6 = (1 : Int32)) (hhhhhc1_3_5_3_103 : ¬ (j9 < (0 : Int32))) (hhhhhc6_3_5_3_103 : j9 < j2) (hhhhc1_3_6_103 : ¬ (j13 < (0 : Int32))) (hhhhc6_3_6_103 : j13 < (r_6 j9 j2)) : (nar .boolean j16) = 1 := by
  have a := own_pl_all p1 p2 p3 j2 j9 j10 j11 hj2 hj9 hj10 hj11 hc28_1
  have r2 := rng32 j2
  have s := own_pl_s j2 (by omega)
  have e13 := own_pl_k j9 j11 j13 (by omega) hj13
  have k0 : (0 : Int32).toInt = 0 := rfl
  have k1 : (1 : Int32).toInt = 1 := rfl
  have e5 := own_pl_r5 j9 j13 j2 (by split at e13 <;> omega)
  have q : r_5 j9 j13 j2 = j11 := by
    apply Int32.toInt_inj.mp
    rw [e5]
    split at e13 <;> split <;> omega
  rw [hj16, if_pos q]
  rfl
theorem own_no_ff (p1 : Int32) (j2 : Int32) (j6 : Int32) (hj2 : j2 = (r_1 (1 : Int32) (p1 &&& (2147483647 : Int32)))) (hj6 : j6 = (r_4 j2)) (hhc6_14 : ¬ (j2 < (1 : Int32))) (hc28_1 : ¬ (j2 = (1 : Int32))) (hnz47 : ¬ (j2 = (0 : Int32))) (hc94_5 : ¬ (j6 = (1 : Int32))) : False := by
  have a : 1 ≤ j2.toInt := by rw [hj2]; exact own_pl_a p1
  have k0 : (0 : Int32).toInt = 0 := rfl
  have k1 : (1 : Int32).toInt = 1 := rfl
  have e : j6 = (1 : Int32) := by
    rw [hj6, r_4, if_pos]
    rw [Int32.lt_iff_toInt_lt]
    rw [← Int32.toInt_inj] at hc28_1
    omega
  exact hc94_5 e
set_option maxRecDepth 65536 in
set_option maxHeartbeats 40000000 in
theorem rm0 (l : Launch) (Z : State) (a0 : Array Value) (hw : ∀ d ∈ tables_1, d.before a0 Z = true) (ws : List Jvm.Cond) (p1 : Int32) (p2 : Int32) (p3 : Int32) (h0 : Heap) (n0 : Nat) (Z0 : n0 ≤ h0.size) :
    MetFree l x (head1 (Jvm.Cond.code x code maxLocals ret :: ws) room_1) (fun a U => a = #[(.int p1), (.int p2), (.int p3)] ∧ Z.Warmed39 U.vm ∧ U.heap = h0) (fun _ _ _ _ _ => True) (fun _ U o U' => ∃ v L, o = .returned v ∧ Q0 Z p1 p2 p3 h0 n0 v U'.heap L ∧ FrameEnd U o U' L room_1.cells room_1.slots) := by
  refine MetFree.of_bodySF (plainFor_of_name pn_3) hisR ?_
  intro p e s m args below meth c s₁ Bd hml0 hP hK
  obtain ⟨rfl, hZ, hh⟩ := hP
  have hx := Bd.exec
  have hby := Bd.bytes
  have hml : c.maxLocals = 9 := hml0
  have hown : s.vm.findClass "com/example/firecrest/firecrest/network/CompleteDiameterPinLaw" = some m.cls := findClass_of_methodNamed Bd.named
  have hnm := (name_of_methodNamed Bd.named Bd.method).1
  have X0 : Stand p l e room_1 s m #[(.int p1), (.int p2), (.int p3)] below meth c s₁ [] 0 0 := Stand.of_body Bd
  have e0 : s₁.heap = h0 := by rw [← hh, Bd.state]; rfl
  have NN := Fr.nil n0
  have KK : Keep h0 h0 [] := Keep.refl h0 []
  refine own_start (ef_0 m p1 p2 p3) ?_
  refine own_go (T' := s₁) (g' := (mkF m 5 #[.val (.int p1), .val (.int p2), .val (.int p3), .unset, .unset, .unset, .unset, .unset, .unset] [(.int (p1 &&& (2147483647 : Int32))), (.int (1 : Int32))])) (fun t k => ?_) ?_
  · show Steps p.tables e below (s₁.setTop (mkF m 0 #[.val (.int p1), .val (.int p2), .val (.int p3), .unset, .unset, .unset, .unset, .unset, .unset] [])) _
    refine XS.iconst X0.here hx rfl (hb hby at_0) ?_
    show Steps p.tables e below (s₁.setTop (mkF m 1 #[.val (.int p1), .val (.int p2), .val (.int p3), .unset, .unset, .unset, .unset, .unset, .unset] [(.int (1 : Int32))])) _
    refine XS.iloadN X0.here hx rfl (hb hby at_1) rfl ?_
    show Steps p.tables e below (s₁.setTop (mkF m 2 #[.val (.int p1), .val (.int p2), .val (.int p3), .unset, .unset, .unset, .unset, .unset, .unset] [(.int p1), (.int (1 : Int32))])) _
    refine X0.ldcInt hx hown (mvT hZ (hw _ (List.mem_of_getElem? (i := 0) rfl))) (g := (mkF m 2 #[.val (.int p1), .val (.int p2), .val (.int p3), .unset, .unset, .unset, .unset, .unset, .unset] [(.int p1), (.int (1 : Int32))])) rfl (hb hby at_2) _ ?_
    show Steps p.tables e below (s₁.setTop (mkF m 4 #[.val (.int p1), .val (.int p2), .val (.int p3), .unset, .unset, .unset, .unset, .unset, .unset] [(.int (2147483647 : Int32)), (.int p1), (.int (1 : Int32))])) _
    refine XS.iand X0.here hx rfl (hb hby at_4) rfl ?_
    exact k
  obtain ⟨_, _, ⟨T1, L1, k1, n1⟩, -, X1, ⟨Lc1, hQ1, l1, y1, z1⟩, st1⟩ := Jvm.LawKit.callS X0 hx (y := (⟨"java/lang/Math", "max", "(II)I"⟩ : MethodName)) hown (mvT hZ (hw _ (List.mem_of_getElem? (i := 1) rfl))) (mvT hZ (hw _ (List.mem_of_getElem? (i := 2) rfl))) (mvT hZ (hw _ (List.mem_of_getElem? (i := 3) rfl))) (mvT hZ (hw _ (List.mem_of_getElem? (i := 4) rfl))) (by decide) (backOf (W := 0) (rm1 l Z a0 hw [] (1 : Int32) (p1 &&& (2147483647 : Int32)) h0 n0 Z0 ) hZ (hw _ (List.mem_of_getElem? (i := 4) rfl)) (hw _ (List.mem_of_getElem? (i := 3) rfl)) (by decide) (by decide)) (g := (mkF m 5 #[.val (.int p1), .val (.int p2), .val (.int p3), .unset, .unset, .unset, .unset, .unset, .unset] [(.int (p1 &&& (2147483647 : Int32))), (.int (1 : Int32))])) rfl (by rw [hml]; rfl) (argsL := [(.int (1 : Int32)), (.int (p1 &&& (2147483647 : Int32)))]) (rest := []) (lenOf pd_0 rfl) rfl (by show 2 * 0 + _ ≤ _; exact Nat.le_of_eq rfl) (hb hby at_5) (fun _ _ => ⟨rfl, e0, (by decide : 0 + 0 ≤ _), (by decide : 0 + 0 ≤ _)⟩)
  dsimp only [Pt.U, Pt.locs, Pt.cells, Pt.slots] at X1 l1 y1 z1 st1 hQ1
  subst l1 y1 z1
  obtain ⟨rfl, N1q, e1⟩ := hQ1
  have NN := Fr.app NN N1q
  refine own_go st1 ?_
  show own_Go p.tables e below _ T1 (mkF m 8 #[.val (.int p1), .val (.int p2), .val (.int p3), .unset, .unset, .unset, .unset, .unset, .unset] [(.int (r_1 (1 : Int32) (p1 &&& (2147483647 : Int32))))])
  refine own_go (T' := T1) (g' := (mkF m 9 #[.val (.int p1), .val (.int p2), .val (.int p3), .val (.int (r_1 (1 : Int32) (p1 &&& (2147483647 : Int32)))), .unset, .unset, .unset, .unset, .unset] [])) (fun t k => ?_) ?_
  · show Steps p.tables e below (T1.setTop (mkF m 8 #[.val (.int p1), .val (.int p2), .val (.int p3), .unset, .unset, .unset, .unset, .unset, .unset] [(.int (r_1 (1 : Int32) (p1 &&& (2147483647 : Int32))))])) _
    refine XS.istoreN X1.here hx rfl (hb hby at_8) rfl (l' := #[.val (.int p1), .val (.int p2), .val (.int p3), .val (.int (r_1 (1 : Int32) (p1 &&& (2147483647 : Int32)))), .unset, .unset, .unset, .unset, .unset]) rfl ?_
    exact k
  show own_Go p.tables e below _ T1 (mkF m 9 #[.val (.int p1), .val (.int p2), .val (.int p3), .val (.int (r_1 (1 : Int32) (p1 &&& (2147483647 : Int32)))), .unset, .unset, .unset, .unset, .unset] [])
  obtain ⟨j2, hj2⟩ : ∃ z : Int32, z = (r_1 (1 : Int32) (p1 &&& (2147483647 : Int32))) := ⟨_, rfl⟩
  rw [← hj2]
  show own_Go p.tables e below _ T1 (mkF m 9 #[.val (.int p1), .val (.int p2), .val (.int p3), .val (.int j2), .unset, .unset, .unset, .unset, .unset] [])
  obtain ⟨T3, h3, X3, e3, E3, A3, D3, -, st3⟩ := newO X1 hx hZ hown (hw _ (List.mem_of_getElem? (i := 5) rfl)) (hw _ (List.mem_of_getElem? (i := 6) rfl)) (hw _ (List.mem_of_getElem? (i := 7) rfl)) e1 (g := (mkF m 9 #[.val (.int p1), .val (.int p2), .val (.int p3), .val (.int j2), .unset, .unset, .unset, .unset, .unset] [])) rfl (hb hby at_9) (by decide) (by decide)
  obtain ⟨b3, g3⟩ : ∃ z, z = h0.size := ⟨_, rfl⟩
  rw [← g3] at A3 D3 st3
  have g_b3 : n0 ≤ b3 := Nat.le_trans Z0 (Nat.le_of_eq g3.symm)
  have sz_b3 : h0.size ≤ b3 := Nat.le_trans KK.1 (Nat.le_of_eq g3.symm)
  have Z0 := Nat.le_trans Z0 E3.1
  have KK := KK.ext E3
  have E_b3 := A3
  have F_b3_size : Fld Z h3 b3 "com/example/firecrest/firecrest/network/Complete" "size" "I" (.int (0 : Int32)) := D3 (Or.inr (hw _ (List.mem_of_getElem? (i := 15) rfl))) (ty := .int) (by decide)
  refine own_go st3 ?_
  show own_Go p.tables e below _ T3 (mkF m 12 #[.val (.int p1), .val (.int p2), .val (.int p3), .val (.int j2), .unset, .unset, .unset, .unset, .unset] [(.ref b3)])
  refine own_go (T' := T3) (g' := (mkF m 14 #[.val (.int p1), .val (.int p2), .val (.int p3), .val (.int j2), .unset, .unset, .unset, .unset, .unset] [(.int j2), (.ref b3), (.ref b3)])) (fun t k => ?_) ?_
  · show Steps p.tables e below (T3.setTop (mkF m 12 #[.val (.int p1), .val (.int p2), .val (.int p3), .val (.int j2), .unset, .unset, .unset, .unset, .unset] [(.ref b3)])) _
    refine XS.dup X3.here hx rfl (hb hby at_12) rfl rfl ?_
    show Steps p.tables e below (T3.setTop (mkF m 13 #[.val (.int p1), .val (.int p2), .val (.int p3), .val (.int j2), .unset, .unset, .unset, .unset, .unset] [(.ref b3), (.ref b3)])) _
    refine XS.iloadN X3.here hx rfl (hb hby at_13) rfl ?_
    exact k
  have hhc6_14 : ¬ (j2 < (1 : Int32)) := own_at_hhc6_14 p1 j2 hj2
  obtain ⟨_, _, ⟨T4, L4, k4, n4⟩, -, X4, ⟨Lc4, hQ4, l4, y4, z4⟩, st4⟩ := X3.specialBack hx (y := (⟨"com/example/firecrest/firecrest/network/Complete", "<init>", "(I)V"⟩ : MethodName)) rfl hown (mvT hZ (hw _ (List.mem_of_getElem? (i := 8) rfl))) (mvT hZ (hw _ (List.mem_of_getElem? (i := 9) rfl))) (mvT hZ (hw _ (List.mem_of_getElem? (i := 10) rfl))) (by decide) (backOf (W := 1) (rm2 l Z a0 hw [] b3 j2 (.int (0 : Int32)) h3 n0 Z0 hhc6_14 E_b3 F_b3_size g_b3) hZ (hw _ (List.mem_of_getElem? (i := 10) rfl)) (hw _ (List.mem_of_getElem? (i := 7) rfl)) (by decide) (by decide)) (g := (mkF m 14 #[.val (.int p1), .val (.int p2), .val (.int p3), .val (.int j2), .unset, .unset, .unset, .unset, .unset] [(.int j2), (.ref b3), (.ref b3)])) rfl (by rw [hml]; rfl) (Steps.refl _) (a := b3) (argsL := [(.int j2)]) (rest := [(.ref b3)]) (lenOf pd_1 rfl) rfl (by show 2 * 0 + _ ≤ _; exact Nat.le_of_eq rfl) (hb hby at_14) (fun _ _ => ⟨rfl, e3, (by decide : 1 + 0 ≤ _), (by decide : 1 + 0 ≤ _)⟩)
  dsimp only [Pt.U, Pt.locs, Pt.cells, Pt.slots] at X4 l4 y4 z4 st4 hQ4
  subst l4 y4 z4
  obtain ⟨rfl, N4q, K4, Q4_0, Q4_1⟩ := hQ4
  have E_b3 := Q4_0
  have F_b3_size := Q4_1
  have Z0 := Nat.le_trans Z0 K4.1
  have KK := KK.trans K4 (allS (Or.inr sz_b3) all0)
  have NN := Fr.app NN N4q
  refine own_go (fun t k => st4.trans k) ?_
  show own_Go p.tables e below _ T4 (mkF m 17 #[.val (.int p1), .val (.int p2), .val (.int p3), .val (.int j2), .unset, .unset, .unset, .unset, .unset] [(.ref b3)])
  refine own_go (T' := T4) (g' := (mkF m 21 #[.val (.int p1), .val (.int p2), .val (.int p3), .val (.int j2), .val (.ref b3), .unset, .unset, .unset, .unset] [(.ref b3)])) (fun t k => ?_) ?_
  · show Steps p.tables e below (T4.setTop (mkF m 17 #[.val (.int p1), .val (.int p2), .val (.int p3), .val (.int j2), .unset, .unset, .unset, .unset, .unset] [(.ref b3)])) _
    refine XS.astore X4.here hx rfl (hb hby at_17) rfl rfl (l' := #[.val (.int p1), .val (.int p2), .val (.int p3), .val (.int j2), .val (.ref b3), .unset, .unset, .unset, .unset]) rfl ?_
    show Steps p.tables e below (T4.setTop (mkF m 19 #[.val (.int p1), .val (.int p2), .val (.int p3), .val (.int j2), .val (.ref b3), .unset, .unset, .unset, .unset] [])) _
    refine XS.aload X4.here hx rfl (hb hby at_19) rfl rfl ?_
    exact k
  obtain ⟨cq5, kq5, q5a, q5b, q5c⟩ := isOf hZ rfl E_b3
  obtain ⟨_, _, ⟨T5, L5, k5, n5⟩, -, X5, ⟨Lc5, hQ5, l5, y5, z5⟩, st5⟩ := X4.virtualBack hx (y := (⟨"com/example/firecrest/firecrest/network/Complete", "diameter", "()I"⟩ : MethodName)) (z := (⟨"com/example/firecrest/firecrest/network/Complete", "diameter", "()I"⟩ : MethodName)) hown (mvT hZ (hw _ (List.mem_of_getElem? (i := 16) rfl))) (mvT hZ (hw _ (List.mem_of_getElem? (i := 17) rfl))) (notFace_of_selects (args := #[]) (mvT hZ (hw _ (List.mem_of_getElem? (i := 19) rfl)))) (mvT hZ (hw _ (List.mem_of_getElem? (i := 19) rfl))) (mvT hZ (hw _ (List.mem_of_getElem? (i := 18) rfl))) (by decide) (backOf (W := 0) (rm4 l Z a0 hw [] b3 j2 T4.heap n0 Z0 F_b3_size) hZ (hw _ (List.mem_of_getElem? (i := 20) rfl)) (hw _ (List.mem_of_getElem? (i := 7) rfl)) (by decide) (by decide)) q5a q5c (g := (mkF m 21 #[.val (.int p1), .val (.int p2), .val (.int p3), .val (.int j2), .val (.ref b3), .unset, .unset, .unset, .unset] [(.ref b3)])) rfl (by rw [hml]; rfl) (Steps.refl _) (argsL := []) (rest := []) (lenOf pd_3 rfl) rfl (by show 2 * 0 + _ ≤ _; exact Nat.le_of_eq rfl) (hb hby at_21) (fun _ _ => ⟨rfl, rfl, (by decide : 1 + 0 ≤ _), (by decide : 1 + 0 ≤ _)⟩)
  dsimp only [Pt.U, Pt.locs, Pt.cells, Pt.slots] at X5 l5 y5 z5 st5 hQ5
  subst l5 y5 z5
  obtain ⟨rfl, N5q, e5⟩ := hQ5
  have NN := Fr.app NN N5q
  refine own_go (fun t k => st5.trans k) ?_
  show own_Go p.tables e below _ T5 (mkF m 24 #[.val (.int p1), .val (.int p2), .val (.int p3), .val (.int j2), .val (.ref b3), .unset, .unset, .unset, .unset] [(.int (r_4 j2))])
  refine own_go (T' := T5) (g' := (mkF m 26 #[.val (.int p1), .val (.int p2), .val (.int p3), .val (.int j2), .val (.ref b3), .val (.int (r_4 j2)), .unset, .unset, .unset] [])) (fun t k => ?_) ?_
  · show Steps p.tables e below (T5.setTop (mkF m 24 #[.val (.int p1), .val (.int p2), .val (.int p3), .val (.int j2), .val (.ref b3), .unset, .unset, .unset, .unset] [(.int (r_4 j2))])) _
    refine XS.istore X5.here hx rfl (hb hby at_24) rfl (l' := #[.val (.int p1), .val (.int p2), .val (.int p3), .val (.int j2), .val (.ref b3), .val (.int (r_4 j2)), .unset, .unset, .unset]) rfl ?_
    exact k
  show own_Go p.tables e below _ T5 (mkF m 26 #[.val (.int p1), .val (.int p2), .val (.int p3), .val (.int j2), .val (.ref b3), .val (.int (r_4 j2)), .unset, .unset, .unset] [])
  obtain ⟨j6, hj6⟩ : ∃ z : Int32, z = (r_4 j2) := ⟨_, rfl⟩
  rw [← hj6]
  show own_Go p.tables e below _ T5 (mkF m 26 #[.val (.int p1), .val (.int p2), .val (.int p3), .val (.int j2), .val (.ref b3), .val (.int j6), .unset, .unset, .unset] [])
  refine own_go (T' := T5) (g' := (mkF m 28 #[.val (.int p1), .val (.int p2), .val (.int p3), .val (.int j2), .val (.ref b3), .val (.int j6), .unset, .unset, .unset] [(.int (1 : Int32)), (.int j2)])) (fun t k => ?_) ?_
  · show Steps p.tables e below (T5.setTop (mkF m 26 #[.val (.int p1), .val (.int p2), .val (.int p3), .val (.int j2), .val (.ref b3), .val (.int j6), .unset, .unset, .unset] [])) _
    refine XS.iloadN X5.here hx rfl (hb hby at_26) rfl ?_
    show Steps p.tables e below (T5.setTop (mkF m 27 #[.val (.int p1), .val (.int p2), .val (.int p3), .val (.int j2), .val (.ref b3), .val (.int j6), .unset, .unset, .unset] [(.int j2)])) _
    refine XS.iconst X5.here hx rfl (hb hby at_27) ?_
    exact k
  by_cases hc28_1 : j2 = (1 : Int32)
  · skip
    refine own_go (T' := T5) (g' := (mkF m 33 #[.val (.int p1), .val (.int p2), .val (.int p3), .val (.int j2), .val (.ref b3), .val (.int j6), .unset, .unset, .unset] [(.int j6)])) (fun t k => ?_) ?_
    · show Steps p.tables e below (T5.setTop (mkF m 28 #[.val (.int p1), .val (.int p2), .val (.int p3), .val (.int j2), .val (.ref b3), .val (.int j6), .unset, .unset, .unset] [(.int (1 : Int32)), (.int j2)])) _
      refine XS.icmpNo X5.here hx rfl (hb hby at_28) rfl (teq hc28_1).2 ?_
      show Steps p.tables e below (T5.setTop (mkF m 31 #[.val (.int p1), .val (.int p2), .val (.int p3), .val (.int j2), .val (.ref b3), .val (.int j6), .unset, .unset, .unset] [])) _
      refine XS.iload X5.here hx rfl (hb hby at_31) rfl ?_
      exact k
    obtain ⟨j7, hj7, st8⟩ : ∃ (j7 : Int32), j7 = (if j6 = (0 : Int32) then (1 : Int32) else (0 : Int32)) ∧ ∀ t, Steps p.tables e below (T5.setTop (mkF m 41 #[.val (.int p1), .val (.int p2), .val (.int p3), .val (.int j2), .val (.ref b3), .val (.int j6), .unset, .unset, .unset] [(.int j7)])) t → Steps p.tables e below (T5.setTop (mkF m 33 #[.val (.int p1), .val (.int p2), .val (.int p3), .val (.int j2), .val (.ref b3), .val (.int j6), .unset, .unset, .unset] [(.int j6)])) t := by
      by_cases hc33_2 : j6 = (0 : Int32)
      · skip
        refine ⟨(1 : Int32), (by simp only [if_pos hc33_2]), fun t k => ?_⟩
        show Steps p.tables e below (T5.setTop (mkF m 33 #[.val (.int p1), .val (.int p2), .val (.int p3), .val (.int j2), .val (.ref b3), .val (.int j6), .unset, .unset, .unset] [(.int j6)])) _
        refine XS.ifNo X5.here hx rfl (hb hby at_33) rfl ((if0 _ _).trans (teq hc33_2).2) ?_
        show Steps p.tables e below (T5.setTop (mkF m 36 #[.val (.int p1), .val (.int p2), .val (.int p3), .val (.int j2), .val (.ref b3), .val (.int j6), .unset, .unset, .unset] [])) _
        refine XS.iconst X5.here hx rfl (hb hby at_36) ?_
        show Steps p.tables e below (T5.setTop (mkF m 37 #[.val (.int p1), .val (.int p2), .val (.int p3), .val (.int j2), .val (.ref b3), .val (.int j6), .unset, .unset, .unset] [(.int (1 : Int32))])) _
        refine XS.goto X5.here hx rfl (pc0 := 37) (pc' := 41) rfl (hb hby at_37) (by decide) (by decide) ?_
        exact k
      · skip
        refine ⟨(0 : Int32), (by simp only [if_neg hc33_2]), fun t k => ?_⟩
        show Steps p.tables e below (T5.setTop (mkF m 33 #[.val (.int p1), .val (.int p2), .val (.int p3), .val (.int j2), .val (.ref b3), .val (.int j6), .unset, .unset, .unset] [(.int j6)])) _
        refine XS.ifYes X5.here hx rfl (pc0 := 33) (pc' := 40) rfl (hb hby at_33) rfl ((if0 _ _).trans (feq hc33_2).2) (by decide) (by decide) ?_
        show Steps p.tables e below (T5.setTop (mkF m 40 #[.val (.int p1), .val (.int p2), .val (.int p3), .val (.int j2), .val (.ref b3), .val (.int j6), .unset, .unset, .unset] [])) _
        refine XS.iconst X5.here hx rfl (hb hby at_40) ?_
        exact k
    refine own_go st8 ?_
    show own_Go p.tables e below _ T5 (mkF m 41 #[.val (.int p1), .val (.int p2), .val (.int p3), .val (.int j2), .val (.ref b3), .val (.int j6), .unset, .unset, .unset] [(.int j7)])
    have hv1 : (nar .boolean j7) = 1 := own_yes_t p1 j2 j6 j7 hj2 hj6 hj7 hhc6_14 hc28_1
    obtain ⟨fs, hr, hrun, hended, hW, hsame⟩ := X5.leave (v := some (.int (nar .boolean j7))) (fun h => by rw [Bd.returns] at h; cases h)
    refine ⟨_, _, ?_, hrun, hended, _, _, rfl, ?_, ⟨_, rfl⟩, hW, hsame.mono (by decide) (by decide)⟩
    · exact retN X5 hx (t := .boolean) Bd.returns (by simp) (hb hby at_41) hr
    · show Q0 Z p1 p2 p3 h0 n0 _ _ _
      exact ⟨by rw [hv1], NN⟩
  · skip
    refine own_go (T' := T5) (g' := (mkF m 47 #[.val (.int p1), .val (.int p2), .val (.int p3), .val (.int j2), .val (.ref b3), .val (.int j6), .unset, .unset, .unset] [(.int j2), (.int (p2 &&& (2147483647 : Int32)))])) (fun t k => ?_) ?_
    · show Steps p.tables e below (T5.setTop (mkF m 28 #[.val (.int p1), .val (.int p2), .val (.int p3), .val (.int j2), .val (.ref b3), .val (.int j6), .unset, .unset, .unset] [(.int (1 : Int32)), (.int j2)])) _
      refine XS.icmpYes X5.here hx rfl (pc0 := 28) (pc' := 42) rfl (hb hby at_28) rfl (feq hc28_1).2 (by decide) (by decide) ?_
      show Steps p.tables e below (T5.setTop (mkF m 42 #[.val (.int p1), .val (.int p2), .val (.int p3), .val (.int j2), .val (.ref b3), .val (.int j6), .unset, .unset, .unset] [])) _
      refine XS.iloadN X5.here hx rfl (hb hby at_42) rfl ?_
      show Steps p.tables e below (T5.setTop (mkF m 43 #[.val (.int p1), .val (.int p2), .val (.int p3), .val (.int j2), .val (.ref b3), .val (.int j6), .unset, .unset, .unset] [(.int p2)])) _
      refine X5.ldcInt hx hown (mvT hZ (hw _ (List.mem_of_getElem? (i := 0) rfl))) (g := (mkF m 43 #[.val (.int p1), .val (.int p2), .val (.int p3), .val (.int j2), .val (.ref b3), .val (.int j6), .unset, .unset, .unset] [(.int p2)])) rfl (hb hby at_43) _ ?_
      show Steps p.tables e below (T5.setTop (mkF m 45 #[.val (.int p1), .val (.int p2), .val (.int p3), .val (.int j2), .val (.ref b3), .val (.int j6), .unset, .unset, .unset] [(.int (2147483647 : Int32)), (.int p2)])) _
      refine XS.iand X5.here hx rfl (hb hby at_45) rfl ?_
      show Steps p.tables e below (T5.setTop (mkF m 46 #[.val (.int p1), .val (.int p2), .val (.int p3), .val (.int j2), .val (.ref b3), .val (.int j6), .unset, .unset, .unset] [(.int (p2 &&& (2147483647 : Int32)))])) _
      refine XS.iloadN X5.here hx rfl (hb hby at_46) rfl ?_
      exact k
    have hnz47 : ¬ (j2 = (0 : Int32)) := own_at_hnz47_f p1 j2 hj2 hhc6_14 hc28_1
    refine own_go (T' := T5) (g' := (mkF m 50 #[.val (.int p1), .val (.int p2), .val (.int p3), .val (.int j2), .val (.ref b3), .val (.int j6), .val (.int ((p2 &&& (2147483647 : Int32)) % j2)), .unset, .unset] [])) (fun t k => ?_) ?_
    · show Steps p.tables e below (T5.setTop (mkF m 47 #[.val (.int p1), .val (.int p2), .val (.int p3), .val (.int j2), .val (.ref b3), .val (.int j6), .unset, .unset, .unset] [(.int j2), (.int (p2 &&& (2147483647 : Int32)))])) _
      refine iremM X5 hx rfl (hb hby at_47) rfl hnz47 ?_
      show Steps p.tables e below (T5.setTop (mkF m 48 #[.val (.int p1), .val (.int p2), .val (.int p3), .val (.int j2), .val (.ref b3), .val (.int j6), .unset, .unset, .unset] [(.int ((p2 &&& (2147483647 : Int32)) % j2))])) _
      refine XS.istore X5.here hx rfl (hb hby at_48) rfl (l' := #[.val (.int p1), .val (.int p2), .val (.int p3), .val (.int j2), .val (.ref b3), .val (.int j6), .val (.int ((p2 &&& (2147483647 : Int32)) % j2)), .unset, .unset]) rfl ?_
      exact k
    show own_Go p.tables e below _ T5 (mkF m 50 #[.val (.int p1), .val (.int p2), .val (.int p3), .val (.int j2), .val (.ref b3), .val (.int j6), .val (.int ((p2 &&& (2147483647 : Int32)) % j2)), .unset, .unset] [])
    obtain ⟨j9, hj9⟩ : ∃ z : Int32, z = ((p2 &&& (2147483647 : Int32)) % j2) := ⟨_, rfl⟩
    rw [← hj9]
    show own_Go p.tables e below _ T5 (mkF m 50 #[.val (.int p1), .val (.int p2), .val (.int p3), .val (.int j2), .val (.ref b3), .val (.int j6), .val (.int j9), .unset, .unset] [])
    refine own_go (T' := T5) (g' := (mkF m 55 #[.val (.int p1), .val (.int p2), .val (.int p3), .val (.int j2), .val (.ref b3), .val (.int j6), .val (.int j9), .unset, .unset] [(.int j2), (.int (p3 &&& (2147483647 : Int32)))])) (fun t k => ?_) ?_
    · show Steps p.tables e below (T5.setTop (mkF m 50 #[.val (.int p1), .val (.int p2), .val (.int p3), .val (.int j2), .val (.ref b3), .val (.int j6), .val (.int j9), .unset, .unset] [])) _
      refine XS.iloadN X5.here hx rfl (hb hby at_50) rfl ?_
      show Steps p.tables e below (T5.setTop (mkF m 51 #[.val (.int p1), .val (.int p2), .val (.int p3), .val (.int j2), .val (.ref b3), .val (.int j6), .val (.int j9), .unset, .unset] [(.int p3)])) _
      refine X5.ldcInt hx hown (mvT hZ (hw _ (List.mem_of_getElem? (i := 0) rfl))) (g := (mkF m 51 #[.val (.int p1), .val (.int p2), .val (.int p3), .val (.int j2), .val (.ref b3), .val (.int j6), .val (.int j9), .unset, .unset] [(.int p3)])) rfl (hb hby at_51) _ ?_
      show Steps p.tables e below (T5.setTop (mkF m 53 #[.val (.int p1), .val (.int p2), .val (.int p3), .val (.int j2), .val (.ref b3), .val (.int j6), .val (.int j9), .unset, .unset] [(.int (2147483647 : Int32)), (.int p3)])) _
      refine XS.iand X5.here hx rfl (hb hby at_53) rfl ?_
      show Steps p.tables e below (T5.setTop (mkF m 54 #[.val (.int p1), .val (.int p2), .val (.int p3), .val (.int j2), .val (.ref b3), .val (.int j6), .val (.int j9), .unset, .unset] [(.int (p3 &&& (2147483647 : Int32)))])) _
      refine XS.iloadN X5.here hx rfl (hb hby at_54) rfl ?_
      exact k
    refine own_go (T' := T5) (g' := (mkF m 58 #[.val (.int p1), .val (.int p2), .val (.int p3), .val (.int j2), .val (.ref b3), .val (.int j6), .val (.int j9), .val (.int ((p3 &&& (2147483647 : Int32)) % j2)), .unset] [])) (fun t k => ?_) ?_
    · show Steps p.tables e below (T5.setTop (mkF m 55 #[.val (.int p1), .val (.int p2), .val (.int p3), .val (.int j2), .val (.ref b3), .val (.int j6), .val (.int j9), .unset, .unset] [(.int j2), (.int (p3 &&& (2147483647 : Int32)))])) _
      refine iremM X5 hx rfl (hb hby at_55) rfl hnz47 ?_
      show Steps p.tables e below (T5.setTop (mkF m 56 #[.val (.int p1), .val (.int p2), .val (.int p3), .val (.int j2), .val (.ref b3), .val (.int j6), .val (.int j9), .unset, .unset] [(.int ((p3 &&& (2147483647 : Int32)) % j2))])) _
      refine XS.istore X5.here hx rfl (hb hby at_56) rfl (l' := #[.val (.int p1), .val (.int p2), .val (.int p3), .val (.int j2), .val (.ref b3), .val (.int j6), .val (.int j9), .val (.int ((p3 &&& (2147483647 : Int32)) % j2)), .unset]) rfl ?_
      exact k
    show own_Go p.tables e below _ T5 (mkF m 58 #[.val (.int p1), .val (.int p2), .val (.int p3), .val (.int j2), .val (.ref b3), .val (.int j6), .val (.int j9), .val (.int ((p3 &&& (2147483647 : Int32)) % j2)), .unset] [])
    obtain ⟨j10, hj10⟩ : ∃ z : Int32, z = ((p3 &&& (2147483647 : Int32)) % j2) := ⟨_, rfl⟩
    rw [← hj10]
    show own_Go p.tables e below _ T5 (mkF m 58 #[.val (.int p1), .val (.int p2), .val (.int p3), .val (.int j2), .val (.ref b3), .val (.int j6), .val (.int j9), .val (.int j10), .unset] [])
    refine own_go (T' := T5) (g' := (mkF m 62 #[.val (.int p1), .val (.int p2), .val (.int p3), .val (.int j2), .val (.ref b3), .val (.int j6), .val (.int j9), .val (.int j10), .unset] [(.int j10), (.int j9)])) (fun t k => ?_) ?_
    · show Steps p.tables e below (T5.setTop (mkF m 58 #[.val (.int p1), .val (.int p2), .val (.int p3), .val (.int j2), .val (.ref b3), .val (.int j6), .val (.int j9), .val (.int j10), .unset] [])) _
      refine XS.iload X5.here hx rfl (hb hby at_58) rfl ?_
      show Steps p.tables e below (T5.setTop (mkF m 60 #[.val (.int p1), .val (.int p2), .val (.int p3), .val (.int j2), .val (.ref b3), .val (.int j6), .val (.int j9), .val (.int j10), .unset] [(.int j9)])) _
      refine XS.iload X5.here hx rfl (hb hby at_60) rfl ?_
      exact k
    obtain ⟨j11, hj11, st12⟩ : ∃ (j11 : Int32), j11 = (if j9 = j10 then ((j9 + (1 : Int32)) % j2) else j10) ∧ ∀ t, Steps p.tables e below (T5.setTop (mkF m 73 #[.val (.int p1), .val (.int p2), .val (.int p3), .val (.int j2), .val (.ref b3), .val (.int j6), .val (.int j9), .val (.int j11), .unset] [])) t → Steps p.tables e below (T5.setTop (mkF m 62 #[.val (.int p1), .val (.int p2), .val (.int p3), .val (.int j2), .val (.ref b3), .val (.int j6), .val (.int j9), .val (.int j10), .unset] [(.int j10), (.int j9)])) t := by
      by_cases hc62_3 : j9 = j10
      · skip
        refine ⟨((j9 + (1 : Int32)) % j2), (by simp only [if_pos hc62_3]), fun t k => ?_⟩
        show Steps p.tables e below (T5.setTop (mkF m 62 #[.val (.int p1), .val (.int p2), .val (.int p3), .val (.int j2), .val (.ref b3), .val (.int j6), .val (.int j9), .val (.int j10), .unset] [(.int j10), (.int j9)])) _
        refine XS.icmpNo X5.here hx rfl (hb hby at_62) rfl (teq hc62_3).2 ?_
        show Steps p.tables e below (T5.setTop (mkF m 65 #[.val (.int p1), .val (.int p2), .val (.int p3), .val (.int j2), .val (.ref b3), .val (.int j6), .val (.int j9), .val (.int j10), .unset] [])) _
        refine XS.iload X5.here hx rfl (hb hby at_65) rfl ?_
        show Steps p.tables e below (T5.setTop (mkF m 67 #[.val (.int p1), .val (.int p2), .val (.int p3), .val (.int j2), .val (.ref b3), .val (.int j6), .val (.int j9), .val (.int j10), .unset] [(.int j9)])) _
        refine XS.iconst X5.here hx rfl (hb hby at_67) ?_
        show Steps p.tables e below (T5.setTop (mkF m 68 #[.val (.int p1), .val (.int p2), .val (.int p3), .val (.int j2), .val (.ref b3), .val (.int j6), .val (.int j9), .val (.int j10), .unset] [(.int (1 : Int32)), (.int j9)])) _
        refine XS.iadd X5.here hx rfl (hb hby at_68) rfl ?_
        show Steps p.tables e below (T5.setTop (mkF m 69 #[.val (.int p1), .val (.int p2), .val (.int p3), .val (.int j2), .val (.ref b3), .val (.int j6), .val (.int j9), .val (.int j10), .unset] [(.int (j9 + (1 : Int32)))])) _
        refine XS.iloadN X5.here hx rfl (hb hby at_69) rfl ?_
        show Steps p.tables e below (T5.setTop (mkF m 70 #[.val (.int p1), .val (.int p2), .val (.int p3), .val (.int j2), .val (.ref b3), .val (.int j6), .val (.int j9), .val (.int j10), .unset] [(.int j2), (.int (j9 + (1 : Int32)))])) _
        refine iremM X5 hx rfl (hb hby at_70) rfl hnz47 ?_
        show Steps p.tables e below (T5.setTop (mkF m 71 #[.val (.int p1), .val (.int p2), .val (.int p3), .val (.int j2), .val (.ref b3), .val (.int j6), .val (.int j9), .val (.int j10), .unset] [(.int ((j9 + (1 : Int32)) % j2))])) _
        refine XS.istore X5.here hx rfl (hb hby at_71) rfl (l' := #[.val (.int p1), .val (.int p2), .val (.int p3), .val (.int j2), .val (.ref b3), .val (.int j6), .val (.int j9), .val (.int ((j9 + (1 : Int32)) % j2)), .unset]) rfl ?_
        exact k
      · skip
        refine ⟨j10, (by simp only [if_neg hc62_3]), fun t k => ?_⟩
        show Steps p.tables e below (T5.setTop (mkF m 62 #[.val (.int p1), .val (.int p2), .val (.int p3), .val (.int j2), .val (.ref b3), .val (.int j6), .val (.int j9), .val (.int j10), .unset] [(.int j10), (.int j9)])) _
        refine XS.icmpYes X5.here hx rfl (pc0 := 62) (pc' := 73) rfl (hb hby at_62) rfl (feq hc62_3).2 (by decide) (by decide) ?_
        exact k
    refine own_go st12 ?_
    show own_Go p.tables e below _ T5 (mkF m 73 #[.val (.int p1), .val (.int p2), .val (.int p3), .val (.int j2), .val (.ref b3), .val (.int j6), .val (.int j9), .val (.int j11), .unset] [])
    refine own_go (T' := T5) (g' := (mkF m 77 #[.val (.int p1), .val (.int p2), .val (.int p3), .val (.int j2), .val (.ref b3), .val (.int j6), .val (.int j9), .val (.int j11), .unset] [(.int j9), (.int j11)])) (fun t k => ?_) ?_
    · show Steps p.tables e below (T5.setTop (mkF m 73 #[.val (.int p1), .val (.int p2), .val (.int p3), .val (.int j2), .val (.ref b3), .val (.int j6), .val (.int j9), .val (.int j11), .unset] [])) _
      refine XS.iload X5.here hx rfl (hb hby at_73) rfl ?_
      show Steps p.tables e below (T5.setTop (mkF m 75 #[.val (.int p1), .val (.int p2), .val (.int p3), .val (.int j2), .val (.ref b3), .val (.int j6), .val (.int j9), .val (.int j11), .unset] [(.int j11)])) _
      refine XS.iload X5.here hx rfl (hb hby at_75) rfl ?_
      exact k
    obtain ⟨j13, hj13, st14⟩ : ∃ (j13 : Int32), j13 = (if j11 < j9 then j11 else (j11 - (1 : Int32))) ∧ ∀ t, Steps p.tables e below (T5.setTop (mkF m 89 #[.val (.int p1), .val (.int p2), .val (.int p3), .val (.int j2), .val (.ref b3), .val (.int j6), .val (.int j9), .val (.int j11), .unset] [(.int j13)])) t → Steps p.tables e below (T5.setTop (mkF m 77 #[.val (.int p1), .val (.int p2), .val (.int p3), .val (.int j2), .val (.ref b3), .val (.int j6), .val (.int j9), .val (.int j11), .unset] [(.int j9), (.int j11)])) t := by
      by_cases hc77_4 : j11 < j9
      · skip
        refine ⟨j11, (by simp only [if_pos hc77_4]), fun t k => ?_⟩
        show Steps p.tables e below (T5.setTop (mkF m 77 #[.val (.int p1), .val (.int p2), .val (.int p3), .val (.int j2), .val (.ref b3), .val (.int j6), .val (.int j9), .val (.int j11), .unset] [(.int j9), (.int j11)])) _
        refine XS.icmpNo X5.here hx rfl (hb hby at_77) rfl (tlt hc77_4).2.1 ?_
        show Steps p.tables e below (T5.setTop (mkF m 80 #[.val (.int p1), .val (.int p2), .val (.int p3), .val (.int j2), .val (.ref b3), .val (.int j6), .val (.int j9), .val (.int j11), .unset] [])) _
        refine XS.iload X5.here hx rfl (hb hby at_80) rfl ?_
        show Steps p.tables e below (T5.setTop (mkF m 82 #[.val (.int p1), .val (.int p2), .val (.int p3), .val (.int j2), .val (.ref b3), .val (.int j6), .val (.int j9), .val (.int j11), .unset] [(.int j11)])) _
        refine XS.goto X5.here hx rfl (pc0 := 82) (pc' := 89) rfl (hb hby at_82) (by decide) (by decide) ?_
        exact k
      · skip
        refine ⟨(j11 - (1 : Int32)), (by simp only [if_neg hc77_4]), fun t k => ?_⟩
        show Steps p.tables e below (T5.setTop (mkF m 77 #[.val (.int p1), .val (.int p2), .val (.int p3), .val (.int j2), .val (.ref b3), .val (.int j6), .val (.int j9), .val (.int j11), .unset] [(.int j9), (.int j11)])) _
        refine XS.icmpYes X5.here hx rfl (pc0 := 77) (pc' := 85) rfl (hb hby at_77) rfl (flt hc77_4).2.1 (by decide) (by decide) ?_
        show Steps p.tables e below (T5.setTop (mkF m 85 #[.val (.int p1), .val (.int p2), .val (.int p3), .val (.int j2), .val (.ref b3), .val (.int j6), .val (.int j9), .val (.int j11), .unset] [])) _
        refine XS.iload X5.here hx rfl (hb hby at_85) rfl ?_
        show Steps p.tables e below (T5.setTop (mkF m 87 #[.val (.int p1), .val (.int p2), .val (.int p3), .val (.int j2), .val (.ref b3), .val (.int j6), .val (.int j9), .val (.int j11), .unset] [(.int j11)])) _
        refine XS.iconst X5.here hx rfl (hb hby at_87) ?_
        show Steps p.tables e below (T5.setTop (mkF m 88 #[.val (.int p1), .val (.int p2), .val (.int p3), .val (.int j2), .val (.ref b3), .val (.int j6), .val (.int j9), .val (.int j11), .unset] [(.int (1 : Int32)), (.int j11)])) _
        refine XS.isub X5.here hx rfl (hb hby at_88) rfl ?_
        exact k
    refine own_go st14 ?_
    show own_Go p.tables e below _ T5 (mkF m 89 #[.val (.int p1), .val (.int p2), .val (.int p3), .val (.int j2), .val (.ref b3), .val (.int j6), .val (.int j9), .val (.int j11), .unset] [(.int j13)])
    refine own_go (T' := T5) (g' := (mkF m 94 #[.val (.int p1), .val (.int p2), .val (.int p3), .val (.int j2), .val (.ref b3), .val (.int j6), .val (.int j9), .val (.int j11), .val (.int j13)] [(.int (1 : Int32)), (.int j6)])) (fun t k => ?_) ?_
    · show Steps p.tables e below (T5.setTop (mkF m 89 #[.val (.int p1), .val (.int p2), .val (.int p3), .val (.int j2), .val (.ref b3), .val (.int j6), .val (.int j9), .val (.int j11), .unset] [(.int j13)])) _
      refine XS.istore X5.here hx rfl (hb hby at_89) rfl (l' := #[.val (.int p1), .val (.int p2), .val (.int p3), .val (.int j2), .val (.ref b3), .val (.int j6), .val (.int j9), .val (.int j11), .val (.int j13)]) rfl ?_
      show Steps p.tables e below (T5.setTop (mkF m 91 #[.val (.int p1), .val (.int p2), .val (.int p3), .val (.int j2), .val (.ref b3), .val (.int j6), .val (.int j9), .val (.int j11), .val (.int j13)] [])) _
      refine XS.iload X5.here hx rfl (hb hby at_91) rfl ?_
      show Steps p.tables e below (T5.setTop (mkF m 93 #[.val (.int p1), .val (.int p2), .val (.int p3), .val (.int j2), .val (.ref b3), .val (.int j6), .val (.int j9), .val (.int j11), .val (.int j13)] [(.int j6)])) _
      refine XS.iconst X5.here hx rfl (hb hby at_93) ?_
      exact k
    by_cases hc94_5 : j6 = (1 : Int32)
    · skip
      refine own_go (T' := T5) (g' := (mkF m 103 #[.val (.int p1), .val (.int p2), .val (.int p3), .val (.int j2), .val (.ref b3), .val (.int j6), .val (.int j9), .val (.int j11), .val (.int j13)] [(.int j13), (.int j9), (.ref b3)])) (fun t k => ?_) ?_
      · show Steps p.tables e below (T5.setTop (mkF m 94 #[.val (.int p1), .val (.int p2), .val (.int p3), .val (.int j2), .val (.ref b3), .val (.int j6), .val (.int j9), .val (.int j11), .val (.int j13)] [(.int (1 : Int32)), (.int j6)])) _
        refine XS.icmpNo X5.here hx rfl (hb hby at_94) rfl (teq hc94_5).2 ?_
        show Steps p.tables e below (T5.setTop (mkF m 97 #[.val (.int p1), .val (.int p2), .val (.int p3), .val (.int j2), .val (.ref b3), .val (.int j6), .val (.int j9), .val (.int j11), .val (.int j13)] [])) _
        refine XS.aload X5.here hx rfl (hb hby at_97) rfl rfl ?_
        show Steps p.tables e below (T5.setTop (mkF m 99 #[.val (.int p1), .val (.int p2), .val (.int p3), .val (.int j2), .val (.ref b3), .val (.int j6), .val (.int j9), .val (.int j11), .val (.int j13)] [(.ref b3)])) _
        refine XS.iload X5.here hx rfl (hb hby at_99) rfl ?_
        show Steps p.tables e below (T5.setTop (mkF m 101 #[.val (.int p1), .val (.int p2), .val (.int p3), .val (.int j2), .val (.ref b3), .val (.int j6), .val (.int j9), .val (.int j11), .val (.int j13)] [(.int j9), (.ref b3)])) _
        refine XS.iload X5.here hx rfl (hb hby at_101) rfl ?_
        exact k
      have hhhhhc1_3_5_3_103 : ¬ (j9 < (0 : Int32)) := own_at_hhhhhc1_3_5_3_103_ft p1 p2 j2 j6 j9 hj2 hj6 hj9 hhc6_14 hc28_1 hnz47 hc94_5
      have hhhhhc6_3_5_3_103 : j9 < j2 := own_at_hhhhhc6_3_5_3_103_ft p1 p2 j2 j6 j9 hj2 hj6 hj9 hhc6_14 hc28_1 hnz47 hc94_5 hhhhhc1_3_5_3_103
      have hhhhc1_3_6_103 : ¬ (j13 < (0 : Int32)) := own_at_hhhhc1_3_6_103_ft p1 p2 p3 j2 j6 j9 j10 j11 j13 hj2 hj6 hj9 hj10 hj11 hj13 hhc6_14 hc28_1 hnz47 hc94_5 hhhhhc1_3_5_3_103 hhhhhc6_3_5_3_103
      have hhhhc6_3_6_103 : j13 < (r_6 j9 j2) := own_at_hhhhc6_3_6_103_ft p1 p2 p3 j2 j6 j9 j10 j11 j13 hj2 hj6 hj9 hj10 hj11 hj13 hhc6_14 hc28_1 hnz47 hc94_5 hhhhhc1_3_5_3_103 hhhhhc6_3_5_3_103 hhhhc1_3_6_103
      obtain ⟨cq15, kq15, q15a, q15b, q15c⟩ := isOf hZ e5 E_b3
      obtain ⟨_, _, ⟨T15, L15, k15, n15⟩, -, X15, ⟨Lc15, hQ15, l15, y15, z15⟩, st15⟩ := X5.virtualBack hx (y := (⟨"com/example/firecrest/firecrest/network/Complete", "neighbour", "(II)I"⟩ : MethodName)) (z := (⟨"com/example/firecrest/firecrest/network/Complete", "neighbour", "(II)I"⟩ : MethodName)) hown (mvT hZ (hw _ (List.mem_of_getElem? (i := 21) rfl))) (mvT hZ (hw _ (List.mem_of_getElem? (i := 22) rfl))) (notFace_of_selects (args := #[]) (mvT hZ (hw _ (List.mem_of_getElem? (i := 24) rfl)))) (mvT hZ (hw _ (List.mem_of_getElem? (i := 24) rfl))) (mvT hZ (hw _ (List.mem_of_getElem? (i := 23) rfl))) (by decide) (backOf (W := 0) (rm5 l Z a0 hw [] b3 j9 j13 j2 T4.heap n0 Z0 F_b3_size hhhhhc1_3_5_3_103 hhhhhc6_3_5_3_103 E_b3 hhhhc1_3_6_103 hhhhc6_3_6_103) hZ (hw _ (List.mem_of_getElem? (i := 25) rfl)) (hw _ (List.mem_of_getElem? (i := 7) rfl)) (by decide) (by decide)) q15a q15c (g := (mkF m 103 #[.val (.int p1), .val (.int p2), .val (.int p3), .val (.int j2), .val (.ref b3), .val (.int j6), .val (.int j9), .val (.int j11), .val (.int j13)] [(.int j13), (.int j9), (.ref b3)])) rfl (by rw [hml]; rfl) (Steps.refl _) (argsL := [(.int j9), (.int j13)]) (rest := []) (lenOf pd_0 rfl) rfl (by show 2 * 0 + _ ≤ _; exact Nat.le_of_eq rfl) (hb hby at_103) (fun _ _ => ⟨rfl, e5, (by decide : 1 + 0 ≤ _), (by decide : 1 + 0 ≤ _)⟩)
      dsimp only [Pt.U, Pt.locs, Pt.cells, Pt.slots] at X15 l15 y15 z15 st15 hQ15
      subst l15 y15 z15
      obtain ⟨rfl, N15q, e15⟩ := hQ15
      have NN := Fr.app NN N15q
      refine own_go (fun t k => st15.trans k) ?_
      show own_Go p.tables e below _ T15 (mkF m 106 #[.val (.int p1), .val (.int p2), .val (.int p3), .val (.int j2), .val (.ref b3), .val (.int j6), .val (.int j9), .val (.int j11), .val (.int j13)] [(.int (r_5 j9 j13 j2))])
      refine own_go (T' := T15) (g' := (mkF m 108 #[.val (.int p1), .val (.int p2), .val (.int p3), .val (.int j2), .val (.ref b3), .val (.int j6), .val (.int j9), .val (.int j11), .val (.int j13)] [(.int j11), (.int (r_5 j9 j13 j2))])) (fun t k => ?_) ?_
      · show Steps p.tables e below (T15.setTop (mkF m 106 #[.val (.int p1), .val (.int p2), .val (.int p3), .val (.int j2), .val (.ref b3), .val (.int j6), .val (.int j9), .val (.int j11), .val (.int j13)] [(.int (r_5 j9 j13 j2))])) _
        refine XS.iload X15.here hx rfl (hb hby at_106) rfl ?_
        exact k
      obtain ⟨j16, hj16, st17⟩ : ∃ (j16 : Int32), j16 = (if (r_5 j9 j13 j2) = j11 then (1 : Int32) else (0 : Int32)) ∧ ∀ t, Steps p.tables e below (T15.setTop (mkF m 116 #[.val (.int p1), .val (.int p2), .val (.int p3), .val (.int j2), .val (.ref b3), .val (.int j6), .val (.int j9), .val (.int j11), .val (.int j13)] [(.int j16)])) t → Steps p.tables e below (T15.setTop (mkF m 108 #[.val (.int p1), .val (.int p2), .val (.int p3), .val (.int j2), .val (.ref b3), .val (.int j6), .val (.int j9), .val (.int j11), .val (.int j13)] [(.int j11), (.int (r_5 j9 j13 j2))])) t := by
        by_cases hc108_6 : (r_5 j9 j13 j2) = j11
        · skip
          refine ⟨(1 : Int32), (by simp only [if_pos hc108_6]), fun t k => ?_⟩
          show Steps p.tables e below (T15.setTop (mkF m 108 #[.val (.int p1), .val (.int p2), .val (.int p3), .val (.int j2), .val (.ref b3), .val (.int j6), .val (.int j9), .val (.int j11), .val (.int j13)] [(.int j11), (.int (r_5 j9 j13 j2))])) _
          refine XS.icmpNo X15.here hx rfl (hb hby at_108) rfl (teq hc108_6).2 ?_
          show Steps p.tables e below (T15.setTop (mkF m 111 #[.val (.int p1), .val (.int p2), .val (.int p3), .val (.int j2), .val (.ref b3), .val (.int j6), .val (.int j9), .val (.int j11), .val (.int j13)] [])) _
          refine XS.iconst X15.here hx rfl (hb hby at_111) ?_
          show Steps p.tables e below (T15.setTop (mkF m 112 #[.val (.int p1), .val (.int p2), .val (.int p3), .val (.int j2), .val (.ref b3), .val (.int j6), .val (.int j9), .val (.int j11), .val (.int j13)] [(.int (1 : Int32))])) _
          refine XS.goto X15.here hx rfl (pc0 := 112) (pc' := 116) rfl (hb hby at_112) (by decide) (by decide) ?_
          exact k
        · skip
          refine ⟨(0 : Int32), (by simp only [if_neg hc108_6]), fun t k => ?_⟩
          show Steps p.tables e below (T15.setTop (mkF m 108 #[.val (.int p1), .val (.int p2), .val (.int p3), .val (.int j2), .val (.ref b3), .val (.int j6), .val (.int j9), .val (.int j11), .val (.int j13)] [(.int j11), (.int (r_5 j9 j13 j2))])) _
          refine XS.icmpYes X15.here hx rfl (pc0 := 108) (pc' := 115) rfl (hb hby at_108) rfl (feq hc108_6).2 (by decide) (by decide) ?_
          show Steps p.tables e below (T15.setTop (mkF m 115 #[.val (.int p1), .val (.int p2), .val (.int p3), .val (.int j2), .val (.ref b3), .val (.int j6), .val (.int j9), .val (.int j11), .val (.int j13)] [])) _
          refine XS.iconst X15.here hx rfl (hb hby at_115) ?_
          exact k
      refine own_go st17 ?_
      show own_Go p.tables e below _ T15 (mkF m 116 #[.val (.int p1), .val (.int p2), .val (.int p3), .val (.int j2), .val (.ref b3), .val (.int j6), .val (.int j9), .val (.int j11), .val (.int j13)] [(.int j16)])
      have hv1 : (nar .boolean j16) = 1 := own_yes_ft p1 p2 p3 j2 j6 j9 j10 j11 j13 j16 hj2 hj6 hj9 hj10 hj11 hj13 hj16 hhc6_14 hc28_1 hnz47 hc94_5 hhhhhc1_3_5_3_103 hhhhhc6_3_5_3_103 hhhhc1_3_6_103 hhhhc6_3_6_103
      obtain ⟨fs, hr, hrun, hended, hW, hsame⟩ := X15.leave (v := some (.int (nar .boolean j16))) (fun h => by rw [Bd.returns] at h; cases h)
      refine ⟨_, _, ?_, hrun, hended, _, _, rfl, ?_, ⟨_, rfl⟩, hW, hsame.mono (by decide) (by decide)⟩
      · exact retN X15 hx (t := .boolean) Bd.returns (by simp) (hb hby at_116) hr
      · show Q0 Z p1 p2 p3 h0 n0 _ _ _
        exact ⟨by rw [hv1], NN⟩
    · skip
      refine own_go (T' := T5) (g' := (mkF m 116 #[.val (.int p1), .val (.int p2), .val (.int p3), .val (.int j2), .val (.ref b3), .val (.int j6), .val (.int j9), .val (.int j11), .val (.int j13)] [(.int (0 : Int32))])) (fun t k => ?_) ?_
      · show Steps p.tables e below (T5.setTop (mkF m 94 #[.val (.int p1), .val (.int p2), .val (.int p3), .val (.int j2), .val (.ref b3), .val (.int j6), .val (.int j9), .val (.int j11), .val (.int j13)] [(.int (1 : Int32)), (.int j6)])) _
        refine XS.icmpYes X5.here hx rfl (pc0 := 94) (pc' := 115) rfl (hb hby at_94) rfl (feq hc94_5).2 (by decide) (by decide) ?_
        show Steps p.tables e below (T5.setTop (mkF m 115 #[.val (.int p1), .val (.int p2), .val (.int p3), .val (.int j2), .val (.ref b3), .val (.int j6), .val (.int j9), .val (.int j11), .val (.int j13)] [])) _
        refine XS.iconst X5.here hx rfl (hb hby at_115) ?_
        exact k
      exfalso
      exact own_no_ff p1 j2 j6 hj2 hj6 hhc6_14 hc28_1 hnz47 hc94_5
set_option maxRecDepth 65536 in
set_option maxHeartbeats 40000000 in
theorem comes_1 {Post : Tables → Env → Array Value → State → Outcome → State → Prop} (hpost : ∀ tb e args s v u, (limb_1_1.after args s (.returned v) u = true ∧ limb_1_2.after args s (.returned v) u = true ∧ True) → FrameEnd s (.returned v) u (Jvm.fieldLocs frame_1_writes args s ++ Jvm.arrayLocs frame_1_arrays args s ++ Jvm.staticLocs frame_1_statics s) 16 128 → Post tb e args s (.returned v) u) :
    ArmFor flags0 classFile x code maxLocals ret World_1 tables_1 room_1 Calls_1 rest_1 Pre_1 Post := by
  intro l hfl _ _ p e ha hc hk s m args below hf hA hF happ hP
  obtain ⟨hcalls, hrest, hpre⟩ := hP
  obtain ⟨-, -, -, hnamed, -, -, -, hat⟩ := (Spec.applies_iff hf).mp happ
  obtain ⟨hg, hn⟩ := and_e (Cond.before_iff.mp (show (Jvm.Cond.and given_1 narrow_1).before args s = true from hpre))
  obtain ⟨hcount, hg0⟩ := and_e hg
  obtain ⟨ha0, hg1⟩ := and_e hg0
  obtain ⟨ha1, hg2⟩ := and_e hg1
  have ha2 := hg2
  obtain ⟨w0, w1, w2, rfl⟩ : ∃ w0 w1 w2 : Value, args = #[w0, w1, w2] := by
    have hs : args.size = 3 := by simpa [Cond.value, given_1] using hcount
    obtain ⟨L⟩ := args
    match L, hs with
    | [w0, w1, w2], _ => exact ⟨w0, w1, w2, rfl⟩
  have hw := fun d (hd : d ∈ tables_1) => atoms_spec (ws := Jvm.Cond.code x code maxLocals ret :: tables_1) hat d (List.mem_cons_of_mem _ hd)
  obtain ⟨i0, ei0⟩ := is_v ha0
  obtain rfl : w0 = (.int i0) := Option.some.inj ei0
  obtain ⟨i1, ei1⟩ := is_v ha1
  obtain rfl : w1 = (.int i1) := Option.some.inj ei1
  obtain ⟨i2, ei2⟩ := is_v ha2
  obtain rfl : w2 = (.int i2) := Option.some.inj ei2
  obtain ⟨n, o, h1, h2, h3, _, L, rfl, ⟨rfl, N⟩, hq⟩ := rm0 l s _ hw tables_1 i0 i1 i2 s.heap s.heap.size (Nat.le_refl _) p e ha hc hk s m _ below hf ((Spec.applies_iff_loose hf).mp happ).1 ⟨rfl, State.Warmed39.refl s, rfl⟩ trivial
  refine ⟨n, _, h1, h2, h3, hpost _ _ _ _ _ _ ⟨Cond.after_iff.mpr rfl, Cond.after_iff.mpr (eq_i res_at (Term.int_eval (1)) rfl), trivial⟩ ⟨hq.1, hq.2.1, (hq.2.2.sift fun y hy => Or.inr (N y hy)).mono (by decide) (by decide)⟩⟩
theorem main_1_1 : Claimed_1_1 := comes_1 fun _ _ _ _ _ _ h hF => ⟨h.1, hF⟩
theorem main_1_2 : Claimed_1_2 := comes_1 fun _ _ _ _ _ _ h hF => ⟨h.2.1, hF⟩
end Jvm.Pilot.@@N@@
namespace Jvm.Pilot.@@N@@
open Jvm Jvm.ClassFile Sem Op Lib Jvm.Free Jvm.Stand Jvm.Pilot.@@N@@.Jvm.D
/-! MADE BY PROGRAM (witnessworld.py) out of the Statement's table words and the real class files: 13 classes; the members and pool entries that the words name. The judged class is class 1, her method 1. -/
namespace start1
open Jvm.ClassFile
def u (s : String) : CpInfo := .utf8 (stringToUtf16 s)
/-- a pool by its gaps: so many unusable entries, then the entry; so many at the end -/
def gap : Nat → List CpInfo → List CpInfo
  | 0, r => r
  | n + 1, r => .unusable :: gap n r
def poolList (es : List (Nat × CpInfo)) (last : Nat) : List CpInfo := es.foldr (fun e r => gap e.1 (e.2 :: r)) (gap last [])
def pool (es : List (Nat × CpInfo)) (last : Nat) : Array CpInfo := ⟨poolList es last⟩
def fileOf (pool : Array CpInfo) (this : Nat) (attrs : Array Attribute := #[]) (ms : Array MethodInfo := #[]) (fl : Nat := 33) (sup : Nat := 0) (ifs : Array Nat := #[]) (fds : Array FieldInfo := #[]) : ClassFile where
  minorVersion := 0
  majorVersion := 65
  constantPool := pool
  accessFlags := fl
  thisClass := this
  superClass := sup
  interfaces := ifs
  fields := fds
  methods := ms
  attributes := attrs
def plain (name : String) (sup : Option ClassId) : Class where
  name := name
  kind := .ordinary
  loader := none
  accessFlags := 33
  super := sup
  interfaces := #[]
  cf := none
  fields := #[]
  methods := #[]
  instanceTypes := #[]
  staticTypes := #[]
  resolved := #[]
  callSites := []
  init := .initialized
  statics := none
  mirror := none

def pool0 : Array CpInfo := pool [(5, u "<init>"), (0, u "()V"), (1, .class_ 10), (1, u "java/lang/Object")] 113

def k0c0 : Code := { maxStack := 0, maxLocals := 1, code := object_method_1_code, exceptionTable := #[], attributes := #[] }
def k0m0 : Method := { name := "<init>", desc := "()V", sig := { parameters := [], returnType := none }, accessFlags := 1, code := some k0c0 }
/-- java/lang/Object -/
def k0 : Class := { plain "java/lang/Object" none with
  accessFlags := 33
  interfaces := #[]
  cf := some (fileOf pool0 8 #[] #[{ accessFlags := 1, nameIndex := 5, descriptorIndex := 6, attributes := #[] }] 33 0 #[] #[])
  fields := #[]
  methods := #[k0m0]
  instanceTypes := #[]
  staticTypes := #[]
  resolved := Array.replicate 124 none
  statics := none }

def pool1 : Array CpInfo := pool [(2, .class_ 4), (1, u "java/lang/Object"), (0, u "<init>"), (0, u "()V"), (0, .integer 2147483647), (0, .methodref 9 10), (0, .class_ 11), (0, .nameAndType 12 13), (0, u "java/lang/Math"), (0, u "max"), (0, u "(II)I"), (0, .class_ 15), (0, u "com/example/firecrest/firecrest/network/Complete"), (0, .methodref 14 17), (0, .nameAndType 5 18), (0, u "(I)V"), (0, .methodref 14 20), (0, .nameAndType 21 22), (0, u "diameter"), (0, u "()I"), (0, .methodref 14 24), (0, .nameAndType 25 13), (0, u "neighbour"), (0, .class_ 27), (0, u "com/example/firecrest/firecrest/network/CompleteDiameterPinLaw"), (2, u "law"), (0, u "(III)Z")] 3

def k1m0 : Method := { name := "<init>", desc := "()V", sig := { parameters := [], returnType := none }, accessFlags := 1, code := none }
def k1c1 : Code := { maxStack := 3, maxLocals := 9, code := code, exceptionTable := #[], attributes := #[] }
def k1m1 : Method := { name := "law", desc := "(III)Z", sig := { parameters := [.int, .int, .int], returnType := some .boolean }, accessFlags := 9, code := some k1c1 }
/-- com/example/firecrest/firecrest/network/CompleteDiameterPinLaw -/
def k1 : Class := { plain "com/example/firecrest/firecrest/network/CompleteDiameterPinLaw" (some 0) with
  accessFlags := 49
  interfaces := #[]
  cf := some (fileOf pool1 26 #[] #[{ accessFlags := 1, nameIndex := 5, descriptorIndex := 6, attributes := #[] }, { accessFlags := 9, nameIndex := 30, descriptorIndex := 31, attributes := #[] }] 49 2 #[] #[])
  fields := #[]
  methods := #[k1m0, k1m1]
  instanceTypes := #[]
  staticTypes := #[]
  resolved := Array.replicate 35 none
  statics := none }

def pool2 : Array CpInfo := pool [(1, .class_ 2), (0, u "java/lang/Math"), (1, .class_ 6), (1, u "java/lang/Object"), (0, u "<init>"), (0, u "()V"), (89, .class_ 100), (1, u "java/lang/Math$RandomNumberGeneratorHolder"), (71, u "negativeZeroFloatBits"), (0, u "J"), (2, u "negativeZeroDoubleBits"), (21, u "max"), (46, u "$assertionsDisabled"), (0, u "Z"), (88, u "(II)I"), (2, u "twoToTheDoubleScaleDown"), (0, u "D"), (4, u "twoToTheDoubleScaleUp"), (9, u "E"), (3, u "PI"), (2, u "TAU"), (2, u "DEGREES_TO_RADIANS"), (0, u "RADIANS_TO_DEGREES")] 94

def k2m0 : Method := { name := "<init>", desc := "()V", sig := { parameters := [], returnType := none }, accessFlags := 2, code := none }
def k2c1 : Code := { maxStack := 2, maxLocals := 2, code := jdk_29_method_65_code, exceptionTable := #[], attributes := #[] }
def k2m1 : Method := { name := "max", desc := "(II)I", sig := { parameters := [.int, .int], returnType := some .int }, accessFlags := 9, code := some k2c1 }
/-- java/lang/Math -/
def k2 : Class := { plain "java/lang/Math" (some 0) with
  accessFlags := 49
  interfaces := #[]
  cf := some (fileOf pool2 1 #[.nestMembers #[98]] #[{ accessFlags := 2, nameIndex := 7, descriptorIndex := 8, attributes := #[] }, { accessFlags := 9, nameIndex := 198, descriptorIndex := 335, attributes := #[] }] 49 4 #[] #[{ accessFlags := 25, nameIndex := 354, descriptorIndex := 339, attributes := #[] }, { accessFlags := 25, nameIndex := 358, descriptorIndex := 339, attributes := #[] }, { accessFlags := 25, nameIndex := 361, descriptorIndex := 339, attributes := #[] }, { accessFlags := 26, nameIndex := 364, descriptorIndex := 339, attributes := #[] }, { accessFlags := 26, nameIndex := 365, descriptorIndex := 339, attributes := #[] }, { accessFlags := 26, nameIndex := 172, descriptorIndex := 173, attributes := #[] }, { accessFlags := 26, nameIndex := 176, descriptorIndex := 173, attributes := #[] }, { accessFlags := 8, nameIndex := 344, descriptorIndex := 339, attributes := #[] }, { accessFlags := 8, nameIndex := 338, descriptorIndex := 339, attributes := #[] }, { accessFlags := 4120, nameIndex := 245, descriptorIndex := 246, attributes := #[] }])
  fields := #[{ name := "E", type := .double, accessFlags := 25, slot := 0, constantValue := 0 }, { name := "PI", type := .double, accessFlags := 25, slot := 1, constantValue := 0 }, { name := "TAU", type := .double, accessFlags := 25, slot := 2, constantValue := 0 }, { name := "DEGREES_TO_RADIANS", type := .double, accessFlags := 26, slot := 3, constantValue := 0 }, { name := "RADIANS_TO_DEGREES", type := .double, accessFlags := 26, slot := 4, constantValue := 0 }, { name := "negativeZeroFloatBits", type := .long, accessFlags := 26, slot := 5, constantValue := 0 }, { name := "negativeZeroDoubleBits", type := .long, accessFlags := 26, slot := 6, constantValue := 0 }, { name := "twoToTheDoubleScaleUp", type := .double, accessFlags := 8, slot := 7, constantValue := 0 }, { name := "twoToTheDoubleScaleDown", type := .double, accessFlags := 8, slot := 8, constantValue := 0 }, { name := "$assertionsDisabled", type := .boolean, accessFlags := 4120, slot := 9, constantValue := 0 }]
  methods := #[k2m0, k2m1]
  instanceTypes := #[]
  staticTypes := #[.double, .double, .double, .double, .double, .long, .long, .double, .double, .boolean]
  resolved := Array.replicate 460 none
  statics := none }

def pool3 : Array CpInfo := pool [(2, .class_ 4), (1, u "com/example/firecrest/firecrest/network/Network"), (16, .class_ 22), (0, u "java/lang/Object")] 11

/-- com/example/firecrest/firecrest/network/Network -/
def k3 : Class := { plain "com/example/firecrest/firecrest/network/Network" (some 0) with
  accessFlags := 1537
  interfaces := #[]
  cf := some (fileOf pool3 2 #[] #[] 1537 21 #[] #[])
  fields := #[]
  methods := #[]
  instanceTypes := #[]
  staticTypes := #[]
  resolved := Array.replicate 34 none
  statics := none }

def pool4 : Array CpInfo := pool [(1, .methodref 2 3), (0, .class_ 4), (0, .nameAndType 5 6), (0, u "java/lang/Object"), (0, u "<init>"), (0, u "()V"), (9, .fieldref 17 18), (0, .class_ 19), (0, .nameAndType 20 21), (0, u "com/example/firecrest/firecrest/network/Complete"), (0, u "size"), (0, u "I"), (0, .methodref 23 24), (0, .class_ 25), (0, .nameAndType 26 27), (0, u "java/util/Objects"), (0, u "checkIndex"), (0, u "(II)I"), (0, .methodref 17 29), (0, .nameAndType 30 31), (0, u "degree"), (0, u "(I)I"), (2, u "neighbour"), (0, .class_ 36), (0, u "com/example/firecrest/firecrest/network/Network"), (0, u "(I)V"), (3, u "()I"), (2, u "diameter")] 17

def k4c0 : Code := { maxStack := 3, maxLocals := 2, code := prog_7_method_1_code, exceptionTable := #[], attributes := #[] }
def k4m0 : Method := { name := "<init>", desc := "(I)V", sig := { parameters := [.int], returnType := none }, accessFlags := 1, code := some k4c0 }
def k4c1 : Code := { maxStack := 2, maxLocals := 2, code := prog_7_method_4_code, exceptionTable := #[], attributes := #[] }
def k4m1 : Method := { name := "degree", desc := "(I)I", sig := { parameters := [.int], returnType := some .int }, accessFlags := 1, code := some k4c1 }
def k4c2 : Code := { maxStack := 3, maxLocals := 3, code := prog_7_method_5_code, exceptionTable := #[], attributes := #[] }
def k4m2 : Method := { name := "neighbour", desc := "(II)I", sig := { parameters := [.int, .int], returnType := some .int }, accessFlags := 1, code := some k4c2 }
def k4c3 : Code := { maxStack := 2, maxLocals := 1, code := prog_7_method_7_code, exceptionTable := #[], attributes := #[] }
def k4m3 : Method := { name := "diameter", desc := "()I", sig := { parameters := [], returnType := some .int }, accessFlags := 1, code := some k4c3 }
/-- com/example/firecrest/firecrest/network/Complete -/
def k4 : Class := { plain "com/example/firecrest/firecrest/network/Complete" (some 0) with
  accessFlags := 33
  interfaces := #[3]
  cf := some (fileOf pool4 17 #[] #[{ accessFlags := 1, nameIndex := 5, descriptorIndex := 37, attributes := #[] }, { accessFlags := 1, nameIndex := 30, descriptorIndex := 31, attributes := #[] }, { accessFlags := 1, nameIndex := 34, descriptorIndex := 27, attributes := #[] }, { accessFlags := 1, nameIndex := 44, descriptorIndex := 41, attributes := #[] }] 33 2 #[35] #[{ accessFlags := 18, nameIndex := 20, descriptorIndex := 21, attributes := #[] }])
  fields := #[{ name := "size", type := .int, accessFlags := 18, slot := 0, constantValue := 0 }]
  methods := #[k4m0, k4m1, k4m2, k4m3]
  instanceTypes := #[.int]
  staticTypes := #[]
  resolved := Array.replicate 62 none
  statics := none }

def pool5 : Array CpInfo := pool [(2, .class_ 4), (1, u "java/lang/Object"), (0, u "<init>"), (0, u "()V"), (35, .class_ 44), (1, u "java/util/Objects"), (60, .methodref 106 107), (0, .class_ 108), (0, .nameAndType 109 110), (0, u "jdk/internal/util/Preconditions"), (0, u "checkIndex"), (0, u "(IILjava/util/function/BiFunction;)I"), (60, u "(II)I")] 12

def k5m0 : Method := { name := "<init>", desc := "()V", sig := { parameters := [], returnType := none }, accessFlags := 2, code := none }
def k5c1 : Code := { maxStack := 3, maxLocals := 2, code := jdk_31_method_17_code, exceptionTable := #[], attributes := #[] }
def k5m1 : Method := { name := "checkIndex", desc := "(II)I", sig := { parameters := [.int, .int], returnType := some .int }, accessFlags := 9, code := some k5c1 }
/-- java/util/Objects -/
def k5 : Class := { plain "java/util/Objects" (some 0) with
  accessFlags := 49
  interfaces := #[]
  cf := some (fileOf pool5 42 #[] #[{ accessFlags := 2, nameIndex := 5, descriptorIndex := 6, attributes := #[] }, { accessFlags := 9, nameIndex := 109, descriptorIndex := 171, attributes := #[] }] 49 2 #[] #[])
  fields := #[]
  methods := #[k5m0, k5m1]
  instanceTypes := #[]
  staticTypes := #[]
  resolved := Array.replicate 184 none
  statics := none }

def pool6 : Array CpInfo := pool [(2, .class_ 4), (1, u "java/lang/Object"), (0, u "<init>"), (0, u "()V"), (17, .class_ 26), (1, u "jdk/internal/util/Preconditions"), (6, u "checkIndex"), (21, .class_ 56), (0, u "jdk/internal/util/Preconditions$4"), (57, .class_ 115), (0, u "jdk/internal/util/Preconditions$1"), (7, u "SIOOBE_FORMATTER"), (0, u "Ljava/util/function/BiFunction;"), (0, .class_ 126), (0, u "jdk/internal/util/Preconditions$2"), (3, u "AIOOBE_FORMATTER"), (0, .class_ 132), (0, u "jdk/internal/util/Preconditions$3"), (3, u "IOOBE_FORMATTER"), (41, u "(IILjava/util/function/BiFunction;)I")] 15

def k6m0 : Method := { name := "<init>", desc := "()V", sig := { parameters := [], returnType := none }, accessFlags := 1, code := none }
def k6c1 : Code := { maxStack := 3, maxLocals := 3, code := jdk_41_method_11_code, exceptionTable := #[], attributes := #[] }
def k6m1 : Method := { name := "checkIndex", desc := "(IILjava/util/function/BiFunction;)I", sig := { parameters := [.int, .int, (.object "java/util/function/BiFunction")], returnType := some .int }, accessFlags := 9, code := some k6c1 }
/-- jdk/internal/util/Preconditions -/
def k6 : Class := { plain "jdk/internal/util/Preconditions" (some 0) with
  accessFlags := 33
  interfaces := #[]
  cf := some (fileOf pool6 24 #[.nestMembers #[55, 131, 125, 114]] #[{ accessFlags := 1, nameIndex := 5, descriptorIndex := 6, attributes := #[] }, { accessFlags := 9, nameIndex := 33, descriptorIndex := 178, attributes := #[] }] 33 2 #[] #[{ accessFlags := 25, nameIndex := 123, descriptorIndex := 124, attributes := #[] }, { accessFlags := 25, nameIndex := 130, descriptorIndex := 124, attributes := #[] }, { accessFlags := 25, nameIndex := 136, descriptorIndex := 124, attributes := #[] }])
  fields := #[{ name := "SIOOBE_FORMATTER", type := (.object "java/util/function/BiFunction"), accessFlags := 25, slot := 0, constantValue := 0 }, { name := "AIOOBE_FORMATTER", type := (.object "java/util/function/BiFunction"), accessFlags := 25, slot := 1, constantValue := 0 }, { name := "IOOBE_FORMATTER", type := (.object "java/util/function/BiFunction"), accessFlags := 25, slot := 2, constantValue := 0 }]
  methods := #[k6m0, k6m1]
  instanceTypes := #[]
  staticTypes := #[(.object "java/util/function/BiFunction"), (.object "java/util/function/BiFunction"), (.object "java/util/function/BiFunction")]
  resolved := Array.replicate 194 none
  statics := none }

def pool7 : Array CpInfo := pool [(1, u "java/lang/Cloneable"), (0, .class_ 1), (0, u "java/lang/Object"), (0, .class_ 3)] 3

/-- java/lang/Cloneable -/
def k7 : Class := { plain "java/lang/Cloneable" (some 0) with
  accessFlags := 1537
  interfaces := #[]
  cf := some (fileOf pool7 2 #[] #[] 1537 4 #[] #[])
  fields := #[]
  methods := #[]
  instanceTypes := #[]
  staticTypes := #[]
  resolved := Array.replicate 8 none
  statics := none }

def pool8 : Array CpInfo := pool [(1, u "java/io/Serializable"), (0, .class_ 1), (0, u "java/lang/Object"), (0, .class_ 3)] 3

/-- java/io/Serializable -/
def k8 : Class := { plain "java/io/Serializable" (some 0) with
  accessFlags := 1537
  interfaces := #[]
  cf := some (fileOf pool8 2 #[] #[] 1537 4 #[] #[])
  fields := #[]
  methods := #[]
  instanceTypes := #[]
  staticTypes := #[]
  resolved := Array.replicate 8 none
  statics := none }

/-- the primitive byte -/
def k9 : Class := { plain "byte" none with kind := .primitive 'B', accessFlags := 0x411 }
/-- [B -/
def k10 : Class := { plain "[B" (some 0) with kind := .array 9 .byte, interfaces := #[7, 8], accessFlags := 1041 }

/-- the primitive int -/
def k11 : Class := { plain "int" none with kind := .primitive 'I', accessFlags := 0x411 }
/-- [I -/
def k12 : Class := { plain "[I" (some 0) with kind := .array 11 .int, interfaces := #[7, 8], accessFlags := 1041 }

def heap : Heap := #[]
def classes : Array Class := #[k0, k1, k2, k3, k4, k5, k6, k7, k8, k9, k10, k11, k12]
def interned : List (Array UInt16 × Addr) := []
def slotsUsed : Nat := 0
def theMethod : MethodId := ⟨1, 1⟩
def args0 : Array Value := #[.int 5, .int 6, .int 7]
def aboutOver (below : List Frame) : State where
  vm := { classes := classes, interned := interned.toArray }
  heap := heap
  slotsUsed := slotsUsed
  threads := #[{ frames := .invoking theMethod args0 :: below }]
def below0 : List Frame := [.native { method := ⟨0, 0⟩, args := #[] }]
def about1 : State := aboutOver below0
def p0 : Program := .bare "" "" ""
def e0 : Env := launch0.env 0 0 0
theorem w_frames : about1.frames = Frame.invoking theMethod args0 :: below0 := rfl
set_option maxRecDepth 65536 in
theorem w_args : argsFit about1.vm theMethod args0 = true := by decide +kernel
set_option maxRecDepth 65536 in
theorem w_heap : heapFits about1 = true := by decide +kernel
set_option maxRecDepth 65536 in
theorem w_runnable : about1.curStatus? = some .runnable := by decide +kernel
set_option maxRecDepth 65536 in
theorem w_alone : about1.alone = true := by decide +kernel
set_option maxRecDepth 65536 in
theorem w_named : about1.methodNamed? x = some theMethod := by decide +kernel
set_option maxRecDepth 65536 in
theorem w_hears : about1.hears theMethod below0 = true := by decide +kernel
set_option maxRecDepth 65536 in
theorem w_ripe : about1.ripe theMethod args0 below0 = true := by decide +kernel
theorem w_running : about1.status = .running := rfl
set_option maxRecDepth 65536 in
theorem w_room : about1.hasRoom e0.platform room_1 = true :=
  launch0.hasRoom_least _ room_1 (by decide +kernel) (by decide +kernel) (by decide +kernel) (by decide +kernel) (by decide +kernel) (by decide +kernel)
theorem allAtoms_all (ts : List Jvm.Cond) (a : Array Jvm.Value) (st : Jvm.State) : (allAtoms ts).before a st = ts.all (fun c => c.before a st) := by
  induction ts with
  | nil => rfl
  | cons c t ih =>
    show (Jvm.Cond.and c (allAtoms t)).before a st = _
    rw [Jvm.Cond.before_and, ih, List.all_cons]
def words1 : List Jvm.Cond := Jvm.Cond.code x code maxLocals ret :: tables_1
/-- a 'code' word, met by the world's own term for the bytes: nothing is compared byte by byte -/
theorem code_word {y : MethodName} {bytes : ByteArray} {mx : Nat} {rt : Option FieldType} {a : Array Value} {s : State} {m : MethodId} {meth : Method} {c : Code} (h1 : s.methodNamed? y = some m) (h2 : s.vm.method? m = some meth) (h3 : meth.code = some c) (h4 : c.code = bytes)
    (h5 : (c.maxLocals == mx && c.exceptionTable.isEmpty && decide (c.maxStack ≤ mostOperands) && decide (meth.sig.returnType = rt) && !meth.locks && decide (parseMethodDescriptor y.desc = some meth.sig)) = true) : (Jvm.Cond.code y bytes mx rt).before a s = true := by
  simp only [Bool.and_eq_true, beq_iff_eq, Bool.not_eq_true', decide_eq_true_eq] at h5
  obtain ⟨⟨⟨⟨⟨g1, g2⟩, g3⟩, g4⟩, g5⟩, g6⟩ := h5
  simp [Cond.before, Cond.holds, Cond.value, h1, h2, h3, h4, g1, g2, g3, g4, g5, g6]
def isCode : Jvm.Cond → Bool
  | .code _ _ _ _ => true
  | _ => false
theorem all_split {L : List Jvm.Cond} {P : Jvm.Cond → Bool} (h1 : L.all (fun c => isCode c || P c) = true) (h2 : ∀ c ∈ L.filter isCode, P c = true) : L.all P = true := by
  refine List.all_eq_true.mpr fun c hc => ?_
  have h := List.all_eq_true.mp h1 c hc
  rcases Bool.eq_false_or_eq_true (isCode c) with hi | hi
  · exact h2 c (List.mem_filter.mpr ⟨hc, hi⟩)
  · simpa [hi] using h
set_option maxRecDepth 65536 in
theorem w_c0 : (Jvm.Cond.code x code maxLocals ret).before args0 about1 = true := code_word (m := ⟨1, 1⟩) (meth := k1m1) (c := k1c1) (by decide +kernel) rfl rfl rfl (by decide +kernel)
set_option maxRecDepth 65536 in
theorem w_c1 : (Jvm.Cond.code ({ cls := "java/lang/Math", name := "max", desc := "(II)I" } : Jvm.MethodName) jdk_29_method_65_code (2 : Nat) (Option.some Jvm.ClassFile.FieldType.int)).before args0 about1 = true := code_word (m := ⟨2, 1⟩) (meth := k2m1) (c := k2c1) (by decide +kernel) rfl rfl rfl (by decide +kernel)
set_option maxRecDepth 65536 in
theorem w_c2 : (Jvm.Cond.code ({ cls := "com/example/firecrest/firecrest/network/Complete", name := "<init>", desc := "(I)V" } : Jvm.MethodName) prog_7_method_1_code (2 : Nat) (Option.none : Option Jvm.ClassFile.FieldType)).before args0 about1 = true := code_word (m := ⟨4, 0⟩) (meth := k4m0) (c := k4c0) (by decide +kernel) rfl rfl rfl (by decide +kernel)
set_option maxRecDepth 65536 in
theorem w_c3 : (Jvm.Cond.code ({ cls := "java/lang/Object", name := "<init>", desc := "()V" } : Jvm.MethodName) object_method_1_code (1 : Nat) (Option.none : Option Jvm.ClassFile.FieldType)).before args0 about1 = true := code_word (m := ⟨0, 0⟩) (meth := k0m0) (c := k0c0) (by decide +kernel) rfl rfl rfl (by decide +kernel)
set_option maxRecDepth 65536 in
theorem w_c4 : (Jvm.Cond.code ({ cls := "com/example/firecrest/firecrest/network/Complete", name := "diameter", desc := "()I" } : Jvm.MethodName) prog_7_method_7_code (1 : Nat) (Option.some Jvm.ClassFile.FieldType.int)).before args0 about1 = true := code_word (m := ⟨4, 3⟩) (meth := k4m3) (c := k4c3) (by decide +kernel) rfl rfl rfl (by decide +kernel)
set_option maxRecDepth 65536 in
theorem w_c5 : (Jvm.Cond.code ({ cls := "com/example/firecrest/firecrest/network/Complete", name := "neighbour", desc := "(II)I" } : Jvm.MethodName) prog_7_method_5_code (3 : Nat) (Option.some Jvm.ClassFile.FieldType.int)).before args0 about1 = true := code_word (m := ⟨4, 2⟩) (meth := k4m2) (c := k4c2) (by decide +kernel) rfl rfl rfl (by decide +kernel)
set_option maxRecDepth 65536 in
theorem w_c6 : (Jvm.Cond.code ({ cls := "com/example/firecrest/firecrest/network/Complete", name := "degree", desc := "(I)I" } : Jvm.MethodName) prog_7_method_4_code (2 : Nat) (Option.some Jvm.ClassFile.FieldType.int)).before args0 about1 = true := code_word (m := ⟨4, 1⟩) (meth := k4m1) (c := k4c1) (by decide +kernel) rfl rfl rfl (by decide +kernel)
set_option maxRecDepth 65536 in
theorem w_c7 : (Jvm.Cond.code ({ cls := "java/util/Objects", name := "checkIndex", desc := "(II)I" } : Jvm.MethodName) jdk_31_method_17_code (2 : Nat) (Option.some Jvm.ClassFile.FieldType.int)).before args0 about1 = true := code_word (m := ⟨5, 1⟩) (meth := k5m1) (c := k5c1) (by decide +kernel) rfl rfl rfl (by decide +kernel)
set_option maxRecDepth 65536 in
theorem w_c8 : (Jvm.Cond.code ({ cls := "jdk/internal/util/Preconditions", name := "checkIndex", desc := "(IILjava/util/function/BiFunction;)I" } : Jvm.MethodName) jdk_41_method_11_code (3 : Nat) (Option.some Jvm.ClassFile.FieldType.int)).before args0 about1 = true := code_word (m := ⟨6, 1⟩) (meth := k6m1) (c := k6c1) (by decide +kernel) rfl rfl rfl (by decide +kernel)
def codes1 : List Jvm.Cond := [Jvm.Cond.code x code maxLocals ret, Jvm.Cond.code ({ cls := "java/lang/Math", name := "max", desc := "(II)I" } : Jvm.MethodName) jdk_29_method_65_code (2 : Nat) (Option.some Jvm.ClassFile.FieldType.int), Jvm.Cond.code ({ cls := "com/example/firecrest/firecrest/network/Complete", name := "<init>", desc := "(I)V" } : Jvm.MethodName) prog_7_method_1_code (2 : Nat) (Option.none : Option Jvm.ClassFile.FieldType), Jvm.Cond.code ({ cls := "java/lang/Object", name := "<init>", desc := "()V" } : Jvm.MethodName) object_method_1_code (1 : Nat) (Option.none : Option Jvm.ClassFile.FieldType), Jvm.Cond.code ({ cls := "com/example/firecrest/firecrest/network/Complete", name := "diameter", desc := "()I" } : Jvm.MethodName) prog_7_method_7_code (1 : Nat) (Option.some Jvm.ClassFile.FieldType.int), Jvm.Cond.code ({ cls := "com/example/firecrest/firecrest/network/Complete", name := "neighbour", desc := "(II)I" } : Jvm.MethodName) prog_7_method_5_code (3 : Nat) (Option.some Jvm.ClassFile.FieldType.int), Jvm.Cond.code ({ cls := "com/example/firecrest/firecrest/network/Complete", name := "degree", desc := "(I)I" } : Jvm.MethodName) prog_7_method_4_code (2 : Nat) (Option.some Jvm.ClassFile.FieldType.int), Jvm.Cond.code ({ cls := "java/util/Objects", name := "checkIndex", desc := "(II)I" } : Jvm.MethodName) jdk_31_method_17_code (2 : Nat) (Option.some Jvm.ClassFile.FieldType.int), Jvm.Cond.code ({ cls := "jdk/internal/util/Preconditions", name := "checkIndex", desc := "(IILjava/util/function/BiFunction;)I" } : Jvm.MethodName) jdk_41_method_11_code (3 : Nat) (Option.some Jvm.ClassFile.FieldType.int)]
set_option maxRecDepth 65536 in
theorem codes_eq : words1.filter isCode = codes1 := rfl
theorem w_codes : ∀ c ∈ words1.filter isCode, c.before args0 about1 = true := by
  rw [codes_eq]
  intro c hc
  simp only [codes1, List.mem_cons, List.not_mem_nil, or_false] at hc
  rcases hc with rfl | rfl | rfl | rfl | rfl | rfl | rfl | rfl | rfl
  · exact w_c0
  · exact w_c1
  · exact w_c2
  · exact w_c3
  · exact w_c4
  · exact w_c5
  · exact w_c6
  · exact w_c7
  · exact w_c8
set_option maxRecDepth 65536 in
theorem w_t1 : (words1.take 24).all (fun c => isCode c || c.before args0 about1) = true := by decide +kernel
set_option maxRecDepth 65536 in
theorem w_t2 : (words1.drop 24).all (fun c => isCode c || c.before args0 about1) = true := by decide +kernel
theorem w_tables : (allAtoms (Jvm.Cond.code x code maxLocals ret :: tables_1)).before args0 about1 = true := by
  rw [allAtoms_all]
  show words1.all (fun c => c.before args0 about1) = true
  refine all_split ?_ w_codes
  rw [← List.take_append_drop 24 words1, List.all_append, w_t1, w_t2]
  rfl
set_option maxRecDepth 65536 in
theorem w_case : (Jvm.Cond.and given_1 narrow_1).before args0 about1 = true := by decide +kernel
theorem w_applies : (headSpec (Jvm.Cond.code x code maxLocals ret :: tables_1) room_1).applies x e0.platform about1 = true :=
  (Spec.applies_iff w_frames).mpr ⟨w_running, w_runnable, w_alone, w_named, w_hears, w_ripe, w_room, w_tables⟩
theorem atStart : AtStart classFile x code maxLocals ret World_1 tables_1 room_1 Calls_1 rest_1 Pre_1 launch0 p0 e0 about1 theMethod args0 below0 :=
  ⟨lists_1, trivial, launch0.admits_env _ _ _, launch0.least_env, fairChoices_fair.cas, fairChoices_fair.clock, w_frames, w_args, w_heap, w_applies, trivial, trivial, w_case⟩
end start1
theorem witness_1 : WitnessClaimed_1 := ⟨start1.p0, start1.e0, start1.about1, start1.theMethod, start1.args0, start1.below0, start1.atStart⟩
end Jvm.Pilot.@@N@@

import JvmDerived
import JvmDerived.Pilot.@@N@@Statement
import JvmDerived.Pilot.@@N@@Code
set_option linter.unusedVariables false
set_option linter.unusedSimpArgs false
namespace Jvm.RoadKit
open Sem ClassFile Op Lib Jvm.Stand Jvm.Free Jvm.LawKit
section New
variable {p : Program} {l : Launch} {e : Env} {R : Room} {s : State} {m : MethodId} {args : Array Value} {below : List Frame} {meth : Method} {c : Code} {T : State} {locs : List Loc} {cells slots : Nat}
theorem retI (X : Stand p l e R s m args below meth c T locs cells slots) (hx : p.tables.exec = Jvm.exec) {pc : Nat} {Ls : Array Slot} {z : Int32} {rest : List Value} (hret : meth.sig.returnType = some .int) (hd : decode c.code pc = .ok (.ireturn, 1)) {fs : List Frame}
    (hl : ∀ (f : JFrame) (acts : List Action), f.method = m → f.locked = none → f.entered = [] → (doReturn e (T.setTop f) acts (some (.int z))).1 = T.setFrames fs) : Steps p.tables e below (T.setTop (mkF m pc Ls (.int z :: rest))) (T.setFrames fs) := by
  have hm' : T.vm.method? m = some meth := X.method'
  have hn : narrow .int (.int z) = .int z := rfl
  show Steps p.tables e below (T.setTop { method := m, pc := pc, locals := Ls, stack := _ :: rest, locked := none }) _
  jvm_step X.here [X.here.top, hx, hd, hm', hret, hn]
  first | (intro acts; rw [hl _ acts rfl rfl rfl]) | rw [hl _ _ rfl rfl rfl]
  exact Steps.refl _
theorem own_retJ (X : Stand p l e R s m args below meth c T locs cells slots) (hx : p.tables.exec = Jvm.exec) {pc : Nat} {Ls : Array Slot} {z : Int64} {rest : List Value} (hret : meth.sig.returnType = some .long) (hd : decode c.code pc = .ok (.lreturn, 1)) {fs : List Frame}
    (hl : ∀ (f : JFrame) (acts : List Action), f.method = m → f.locked = none → f.entered = [] → (doReturn e (T.setTop f) acts (some (.long z))).1 = T.setFrames fs) : Steps p.tables e below (T.setTop (mkF m pc Ls (.long z :: rest))) (T.setFrames fs) :=
  retOut X hx (t := .long) (i := .lreturn) hret rfl (Or.inr (Or.inl ⟨rfl, rfl, z, rfl⟩)) hd hl
theorem own_retR (X : Stand p l e R s m args below meth c T locs cells slots) (hx : p.tables.exec = Jvm.exec) {pc : Nat} {Ls : Array Slot} {w : Value} {t : FieldType} {rest : List Value} (hret : meth.sig.returnType = some t) (ht : t.isReference = true) (hw : w.isRef = true) (hd : decode c.code pc = .ok (.areturn, 1)) {fs : List Frame}
    (hl : ∀ (f : JFrame) (acts : List Action), f.method = m → f.locked = none → f.entered = [] → (doReturn e (T.setTop f) acts (some w)).1 = T.setFrames fs) : Steps p.tables e below (T.setTop (mkF m pc Ls (w :: rest))) (T.setFrames fs) :=
  retOut X hx (i := .areturn) hret (by cases t <;> simp_all [FieldType.isReference, narrow]) (Or.inr (Or.inr (Or.inr (Or.inr ⟨rfl, ht, hw⟩)))) hd hl
theorem own_narZ (x : Int32) : nar .boolean x = x &&& 1 := rfl
theorem own_narC (x : Int32) : nar .char x = x.toUInt32.toUInt16.toUInt32.toInt32 := rfl
theorem own_narB (x : Int32) : nar .byte x = x.toInt8.toInt32 := rfl
/-- where the run stands, and how it ends -/
abbrev own_Go (tb : Tables) (e : Env) (below : List Frame) (P : State → Outcome → Prop) (T : State) (g : JFrame) : Prop := ∃ s₂ o, Steps tb e below (T.setTop g) s₂ ∧ s₂.status = .running ∧ Ended s₂ below o ∧ P s₂ o
theorem own_go {tb : Tables} {P : State → Outcome → Prop} {T' : State} {g g' : JFrame} (st : ∀ t, Steps tb e below (T'.setTop g') t → Steps tb e below (T.setTop g) t) (k : own_Go tb e below P T' g') : own_Go tb e below P T g := by
  obtain ⟨s₂, o, h1, h2⟩ := k
  exact ⟨s₂, o, st _ h1, h2⟩
theorem own_start {tb : Tables} {P : State → Outcome → Prop} {g g' : JFrame} (q : g = g') (k : own_Go tb e below P T g') : own_Go tb e below P T g := q ▸ k
theorem own_selPriv {z y : MethodName} (hz : z.cls = y.cls) (hs : (Cond.selects y.cls z z).before args s = true) (hp : s.PrivateAt y) (hi : (Cond.instanceMethod y).before args s = true) (hy : y.cls ≠ "java/lang/invoke/MethodHandle" ∧ y.cls ≠ "java/lang/invoke/VarHandle") : (Cond.selects y.cls y y).before args s = true := by
  obtain ⟨c, r, m, h1, -, h3, -, k, h5, h6⟩ := Cond.selects_spec hs
  exact selects_self_of_private (hz ▸ findClass_of_methodNamed h3) h5 h6 hp hi hy
end New
end Jvm.RoadKit
namespace Jvm.Pilot.@@N@@
open Jvm Jvm.ClassFile Sem Op Lib Jvm.Free Jvm.Stand Jvm.LawKit Jvm.RoadKit Bundle Jvm.Pilot.@@N@@.Jvm.D
theorem d4_0 : decode jdk_18_method_1_code 0 = .ok (.aload_n 0, 1) := by decide +kernel
theorem d4_1 : decode jdk_18_method_1_code 1 = .ok (.invokespecial 1, 3) := by decide +kernel
theorem d4_4 : decode jdk_18_method_1_code 4 = .ok (.return_, 1) := by decide +kernel
theorem pn_0 : plainName "java/lang/Number" = true := by first | (simp [plainName, overriddenIn]; done) | decide +kernel
theorem ef_4 (m : MethodId) (a1 : Addr) : entryFrame m #[(.ref a1)] 1 = mkF m 0 #[.val (.ref a1)] [] := by first | (simp [entryFrame, mkF, argsToLocals, Value.category]; done) | rfl
def Q4 (Z : State) (a1 : Addr) (h0 : Heap) (n0 : Nat) (v : Option Value) (h : Heap) (L : List Loc) : Prop := v = none ∧ Fr n0 L ∧ h = h0
set_option maxRecDepth 65536 in
set_option maxHeartbeats 40000000 in
theorem rm4 (l : Launch) (Z : State) (a0 : Array Value) (hw : ∀ d ∈ tables_1, d.before a0 Z = true) (ws : List Jvm.Cond) (a1 : Addr) (h0 : Heap) (n0 : Nat) (Z0 : n0 ≤ h0.size) :
    MetFree l (⟨"java/lang/Number", "<init>", "()V"⟩ : MethodName) (head1 (Jvm.Cond.code (⟨"java/lang/Number", "<init>", "()V"⟩ : MethodName) jdk_18_method_1_code 1 none :: ws) ({ frames := 1, cells := 0, slots := 0, locals := 12 } : Room)) (fun a U => a = #[(.ref a1)] ∧ Z.Warmed39 U.vm ∧ U.heap = h0) (fun _ _ _ _ _ => True) (fun _ U o U' => ∃ v L, o = .returned v ∧ Q4 Z a1 h0 n0 v U'.heap L ∧ FrameEnd U o U' L ({ frames := 1, cells := 0, slots := 0, locals := 12 } : Room).cells ({ frames := 1, cells := 0, slots := 0, locals := 12 } : Room).slots) := by
  refine MetFree.of_bodySF (plainFor_of_name pn_0) hisR ?_
  intro p e s m args below meth c s₁ Bd hml0 hP hK
  obtain ⟨rfl, hZ, hh⟩ := hP
  have hx := Bd.exec
  have hby := Bd.bytes
  have hml : c.maxLocals = 1 := hml0
  have hown : s.vm.findClass "java/lang/Number" = some m.cls := findClass_of_methodNamed Bd.named
  have hnm := (name_of_methodNamed Bd.named Bd.method).1
  have X0 : Stand p l e ({ frames := 1, cells := 0, slots := 0, locals := 12 } : Room) s m #[(.ref a1)] below meth c s₁ [] 0 0 := Stand.of_body Bd
  have e0 : s₁.heap = h0 := by rw [← hh, Bd.state]; rfl
  have NN := Fr.nil n0
  have KK : Keep h0 h0 [] := Keep.refl h0 []
  refine own_start (ef_4 m a1) ?_
  refine own_go (T' := s₁) (g' := (mkF m 1 #[.val (.ref a1)] [(.ref a1)])) (fun t k => ?_) ?_
  · show Steps p.tables e below (s₁.setTop (mkF m 0 #[.val (.ref a1)] [])) _
    refine XS.aloadN X0.here hx rfl (hb hby d4_0) rfl rfl ?_
    exact k
  obtain ⟨T1, X1, e1, st1⟩ := initO X0 hx hZ hown (hw _ (List.mem_of_getElem? (i := 21) rfl)) (hw _ (List.mem_of_getElem? (i := 7) rfl)) (hw _ (List.mem_of_getElem? (i := 8) rfl)) e0 (g := (mkF m 1 #[.val (.ref a1)] [(.ref a1)])) rfl (by rw [hml]; rfl) rfl (hb hby d4_1) (by decide) (W := 0) (by show 2 * 0 + _ ≤ _; exact Nat.le_of_eq rfl) (by decide)
  refine own_go st1 ?_
  show own_Go p.tables e below _ T1 (mkF m 4 #[.val (.ref a1)] [])
  obtain ⟨fs, hr, hrun, hended, hW, hsame⟩ := X1.leave (v := none) (fun _ => rfl)
  refine ⟨_, _, ?_, hrun, hended, _, _, rfl, ?_, ⟨_, rfl⟩, hW, hsame.mono (by decide) (by decide)⟩
  · exact X1.returnOut hx Bd.returns (hb hby d4_4) hr
  · show Q4 Z a1 h0 n0 _ T1.heap _
    rw [e1]
    exact ⟨rfl, NN, rfl⟩
theorem d3_0 : decode jdk_2805_method_3_code 0 = .ok (.aload_n 0, 1) := by decide +kernel
theorem d3_1 : decode jdk_2805_method_3_code 1 = .ok (.invokespecial 1, 3) := by decide +kernel
theorem d3_4 : decode jdk_2805_method_3_code 4 = .ok (.return_, 1) := by decide +kernel
theorem pn_1 : plainName "java/util/concurrent/atomic/AtomicLong" = true := by first | (simp [plainName, overriddenIn]; done) | decide +kernel
theorem pd_1 : parseMethodDescriptor "()V" = some ⟨[], none⟩ := by decide +kernel
theorem ef_3 (m : MethodId) (a1 : Addr) : entryFrame m #[(.ref a1)] 1 = mkF m 0 #[.val (.ref a1)] [] := by first | (simp [entryFrame, mkF, argsToLocals, Value.category]; done) | rfl
def Q3 (Z : State) (a1 : Addr) (h0 : Heap) (n0 : Nat) (v : Option Value) (h : Heap) (L : List Loc) : Prop := v = none ∧ Fr n0 L ∧ h = h0
set_option maxRecDepth 65536 in
set_option maxHeartbeats 40000000 in
theorem rm3 (l : Launch) (Z : State) (a0 : Array Value) (hw : ∀ d ∈ tables_1, d.before a0 Z = true) (ws : List Jvm.Cond) (a1 : Addr) (h0 : Heap) (n0 : Nat) (Z0 : n0 ≤ h0.size) :
    MetFree l (⟨"java/util/concurrent/atomic/AtomicLong", "<init>", "()V"⟩ : MethodName) (head1 (Jvm.Cond.code (⟨"java/util/concurrent/atomic/AtomicLong", "<init>", "()V"⟩ : MethodName) jdk_2805_method_3_code 1 none :: ws) ({ frames := 2, cells := 0, slots := 0, locals := 24 } : Room)) (fun a U => a = #[(.ref a1)] ∧ Z.Warmed39 U.vm ∧ U.heap = h0) (fun _ _ _ _ _ => True) (fun _ U o U' => ∃ v L, o = .returned v ∧ Q3 Z a1 h0 n0 v U'.heap L ∧ FrameEnd U o U' L ({ frames := 2, cells := 0, slots := 0, locals := 24 } : Room).cells ({ frames := 2, cells := 0, slots := 0, locals := 24 } : Room).slots) := by
  refine MetFree.of_bodySF (plainFor_of_name pn_1) hisR ?_
  intro p e s m args below meth c s₁ Bd hml0 hP hK
  obtain ⟨rfl, hZ, hh⟩ := hP
  have hx := Bd.exec
  have hby := Bd.bytes
  have hml : c.maxLocals = 1 := hml0
  have hown : s.vm.findClass "java/util/concurrent/atomic/AtomicLong" = some m.cls := findClass_of_methodNamed Bd.named
  have hnm := (name_of_methodNamed Bd.named Bd.method).1
  have X0 : Stand p l e ({ frames := 2, cells := 0, slots := 0, locals := 24 } : Room) s m #[(.ref a1)] below meth c s₁ [] 0 0 := Stand.of_body Bd
  have e0 : s₁.heap = h0 := by rw [← hh, Bd.state]; rfl
  have NN := Fr.nil n0
  have KK : Keep h0 h0 [] := Keep.refl h0 []
  refine own_start (ef_3 m a1) ?_
  refine own_go (T' := s₁) (g' := (mkF m 1 #[.val (.ref a1)] [(.ref a1)])) (fun t k => ?_) ?_
  · show Steps p.tables e below (s₁.setTop (mkF m 0 #[.val (.ref a1)] [])) _
    refine XS.aloadN X0.here hx rfl (hb hby d3_0) rfl rfl ?_
    exact k
  obtain ⟨_, _, ⟨T1, L1, k1, n1⟩, -, X1, ⟨Lc1, hQ1, l1, y1, z1⟩, st1⟩ := X0.specialBack hx (y := (⟨"java/lang/Number", "<init>", "()V"⟩ : MethodName)) rfl hown (mvT hZ (hw _ (List.mem_of_getElem? (i := 15) rfl))) (mvT hZ (hw _ (List.mem_of_getElem? (i := 16) rfl))) (mvT hZ (hw _ (List.mem_of_getElem? (i := 20) rfl))) (by decide) (backOf (W := 0) (rm4 l Z a0 hw [] a1 h0 n0 Z0 ) hZ (hw _ (List.mem_of_getElem? (i := 20) rfl)) (hw _ (List.mem_of_getElem? (i := 19) rfl)) (by decide) (by decide)) (g := (mkF m 1 #[.val (.ref a1)] [(.ref a1)])) rfl (by rw [hml]; rfl) (Steps.refl _) (a := a1) (argsL := []) (rest := []) (lenOf pd_1 rfl) rfl (by show 2 * 0 + _ ≤ _; exact Nat.le_of_eq rfl) (hb hby d3_1) (fun _ _ => ⟨rfl, e0, (by decide : 0 + 0 ≤ _), (by decide : 0 + 0 ≤ _)⟩)
  dsimp only [Pt.U, Pt.locs, Pt.cells, Pt.slots] at X1 l1 y1 z1 st1 hQ1
  subst l1 y1 z1
  obtain ⟨rfl, N1q, e1⟩ := hQ1
  have NN := Fr.app NN N1q
  refine own_go (fun t k => st1.trans k) ?_
  show own_Go p.tables e below _ T1 (mkF m 4 #[.val (.ref a1)] [])
  obtain ⟨fs, hr, hrun, hended, hW, hsame⟩ := X1.leave (v := none) (fun _ => rfl)
  refine ⟨_, _, ?_, hrun, hended, _, _, rfl, ?_, ⟨_, rfl⟩, hW, hsame.mono (by decide) (by decide)⟩
  · exact X1.returnOut hx Bd.returns (hb hby d3_4) hr
  · show Q3 Z a1 h0 n0 _ T1.heap _
    rw [e1]
    exact ⟨rfl, NN, rfl⟩
theorem d1_0 : decode prog_144_method_1_code 0 = .ok (.aload_n 0, 1) := by decide +kernel
theorem d1_1 : decode prog_144_method_1_code 1 = .ok (.invokespecial 1, 3) := by decide +kernel
theorem d1_4 : decode prog_144_method_1_code 4 = .ok (.aload_n 0, 1) := by decide +kernel
theorem d1_5 : decode prog_144_method_1_code 5 = .ok (.new 7, 3) := by decide +kernel
theorem d1_8 : decode prog_144_method_1_code 8 = .ok (.dup, 1) := by decide +kernel
theorem d1_9 : decode prog_144_method_1_code 9 = .ok (.invokespecial 9, 3) := by decide +kernel
theorem d1_12 : decode prog_144_method_1_code 12 = .ok (.putfield 10, 3) := by decide +kernel
theorem d1_15 : decode prog_144_method_1_code 15 = .ok (.aload_n 0, 1) := by decide +kernel
theorem d1_16 : decode prog_144_method_1_code 16 = .ok (.lload_n 1, 1) := by decide +kernel
theorem d1_17 : decode prog_144_method_1_code 17 = .ok (.putfield 16, 3) := by decide +kernel
theorem d1_20 : decode prog_144_method_1_code 20 = .ok (.return_, 1) := by decide +kernel
theorem pn_2 : plainName "com/example/kirchberg/kirchberg/server/HeapBudget" = true := by first | (simp [plainName, overriddenIn]; done) | decide +kernel
theorem ef_1 (m : MethodId) (a1 : Addr) (q2 : Int64) : entryFrame m #[(.ref a1), (.long q2)] 3 = mkF m 0 #[.val (.ref a1), .val (.long q2), .second] [] := by first | (simp [entryFrame, mkF, argsToLocals, Value.category]; done) | rfl
def Q1 (Z : State) (a1 : Addr) (q2 : Int64) (u_taken_a1 : Value) (u_heapBytes_a1 : Value) (h0 : Heap) (n0 : Nat) (v : Option Value) (h : Heap) (L : List Loc) : Prop := v = none ∧ Fr n0 L ∧ Keep h0 h [a1] ∧ Exa Z h a1 "com/example/kirchberg/kirchberg/server/HeapBudget" ∧ Fld Z h a1 "com/example/kirchberg/kirchberg/server/HeapBudget" "heapBytes" "J" (.long q2)
set_option maxRecDepth 65536 in
set_option maxHeartbeats 40000000 in
theorem rm1 (l : Launch) (Z : State) (a0 : Array Value) (hw : ∀ d ∈ tables_1, d.before a0 Z = true) (ws : List Jvm.Cond) (a1 : Addr) (q2 : Int64) (u_taken_a1 : Value) (u_heapBytes_a1 : Value) (h0 : Heap) (n0 : Nat) (Z0 : n0 ≤ h0.size) (E_a1 : Exa Z h0 a1 "com/example/kirchberg/kirchberg/server/HeapBudget") (F_a1_taken : Fld Z h0 a1 "com/example/kirchberg/kirchberg/server/HeapBudget" "taken" "Ljava/util/concurrent/atomic/AtomicLong;" u_taken_a1) (g_a1 : n0 ≤ a1) (F_a1_heapBytes : Fld Z h0 a1 "com/example/kirchberg/kirchberg/server/HeapBudget" "heapBytes" "J" u_heapBytes_a1) :
    MetFree l (⟨"com/example/kirchberg/kirchberg/server/HeapBudget", "<init>", "(J)V"⟩ : MethodName) (head1 (Jvm.Cond.code (⟨"com/example/kirchberg/kirchberg/server/HeapBudget", "<init>", "(J)V"⟩ : MethodName) prog_144_method_1_code 3 none :: ws) ({ frames := 3, cells := 1, slots := 1, locals := 38 } : Room)) (fun a U => a = #[(.ref a1), (.long q2)] ∧ Z.Warmed39 U.vm ∧ U.heap = h0) (fun _ _ _ _ _ => True) (fun _ U o U' => ∃ v L, o = .returned v ∧ Q1 Z a1 q2 u_taken_a1 u_heapBytes_a1 h0 n0 v U'.heap L ∧ FrameEnd U o U' L ({ frames := 3, cells := 1, slots := 1, locals := 38 } : Room).cells ({ frames := 3, cells := 1, slots := 1, locals := 38 } : Room).slots) := by
  refine MetFree.of_bodySF (plainFor_of_name pn_2) hisR ?_
  intro p e s m args below meth c s₁ Bd hml0 hP hK
  obtain ⟨rfl, hZ, hh⟩ := hP
  have hx := Bd.exec
  have hby := Bd.bytes
  have hml : c.maxLocals = 3 := hml0
  have hown : s.vm.findClass "com/example/kirchberg/kirchberg/server/HeapBudget" = some m.cls := findClass_of_methodNamed Bd.named
  have hnm := (name_of_methodNamed Bd.named Bd.method).1
  have X0 : Stand p l e ({ frames := 3, cells := 1, slots := 1, locals := 38 } : Room) s m #[(.ref a1), (.long q2)] below meth c s₁ [] 0 0 := Stand.of_body Bd
  have e0 : s₁.heap = h0 := by rw [← hh, Bd.state]; rfl
  have NN := Fr.nil n0
  have KK : Keep h0 h0 [a1] := Keep.refl h0 [a1]
  refine own_start (ef_1 m a1 q2) ?_
  refine own_go (T' := s₁) (g' := (mkF m 1 #[.val (.ref a1), .val (.long q2), .second] [(.ref a1)])) (fun t k => ?_) ?_
  · show Steps p.tables e below (s₁.setTop (mkF m 0 #[.val (.ref a1), .val (.long q2), .second] [])) _
    refine XS.aloadN X0.here hx rfl (hb hby d1_0) rfl rfl ?_
    exact k
  obtain ⟨T1, X1, e1, st1⟩ := initO X0 hx hZ hown (hw _ (List.mem_of_getElem? (i := 6) rfl)) (hw _ (List.mem_of_getElem? (i := 7) rfl)) (hw _ (List.mem_of_getElem? (i := 8) rfl)) e0 (g := (mkF m 1 #[.val (.ref a1), .val (.long q2), .second] [(.ref a1)])) rfl (by rw [hml]; rfl) rfl (hb hby d1_1) (by decide) (W := 0) (by show 2 * 0 + _ ≤ _; exact Nat.le_of_eq rfl) (by decide)
  refine own_go st1 ?_
  show own_Go p.tables e below _ T1 (mkF m 4 #[.val (.ref a1), .val (.long q2), .second] [])
  refine own_go (T' := T1) (g' := (mkF m 5 #[.val (.ref a1), .val (.long q2), .second] [(.ref a1)])) (fun t k => ?_) ?_
  · show Steps p.tables e below (T1.setTop (mkF m 4 #[.val (.ref a1), .val (.long q2), .second] [])) _
    refine XS.aloadN X1.here hx rfl (hb hby d1_4) rfl rfl ?_
    exact k
  obtain ⟨T2, h2, X2, e2, E2, A2, D2, -, st2⟩ := newO X1 hx hZ hown (hw _ (List.mem_of_getElem? (i := 9) rfl)) (hw _ (List.mem_of_getElem? (i := 10) rfl)) (hw _ (List.mem_of_getElem? (i := 11) rfl)) e1 (g := (mkF m 5 #[.val (.ref a1), .val (.long q2), .second] [(.ref a1)])) rfl (hb hby d1_5) (by decide) (by decide)
  obtain ⟨b2, g2⟩ : ∃ z, z = h0.size := ⟨_, rfl⟩
  rw [← g2] at A2 D2 st2
  have g_b2 : n0 ≤ b2 := Nat.le_trans Z0 (Nat.le_of_eq g2.symm)
  have sz_b2 : h0.size ≤ b2 := Nat.le_trans KK.1 (Nat.le_of_eq g2.symm)
  have ne_a1_b2 : a1 ≠ b2 := Nat.ne_of_lt (Nat.lt_of_lt_of_le E_a1.lt (Nat.le_of_eq g2.symm))
  have E_a1 := E_a1.ext E2
  have F_a1_taken := F_a1_taken.ext E2
  have F_a1_heapBytes := F_a1_heapBytes.ext E2
  have Z0 := Nat.le_trans Z0 E2.1
  have KK := KK.ext E2
  have E_b2 := A2
  refine own_go st2 ?_
  show own_Go p.tables e below _ T2 (mkF m 8 #[.val (.ref a1), .val (.long q2), .second] [(.ref b2), (.ref a1)])
  refine own_go (T' := T2) (g' := (mkF m 9 #[.val (.ref a1), .val (.long q2), .second] [(.ref b2), (.ref b2), (.ref a1)])) (fun t k => ?_) ?_
  · show Steps p.tables e below (T2.setTop (mkF m 8 #[.val (.ref a1), .val (.long q2), .second] [(.ref b2), (.ref a1)])) _
    refine XS.dup X2.here hx rfl (hb hby d1_8) rfl rfl ?_
    exact k
  obtain ⟨_, _, ⟨T3, L3, k3, n3⟩, -, X3, ⟨Lc3, hQ3, l3, y3, z3⟩, st3⟩ := X2.specialBack hx (y := (⟨"java/util/concurrent/atomic/AtomicLong", "<init>", "()V"⟩ : MethodName)) rfl hown (mvT hZ (hw _ (List.mem_of_getElem? (i := 12) rfl))) (mvT hZ (hw _ (List.mem_of_getElem? (i := 13) rfl))) (mvT hZ (hw _ (List.mem_of_getElem? (i := 14) rfl))) (by decide) (backOf (W := 2) (rm3 l Z a0 hw [] b2 h2 n0 Z0 ) hZ (hw _ (List.mem_of_getElem? (i := 14) rfl)) (hw _ (List.mem_of_getElem? (i := 11) rfl)) (by decide) (by decide)) (g := (mkF m 9 #[.val (.ref a1), .val (.long q2), .second] [(.ref b2), (.ref b2), (.ref a1)])) rfl (by rw [hml]; rfl) (Steps.refl _) (a := b2) (argsL := []) (rest := [(.ref b2), (.ref a1)]) (lenOf pd_1 rfl) rfl (by show 2 * 0 + _ ≤ _; exact Nat.le_of_eq rfl) (hb hby d1_9) (fun _ _ => ⟨rfl, e2, (by decide : 1 + 0 ≤ _), (by decide : 1 + 0 ≤ _)⟩)
  dsimp only [Pt.U, Pt.locs, Pt.cells, Pt.slots] at X3 l3 y3 z3 st3 hQ3
  subst l3 y3 z3
  obtain ⟨rfl, N3q, e3⟩ := hQ3
  have NN := Fr.app NN N3q
  refine own_go (fun t k => st3.trans k) ?_
  show own_Go p.tables e below _ T3 (mkF m 12 #[.val (.ref a1), .val (.long q2), .second] [(.ref b2), (.ref a1)])
  obtain ⟨T4, h4, X4, e4, W4, st4⟩ := putF X3 hx hZ hown (host := "") (Or.inl (hw _ (List.mem_of_getElem? (i := 22) rfl))) Via.refl e3 F_a1_taken E_a1 (Or.inr ⟨(hw _ (List.mem_of_getElem? (i := 23) rfl)), rfl, hnm⟩) (hw _ (List.mem_of_getElem? (i := 1) rfl)) (ty := (.object "java/util/concurrent/atomic/AtomicLong")) (by decide) rfl rfl (g := (mkF m 12 #[.val (.ref a1), .val (.long q2), .second] [(.ref b2), (.ref a1)])) rfl rfl (hb hby d1_12)
  refine own_go st4 ?_
  have E_a1 := E_a1.wr W4
  have F_a1_taken := F_a1_taken.same W4
  have F_a1_heapBytes := F_a1_heapBytes.other W4 (Or.inr (slot_ne (Or.inr (hw _ (List.mem_of_getElem? (i := 25) rfl))) (Or.inr (hw _ (List.mem_of_getElem? (i := 23) rfl))) (by decide) (t := .long) (t' := (.object "java/util/concurrent/atomic/AtomicLong")) (by decide) (by decide)))
  have E_b2 := E_b2.wr W4
  have Z0 := Nat.le_trans Z0 (Keep.of_wr W4).1
  have KK := KK.wr W4 (Or.inl (List.mem_of_getElem? (i := 0) rfl))
  have NN := Fr.snoc X4 NN g_a1
  show own_Go p.tables e below _ T4 (mkF m 15 #[.val (.ref a1), .val (.long q2), .second] [])
  refine own_go (T' := T4) (g' := (mkF m 17 #[.val (.ref a1), .val (.long q2), .second] [(.long q2), (.ref a1)])) (fun t k => ?_) ?_
  · show Steps p.tables e below (T4.setTop (mkF m 15 #[.val (.ref a1), .val (.long q2), .second] [])) _
    refine XS.aloadN X4.here hx rfl (hb hby d1_15) rfl rfl ?_
    show Steps p.tables e below (T4.setTop (mkF m 16 #[.val (.ref a1), .val (.long q2), .second] [(.ref a1)])) _
    refine XS.lloadN X4.here hx rfl (hb hby d1_16) rfl ?_
    exact k
  obtain ⟨T5, h5, X5, e5, W5, st5⟩ := putF X4 hx hZ hown (host := "") (Or.inl (hw _ (List.mem_of_getElem? (i := 24) rfl))) Via.refl e4 F_a1_heapBytes E_a1 (Or.inr ⟨(hw _ (List.mem_of_getElem? (i := 25) rfl)), rfl, hnm⟩) (hw _ (List.mem_of_getElem? (i := 1) rfl)) (ty := .long) (by decide) rfl rfl (g := (mkF m 17 #[.val (.ref a1), .val (.long q2), .second] [(.long q2), (.ref a1)])) rfl rfl (hb hby d1_17)
  refine own_go st5 ?_
  have E_a1 := E_a1.wr W5
  have F_a1_taken := F_a1_taken.other W5 (Or.inr (slot_ne (Or.inr (hw _ (List.mem_of_getElem? (i := 23) rfl))) (Or.inr (hw _ (List.mem_of_getElem? (i := 25) rfl))) (by decide) (t := (.object "java/util/concurrent/atomic/AtomicLong")) (t' := .long) (by decide) (by decide)))
  have F_a1_heapBytes := F_a1_heapBytes.same W5
  have E_b2 := E_b2.wr W5
  have Z0 := Nat.le_trans Z0 (Keep.of_wr W5).1
  have KK := KK.wr W5 (Or.inl (List.mem_of_getElem? (i := 0) rfl))
  have NN := Fr.snoc X5 NN g_a1
  show own_Go p.tables e below _ T5 (mkF m 20 #[.val (.ref a1), .val (.long q2), .second] [])
  obtain ⟨fs, hr, hrun, hended, hW, hsame⟩ := X5.leave (v := none) (fun _ => rfl)
  refine ⟨_, _, ?_, hrun, hended, _, _, rfl, ?_, ⟨_, rfl⟩, hW, hsame.mono (by decide) (by decide)⟩
  · exact X5.returnOut hx Bd.returns (hb hby d1_20) hr
  · show Q1 Z a1 q2 u_taken_a1 u_heapBytes_a1 h0 n0 _ T5.heap _
    rw [e5]
    exact ⟨rfl, NN, KK, E_a1, F_a1_heapBytes⟩
theorem d5_0 : decode jdk_29_method_70_code 0 = .ok (.lload_n 0, 1) := by decide +kernel
theorem d5_1 : decode jdk_29_method_70_code 1 = .ok (.lload_n 2, 1) := by decide +kernel
theorem d5_2 : decode jdk_29_method_70_code 2 = .ok (.lcmp, 1) := by decide +kernel
theorem d5_3 : decode jdk_29_method_70_code 3 = .ok (.ifCond .gt 7, 3) := by decide +kernel
theorem d5_6 : decode jdk_29_method_70_code 6 = .ok (.lload_n 0, 1) := by decide +kernel
theorem d5_7 : decode jdk_29_method_70_code 7 = .ok (.goto 4, 3) := by decide +kernel
theorem d5_10 : decode jdk_29_method_70_code 10 = .ok (.lload_n 2, 1) := by decide +kernel
theorem d5_11 : decode jdk_29_method_70_code 11 = .ok (.lreturn, 1) := by decide +kernel
theorem ef_5 (m : MethodId) (q1 : Int64) (q2 : Int64) : entryFrame m #[(.long q1), (.long q2)] 4 = mkF m 0 #[.val (.long q1), .second, .val (.long q2), .second] [] := by first | (simp [entryFrame, mkF, argsToLocals, Value.category]; done) | rfl
def r_5 (q1 : Int64) (q2 : Int64) : Int64 := ((if q2 < q1 then q2 else q1))
def Q5 (Z : State) (q1 : Int64) (q2 : Int64) (h0 : Heap) (n0 : Nat) (v : Option Value) (h : Heap) (L : List Loc) : Prop := v = some (.long (r_5 q1 q2)) ∧ Fr n0 L ∧ h = h0
set_option maxRecDepth 65536 in
set_option maxHeartbeats 40000000 in
theorem rm5 (l : Launch) (Z : State) (a0 : Array Value) (hw : ∀ d ∈ tables_1, d.before a0 Z = true) (ws : List Jvm.Cond) (q1 : Int64) (q2 : Int64) (h0 : Heap) (n0 : Nat) (Z0 : n0 ≤ h0.size) :
    MetFree l (⟨"java/lang/Math", "min", "(JJ)J"⟩ : MethodName) (head1 (Jvm.Cond.code (⟨"java/lang/Math", "min", "(JJ)J"⟩ : MethodName) jdk_29_method_70_code 4 (some .long) :: ws) ({ frames := 0, cells := 0, slots := 0, locals := 0 } : Room)) (fun a U => a = #[(.long q1), (.long q2)] ∧ Z.Warmed39 U.vm ∧ U.heap = h0) (fun _ _ _ _ _ => True) (fun _ U o U' => ∃ v L, o = .returned v ∧ Q5 Z q1 q2 h0 n0 v U'.heap L ∧ FrameEnd U o U' L ({ frames := 0, cells := 0, slots := 0, locals := 0 } : Room).cells ({ frames := 0, cells := 0, slots := 0, locals := 0 } : Room).slots) := by
  refine MetFree.of_bodySF (Jvm.Free.JP.mathPlain rfl (by decide +kernel)) hisR ?_
  intro p e s m args below meth c s₁ Bd hml0 hP hK
  obtain ⟨rfl, hZ, hh⟩ := hP
  have hx := Bd.exec
  have hby := Bd.bytes
  have hml : c.maxLocals = 4 := hml0
  have hown : s.vm.findClass "java/lang/Math" = some m.cls := findClass_of_methodNamed Bd.named
  have hnm := (name_of_methodNamed Bd.named Bd.method).1
  have X0 : Stand p l e ({ frames := 0, cells := 0, slots := 0, locals := 0 } : Room) s m #[(.long q1), (.long q2)] below meth c s₁ [] 0 0 := Stand.of_body Bd
  have e0 : s₁.heap = h0 := by rw [← hh, Bd.state]; rfl
  have NN := Fr.nil n0
  have KK : Keep h0 h0 [] := Keep.refl h0 []
  refine own_start (ef_5 m q1 q2) ?_
  refine own_go (T' := s₁) (g' := (mkF m 3 #[.val (.long q1), .second, .val (.long q2), .second] [(.int (lcmpW q1 q2))])) (fun t k => ?_) ?_
  · show Steps p.tables e below (s₁.setTop (mkF m 0 #[.val (.long q1), .second, .val (.long q2), .second] [])) _
    refine XS.lloadN X0.here hx rfl (hb hby d5_0) rfl ?_
    show Steps p.tables e below (s₁.setTop (mkF m 1 #[.val (.long q1), .second, .val (.long q2), .second] [(.long q1)])) _
    refine XS.lloadN X0.here hx rfl (hb hby d5_1) rfl ?_
    show Steps p.tables e below (s₁.setTop (mkF m 2 #[.val (.long q1), .second, .val (.long q2), .second] [(.long q2), (.long q1)])) _
    refine XS.lcmp X0.here hx rfl (hb hby d5_2) rfl ?_
    exact k
  obtain ⟨j1, hj1, st2⟩ : ∃ (j1 : Int64), j1 = (if q2 < q1 then q2 else q1) ∧ ∀ t, Steps p.tables e below (s₁.setTop (mkF m 11 #[.val (.long q1), .second, .val (.long q2), .second] [(.long j1)])) t → Steps p.tables e below (s₁.setTop (mkF m 3 #[.val (.long q1), .second, .val (.long q2), .second] [(.int (lcmpW q1 q2))])) t := by
    by_cases hc3_1 : q2 < q1
    · skip
      refine ⟨q2, (by simp only [if_pos hc3_1]), fun t k => ?_⟩
      show Steps p.tables e below (s₁.setTop (mkF m 3 #[.val (.long q1), .second, .val (.long q2), .second] [(.int (lcmpW q1 q2))])) _
      refine XS.ifYes X0.here hx rfl (pc0 := 3) (pc' := 10) rfl (hb hby d5_3) rfl ((if0 _ _).trans (tlt ((lw_gt q1 q2).mpr hc3_1)).2.2.1) (by decide) (by decide) ?_
      show Steps p.tables e below (s₁.setTop (mkF m 10 #[.val (.long q1), .second, .val (.long q2), .second] [])) _
      refine XS.lloadN X0.here hx rfl (hb hby d5_10) rfl ?_
      exact k
    · skip
      refine ⟨q1, (by simp only [if_neg hc3_1]), fun t k => ?_⟩
      show Steps p.tables e below (s₁.setTop (mkF m 3 #[.val (.long q1), .second, .val (.long q2), .second] [(.int (lcmpW q1 q2))])) _
      refine XS.ifNo X0.here hx rfl (hb hby d5_3) rfl ((if0 _ _).trans (flt (fun q => hc3_1 ((lw_gt q1 q2).mp q))).2.2.1) ?_
      show Steps p.tables e below (s₁.setTop (mkF m 6 #[.val (.long q1), .second, .val (.long q2), .second] [])) _
      refine XS.lloadN X0.here hx rfl (hb hby d5_6) rfl ?_
      show Steps p.tables e below (s₁.setTop (mkF m 7 #[.val (.long q1), .second, .val (.long q2), .second] [(.long q1)])) _
      refine XS.goto X0.here hx rfl (pc0 := 7) (pc' := 11) rfl (hb hby d5_7) (by decide) (by decide) ?_
      exact k
  refine own_go st2 ?_
  show own_Go p.tables e below _ s₁ (mkF m 11 #[.val (.long q1), .second, .val (.long q2), .second] [(.long j1)])
  obtain ⟨fs, hr, hrun, hended, hW, hsame⟩ := X0.leave (v := some (.long j1)) (fun h => by rw [Bd.returns] at h; cases h)
  refine ⟨_, _, ?_, hrun, hended, _, _, rfl, ?_, ⟨_, rfl⟩, hW, hsame.mono (by decide) (by decide)⟩
  · exact own_retJ X0 hx Bd.returns (hb hby d5_11) hr
  · show Q5 Z q1 q2 h0 n0 _ s₁.heap _
    rw [e0]
    exact ⟨(by subst hj1; first | (simp only [r_5]; done) | rfl), NN, rfl⟩
theorem d6_0 : decode jdk_29_method_66_code 0 = .ok (.lload_n 0, 1) := by decide +kernel
theorem d6_1 : decode jdk_29_method_66_code 1 = .ok (.lload_n 2, 1) := by decide +kernel
theorem d6_2 : decode jdk_29_method_66_code 2 = .ok (.lcmp, 1) := by decide +kernel
theorem d6_3 : decode jdk_29_method_66_code 3 = .ok (.ifCond .lt 7, 3) := by decide +kernel
theorem d6_6 : decode jdk_29_method_66_code 6 = .ok (.lload_n 0, 1) := by decide +kernel
theorem d6_7 : decode jdk_29_method_66_code 7 = .ok (.goto 4, 3) := by decide +kernel
theorem d6_10 : decode jdk_29_method_66_code 10 = .ok (.lload_n 2, 1) := by decide +kernel
theorem d6_11 : decode jdk_29_method_66_code 11 = .ok (.lreturn, 1) := by decide +kernel
theorem ef_6 (m : MethodId) (q1 : Int64) (q2 : Int64) : entryFrame m #[(.long q1), (.long q2)] 4 = mkF m 0 #[.val (.long q1), .second, .val (.long q2), .second] [] := by first | (simp [entryFrame, mkF, argsToLocals, Value.category]; done) | rfl
def r_6 (q1 : Int64) (q2 : Int64) : Int64 := ((if q1 < q2 then q2 else q1))
def Q6 (Z : State) (q1 : Int64) (q2 : Int64) (h0 : Heap) (n0 : Nat) (v : Option Value) (h : Heap) (L : List Loc) : Prop := v = some (.long (r_6 q1 q2)) ∧ Fr n0 L ∧ h = h0
set_option maxRecDepth 65536 in
set_option maxHeartbeats 40000000 in
theorem rm6 (l : Launch) (Z : State) (a0 : Array Value) (hw : ∀ d ∈ tables_1, d.before a0 Z = true) (ws : List Jvm.Cond) (q1 : Int64) (q2 : Int64) (h0 : Heap) (n0 : Nat) (Z0 : n0 ≤ h0.size) :
    MetFree l (⟨"java/lang/Math", "max", "(JJ)J"⟩ : MethodName) (head1 (Jvm.Cond.code (⟨"java/lang/Math", "max", "(JJ)J"⟩ : MethodName) jdk_29_method_66_code 4 (some .long) :: ws) ({ frames := 0, cells := 0, slots := 0, locals := 0 } : Room)) (fun a U => a = #[(.long q1), (.long q2)] ∧ Z.Warmed39 U.vm ∧ U.heap = h0) (fun _ _ _ _ _ => True) (fun _ U o U' => ∃ v L, o = .returned v ∧ Q6 Z q1 q2 h0 n0 v U'.heap L ∧ FrameEnd U o U' L ({ frames := 0, cells := 0, slots := 0, locals := 0 } : Room).cells ({ frames := 0, cells := 0, slots := 0, locals := 0 } : Room).slots) := by
  refine MetFree.of_bodySF (Jvm.Free.JP.mathPlain rfl (by decide +kernel)) hisR ?_
  intro p e s m args below meth c s₁ Bd hml0 hP hK
  obtain ⟨rfl, hZ, hh⟩ := hP
  have hx := Bd.exec
  have hby := Bd.bytes
  have hml : c.maxLocals = 4 := hml0
  have hown : s.vm.findClass "java/lang/Math" = some m.cls := findClass_of_methodNamed Bd.named
  have hnm := (name_of_methodNamed Bd.named Bd.method).1
  have X0 : Stand p l e ({ frames := 0, cells := 0, slots := 0, locals := 0 } : Room) s m #[(.long q1), (.long q2)] below meth c s₁ [] 0 0 := Stand.of_body Bd
  have e0 : s₁.heap = h0 := by rw [← hh, Bd.state]; rfl
  have NN := Fr.nil n0
  have KK : Keep h0 h0 [] := Keep.refl h0 []
  refine own_start (ef_6 m q1 q2) ?_
  refine own_go (T' := s₁) (g' := (mkF m 3 #[.val (.long q1), .second, .val (.long q2), .second] [(.int (lcmpW q1 q2))])) (fun t k => ?_) ?_
  · show Steps p.tables e below (s₁.setTop (mkF m 0 #[.val (.long q1), .second, .val (.long q2), .second] [])) _
    refine XS.lloadN X0.here hx rfl (hb hby d6_0) rfl ?_
    show Steps p.tables e below (s₁.setTop (mkF m 1 #[.val (.long q1), .second, .val (.long q2), .second] [(.long q1)])) _
    refine XS.lloadN X0.here hx rfl (hb hby d6_1) rfl ?_
    show Steps p.tables e below (s₁.setTop (mkF m 2 #[.val (.long q1), .second, .val (.long q2), .second] [(.long q2), (.long q1)])) _
    refine XS.lcmp X0.here hx rfl (hb hby d6_2) rfl ?_
    exact k
  obtain ⟨j1, hj1, st2⟩ : ∃ (j1 : Int64), j1 = (if q1 < q2 then q2 else q1) ∧ ∀ t, Steps p.tables e below (s₁.setTop (mkF m 11 #[.val (.long q1), .second, .val (.long q2), .second] [(.long j1)])) t → Steps p.tables e below (s₁.setTop (mkF m 3 #[.val (.long q1), .second, .val (.long q2), .second] [(.int (lcmpW q1 q2))])) t := by
    by_cases hc3_1 : q1 < q2
    · skip
      refine ⟨q2, (by simp only [if_pos hc3_1]), fun t k => ?_⟩
      show Steps p.tables e below (s₁.setTop (mkF m 3 #[.val (.long q1), .second, .val (.long q2), .second] [(.int (lcmpW q1 q2))])) _
      refine XS.ifYes X0.here hx rfl (pc0 := 3) (pc' := 10) rfl (hb hby d6_3) rfl ((if0 _ _).trans (tlt ((lw_lt q1 q2).mpr hc3_1)).1) (by decide) (by decide) ?_
      show Steps p.tables e below (s₁.setTop (mkF m 10 #[.val (.long q1), .second, .val (.long q2), .second] [])) _
      refine XS.lloadN X0.here hx rfl (hb hby d6_10) rfl ?_
      exact k
    · skip
      refine ⟨q1, (by simp only [if_neg hc3_1]), fun t k => ?_⟩
      show Steps p.tables e below (s₁.setTop (mkF m 3 #[.val (.long q1), .second, .val (.long q2), .second] [(.int (lcmpW q1 q2))])) _
      refine XS.ifNo X0.here hx rfl (hb hby d6_3) rfl ((if0 _ _).trans (flt (fun q => hc3_1 ((lw_lt q1 q2).mp q))).1) ?_
      show Steps p.tables e below (s₁.setTop (mkF m 6 #[.val (.long q1), .second, .val (.long q2), .second] [])) _
      refine XS.lloadN X0.here hx rfl (hb hby d6_6) rfl ?_
      show Steps p.tables e below (s₁.setTop (mkF m 7 #[.val (.long q1), .second, .val (.long q2), .second] [(.long q1)])) _
      refine XS.goto X0.here hx rfl (pc0 := 7) (pc' := 11) rfl (hb hby d6_7) (by decide) (by decide) ?_
      exact k
  refine own_go st2 ?_
  show own_Go p.tables e below _ s₁ (mkF m 11 #[.val (.long q1), .second, .val (.long q2), .second] [(.long j1)])
  obtain ⟨fs, hr, hrun, hended, hW, hsame⟩ := X0.leave (v := some (.long j1)) (fun h => by rw [Bd.returns] at h; cases h)
  refine ⟨_, _, ?_, hrun, hended, _, _, rfl, ?_, ⟨_, rfl⟩, hW, hsame.mono (by decide) (by decide)⟩
  · exact own_retJ X0 hx Bd.returns (hb hby d6_11) hr
  · show Q6 Z q1 q2 h0 n0 _ s₁.heap _
    rw [e0]
    exact ⟨(by subst hj1; first | (simp only [r_6]; done) | rfl), NN, rfl⟩
theorem d7_0 : decode prog_144_method_7_code 0 = .ok (.lload_n 1, 1) := by decide +kernel
theorem d7_1 : decode prog_144_method_7_code 1 = .ok (.aload_n 0, 1) := by decide +kernel
theorem d7_2 : decode prog_144_method_7_code 2 = .ok (.getfield 16, 3) := by decide +kernel
theorem d7_5 : decode prog_144_method_7_code 5 = .ok (.lcmp, 1) := by decide +kernel
theorem d7_6 : decode prog_144_method_7_code 6 = .ok (.ifCond .gt 7, 3) := by decide +kernel
theorem d7_9 : decode prog_144_method_7_code 9 = .ok (.iconst 1, 1) := by decide +kernel
theorem d7_10 : decode prog_144_method_7_code 10 = .ok (.goto 4, 3) := by decide +kernel
theorem d7_13 : decode prog_144_method_7_code 13 = .ok (.iconst 0, 1) := by decide +kernel
theorem d7_14 : decode prog_144_method_7_code 14 = .ok (.ireturn, 1) := by decide +kernel
theorem ef_7 (m : MethodId) (a1 : Addr) (q2 : Int64) : entryFrame m #[(.ref a1), (.long q2)] 3 = mkF m 0 #[.val (.ref a1), .val (.long q2), .second] [] := by first | (simp [entryFrame, mkF, argsToLocals, Value.category]; done) | rfl
def r_7 (q2 : Int64) (w_heapBytes_a1 : Int64) : Int32 := (((if w_heapBytes_a1 < q2 then (0 : Int32) else (1 : Int32))) &&& 1)
def Q7 (Z : State) (a1 : Addr) (q2 : Int64) (w_heapBytes_a1 : Int64) (h0 : Heap) (n0 : Nat) (v : Option Value) (h : Heap) (L : List Loc) : Prop := v = some (.int (r_7 q2 w_heapBytes_a1)) ∧ Fr n0 L ∧ h = h0
set_option maxRecDepth 65536 in
set_option maxHeartbeats 40000000 in
theorem rm7 (l : Launch) (Z : State) (a0 : Array Value) (hw : ∀ d ∈ tables_1, d.before a0 Z = true) (ws : List Jvm.Cond) (a1 : Addr) (q2 : Int64) (w_heapBytes_a1 : Int64) (h0 : Heap) (n0 : Nat) (Z0 : n0 ≤ h0.size) (F_a1_heapBytes : Fld Z h0 a1 "com/example/kirchberg/kirchberg/server/HeapBudget" "heapBytes" "J" (.long w_heapBytes_a1)) :
    MetFree l (⟨"com/example/kirchberg/kirchberg/server/HeapBudget", "holds", "(J)Z"⟩ : MethodName) (head1 (Jvm.Cond.code (⟨"com/example/kirchberg/kirchberg/server/HeapBudget", "holds", "(J)Z"⟩ : MethodName) prog_144_method_7_code 3 (some .boolean) :: ws) ({ frames := 0, cells := 0, slots := 0, locals := 0 } : Room)) (fun a U => a = #[(.ref a1), (.long q2)] ∧ Z.Warmed39 U.vm ∧ U.heap = h0) (fun _ _ _ _ _ => True) (fun _ U o U' => ∃ v L, o = .returned v ∧ Q7 Z a1 q2 w_heapBytes_a1 h0 n0 v U'.heap L ∧ FrameEnd U o U' L ({ frames := 0, cells := 0, slots := 0, locals := 0 } : Room).cells ({ frames := 0, cells := 0, slots := 0, locals := 0 } : Room).slots) := by
  refine MetFree.of_bodySF (plainFor_of_name pn_2) hisR ?_
  intro p e s m args below meth c s₁ Bd hml0 hP hK
  obtain ⟨rfl, hZ, hh⟩ := hP
  have hx := Bd.exec
  have hby := Bd.bytes
  have hml : c.maxLocals = 3 := hml0
  have hown : s.vm.findClass "com/example/kirchberg/kirchberg/server/HeapBudget" = some m.cls := findClass_of_methodNamed Bd.named
  have hnm := (name_of_methodNamed Bd.named Bd.method).1
  have X0 : Stand p l e ({ frames := 0, cells := 0, slots := 0, locals := 0 } : Room) s m #[(.ref a1), (.long q2)] below meth c s₁ [] 0 0 := Stand.of_body Bd
  have e0 : s₁.heap = h0 := by rw [← hh, Bd.state]; rfl
  have NN := Fr.nil n0
  have KK : Keep h0 h0 [] := Keep.refl h0 []
  refine own_start (ef_7 m a1 q2) ?_
  refine own_go (T' := s₁) (g' := (mkF m 2 #[.val (.ref a1), .val (.long q2), .second] [(.ref a1), (.long q2)])) (fun t k => ?_) ?_
  · show Steps p.tables e below (s₁.setTop (mkF m 0 #[.val (.ref a1), .val (.long q2), .second] [])) _
    refine XS.lloadN X0.here hx rfl (hb hby d7_0) rfl ?_
    show Steps p.tables e below (s₁.setTop (mkF m 1 #[.val (.ref a1), .val (.long q2), .second] [(.long q2)])) _
    refine XS.aloadN X0.here hx rfl (hb hby d7_1) rfl rfl ?_
    exact k
  obtain ⟨T1, X1, e1, st1⟩ := getF X0 hx hZ hown (host := "") (Or.inl (hw _ (List.mem_of_getElem? (i := 24) rfl))) Via.refl e0 F_a1_heapBytes (g := (mkF m 2 #[.val (.ref a1), .val (.long q2), .second] [(.ref a1), (.long q2)])) rfl rfl (hb hby d7_2)
  refine own_go st1 ?_
  show own_Go p.tables e below _ T1 (mkF m 5 #[.val (.ref a1), .val (.long q2), .second] [(.long w_heapBytes_a1), (.long q2)])
  refine own_go (T' := T1) (g' := (mkF m 6 #[.val (.ref a1), .val (.long q2), .second] [(.int (lcmpW q2 w_heapBytes_a1))])) (fun t k => ?_) ?_
  · show Steps p.tables e below (T1.setTop (mkF m 5 #[.val (.ref a1), .val (.long q2), .second] [(.long w_heapBytes_a1), (.long q2)])) _
    refine XS.lcmp X1.here hx rfl (hb hby d7_5) rfl ?_
    exact k
  obtain ⟨j2, hj2, st3⟩ : ∃ (j2 : Int32), j2 = (if w_heapBytes_a1 < q2 then (0 : Int32) else (1 : Int32)) ∧ ∀ t, Steps p.tables e below (T1.setTop (mkF m 14 #[.val (.ref a1), .val (.long q2), .second] [(.int j2)])) t → Steps p.tables e below (T1.setTop (mkF m 6 #[.val (.ref a1), .val (.long q2), .second] [(.int (lcmpW q2 w_heapBytes_a1))])) t := by
    by_cases hc6_1 : w_heapBytes_a1 < q2
    · skip
      refine ⟨(0 : Int32), (by simp only [if_pos hc6_1]), fun t k => ?_⟩
      show Steps p.tables e below (T1.setTop (mkF m 6 #[.val (.ref a1), .val (.long q2), .second] [(.int (lcmpW q2 w_heapBytes_a1))])) _
      refine XS.ifYes X1.here hx rfl (pc0 := 6) (pc' := 13) rfl (hb hby d7_6) rfl ((if0 _ _).trans (tlt ((lw_gt q2 w_heapBytes_a1).mpr hc6_1)).2.2.1) (by decide) (by decide) ?_
      show Steps p.tables e below (T1.setTop (mkF m 13 #[.val (.ref a1), .val (.long q2), .second] [])) _
      refine XS.iconst X1.here hx rfl (hb hby d7_13) ?_
      exact k
    · skip
      refine ⟨(1 : Int32), (by simp only [if_neg hc6_1]), fun t k => ?_⟩
      show Steps p.tables e below (T1.setTop (mkF m 6 #[.val (.ref a1), .val (.long q2), .second] [(.int (lcmpW q2 w_heapBytes_a1))])) _
      refine XS.ifNo X1.here hx rfl (hb hby d7_6) rfl ((if0 _ _).trans (flt (fun q => hc6_1 ((lw_gt q2 w_heapBytes_a1).mp q))).2.2.1) ?_
      show Steps p.tables e below (T1.setTop (mkF m 9 #[.val (.ref a1), .val (.long q2), .second] [])) _
      refine XS.iconst X1.here hx rfl (hb hby d7_9) ?_
      show Steps p.tables e below (T1.setTop (mkF m 10 #[.val (.ref a1), .val (.long q2), .second] [(.int (1 : Int32))])) _
      refine XS.goto X1.here hx rfl (pc0 := 10) (pc' := 14) rfl (hb hby d7_10) (by decide) (by decide) ?_
      exact k
  refine own_go st3 ?_
  show own_Go p.tables e below _ T1 (mkF m 14 #[.val (.ref a1), .val (.long q2), .second] [(.int j2)])
  obtain ⟨fs, hr, hrun, hended, hW, hsame⟩ := X1.leave (v := some (.int (nar .boolean j2))) (fun h => by rw [Bd.returns] at h; cases h)
  refine ⟨_, _, ?_, hrun, hended, _, _, rfl, ?_, ⟨_, rfl⟩, hW, hsame.mono (by decide) (by decide)⟩
  · exact retN X1 hx (t := .boolean) Bd.returns (by simp) (hb hby d7_14) hr
  · show Q7 Z a1 q2 w_heapBytes_a1 h0 n0 _ T1.heap _
    rw [e1]
    exact ⟨(by subst hj2; first | (simp only [r_7, own_narZ, own_narC, own_narB]; done) | rfl), NN, rfl⟩
theorem own_pl_h (q h : Int64) : r_7 q h = if h < q then 0 else 1 := by
  simp only [r_7]
  by_cases g : h < q
  · simp only [if_pos g]; rfl
  · simp only [if_neg g]; rfl
theorem own_pl_mono (b c h : Int64) (a d e : Int32) (ha : a = r_7 (r_5 b c) h) (hd : d = r_7 (r_6 b c) h) (he : e = (if d = (0 : Int32) then (1 : Int32) else (if a = (0 : Int32) then (0 : Int32) else (1 : Int32)))) : ¬ e = 0 := by
  by_cases z : d = 0
  · rw [he, if_pos z]; decide
  · have n : ¬ h < r_6 b c := fun g => z (by rw [hd, own_pl_h, if_pos g])
    have m : ¬ h < r_5 b c := by
      rw [Int64.lt_iff_toInt_lt] at *
      simp only [r_5, r_6, Int64.lt_iff_toInt_lt] at *
      split at n <;> split <;> omega
    have y : ¬ a = 0 := by rw [ha, own_pl_h, if_neg m]; decide
    rw [he, if_neg z, if_neg y]; decide
theorem own_pl_self (q : Int64) : ¬ r_7 q q = 0 := by
  have n : ¬ q < q := Int64.lt_irrefl
  rw [own_pl_h, if_neg n]; decide
theorem pn_3 : plainName "com/example/kirchberg/kirchberg/server/HeapBudgetHoldsPinLaw" = true := by first | (simp [plainName, overriddenIn]; done) | decide +kernel
theorem pd_0 : parseMethodDescriptor "(J)V" = some ⟨[.long], none⟩ := by decide +kernel
theorem pd_2 : parseMethodDescriptor "(JJ)J" = some ⟨[.long, .long], some .long⟩ := by decide +kernel
theorem pd_3 : parseMethodDescriptor "(J)Z" = some ⟨[.long], some .boolean⟩ := by decide +kernel
theorem ef_0 (m : MethodId) (q1 : Int64) (q2 : Int64) (q3 : Int64) : entryFrame m #[(.long q1), (.long q2), (.long q3)] maxLocals = mkF m 0 #[.val (.long q1), .second, .val (.long q2), .second, .val (.long q3), .second, .unset, .unset, .unset, .unset, .unset, .unset, .unset, .unset, .unset, .unset] [] := by first | (simp [entryFrame, mkF, argsToLocals, Value.category, maxLocals]; done) | rfl
def Q0 (Z : State) (q1 : Int64) (q2 : Int64) (q3 : Int64) (h0 : Heap) (n0 : Nat) (v : Option Value) (h : Heap) (L : List Loc) : Prop := v = some (.int 1) ∧ Fr n0 L
theorem own_yes_t (q1 : Int64) (q2 : Int64) (q3 : Int64) (j4 : Int64) (j6 : Int64) (j8 : Int32) (j10 : Int32) (j12 : Int32) (j13 : Int32) (j15 : Int32) (hj4 : j4 = (r_5 q2 q3)) (hj6 : j6 = (r_6 q2 q3)) (hj8 : j8 = (r_7 q1 q1)) (hj10 : j10 = (r_7 j4 q1)) (hj12 : j12 = (r_7 j6 q1)) (hj13 : j13 = (if j12 = (0 : Int32) then (1 : Int32) else (if j10 = (0 : Int32) then (0 : Int32) else (1 : Int32)))) (hj15 : j15 = (if j8 = (0 : Int32) then (0 : Int32) else (if j13 = (0 : Int32) then (0 : Int32) else (1 : Int32)))) (hc42_1 : q1 = (9223372036854775807 : Int64)) : (nar .boolean j15) = 1 := by
  have a : ¬ j8 = 0 := by rw [hj8]; exact own_pl_self _
  rw [hj4] at hj10
  rw [hj6] at hj12
  have b := own_pl_mono q2 q3 q1 j10 j12 j13 hj10 hj12 hj13
  rw [hj15, if_neg a, if_neg b]
  rfl
theorem own_yes_f (q1 : Int64) (q2 : Int64) (q3 : Int64) (j4 : Int64) (j6 : Int64) (j8 : Int32) (j18 : Int32) (j20 : Int32) (j22 : Int32) (j23 : Int32) (j25 : Int32) (hj4 : j4 = (r_5 q2 q3)) (hj6 : j6 = (r_6 q2 q3)) (hj8 : j8 = (r_7 q1 q1)) (hj18 : j18 = (r_7 (q1 + (1 : Int64)) q1)) (hj20 : j20 = (r_7 j4 q1)) (hj22 : j22 = (r_7 j6 q1)) (hj23 : j23 = (if j22 = (0 : Int32) then (1 : Int32) else (if j20 = (0 : Int32) then (0 : Int32) else (1 : Int32)))) (hj25 : j25 = (if j8 = (0 : Int32) then (0 : Int32) else (if j18 = (0 : Int32) then (if j23 = (0 : Int32) then (0 : Int32) else (1 : Int32)) else (0 : Int32)))) (hc42_1 : ¬ (q1 = (9223372036854775807 : Int64))) : (nar .boolean j25) = 1 := by
  have a : ¬ j8 = 0 := by rw [hj8]; exact own_pl_self _
  rw [hj4] at hj20
  rw [hj6] at hj22
  have b := own_pl_mono q2 q3 q1 j20 j22 j23 hj20 hj22 hj23
  have c : q1 < q1 + 1 := by
    rw [Int64.lt_iff_toInt_lt]
    rw [← Int64.toInt_inj] at hc42_1
    have e := c_ladd q1 1
    have r1 := rng64 q1
    have r2 := rng64 (q1 + 1)
    have k1 : (1 : Int64).toInt = 1 := rfl
    have k2 : (9223372036854775807 : Int64).toInt = 9223372036854775807 := rfl
    omega
  have d : j18 = 0 := by rw [hj18, own_pl_h, if_pos c]
  rw [hj25, if_neg a, if_pos d, if_neg b]
  rfl
set_option maxRecDepth 65536 in
set_option maxHeartbeats 40000000 in
theorem rm0 (l : Launch) (Z : State) (a0 : Array Value) (hw : ∀ d ∈ tables_1, d.before a0 Z = true) (ws : List Jvm.Cond) (q1 : Int64) (q2 : Int64) (q3 : Int64) (h0 : Heap) (n0 : Nat) (Z0 : n0 ≤ h0.size) :
    MetFree l x (head1 (Jvm.Cond.code x code maxLocals ret :: ws) room_1) (fun a U => a = #[(.long q1), (.long q2), (.long q3)] ∧ Z.Warmed39 U.vm ∧ U.heap = h0) (fun _ _ _ _ _ => True) (fun _ U o U' => ∃ v L, o = .returned v ∧ Q0 Z q1 q2 q3 h0 n0 v U'.heap L ∧ FrameEnd U o U' L room_1.cells room_1.slots) := by
  refine MetFree.of_bodySF (plainFor_of_name pn_3) hisR ?_
  intro p e s m args below meth c s₁ Bd hml0 hP hK
  obtain ⟨rfl, hZ, hh⟩ := hP
  have hx := Bd.exec
  have hby := Bd.bytes
  have hml : c.maxLocals = 16 := hml0
  have hown : s.vm.findClass "com/example/kirchberg/kirchberg/server/HeapBudgetHoldsPinLaw" = some m.cls := findClass_of_methodNamed Bd.named
  have hnm := (name_of_methodNamed Bd.named Bd.method).1
  have X0 : Stand p l e room_1 s m #[(.long q1), (.long q2), (.long q3)] below meth c s₁ [] 0 0 := Stand.of_body Bd
  have e0 : s₁.heap = h0 := by rw [← hh, Bd.state]; rfl
  have NN := Fr.nil n0
  have KK : Keep h0 h0 [] := Keep.refl h0 []
  refine own_start (ef_0 m q1 q2 q3) ?_
  obtain ⟨T1, h1, X1, e1, E1, A1, D1, -, st1⟩ := newO X0 hx hZ hown (hw _ (List.mem_of_getElem? (i := 0) rfl)) (hw _ (List.mem_of_getElem? (i := 1) rfl)) (hw _ (List.mem_of_getElem? (i := 2) rfl)) e0 (g := (mkF m 0 #[.val (.long q1), .second, .val (.long q2), .second, .val (.long q3), .second, .unset, .unset, .unset, .unset, .unset, .unset, .unset, .unset, .unset, .unset] [])) rfl (hb hby at_0) (by decide) (by decide)
  obtain ⟨b1, g1⟩ : ∃ z, z = h0.size := ⟨_, rfl⟩
  rw [← g1] at A1 D1 st1
  have g_b1 : n0 ≤ b1 := Nat.le_trans Z0 (Nat.le_of_eq g1.symm)
  have sz_b1 : h0.size ≤ b1 := Nat.le_trans KK.1 (Nat.le_of_eq g1.symm)
  have Z0 := Nat.le_trans Z0 E1.1
  have KK := KK.ext E1
  have E_b1 := A1
  have F_b1_taken : Fld Z h1 b1 "com/example/kirchberg/kirchberg/server/HeapBudget" "taken" "Ljava/util/concurrent/atomic/AtomicLong;" .null := D1 (Or.inr (hw _ (List.mem_of_getElem? (i := 23) rfl))) (ty := (.object "java/util/concurrent/atomic/AtomicLong")) (by decide)
  have F_b1_heapBytes : Fld Z h1 b1 "com/example/kirchberg/kirchberg/server/HeapBudget" "heapBytes" "J" (.long (0 : Int64)) := D1 (Or.inr (hw _ (List.mem_of_getElem? (i := 25) rfl))) (ty := .long) (by decide)
  refine own_go st1 ?_
  show own_Go p.tables e below _ T1 (mkF m 3 #[.val (.long q1), .second, .val (.long q2), .second, .val (.long q3), .second, .unset, .unset, .unset, .unset, .unset, .unset, .unset, .unset, .unset, .unset] [(.ref b1)])
  refine own_go (T' := T1) (g' := (mkF m 5 #[.val (.long q1), .second, .val (.long q2), .second, .val (.long q3), .second, .unset, .unset, .unset, .unset, .unset, .unset, .unset, .unset, .unset, .unset] [(.long q1), (.ref b1), (.ref b1)])) (fun t k => ?_) ?_
  · show Steps p.tables e below (T1.setTop (mkF m 3 #[.val (.long q1), .second, .val (.long q2), .second, .val (.long q3), .second, .unset, .unset, .unset, .unset, .unset, .unset, .unset, .unset, .unset, .unset] [(.ref b1)])) _
    refine XS.dup X1.here hx rfl (hb hby at_3) rfl rfl ?_
    show Steps p.tables e below (T1.setTop (mkF m 4 #[.val (.long q1), .second, .val (.long q2), .second, .val (.long q3), .second, .unset, .unset, .unset, .unset, .unset, .unset, .unset, .unset, .unset, .unset] [(.ref b1), (.ref b1)])) _
    refine XS.lloadN X1.here hx rfl (hb hby at_4) rfl ?_
    exact k
  obtain ⟨_, _, ⟨T2, L2, k2, n2⟩, -, X2, ⟨Lc2, hQ2, l2, y2, z2⟩, st2⟩ := X1.specialBack hx (y := (⟨"com/example/kirchberg/kirchberg/server/HeapBudget", "<init>", "(J)V"⟩ : MethodName)) rfl hown (mvT hZ (hw _ (List.mem_of_getElem? (i := 3) rfl))) (mvT hZ (hw _ (List.mem_of_getElem? (i := 4) rfl))) (mvT hZ (hw _ (List.mem_of_getElem? (i := 5) rfl))) (by decide) (backOf (W := 1) (rm1 l Z a0 hw [] b1 q1 .null (.long (0 : Int64)) h1 n0 Z0 E_b1 F_b1_taken g_b1 F_b1_heapBytes) hZ (hw _ (List.mem_of_getElem? (i := 5) rfl)) (hw _ (List.mem_of_getElem? (i := 2) rfl)) (by decide) (by decide)) (g := (mkF m 5 #[.val (.long q1), .second, .val (.long q2), .second, .val (.long q3), .second, .unset, .unset, .unset, .unset, .unset, .unset, .unset, .unset, .unset, .unset] [(.long q1), (.ref b1), (.ref b1)])) rfl (by rw [hml]; rfl) (Steps.refl _) (a := b1) (argsL := [(.long q1)]) (rest := [(.ref b1)]) (lenOf pd_0 rfl) rfl (by show 2 * 0 + _ ≤ _; exact Nat.le_of_eq rfl) (hb hby at_5) (fun _ _ => ⟨rfl, e1, (by decide : 1 + 1 ≤ _), (by decide : 2 + 1 ≤ _)⟩)
  dsimp only [Pt.U, Pt.locs, Pt.cells, Pt.slots] at X2 l2 y2 z2 st2 hQ2
  subst l2 y2 z2
  obtain ⟨rfl, N2q, K2, Q2_0, Q2_1⟩ := hQ2
  have E_b1 := Q2_0
  have F_b1_heapBytes := Q2_1
  have Z0 := Nat.le_trans Z0 K2.1
  have KK := KK.trans K2 (allS (Or.inr sz_b1) all0)
  have NN := Fr.app NN N2q
  refine own_go (fun t k => st2.trans k) ?_
  show own_Go p.tables e below _ T2 (mkF m 8 #[.val (.long q1), .second, .val (.long q2), .second, .val (.long q3), .second, .unset, .unset, .unset, .unset, .unset, .unset, .unset, .unset, .unset, .unset] [(.ref b1)])
  refine own_go (T' := T2) (g' := (mkF m 13 #[.val (.long q1), .second, .val (.long q2), .second, .val (.long q3), .second, .val (.ref b1), .unset, .unset, .unset, .unset, .unset, .unset, .unset, .unset, .unset] [(.long q3), (.long q2)])) (fun t k => ?_) ?_
  · show Steps p.tables e below (T2.setTop (mkF m 8 #[.val (.long q1), .second, .val (.long q2), .second, .val (.long q3), .second, .unset, .unset, .unset, .unset, .unset, .unset, .unset, .unset, .unset, .unset] [(.ref b1)])) _
    refine XS.astore X2.here hx rfl (hb hby at_8) rfl rfl (l' := #[.val (.long q1), .second, .val (.long q2), .second, .val (.long q3), .second, .val (.ref b1), .unset, .unset, .unset, .unset, .unset, .unset, .unset, .unset, .unset]) rfl ?_
    show Steps p.tables e below (T2.setTop (mkF m 10 #[.val (.long q1), .second, .val (.long q2), .second, .val (.long q3), .second, .val (.ref b1), .unset, .unset, .unset, .unset, .unset, .unset, .unset, .unset, .unset] [])) _
    refine XS.lloadN X2.here hx rfl (hb hby at_10) rfl ?_
    show Steps p.tables e below (T2.setTop (mkF m 11 #[.val (.long q1), .second, .val (.long q2), .second, .val (.long q3), .second, .val (.ref b1), .unset, .unset, .unset, .unset, .unset, .unset, .unset, .unset, .unset] [(.long q2)])) _
    refine XS.lload X2.here hx rfl (hb hby at_11) rfl ?_
    exact k
  obtain ⟨_, _, ⟨T3, L3, k3, n3⟩, -, X3, ⟨Lc3, hQ3, l3, y3, z3⟩, st3⟩ := Jvm.LawKit.callS X2 hx (y := (⟨"java/lang/Math", "min", "(JJ)J"⟩ : MethodName)) hown (mvT hZ (hw _ (List.mem_of_getElem? (i := 26) rfl))) (mvT hZ (hw _ (List.mem_of_getElem? (i := 27) rfl))) (mvT hZ (hw _ (List.mem_of_getElem? (i := 28) rfl))) (mvT hZ (hw _ (List.mem_of_getElem? (i := 29) rfl))) (by decide) (backOf (W := 0) (rm5 l Z a0 hw [] q2 q3 T2.heap n0 Z0 ) hZ (hw _ (List.mem_of_getElem? (i := 29) rfl)) (hw _ (List.mem_of_getElem? (i := 28) rfl)) (by decide) (by decide)) (g := (mkF m 13 #[.val (.long q1), .second, .val (.long q2), .second, .val (.long q3), .second, .val (.ref b1), .unset, .unset, .unset, .unset, .unset, .unset, .unset, .unset, .unset] [(.long q3), (.long q2)])) rfl (by rw [hml]; rfl) (argsL := [(.long q2), (.long q3)]) (rest := []) (lenOf pd_2 rfl) rfl (by show 2 * 0 + _ ≤ _; exact Nat.le_of_eq rfl) (hb hby at_13) (fun _ _ => ⟨rfl, rfl, (by decide : 2 + 0 ≤ _), (by decide : 3 + 0 ≤ _)⟩)
  dsimp only [Pt.U, Pt.locs, Pt.cells, Pt.slots] at X3 l3 y3 z3 st3 hQ3
  subst l3 y3 z3
  obtain ⟨rfl, N3q, e3⟩ := hQ3
  have NN := Fr.app NN N3q
  refine own_go st3 ?_
  show own_Go p.tables e below _ T3 (mkF m 16 #[.val (.long q1), .second, .val (.long q2), .second, .val (.long q3), .second, .val (.ref b1), .unset, .unset, .unset, .unset, .unset, .unset, .unset, .unset, .unset] [(.long (r_5 q2 q3))])
  refine own_go (T' := T3) (g' := (mkF m 18 #[.val (.long q1), .second, .val (.long q2), .second, .val (.long q3), .second, .val (.ref b1), .val (.long (r_5 q2 q3)), .second, .unset, .unset, .unset, .unset, .unset, .unset, .unset] [])) (fun t k => ?_) ?_
  · show Steps p.tables e below (T3.setTop (mkF m 16 #[.val (.long q1), .second, .val (.long q2), .second, .val (.long q3), .second, .val (.ref b1), .unset, .unset, .unset, .unset, .unset, .unset, .unset, .unset, .unset] [(.long (r_5 q2 q3))])) _
    refine XS.lstore X3.here hx rfl (hb hby at_16) rfl (l' := #[.val (.long q1), .second, .val (.long q2), .second, .val (.long q3), .second, .val (.ref b1), .val (.long (r_5 q2 q3)), .second, .unset, .unset, .unset, .unset, .unset, .unset, .unset]) rfl ?_
    exact k
  show own_Go p.tables e below _ T3 (mkF m 18 #[.val (.long q1), .second, .val (.long q2), .second, .val (.long q3), .second, .val (.ref b1), .val (.long (r_5 q2 q3)), .second, .unset, .unset, .unset, .unset, .unset, .unset, .unset] [])
  obtain ⟨j4, hj4⟩ : ∃ z : Int64, z = (r_5 q2 q3) := ⟨_, rfl⟩
  rw [← hj4]
  show own_Go p.tables e below _ T3 (mkF m 18 #[.val (.long q1), .second, .val (.long q2), .second, .val (.long q3), .second, .val (.ref b1), .val (.long j4), .second, .unset, .unset, .unset, .unset, .unset, .unset, .unset] [])
  refine own_go (T' := T3) (g' := (mkF m 21 #[.val (.long q1), .second, .val (.long q2), .second, .val (.long q3), .second, .val (.ref b1), .val (.long j4), .second, .unset, .unset, .unset, .unset, .unset, .unset, .unset] [(.long q3), (.long q2)])) (fun t k => ?_) ?_
  · show Steps p.tables e below (T3.setTop (mkF m 18 #[.val (.long q1), .second, .val (.long q2), .second, .val (.long q3), .second, .val (.ref b1), .val (.long j4), .second, .unset, .unset, .unset, .unset, .unset, .unset, .unset] [])) _
    refine XS.lloadN X3.here hx rfl (hb hby at_18) rfl ?_
    show Steps p.tables e below (T3.setTop (mkF m 19 #[.val (.long q1), .second, .val (.long q2), .second, .val (.long q3), .second, .val (.ref b1), .val (.long j4), .second, .unset, .unset, .unset, .unset, .unset, .unset, .unset] [(.long q2)])) _
    refine XS.lload X3.here hx rfl (hb hby at_19) rfl ?_
    exact k
  obtain ⟨_, _, ⟨T5, L5, k5, n5⟩, -, X5, ⟨Lc5, hQ5, l5, y5, z5⟩, st5⟩ := Jvm.LawKit.callS X3 hx (y := (⟨"java/lang/Math", "max", "(JJ)J"⟩ : MethodName)) hown (mvT hZ (hw _ (List.mem_of_getElem? (i := 30) rfl))) (mvT hZ (hw _ (List.mem_of_getElem? (i := 31) rfl))) (mvT hZ (hw _ (List.mem_of_getElem? (i := 28) rfl))) (mvT hZ (hw _ (List.mem_of_getElem? (i := 32) rfl))) (by decide) (backOf (W := 0) (rm6 l Z a0 hw [] q2 q3 T2.heap n0 Z0 ) hZ (hw _ (List.mem_of_getElem? (i := 32) rfl)) (hw _ (List.mem_of_getElem? (i := 28) rfl)) (by decide) (by decide)) (g := (mkF m 21 #[.val (.long q1), .second, .val (.long q2), .second, .val (.long q3), .second, .val (.ref b1), .val (.long j4), .second, .unset, .unset, .unset, .unset, .unset, .unset, .unset] [(.long q3), (.long q2)])) rfl (by rw [hml]; rfl) (argsL := [(.long q2), (.long q3)]) (rest := []) (lenOf pd_2 rfl) rfl (by show 2 * 0 + _ ≤ _; exact Nat.le_of_eq rfl) (hb hby at_21) (fun _ _ => ⟨rfl, e3, (by decide : 2 + 0 ≤ _), (by decide : 3 + 0 ≤ _)⟩)
  dsimp only [Pt.U, Pt.locs, Pt.cells, Pt.slots] at X5 l5 y5 z5 st5 hQ5
  subst l5 y5 z5
  obtain ⟨rfl, N5q, e5⟩ := hQ5
  have NN := Fr.app NN N5q
  refine own_go st5 ?_
  show own_Go p.tables e below _ T5 (mkF m 24 #[.val (.long q1), .second, .val (.long q2), .second, .val (.long q3), .second, .val (.ref b1), .val (.long j4), .second, .unset, .unset, .unset, .unset, .unset, .unset, .unset] [(.long (r_6 q2 q3))])
  refine own_go (T' := T5) (g' := (mkF m 26 #[.val (.long q1), .second, .val (.long q2), .second, .val (.long q3), .second, .val (.ref b1), .val (.long j4), .second, .val (.long (r_6 q2 q3)), .second, .unset, .unset, .unset, .unset, .unset] [])) (fun t k => ?_) ?_
  · show Steps p.tables e below (T5.setTop (mkF m 24 #[.val (.long q1), .second, .val (.long q2), .second, .val (.long q3), .second, .val (.ref b1), .val (.long j4), .second, .unset, .unset, .unset, .unset, .unset, .unset, .unset] [(.long (r_6 q2 q3))])) _
    refine XS.lstore X5.here hx rfl (hb hby at_24) rfl (l' := #[.val (.long q1), .second, .val (.long q2), .second, .val (.long q3), .second, .val (.ref b1), .val (.long j4), .second, .val (.long (r_6 q2 q3)), .second, .unset, .unset, .unset, .unset, .unset]) rfl ?_
    exact k
  show own_Go p.tables e below _ T5 (mkF m 26 #[.val (.long q1), .second, .val (.long q2), .second, .val (.long q3), .second, .val (.ref b1), .val (.long j4), .second, .val (.long (r_6 q2 q3)), .second, .unset, .unset, .unset, .unset, .unset] [])
  obtain ⟨j6, hj6⟩ : ∃ z : Int64, z = (r_6 q2 q3) := ⟨_, rfl⟩
  rw [← hj6]
  show own_Go p.tables e below _ T5 (mkF m 26 #[.val (.long q1), .second, .val (.long q2), .second, .val (.long q3), .second, .val (.ref b1), .val (.long j4), .second, .val (.long j6), .second, .unset, .unset, .unset, .unset, .unset] [])
  refine own_go (T' := T5) (g' := (mkF m 29 #[.val (.long q1), .second, .val (.long q2), .second, .val (.long q3), .second, .val (.ref b1), .val (.long j4), .second, .val (.long j6), .second, .unset, .unset, .unset, .unset, .unset] [(.long q1), (.ref b1)])) (fun t k => ?_) ?_
  · show Steps p.tables e below (T5.setTop (mkF m 26 #[.val (.long q1), .second, .val (.long q2), .second, .val (.long q3), .second, .val (.ref b1), .val (.long j4), .second, .val (.long j6), .second, .unset, .unset, .unset, .unset, .unset] [])) _
    refine XS.aload X5.here hx rfl (hb hby at_26) rfl rfl ?_
    show Steps p.tables e below (T5.setTop (mkF m 28 #[.val (.long q1), .second, .val (.long q2), .second, .val (.long q3), .second, .val (.ref b1), .val (.long j4), .second, .val (.long j6), .second, .unset, .unset, .unset, .unset, .unset] [(.ref b1)])) _
    refine XS.lloadN X5.here hx rfl (hb hby at_28) rfl ?_
    exact k
  obtain ⟨cq7, kq7, q7a, q7b, q7c⟩ := isOf hZ e5 E_b1
  obtain ⟨_, _, ⟨T7, L7, k7, n7⟩, -, X7, ⟨Lc7, hQ7, l7, y7, z7⟩, st7⟩ := X5.virtualBack hx (y := (⟨"com/example/kirchberg/kirchberg/server/HeapBudget", "holds", "(J)Z"⟩ : MethodName)) (z := (⟨"com/example/kirchberg/kirchberg/server/HeapBudget", "holds", "(J)Z"⟩ : MethodName)) hown (mvT hZ (hw _ (List.mem_of_getElem? (i := 33) rfl))) (mvT hZ (hw _ (List.mem_of_getElem? (i := 34) rfl))) (notFace_of_selects (args := #[]) (mvT hZ (hw _ (List.mem_of_getElem? (i := 36) rfl)))) (mvT hZ (hw _ (List.mem_of_getElem? (i := 36) rfl))) (mvT hZ (hw _ (List.mem_of_getElem? (i := 35) rfl))) (by decide) (backOf (W := 0) (rm7 l Z a0 hw [] b1 q1 q1 T2.heap n0 Z0 F_b1_heapBytes) hZ (hw _ (List.mem_of_getElem? (i := 37) rfl)) (hw _ (List.mem_of_getElem? (i := 2) rfl)) (by decide) (by decide)) q7a q7c (g := (mkF m 29 #[.val (.long q1), .second, .val (.long q2), .second, .val (.long q3), .second, .val (.ref b1), .val (.long j4), .second, .val (.long j6), .second, .unset, .unset, .unset, .unset, .unset] [(.long q1), (.ref b1)])) rfl (by rw [hml]; rfl) (Steps.refl _) (argsL := [(.long q1)]) (rest := []) (lenOf pd_3 rfl) rfl (by show 2 * 0 + _ ≤ _; exact Nat.le_of_eq rfl) (hb hby at_29) (fun _ _ => ⟨rfl, e5, (by decide : 2 + 0 ≤ _), (by decide : 3 + 0 ≤ _)⟩)
  dsimp only [Pt.U, Pt.locs, Pt.cells, Pt.slots] at X7 l7 y7 z7 st7 hQ7
  subst l7 y7 z7
  obtain ⟨rfl, N7q, e7⟩ := hQ7
  have NN := Fr.app NN N7q
  refine own_go (fun t k => st7.trans k) ?_
  show own_Go p.tables e below _ T7 (mkF m 32 #[.val (.long q1), .second, .val (.long q2), .second, .val (.long q3), .second, .val (.ref b1), .val (.long j4), .second, .val (.long j6), .second, .unset, .unset, .unset, .unset, .unset] [(.int (r_7 q1 q1))])
  refine own_go (T' := T7) (g' := (mkF m 34 #[.val (.long q1), .second, .val (.long q2), .second, .val (.long q3), .second, .val (.ref b1), .val (.long j4), .second, .val (.long j6), .second, .val (.int (r_7 q1 q1)), .unset, .unset, .unset, .unset] [])) (fun t k => ?_) ?_
  · show Steps p.tables e below (T7.setTop (mkF m 32 #[.val (.long q1), .second, .val (.long q2), .second, .val (.long q3), .second, .val (.ref b1), .val (.long j4), .second, .val (.long j6), .second, .unset, .unset, .unset, .unset, .unset] [(.int (r_7 q1 q1))])) _
    refine XS.istore X7.here hx rfl (hb hby at_32) rfl (l' := #[.val (.long q1), .second, .val (.long q2), .second, .val (.long q3), .second, .val (.ref b1), .val (.long j4), .second, .val (.long j6), .second, .val (.int (r_7 q1 q1)), .unset, .unset, .unset, .unset]) rfl ?_
    exact k
  show own_Go p.tables e below _ T7 (mkF m 34 #[.val (.long q1), .second, .val (.long q2), .second, .val (.long q3), .second, .val (.ref b1), .val (.long j4), .second, .val (.long j6), .second, .val (.int (r_7 q1 q1)), .unset, .unset, .unset, .unset] [])
  obtain ⟨j8, hj8⟩ : ∃ z : Int32, z = (r_7 q1 q1) := ⟨_, rfl⟩
  rw [← hj8]
  show own_Go p.tables e below _ T7 (mkF m 34 #[.val (.long q1), .second, .val (.long q2), .second, .val (.long q3), .second, .val (.ref b1), .val (.long j4), .second, .val (.long j6), .second, .val (.int j8), .unset, .unset, .unset, .unset] [])
  refine own_go (T' := T7) (g' := (mkF m 42 #[.val (.long q1), .second, .val (.long q2), .second, .val (.long q3), .second, .val (.ref b1), .val (.long j4), .second, .val (.long j6), .second, .val (.int j8), .val (.int (0 : Int32)), .unset, .unset, .unset] [(.int (lcmpW q1 (9223372036854775807 : Int64)))])) (fun t k => ?_) ?_
  · show Steps p.tables e below (T7.setTop (mkF m 34 #[.val (.long q1), .second, .val (.long q2), .second, .val (.long q3), .second, .val (.ref b1), .val (.long j4), .second, .val (.long j6), .second, .val (.int j8), .unset, .unset, .unset, .unset] [])) _
    refine XS.iconst X7.here hx rfl (hb hby at_34) ?_
    show Steps p.tables e below (T7.setTop (mkF m 35 #[.val (.long q1), .second, .val (.long q2), .second, .val (.long q3), .second, .val (.ref b1), .val (.long j4), .second, .val (.long j6), .second, .val (.int j8), .unset, .unset, .unset, .unset] [(.int (0 : Int32))])) _
    refine XS.istore X7.here hx rfl (hb hby at_35) rfl (l' := #[.val (.long q1), .second, .val (.long q2), .second, .val (.long q3), .second, .val (.ref b1), .val (.long j4), .second, .val (.long j6), .second, .val (.int j8), .val (.int (0 : Int32)), .unset, .unset, .unset]) rfl ?_
    show Steps p.tables e below (T7.setTop (mkF m 37 #[.val (.long q1), .second, .val (.long q2), .second, .val (.long q3), .second, .val (.ref b1), .val (.long j4), .second, .val (.long j6), .second, .val (.int j8), .val (.int (0 : Int32)), .unset, .unset, .unset] [])) _
    refine XS.lloadN X7.here hx rfl (hb hby at_37) rfl ?_
    show Steps p.tables e below (T7.setTop (mkF m 38 #[.val (.long q1), .second, .val (.long q2), .second, .val (.long q3), .second, .val (.ref b1), .val (.long j4), .second, .val (.long j6), .second, .val (.int j8), .val (.int (0 : Int32)), .unset, .unset, .unset] [(.long q1)])) _
    refine X7.ldc2Long hx hown (mvT hZ (hw _ (List.mem_of_getElem? (i := 38) rfl))) (g := (mkF m 38 #[.val (.long q1), .second, .val (.long q2), .second, .val (.long q3), .second, .val (.ref b1), .val (.long j4), .second, .val (.long j6), .second, .val (.int j8), .val (.int (0 : Int32)), .unset, .unset, .unset] [(.long q1)])) rfl (hb hby at_38) _ ?_
    show Steps p.tables e below (T7.setTop (mkF m 41 #[.val (.long q1), .second, .val (.long q2), .second, .val (.long q3), .second, .val (.ref b1), .val (.long j4), .second, .val (.long j6), .second, .val (.int j8), .val (.int (0 : Int32)), .unset, .unset, .unset] [(.long (9223372036854775807 : Int64)), (.long q1)])) _
    refine XS.lcmp X7.here hx rfl (hb hby at_41) rfl ?_
    exact k
  by_cases hc42_1 : q1 = (9223372036854775807 : Int64)
  · skip
    refine own_go (T' := T7) (g' := (mkF m 59 #[.val (.long q1), .second, .val (.long q2), .second, .val (.long q3), .second, .val (.ref b1), .val (.long j4), .second, .val (.long j6), .second, .val (.int j8), .val (.int (0 : Int32)), .unset, .unset, .unset] [(.long j4), (.ref b1)])) (fun t k => ?_) ?_
    · show Steps p.tables e below (T7.setTop (mkF m 42 #[.val (.long q1), .second, .val (.long q2), .second, .val (.long q3), .second, .val (.ref b1), .val (.long j4), .second, .val (.long j6), .second, .val (.int j8), .val (.int (0 : Int32)), .unset, .unset, .unset] [(.int (lcmpW q1 (9223372036854775807 : Int64)))])) _
      refine XS.ifYes X7.here hx rfl (pc0 := 42) (pc' := 55) rfl (hb hby at_42) rfl ((if0 _ _).trans (teq ((lw_eq q1 (9223372036854775807 : Int64)).mpr hc42_1)).1) (by decide) (by decide) ?_
      show Steps p.tables e below (T7.setTop (mkF m 55 #[.val (.long q1), .second, .val (.long q2), .second, .val (.long q3), .second, .val (.ref b1), .val (.long j4), .second, .val (.long j6), .second, .val (.int j8), .val (.int (0 : Int32)), .unset, .unset, .unset] [])) _
      refine XS.aload X7.here hx rfl (hb hby at_55) rfl rfl ?_
      show Steps p.tables e below (T7.setTop (mkF m 57 #[.val (.long q1), .second, .val (.long q2), .second, .val (.long q3), .second, .val (.ref b1), .val (.long j4), .second, .val (.long j6), .second, .val (.int j8), .val (.int (0 : Int32)), .unset, .unset, .unset] [(.ref b1)])) _
      refine XS.lload X7.here hx rfl (hb hby at_57) rfl ?_
      exact k
    obtain ⟨cq9, kq9, q9a, q9b, q9c⟩ := isOf hZ e7 E_b1
    obtain ⟨_, _, ⟨T9, L9, k9, n9⟩, -, X9, ⟨Lc9, hQ9, l9, y9, z9⟩, st9⟩ := X7.virtualBack hx (y := (⟨"com/example/kirchberg/kirchberg/server/HeapBudget", "holds", "(J)Z"⟩ : MethodName)) (z := (⟨"com/example/kirchberg/kirchberg/server/HeapBudget", "holds", "(J)Z"⟩ : MethodName)) hown (mvT hZ (hw _ (List.mem_of_getElem? (i := 33) rfl))) (mvT hZ (hw _ (List.mem_of_getElem? (i := 34) rfl))) (notFace_of_selects (args := #[]) (mvT hZ (hw _ (List.mem_of_getElem? (i := 36) rfl)))) (mvT hZ (hw _ (List.mem_of_getElem? (i := 36) rfl))) (mvT hZ (hw _ (List.mem_of_getElem? (i := 35) rfl))) (by decide) (backOf (W := 0) (rm7 l Z a0 hw [] b1 j4 q1 T2.heap n0 Z0 F_b1_heapBytes) hZ (hw _ (List.mem_of_getElem? (i := 37) rfl)) (hw _ (List.mem_of_getElem? (i := 2) rfl)) (by decide) (by decide)) q9a q9c (g := (mkF m 59 #[.val (.long q1), .second, .val (.long q2), .second, .val (.long q3), .second, .val (.ref b1), .val (.long j4), .second, .val (.long j6), .second, .val (.int j8), .val (.int (0 : Int32)), .unset, .unset, .unset] [(.long j4), (.ref b1)])) rfl (by rw [hml]; rfl) (Steps.refl _) (argsL := [(.long j4)]) (rest := []) (lenOf pd_3 rfl) rfl (by show 2 * 0 + _ ≤ _; exact Nat.le_of_eq rfl) (hb hby at_59) (fun _ _ => ⟨rfl, e7, (by decide : 2 + 0 ≤ _), (by decide : 3 + 0 ≤ _)⟩)
    dsimp only [Pt.U, Pt.locs, Pt.cells, Pt.slots] at X9 l9 y9 z9 st9 hQ9
    subst l9 y9 z9
    obtain ⟨rfl, N9q, e9⟩ := hQ9
    have NN := Fr.app NN N9q
    refine own_go (fun t k => st9.trans k) ?_
    show own_Go p.tables e below _ T9 (mkF m 62 #[.val (.long q1), .second, .val (.long q2), .second, .val (.long q3), .second, .val (.ref b1), .val (.long j4), .second, .val (.long j6), .second, .val (.int j8), .val (.int (0 : Int32)), .unset, .unset, .unset] [(.int (r_7 j4 q1))])
    refine own_go (T' := T9) (g' := (mkF m 64 #[.val (.long q1), .second, .val (.long q2), .second, .val (.long q3), .second, .val (.ref b1), .val (.long j4), .second, .val (.long j6), .second, .val (.int j8), .val (.int (0 : Int32)), .val (.int (r_7 j4 q1)), .unset, .unset] [])) (fun t k => ?_) ?_
    · show Steps p.tables e below (T9.setTop (mkF m 62 #[.val (.long q1), .second, .val (.long q2), .second, .val (.long q3), .second, .val (.ref b1), .val (.long j4), .second, .val (.long j6), .second, .val (.int j8), .val (.int (0 : Int32)), .unset, .unset, .unset] [(.int (r_7 j4 q1))])) _
      refine XS.istore X9.here hx rfl (hb hby at_62) rfl (l' := #[.val (.long q1), .second, .val (.long q2), .second, .val (.long q3), .second, .val (.ref b1), .val (.long j4), .second, .val (.long j6), .second, .val (.int j8), .val (.int (0 : Int32)), .val (.int (r_7 j4 q1)), .unset, .unset]) rfl ?_
      exact k
    show own_Go p.tables e below _ T9 (mkF m 64 #[.val (.long q1), .second, .val (.long q2), .second, .val (.long q3), .second, .val (.ref b1), .val (.long j4), .second, .val (.long j6), .second, .val (.int j8), .val (.int (0 : Int32)), .val (.int (r_7 j4 q1)), .unset, .unset] [])
    obtain ⟨j10, hj10⟩ : ∃ z : Int32, z = (r_7 j4 q1) := ⟨_, rfl⟩
    rw [← hj10]
    show own_Go p.tables e below _ T9 (mkF m 64 #[.val (.long q1), .second, .val (.long q2), .second, .val (.long q3), .second, .val (.ref b1), .val (.long j4), .second, .val (.long j6), .second, .val (.int j8), .val (.int (0 : Int32)), .val (.int j10), .unset, .unset] [])
    refine own_go (T' := T9) (g' := (mkF m 68 #[.val (.long q1), .second, .val (.long q2), .second, .val (.long q3), .second, .val (.ref b1), .val (.long j4), .second, .val (.long j6), .second, .val (.int j8), .val (.int (0 : Int32)), .val (.int j10), .unset, .unset] [(.long j6), (.ref b1)])) (fun t k => ?_) ?_
    · show Steps p.tables e below (T9.setTop (mkF m 64 #[.val (.long q1), .second, .val (.long q2), .second, .val (.long q3), .second, .val (.ref b1), .val (.long j4), .second, .val (.long j6), .second, .val (.int j8), .val (.int (0 : Int32)), .val (.int j10), .unset, .unset] [])) _
      refine XS.aload X9.here hx rfl (hb hby at_64) rfl rfl ?_
      show Steps p.tables e below (T9.setTop (mkF m 66 #[.val (.long q1), .second, .val (.long q2), .second, .val (.long q3), .second, .val (.ref b1), .val (.long j4), .second, .val (.long j6), .second, .val (.int j8), .val (.int (0 : Int32)), .val (.int j10), .unset, .unset] [(.ref b1)])) _
      refine XS.lload X9.here hx rfl (hb hby at_66) rfl ?_
      exact k
    obtain ⟨cq11, kq11, q11a, q11b, q11c⟩ := isOf hZ e9 E_b1
    obtain ⟨_, _, ⟨T11, L11, k11, n11⟩, -, X11, ⟨Lc11, hQ11, l11, y11, z11⟩, st11⟩ := X9.virtualBack hx (y := (⟨"com/example/kirchberg/kirchberg/server/HeapBudget", "holds", "(J)Z"⟩ : MethodName)) (z := (⟨"com/example/kirchberg/kirchberg/server/HeapBudget", "holds", "(J)Z"⟩ : MethodName)) hown (mvT hZ (hw _ (List.mem_of_getElem? (i := 33) rfl))) (mvT hZ (hw _ (List.mem_of_getElem? (i := 34) rfl))) (notFace_of_selects (args := #[]) (mvT hZ (hw _ (List.mem_of_getElem? (i := 36) rfl)))) (mvT hZ (hw _ (List.mem_of_getElem? (i := 36) rfl))) (mvT hZ (hw _ (List.mem_of_getElem? (i := 35) rfl))) (by decide) (backOf (W := 0) (rm7 l Z a0 hw [] b1 j6 q1 T2.heap n0 Z0 F_b1_heapBytes) hZ (hw _ (List.mem_of_getElem? (i := 37) rfl)) (hw _ (List.mem_of_getElem? (i := 2) rfl)) (by decide) (by decide)) q11a q11c (g := (mkF m 68 #[.val (.long q1), .second, .val (.long q2), .second, .val (.long q3), .second, .val (.ref b1), .val (.long j4), .second, .val (.long j6), .second, .val (.int j8), .val (.int (0 : Int32)), .val (.int j10), .unset, .unset] [(.long j6), (.ref b1)])) rfl (by rw [hml]; rfl) (Steps.refl _) (argsL := [(.long j6)]) (rest := []) (lenOf pd_3 rfl) rfl (by show 2 * 0 + _ ≤ _; exact Nat.le_of_eq rfl) (hb hby at_68) (fun _ _ => ⟨rfl, e9, (by decide : 2 + 0 ≤ _), (by decide : 3 + 0 ≤ _)⟩)
    dsimp only [Pt.U, Pt.locs, Pt.cells, Pt.slots] at X11 l11 y11 z11 st11 hQ11
    subst l11 y11 z11
    obtain ⟨rfl, N11q, e11⟩ := hQ11
    have NN := Fr.app NN N11q
    refine own_go (fun t k => st11.trans k) ?_
    show own_Go p.tables e below _ T11 (mkF m 71 #[.val (.long q1), .second, .val (.long q2), .second, .val (.long q3), .second, .val (.ref b1), .val (.long j4), .second, .val (.long j6), .second, .val (.int j8), .val (.int (0 : Int32)), .val (.int j10), .unset, .unset] [(.int (r_7 j6 q1))])
    refine own_go (T' := T11) (g' := (mkF m 73 #[.val (.long q1), .second, .val (.long q2), .second, .val (.long q3), .second, .val (.ref b1), .val (.long j4), .second, .val (.long j6), .second, .val (.int j8), .val (.int (0 : Int32)), .val (.int j10), .val (.int (r_7 j6 q1)), .unset] [])) (fun t k => ?_) ?_
    · show Steps p.tables e below (T11.setTop (mkF m 71 #[.val (.long q1), .second, .val (.long q2), .second, .val (.long q3), .second, .val (.ref b1), .val (.long j4), .second, .val (.long j6), .second, .val (.int j8), .val (.int (0 : Int32)), .val (.int j10), .unset, .unset] [(.int (r_7 j6 q1))])) _
      refine XS.istore X11.here hx rfl (hb hby at_71) rfl (l' := #[.val (.long q1), .second, .val (.long q2), .second, .val (.long q3), .second, .val (.ref b1), .val (.long j4), .second, .val (.long j6), .second, .val (.int j8), .val (.int (0 : Int32)), .val (.int j10), .val (.int (r_7 j6 q1)), .unset]) rfl ?_
      exact k
    show own_Go p.tables e below _ T11 (mkF m 73 #[.val (.long q1), .second, .val (.long q2), .second, .val (.long q3), .second, .val (.ref b1), .val (.long j4), .second, .val (.long j6), .second, .val (.int j8), .val (.int (0 : Int32)), .val (.int j10), .val (.int (r_7 j6 q1)), .unset] [])
    obtain ⟨j12, hj12⟩ : ∃ z : Int32, z = (r_7 j6 q1) := ⟨_, rfl⟩
    rw [← hj12]
    show own_Go p.tables e below _ T11 (mkF m 73 #[.val (.long q1), .second, .val (.long q2), .second, .val (.long q3), .second, .val (.ref b1), .val (.long j4), .second, .val (.long j6), .second, .val (.int j8), .val (.int (0 : Int32)), .val (.int j10), .val (.int j12), .unset] [])
    refine own_go (T' := T11) (g' := (mkF m 75 #[.val (.long q1), .second, .val (.long q2), .second, .val (.long q3), .second, .val (.ref b1), .val (.long j4), .second, .val (.long j6), .second, .val (.int j8), .val (.int (0 : Int32)), .val (.int j10), .val (.int j12), .unset] [(.int j12)])) (fun t k => ?_) ?_
    · show Steps p.tables e below (T11.setTop (mkF m 73 #[.val (.long q1), .second, .val (.long q2), .second, .val (.long q3), .second, .val (.ref b1), .val (.long j4), .second, .val (.long j6), .second, .val (.int j8), .val (.int (0 : Int32)), .val (.int j10), .val (.int j12), .unset] [])) _
      refine XS.iload X11.here hx rfl (hb hby at_73) rfl ?_
      exact k
    obtain ⟨j13, hj13, st14⟩ : ∃ (j13 : Int32), j13 = (if j12 = (0 : Int32) then (1 : Int32) else (if j10 = (0 : Int32) then (0 : Int32) else (1 : Int32))) ∧ ∀ t, Steps p.tables e below (T11.setTop (mkF m 88 #[.val (.long q1), .second, .val (.long q2), .second, .val (.long q3), .second, .val (.ref b1), .val (.long j4), .second, .val (.long j6), .second, .val (.int j8), .val (.int (0 : Int32)), .val (.int j10), .val (.int j12), .unset] [(.int j13)])) t → Steps p.tables e below (T11.setTop (mkF m 75 #[.val (.long q1), .second, .val (.long q2), .second, .val (.long q3), .second, .val (.ref b1), .val (.long j4), .second, .val (.long j6), .second, .val (.int j8), .val (.int (0 : Int32)), .val (.int j10), .val (.int j12), .unset] [(.int j12)])) t := by
      by_cases hc75_2 : j12 = (0 : Int32)
      · skip
        refine ⟨(1 : Int32), (by simp only [if_pos hc75_2]), fun t k => ?_⟩
        show Steps p.tables e below (T11.setTop (mkF m 75 #[.val (.long q1), .second, .val (.long q2), .second, .val (.long q3), .second, .val (.ref b1), .val (.long j4), .second, .val (.long j6), .second, .val (.int j8), .val (.int (0 : Int32)), .val (.int j10), .val (.int j12), .unset] [(.int j12)])) _
        refine XS.ifYes X11.here hx rfl (pc0 := 75) (pc' := 83) rfl (hb hby at_75) rfl ((if0 _ _).trans (teq hc75_2).1) (by decide) (by decide) ?_
        show Steps p.tables e below (T11.setTop (mkF m 83 #[.val (.long q1), .second, .val (.long q2), .second, .val (.long q3), .second, .val (.ref b1), .val (.long j4), .second, .val (.long j6), .second, .val (.int j8), .val (.int (0 : Int32)), .val (.int j10), .val (.int j12), .unset] [])) _
        refine XS.iconst X11.here hx rfl (hb hby at_83) ?_
        show Steps p.tables e below (T11.setTop (mkF m 84 #[.val (.long q1), .second, .val (.long q2), .second, .val (.long q3), .second, .val (.ref b1), .val (.long j4), .second, .val (.long j6), .second, .val (.int j8), .val (.int (0 : Int32)), .val (.int j10), .val (.int j12), .unset] [(.int (1 : Int32))])) _
        refine XS.goto X11.here hx rfl (pc0 := 84) (pc' := 88) rfl (hb hby at_84) (by decide) (by decide) ?_
        exact k
      · skip
        by_cases hc80_3 : j10 = (0 : Int32)
        · skip
          refine ⟨(0 : Int32), (by simp only [if_neg hc75_2, if_pos hc80_3]), fun t k => ?_⟩
          show Steps p.tables e below (T11.setTop (mkF m 75 #[.val (.long q1), .second, .val (.long q2), .second, .val (.long q3), .second, .val (.ref b1), .val (.long j4), .second, .val (.long j6), .second, .val (.int j8), .val (.int (0 : Int32)), .val (.int j10), .val (.int j12), .unset] [(.int j12)])) _
          refine XS.ifNo X11.here hx rfl (hb hby at_75) rfl ((if0 _ _).trans (feq hc75_2).1) ?_
          show Steps p.tables e below (T11.setTop (mkF m 78 #[.val (.long q1), .second, .val (.long q2), .second, .val (.long q3), .second, .val (.ref b1), .val (.long j4), .second, .val (.long j6), .second, .val (.int j8), .val (.int (0 : Int32)), .val (.int j10), .val (.int j12), .unset] [])) _
          refine XS.iload X11.here hx rfl (hb hby at_78) rfl ?_
          show Steps p.tables e below (T11.setTop (mkF m 80 #[.val (.long q1), .second, .val (.long q2), .second, .val (.long q3), .second, .val (.ref b1), .val (.long j4), .second, .val (.long j6), .second, .val (.int j8), .val (.int (0 : Int32)), .val (.int j10), .val (.int j12), .unset] [(.int j10)])) _
          refine XS.ifYes X11.here hx rfl (pc0 := 80) (pc' := 87) rfl (hb hby at_80) rfl ((if0 _ _).trans (teq hc80_3).1) (by decide) (by decide) ?_
          show Steps p.tables e below (T11.setTop (mkF m 87 #[.val (.long q1), .second, .val (.long q2), .second, .val (.long q3), .second, .val (.ref b1), .val (.long j4), .second, .val (.long j6), .second, .val (.int j8), .val (.int (0 : Int32)), .val (.int j10), .val (.int j12), .unset] [])) _
          refine XS.iconst X11.here hx rfl (hb hby at_87) ?_
          exact k
        · skip
          refine ⟨(1 : Int32), (by simp only [if_neg hc75_2, if_neg hc80_3]), fun t k => ?_⟩
          show Steps p.tables e below (T11.setTop (mkF m 75 #[.val (.long q1), .second, .val (.long q2), .second, .val (.long q3), .second, .val (.ref b1), .val (.long j4), .second, .val (.long j6), .second, .val (.int j8), .val (.int (0 : Int32)), .val (.int j10), .val (.int j12), .unset] [(.int j12)])) _
          refine XS.ifNo X11.here hx rfl (hb hby at_75) rfl ((if0 _ _).trans (feq hc75_2).1) ?_
          show Steps p.tables e below (T11.setTop (mkF m 78 #[.val (.long q1), .second, .val (.long q2), .second, .val (.long q3), .second, .val (.ref b1), .val (.long j4), .second, .val (.long j6), .second, .val (.int j8), .val (.int (0 : Int32)), .val (.int j10), .val (.int j12), .unset] [])) _
          refine XS.iload X11.here hx rfl (hb hby at_78) rfl ?_
          show Steps p.tables e below (T11.setTop (mkF m 80 #[.val (.long q1), .second, .val (.long q2), .second, .val (.long q3), .second, .val (.ref b1), .val (.long j4), .second, .val (.long j6), .second, .val (.int j8), .val (.int (0 : Int32)), .val (.int j10), .val (.int j12), .unset] [(.int j10)])) _
          refine XS.ifNo X11.here hx rfl (hb hby at_80) rfl ((if0 _ _).trans (feq hc80_3).1) ?_
          show Steps p.tables e below (T11.setTop (mkF m 83 #[.val (.long q1), .second, .val (.long q2), .second, .val (.long q3), .second, .val (.ref b1), .val (.long j4), .second, .val (.long j6), .second, .val (.int j8), .val (.int (0 : Int32)), .val (.int j10), .val (.int j12), .unset] [])) _
          refine XS.iconst X11.here hx rfl (hb hby at_83) ?_
          show Steps p.tables e below (T11.setTop (mkF m 84 #[.val (.long q1), .second, .val (.long q2), .second, .val (.long q3), .second, .val (.ref b1), .val (.long j4), .second, .val (.long j6), .second, .val (.int j8), .val (.int (0 : Int32)), .val (.int j10), .val (.int j12), .unset] [(.int (1 : Int32))])) _
          refine XS.goto X11.here hx rfl (pc0 := 84) (pc' := 88) rfl (hb hby at_84) (by decide) (by decide) ?_
          exact k
    refine own_go st14 ?_
    show own_Go p.tables e below _ T11 (mkF m 88 #[.val (.long q1), .second, .val (.long q2), .second, .val (.long q3), .second, .val (.ref b1), .val (.long j4), .second, .val (.long j6), .second, .val (.int j8), .val (.int (0 : Int32)), .val (.int j10), .val (.int j12), .unset] [(.int j13)])
    refine own_go (T' := T11) (g' := (mkF m 92 #[.val (.long q1), .second, .val (.long q2), .second, .val (.long q3), .second, .val (.ref b1), .val (.long j4), .second, .val (.long j6), .second, .val (.int j8), .val (.int (0 : Int32)), .val (.int j10), .val (.int j12), .val (.int j13)] [(.int j8)])) (fun t k => ?_) ?_
    · show Steps p.tables e below (T11.setTop (mkF m 88 #[.val (.long q1), .second, .val (.long q2), .second, .val (.long q3), .second, .val (.ref b1), .val (.long j4), .second, .val (.long j6), .second, .val (.int j8), .val (.int (0 : Int32)), .val (.int j10), .val (.int j12), .unset] [(.int j13)])) _
      refine XS.istore X11.here hx rfl (hb hby at_88) rfl (l' := #[.val (.long q1), .second, .val (.long q2), .second, .val (.long q3), .second, .val (.ref b1), .val (.long j4), .second, .val (.long j6), .second, .val (.int j8), .val (.int (0 : Int32)), .val (.int j10), .val (.int j12), .val (.int j13)]) rfl ?_
      show Steps p.tables e below (T11.setTop (mkF m 90 #[.val (.long q1), .second, .val (.long q2), .second, .val (.long q3), .second, .val (.ref b1), .val (.long j4), .second, .val (.long j6), .second, .val (.int j8), .val (.int (0 : Int32)), .val (.int j10), .val (.int j12), .val (.int j13)] [])) _
      refine XS.iload X11.here hx rfl (hb hby at_90) rfl ?_
      exact k
    obtain ⟨j15, hj15, st16⟩ : ∃ (j15 : Int32), j15 = (if j8 = (0 : Int32) then (0 : Int32) else (if j13 = (0 : Int32) then (0 : Int32) else (1 : Int32))) ∧ ∀ t, Steps p.tables e below (T11.setTop (mkF m 110 #[.val (.long q1), .second, .val (.long q2), .second, .val (.long q3), .second, .val (.ref b1), .val (.long j4), .second, .val (.long j6), .second, .val (.int j8), .val (.int (0 : Int32)), .val (.int j10), .val (.int j12), .val (.int j13)] [(.int j15)])) t → Steps p.tables e below (T11.setTop (mkF m 92 #[.val (.long q1), .second, .val (.long q2), .second, .val (.long q3), .second, .val (.ref b1), .val (.long j4), .second, .val (.long j6), .second, .val (.int j8), .val (.int (0 : Int32)), .val (.int j10), .val (.int j12), .val (.int j13)] [(.int j8)])) t := by
      by_cases hc92_4 : j8 = (0 : Int32)
      · skip
        refine ⟨(0 : Int32), (by simp only [if_pos hc92_4]), fun t k => ?_⟩
        show Steps p.tables e below (T11.setTop (mkF m 92 #[.val (.long q1), .second, .val (.long q2), .second, .val (.long q3), .second, .val (.ref b1), .val (.long j4), .second, .val (.long j6), .second, .val (.int j8), .val (.int (0 : Int32)), .val (.int j10), .val (.int j12), .val (.int j13)] [(.int j8)])) _
        refine XS.ifYes X11.here hx rfl (pc0 := 92) (pc' := 109) rfl (hb hby at_92) rfl ((if0 _ _).trans (teq hc92_4).1) (by decide) (by decide) ?_
        show Steps p.tables e below (T11.setTop (mkF m 109 #[.val (.long q1), .second, .val (.long q2), .second, .val (.long q3), .second, .val (.ref b1), .val (.long j4), .second, .val (.long j6), .second, .val (.int j8), .val (.int (0 : Int32)), .val (.int j10), .val (.int j12), .val (.int j13)] [])) _
        refine XS.iconst X11.here hx rfl (hb hby at_109) ?_
        exact k
      · skip
        by_cases hc102_5 : j13 = (0 : Int32)
        · skip
          refine ⟨(0 : Int32), (by simp only [if_neg hc92_4, if_pos hc102_5]), fun t k => ?_⟩
          show Steps p.tables e below (T11.setTop (mkF m 92 #[.val (.long q1), .second, .val (.long q2), .second, .val (.long q3), .second, .val (.ref b1), .val (.long j4), .second, .val (.long j6), .second, .val (.int j8), .val (.int (0 : Int32)), .val (.int j10), .val (.int j12), .val (.int j13)] [(.int j8)])) _
          refine XS.ifNo X11.here hx rfl (hb hby at_92) rfl ((if0 _ _).trans (feq hc92_4).1) ?_
          show Steps p.tables e below (T11.setTop (mkF m 95 #[.val (.long q1), .second, .val (.long q2), .second, .val (.long q3), .second, .val (.ref b1), .val (.long j4), .second, .val (.long j6), .second, .val (.int j8), .val (.int (0 : Int32)), .val (.int j10), .val (.int j12), .val (.int j13)] [])) _
          refine XS.iload X11.here hx rfl (hb hby at_95) rfl ?_
          show Steps p.tables e below (T11.setTop (mkF m 97 #[.val (.long q1), .second, .val (.long q2), .second, .val (.long q3), .second, .val (.ref b1), .val (.long j4), .second, .val (.long j6), .second, .val (.int j8), .val (.int (0 : Int32)), .val (.int j10), .val (.int j12), .val (.int j13)] [(.int (0 : Int32))])) _
          refine XS.ifNo X11.here hx rfl (hb hby at_97) rfl ((if0 _ _).trans (teq (rfl : (0 : Int32) = (0 : Int32))).2) ?_
          show Steps p.tables e below (T11.setTop (mkF m 100 #[.val (.long q1), .second, .val (.long q2), .second, .val (.long q3), .second, .val (.ref b1), .val (.long j4), .second, .val (.long j6), .second, .val (.int j8), .val (.int (0 : Int32)), .val (.int j10), .val (.int j12), .val (.int j13)] [])) _
          refine XS.iload X11.here hx rfl (hb hby at_100) rfl ?_
          show Steps p.tables e below (T11.setTop (mkF m 102 #[.val (.long q1), .second, .val (.long q2), .second, .val (.long q3), .second, .val (.ref b1), .val (.long j4), .second, .val (.long j6), .second, .val (.int j8), .val (.int (0 : Int32)), .val (.int j10), .val (.int j12), .val (.int j13)] [(.int j13)])) _
          refine XS.ifYes X11.here hx rfl (pc0 := 102) (pc' := 109) rfl (hb hby at_102) rfl ((if0 _ _).trans (teq hc102_5).1) (by decide) (by decide) ?_
          show Steps p.tables e below (T11.setTop (mkF m 109 #[.val (.long q1), .second, .val (.long q2), .second, .val (.long q3), .second, .val (.ref b1), .val (.long j4), .second, .val (.long j6), .second, .val (.int j8), .val (.int (0 : Int32)), .val (.int j10), .val (.int j12), .val (.int j13)] [])) _
          refine XS.iconst X11.here hx rfl (hb hby at_109) ?_
          exact k
        · skip
          refine ⟨(1 : Int32), (by simp only [if_neg hc92_4, if_neg hc102_5]), fun t k => ?_⟩
          show Steps p.tables e below (T11.setTop (mkF m 92 #[.val (.long q1), .second, .val (.long q2), .second, .val (.long q3), .second, .val (.ref b1), .val (.long j4), .second, .val (.long j6), .second, .val (.int j8), .val (.int (0 : Int32)), .val (.int j10), .val (.int j12), .val (.int j13)] [(.int j8)])) _
          refine XS.ifNo X11.here hx rfl (hb hby at_92) rfl ((if0 _ _).trans (feq hc92_4).1) ?_
          show Steps p.tables e below (T11.setTop (mkF m 95 #[.val (.long q1), .second, .val (.long q2), .second, .val (.long q3), .second, .val (.ref b1), .val (.long j4), .second, .val (.long j6), .second, .val (.int j8), .val (.int (0 : Int32)), .val (.int j10), .val (.int j12), .val (.int j13)] [])) _
          refine XS.iload X11.here hx rfl (hb hby at_95) rfl ?_
          show Steps p.tables e below (T11.setTop (mkF m 97 #[.val (.long q1), .second, .val (.long q2), .second, .val (.long q3), .second, .val (.ref b1), .val (.long j4), .second, .val (.long j6), .second, .val (.int j8), .val (.int (0 : Int32)), .val (.int j10), .val (.int j12), .val (.int j13)] [(.int (0 : Int32))])) _
          refine XS.ifNo X11.here hx rfl (hb hby at_97) rfl ((if0 _ _).trans (teq (rfl : (0 : Int32) = (0 : Int32))).2) ?_
          show Steps p.tables e below (T11.setTop (mkF m 100 #[.val (.long q1), .second, .val (.long q2), .second, .val (.long q3), .second, .val (.ref b1), .val (.long j4), .second, .val (.long j6), .second, .val (.int j8), .val (.int (0 : Int32)), .val (.int j10), .val (.int j12), .val (.int j13)] [])) _
          refine XS.iload X11.here hx rfl (hb hby at_100) rfl ?_
          show Steps p.tables e below (T11.setTop (mkF m 102 #[.val (.long q1), .second, .val (.long q2), .second, .val (.long q3), .second, .val (.ref b1), .val (.long j4), .second, .val (.long j6), .second, .val (.int j8), .val (.int (0 : Int32)), .val (.int j10), .val (.int j12), .val (.int j13)] [(.int j13)])) _
          refine XS.ifNo X11.here hx rfl (hb hby at_102) rfl ((if0 _ _).trans (feq hc102_5).1) ?_
          show Steps p.tables e below (T11.setTop (mkF m 105 #[.val (.long q1), .second, .val (.long q2), .second, .val (.long q3), .second, .val (.ref b1), .val (.long j4), .second, .val (.long j6), .second, .val (.int j8), .val (.int (0 : Int32)), .val (.int j10), .val (.int j12), .val (.int j13)] [])) _
          refine XS.iconst X11.here hx rfl (hb hby at_105) ?_
          show Steps p.tables e below (T11.setTop (mkF m 106 #[.val (.long q1), .second, .val (.long q2), .second, .val (.long q3), .second, .val (.ref b1), .val (.long j4), .second, .val (.long j6), .second, .val (.int j8), .val (.int (0 : Int32)), .val (.int j10), .val (.int j12), .val (.int j13)] [(.int (1 : Int32))])) _
          refine XS.goto X11.here hx rfl (pc0 := 106) (pc' := 110) rfl (hb hby at_106) (by decide) (by decide) ?_
          exact k
    refine own_go st16 ?_
    show own_Go p.tables e below _ T11 (mkF m 110 #[.val (.long q1), .second, .val (.long q2), .second, .val (.long q3), .second, .val (.ref b1), .val (.long j4), .second, .val (.long j6), .second, .val (.int j8), .val (.int (0 : Int32)), .val (.int j10), .val (.int j12), .val (.int j13)] [(.int j15)])
    have hv1 : (nar .boolean j15) = 1 := own_yes_t q1 q2 q3 j4 j6 j8 j10 j12 j13 j15 hj4 hj6 hj8 hj10 hj12 hj13 hj15 hc42_1
    obtain ⟨fs, hr, hrun, hended, hW, hsame⟩ := X11.leave (v := some (.int (nar .boolean j15))) (fun h => by rw [Bd.returns] at h; cases h)
    refine ⟨_, _, ?_, hrun, hended, _, _, rfl, ?_, ⟨_, rfl⟩, hW, hsame.mono (by decide) (by decide)⟩
    · exact retN X11 hx (t := .boolean) Bd.returns (by simp) (hb hby at_110) hr
    · show Q0 Z q1 q2 q3 h0 n0 _ _ _
      exact ⟨by rw [hv1], NN⟩
  · skip
    refine own_go (T' := T7) (g' := (mkF m 50 #[.val (.long q1), .second, .val (.long q2), .second, .val (.long q3), .second, .val (.ref b1), .val (.long j4), .second, .val (.long j6), .second, .val (.int j8), .val (.int (0 : Int32)), .unset, .unset, .unset] [(.long (q1 + (1 : Int64))), (.ref b1)])) (fun t k => ?_) ?_
    · show Steps p.tables e below (T7.setTop (mkF m 42 #[.val (.long q1), .second, .val (.long q2), .second, .val (.long q3), .second, .val (.ref b1), .val (.long j4), .second, .val (.long j6), .second, .val (.int j8), .val (.int (0 : Int32)), .unset, .unset, .unset] [(.int (lcmpW q1 (9223372036854775807 : Int64)))])) _
      refine XS.ifNo X7.here hx rfl (hb hby at_42) rfl ((if0 _ _).trans (feq (fun q => hc42_1 ((lw_eq q1 (9223372036854775807 : Int64)).mp q))).1) ?_
      show Steps p.tables e below (T7.setTop (mkF m 45 #[.val (.long q1), .second, .val (.long q2), .second, .val (.long q3), .second, .val (.ref b1), .val (.long j4), .second, .val (.long j6), .second, .val (.int j8), .val (.int (0 : Int32)), .unset, .unset, .unset] [])) _
      refine XS.aload X7.here hx rfl (hb hby at_45) rfl rfl ?_
      show Steps p.tables e below (T7.setTop (mkF m 47 #[.val (.long q1), .second, .val (.long q2), .second, .val (.long q3), .second, .val (.ref b1), .val (.long j4), .second, .val (.long j6), .second, .val (.int j8), .val (.int (0 : Int32)), .unset, .unset, .unset] [(.ref b1)])) _
      refine XS.lloadN X7.here hx rfl (hb hby at_47) rfl ?_
      show Steps p.tables e below (T7.setTop (mkF m 48 #[.val (.long q1), .second, .val (.long q2), .second, .val (.long q3), .second, .val (.ref b1), .val (.long j4), .second, .val (.long j6), .second, .val (.int j8), .val (.int (0 : Int32)), .unset, .unset, .unset] [(.long q1), (.ref b1)])) _
      refine XS.lconst X7.here hx rfl (hb hby at_48) ?_
      show Steps p.tables e below (T7.setTop (mkF m 49 #[.val (.long q1), .second, .val (.long q2), .second, .val (.long q3), .second, .val (.ref b1), .val (.long j4), .second, .val (.long j6), .second, .val (.int j8), .val (.int (0 : Int32)), .unset, .unset, .unset] [(.long (1 : Int64)), (.long q1), (.ref b1)])) _
      refine XS.ladd X7.here hx rfl (hb hby at_49) rfl ?_
      exact k
    obtain ⟨cq17, kq17, q17a, q17b, q17c⟩ := isOf hZ e7 E_b1
    obtain ⟨_, _, ⟨T17, L17, k17, n17⟩, -, X17, ⟨Lc17, hQ17, l17, y17, z17⟩, st17⟩ := X7.virtualBack hx (y := (⟨"com/example/kirchberg/kirchberg/server/HeapBudget", "holds", "(J)Z"⟩ : MethodName)) (z := (⟨"com/example/kirchberg/kirchberg/server/HeapBudget", "holds", "(J)Z"⟩ : MethodName)) hown (mvT hZ (hw _ (List.mem_of_getElem? (i := 33) rfl))) (mvT hZ (hw _ (List.mem_of_getElem? (i := 34) rfl))) (notFace_of_selects (args := #[]) (mvT hZ (hw _ (List.mem_of_getElem? (i := 36) rfl)))) (mvT hZ (hw _ (List.mem_of_getElem? (i := 36) rfl))) (mvT hZ (hw _ (List.mem_of_getElem? (i := 35) rfl))) (by decide) (backOf (W := 0) (rm7 l Z a0 hw [] b1 (q1 + (1 : Int64)) q1 T2.heap n0 Z0 F_b1_heapBytes) hZ (hw _ (List.mem_of_getElem? (i := 37) rfl)) (hw _ (List.mem_of_getElem? (i := 2) rfl)) (by decide) (by decide)) q17a q17c (g := (mkF m 50 #[.val (.long q1), .second, .val (.long q2), .second, .val (.long q3), .second, .val (.ref b1), .val (.long j4), .second, .val (.long j6), .second, .val (.int j8), .val (.int (0 : Int32)), .unset, .unset, .unset] [(.long (q1 + (1 : Int64))), (.ref b1)])) rfl (by rw [hml]; rfl) (Steps.refl _) (argsL := [(.long (q1 + (1 : Int64)))]) (rest := []) (lenOf pd_3 rfl) rfl (by show 2 * 0 + _ ≤ _; exact Nat.le_of_eq rfl) (hb hby at_50) (fun _ _ => ⟨rfl, e7, (by decide : 2 + 0 ≤ _), (by decide : 3 + 0 ≤ _)⟩)
    dsimp only [Pt.U, Pt.locs, Pt.cells, Pt.slots] at X17 l17 y17 z17 st17 hQ17
    subst l17 y17 z17
    obtain ⟨rfl, N17q, e17⟩ := hQ17
    have NN := Fr.app NN N17q
    refine own_go (fun t k => st17.trans k) ?_
    show own_Go p.tables e below _ T17 (mkF m 53 #[.val (.long q1), .second, .val (.long q2), .second, .val (.long q3), .second, .val (.ref b1), .val (.long j4), .second, .val (.long j6), .second, .val (.int j8), .val (.int (0 : Int32)), .unset, .unset, .unset] [(.int (r_7 (q1 + (1 : Int64)) q1))])
    refine own_go (T' := T17) (g' := (mkF m 55 #[.val (.long q1), .second, .val (.long q2), .second, .val (.long q3), .second, .val (.ref b1), .val (.long j4), .second, .val (.long j6), .second, .val (.int j8), .val (.int (r_7 (q1 + (1 : Int64)) q1)), .unset, .unset, .unset] [])) (fun t k => ?_) ?_
    · show Steps p.tables e below (T17.setTop (mkF m 53 #[.val (.long q1), .second, .val (.long q2), .second, .val (.long q3), .second, .val (.ref b1), .val (.long j4), .second, .val (.long j6), .second, .val (.int j8), .val (.int (0 : Int32)), .unset, .unset, .unset] [(.int (r_7 (q1 + (1 : Int64)) q1))])) _
      refine XS.istore X17.here hx rfl (hb hby at_53) rfl (l' := #[.val (.long q1), .second, .val (.long q2), .second, .val (.long q3), .second, .val (.ref b1), .val (.long j4), .second, .val (.long j6), .second, .val (.int j8), .val (.int (r_7 (q1 + (1 : Int64)) q1)), .unset, .unset, .unset]) rfl ?_
      exact k
    show own_Go p.tables e below _ T17 (mkF m 55 #[.val (.long q1), .second, .val (.long q2), .second, .val (.long q3), .second, .val (.ref b1), .val (.long j4), .second, .val (.long j6), .second, .val (.int j8), .val (.int (r_7 (q1 + (1 : Int64)) q1)), .unset, .unset, .unset] [])
    obtain ⟨j18, hj18⟩ : ∃ z : Int32, z = (r_7 (q1 + (1 : Int64)) q1) := ⟨_, rfl⟩
    rw [← hj18]
    show own_Go p.tables e below _ T17 (mkF m 55 #[.val (.long q1), .second, .val (.long q2), .second, .val (.long q3), .second, .val (.ref b1), .val (.long j4), .second, .val (.long j6), .second, .val (.int j8), .val (.int j18), .unset, .unset, .unset] [])
    refine own_go (T' := T17) (g' := (mkF m 59 #[.val (.long q1), .second, .val (.long q2), .second, .val (.long q3), .second, .val (.ref b1), .val (.long j4), .second, .val (.long j6), .second, .val (.int j8), .val (.int j18), .unset, .unset, .unset] [(.long j4), (.ref b1)])) (fun t k => ?_) ?_
    · show Steps p.tables e below (T17.setTop (mkF m 55 #[.val (.long q1), .second, .val (.long q2), .second, .val (.long q3), .second, .val (.ref b1), .val (.long j4), .second, .val (.long j6), .second, .val (.int j8), .val (.int j18), .unset, .unset, .unset] [])) _
      refine XS.aload X17.here hx rfl (hb hby at_55) rfl rfl ?_
      show Steps p.tables e below (T17.setTop (mkF m 57 #[.val (.long q1), .second, .val (.long q2), .second, .val (.long q3), .second, .val (.ref b1), .val (.long j4), .second, .val (.long j6), .second, .val (.int j8), .val (.int j18), .unset, .unset, .unset] [(.ref b1)])) _
      refine XS.lload X17.here hx rfl (hb hby at_57) rfl ?_
      exact k
    obtain ⟨cq19, kq19, q19a, q19b, q19c⟩ := isOf hZ e17 E_b1
    obtain ⟨_, _, ⟨T19, L19, k19, n19⟩, -, X19, ⟨Lc19, hQ19, l19, y19, z19⟩, st19⟩ := X17.virtualBack hx (y := (⟨"com/example/kirchberg/kirchberg/server/HeapBudget", "holds", "(J)Z"⟩ : MethodName)) (z := (⟨"com/example/kirchberg/kirchberg/server/HeapBudget", "holds", "(J)Z"⟩ : MethodName)) hown (mvT hZ (hw _ (List.mem_of_getElem? (i := 33) rfl))) (mvT hZ (hw _ (List.mem_of_getElem? (i := 34) rfl))) (notFace_of_selects (args := #[]) (mvT hZ (hw _ (List.mem_of_getElem? (i := 36) rfl)))) (mvT hZ (hw _ (List.mem_of_getElem? (i := 36) rfl))) (mvT hZ (hw _ (List.mem_of_getElem? (i := 35) rfl))) (by decide) (backOf (W := 0) (rm7 l Z a0 hw [] b1 j4 q1 T2.heap n0 Z0 F_b1_heapBytes) hZ (hw _ (List.mem_of_getElem? (i := 37) rfl)) (hw _ (List.mem_of_getElem? (i := 2) rfl)) (by decide) (by decide)) q19a q19c (g := (mkF m 59 #[.val (.long q1), .second, .val (.long q2), .second, .val (.long q3), .second, .val (.ref b1), .val (.long j4), .second, .val (.long j6), .second, .val (.int j8), .val (.int j18), .unset, .unset, .unset] [(.long j4), (.ref b1)])) rfl (by rw [hml]; rfl) (Steps.refl _) (argsL := [(.long j4)]) (rest := []) (lenOf pd_3 rfl) rfl (by show 2 * 0 + _ ≤ _; exact Nat.le_of_eq rfl) (hb hby at_59) (fun _ _ => ⟨rfl, e17, (by decide : 2 + 0 ≤ _), (by decide : 3 + 0 ≤ _)⟩)
    dsimp only [Pt.U, Pt.locs, Pt.cells, Pt.slots] at X19 l19 y19 z19 st19 hQ19
    subst l19 y19 z19
    obtain ⟨rfl, N19q, e19⟩ := hQ19
    have NN := Fr.app NN N19q
    refine own_go (fun t k => st19.trans k) ?_
    show own_Go p.tables e below _ T19 (mkF m 62 #[.val (.long q1), .second, .val (.long q2), .second, .val (.long q3), .second, .val (.ref b1), .val (.long j4), .second, .val (.long j6), .second, .val (.int j8), .val (.int j18), .unset, .unset, .unset] [(.int (r_7 j4 q1))])
    refine own_go (T' := T19) (g' := (mkF m 64 #[.val (.long q1), .second, .val (.long q2), .second, .val (.long q3), .second, .val (.ref b1), .val (.long j4), .second, .val (.long j6), .second, .val (.int j8), .val (.int j18), .val (.int (r_7 j4 q1)), .unset, .unset] [])) (fun t k => ?_) ?_
    · show Steps p.tables e below (T19.setTop (mkF m 62 #[.val (.long q1), .second, .val (.long q2), .second, .val (.long q3), .second, .val (.ref b1), .val (.long j4), .second, .val (.long j6), .second, .val (.int j8), .val (.int j18), .unset, .unset, .unset] [(.int (r_7 j4 q1))])) _
      refine XS.istore X19.here hx rfl (hb hby at_62) rfl (l' := #[.val (.long q1), .second, .val (.long q2), .second, .val (.long q3), .second, .val (.ref b1), .val (.long j4), .second, .val (.long j6), .second, .val (.int j8), .val (.int j18), .val (.int (r_7 j4 q1)), .unset, .unset]) rfl ?_
      exact k
    show own_Go p.tables e below _ T19 (mkF m 64 #[.val (.long q1), .second, .val (.long q2), .second, .val (.long q3), .second, .val (.ref b1), .val (.long j4), .second, .val (.long j6), .second, .val (.int j8), .val (.int j18), .val (.int (r_7 j4 q1)), .unset, .unset] [])
    obtain ⟨j20, hj20⟩ : ∃ z : Int32, z = (r_7 j4 q1) := ⟨_, rfl⟩
    rw [← hj20]
    show own_Go p.tables e below _ T19 (mkF m 64 #[.val (.long q1), .second, .val (.long q2), .second, .val (.long q3), .second, .val (.ref b1), .val (.long j4), .second, .val (.long j6), .second, .val (.int j8), .val (.int j18), .val (.int j20), .unset, .unset] [])
    refine own_go (T' := T19) (g' := (mkF m 68 #[.val (.long q1), .second, .val (.long q2), .second, .val (.long q3), .second, .val (.ref b1), .val (.long j4), .second, .val (.long j6), .second, .val (.int j8), .val (.int j18), .val (.int j20), .unset, .unset] [(.long j6), (.ref b1)])) (fun t k => ?_) ?_
    · show Steps p.tables e below (T19.setTop (mkF m 64 #[.val (.long q1), .second, .val (.long q2), .second, .val (.long q3), .second, .val (.ref b1), .val (.long j4), .second, .val (.long j6), .second, .val (.int j8), .val (.int j18), .val (.int j20), .unset, .unset] [])) _
      refine XS.aload X19.here hx rfl (hb hby at_64) rfl rfl ?_
      show Steps p.tables e below (T19.setTop (mkF m 66 #[.val (.long q1), .second, .val (.long q2), .second, .val (.long q3), .second, .val (.ref b1), .val (.long j4), .second, .val (.long j6), .second, .val (.int j8), .val (.int j18), .val (.int j20), .unset, .unset] [(.ref b1)])) _
      refine XS.lload X19.here hx rfl (hb hby at_66) rfl ?_
      exact k
    obtain ⟨cq21, kq21, q21a, q21b, q21c⟩ := isOf hZ e19 E_b1
    obtain ⟨_, _, ⟨T21, L21, k21, n21⟩, -, X21, ⟨Lc21, hQ21, l21, y21, z21⟩, st21⟩ := X19.virtualBack hx (y := (⟨"com/example/kirchberg/kirchberg/server/HeapBudget", "holds", "(J)Z"⟩ : MethodName)) (z := (⟨"com/example/kirchberg/kirchberg/server/HeapBudget", "holds", "(J)Z"⟩ : MethodName)) hown (mvT hZ (hw _ (List.mem_of_getElem? (i := 33) rfl))) (mvT hZ (hw _ (List.mem_of_getElem? (i := 34) rfl))) (notFace_of_selects (args := #[]) (mvT hZ (hw _ (List.mem_of_getElem? (i := 36) rfl)))) (mvT hZ (hw _ (List.mem_of_getElem? (i := 36) rfl))) (mvT hZ (hw _ (List.mem_of_getElem? (i := 35) rfl))) (by decide) (backOf (W := 0) (rm7 l Z a0 hw [] b1 j6 q1 T2.heap n0 Z0 F_b1_heapBytes) hZ (hw _ (List.mem_of_getElem? (i := 37) rfl)) (hw _ (List.mem_of_getElem? (i := 2) rfl)) (by decide) (by decide)) q21a q21c (g := (mkF m 68 #[.val (.long q1), .second, .val (.long q2), .second, .val (.long q3), .second, .val (.ref b1), .val (.long j4), .second, .val (.long j6), .second, .val (.int j8), .val (.int j18), .val (.int j20), .unset, .unset] [(.long j6), (.ref b1)])) rfl (by rw [hml]; rfl) (Steps.refl _) (argsL := [(.long j6)]) (rest := []) (lenOf pd_3 rfl) rfl (by show 2 * 0 + _ ≤ _; exact Nat.le_of_eq rfl) (hb hby at_68) (fun _ _ => ⟨rfl, e19, (by decide : 2 + 0 ≤ _), (by decide : 3 + 0 ≤ _)⟩)
    dsimp only [Pt.U, Pt.locs, Pt.cells, Pt.slots] at X21 l21 y21 z21 st21 hQ21
    subst l21 y21 z21
    obtain ⟨rfl, N21q, e21⟩ := hQ21
    have NN := Fr.app NN N21q
    refine own_go (fun t k => st21.trans k) ?_
    show own_Go p.tables e below _ T21 (mkF m 71 #[.val (.long q1), .second, .val (.long q2), .second, .val (.long q3), .second, .val (.ref b1), .val (.long j4), .second, .val (.long j6), .second, .val (.int j8), .val (.int j18), .val (.int j20), .unset, .unset] [(.int (r_7 j6 q1))])
    refine own_go (T' := T21) (g' := (mkF m 73 #[.val (.long q1), .second, .val (.long q2), .second, .val (.long q3), .second, .val (.ref b1), .val (.long j4), .second, .val (.long j6), .second, .val (.int j8), .val (.int j18), .val (.int j20), .val (.int (r_7 j6 q1)), .unset] [])) (fun t k => ?_) ?_
    · show Steps p.tables e below (T21.setTop (mkF m 71 #[.val (.long q1), .second, .val (.long q2), .second, .val (.long q3), .second, .val (.ref b1), .val (.long j4), .second, .val (.long j6), .second, .val (.int j8), .val (.int j18), .val (.int j20), .unset, .unset] [(.int (r_7 j6 q1))])) _
      refine XS.istore X21.here hx rfl (hb hby at_71) rfl (l' := #[.val (.long q1), .second, .val (.long q2), .second, .val (.long q3), .second, .val (.ref b1), .val (.long j4), .second, .val (.long j6), .second, .val (.int j8), .val (.int j18), .val (.int j20), .val (.int (r_7 j6 q1)), .unset]) rfl ?_
      exact k
    show own_Go p.tables e below _ T21 (mkF m 73 #[.val (.long q1), .second, .val (.long q2), .second, .val (.long q3), .second, .val (.ref b1), .val (.long j4), .second, .val (.long j6), .second, .val (.int j8), .val (.int j18), .val (.int j20), .val (.int (r_7 j6 q1)), .unset] [])
    obtain ⟨j22, hj22⟩ : ∃ z : Int32, z = (r_7 j6 q1) := ⟨_, rfl⟩
    rw [← hj22]
    show own_Go p.tables e below _ T21 (mkF m 73 #[.val (.long q1), .second, .val (.long q2), .second, .val (.long q3), .second, .val (.ref b1), .val (.long j4), .second, .val (.long j6), .second, .val (.int j8), .val (.int j18), .val (.int j20), .val (.int j22), .unset] [])
    refine own_go (T' := T21) (g' := (mkF m 75 #[.val (.long q1), .second, .val (.long q2), .second, .val (.long q3), .second, .val (.ref b1), .val (.long j4), .second, .val (.long j6), .second, .val (.int j8), .val (.int j18), .val (.int j20), .val (.int j22), .unset] [(.int j22)])) (fun t k => ?_) ?_
    · show Steps p.tables e below (T21.setTop (mkF m 73 #[.val (.long q1), .second, .val (.long q2), .second, .val (.long q3), .second, .val (.ref b1), .val (.long j4), .second, .val (.long j6), .second, .val (.int j8), .val (.int j18), .val (.int j20), .val (.int j22), .unset] [])) _
      refine XS.iload X21.here hx rfl (hb hby at_73) rfl ?_
      exact k
    obtain ⟨j23, hj23, st24⟩ : ∃ (j23 : Int32), j23 = (if j22 = (0 : Int32) then (1 : Int32) else (if j20 = (0 : Int32) then (0 : Int32) else (1 : Int32))) ∧ ∀ t, Steps p.tables e below (T21.setTop (mkF m 88 #[.val (.long q1), .second, .val (.long q2), .second, .val (.long q3), .second, .val (.ref b1), .val (.long j4), .second, .val (.long j6), .second, .val (.int j8), .val (.int j18), .val (.int j20), .val (.int j22), .unset] [(.int j23)])) t → Steps p.tables e below (T21.setTop (mkF m 75 #[.val (.long q1), .second, .val (.long q2), .second, .val (.long q3), .second, .val (.ref b1), .val (.long j4), .second, .val (.long j6), .second, .val (.int j8), .val (.int j18), .val (.int j20), .val (.int j22), .unset] [(.int j22)])) t := by
      by_cases hc75_6 : j22 = (0 : Int32)
      · skip
        refine ⟨(1 : Int32), (by simp only [if_pos hc75_6]), fun t k => ?_⟩
        show Steps p.tables e below (T21.setTop (mkF m 75 #[.val (.long q1), .second, .val (.long q2), .second, .val (.long q3), .second, .val (.ref b1), .val (.long j4), .second, .val (.long j6), .second, .val (.int j8), .val (.int j18), .val (.int j20), .val (.int j22), .unset] [(.int j22)])) _
        refine XS.ifYes X21.here hx rfl (pc0 := 75) (pc' := 83) rfl (hb hby at_75) rfl ((if0 _ _).trans (teq hc75_6).1) (by decide) (by decide) ?_
        show Steps p.tables e below (T21.setTop (mkF m 83 #[.val (.long q1), .second, .val (.long q2), .second, .val (.long q3), .second, .val (.ref b1), .val (.long j4), .second, .val (.long j6), .second, .val (.int j8), .val (.int j18), .val (.int j20), .val (.int j22), .unset] [])) _
        refine XS.iconst X21.here hx rfl (hb hby at_83) ?_
        show Steps p.tables e below (T21.setTop (mkF m 84 #[.val (.long q1), .second, .val (.long q2), .second, .val (.long q3), .second, .val (.ref b1), .val (.long j4), .second, .val (.long j6), .second, .val (.int j8), .val (.int j18), .val (.int j20), .val (.int j22), .unset] [(.int (1 : Int32))])) _
        refine XS.goto X21.here hx rfl (pc0 := 84) (pc' := 88) rfl (hb hby at_84) (by decide) (by decide) ?_
        exact k
      · skip
        by_cases hc80_7 : j20 = (0 : Int32)
        · skip
          refine ⟨(0 : Int32), (by simp only [if_neg hc75_6, if_pos hc80_7]), fun t k => ?_⟩
          show Steps p.tables e below (T21.setTop (mkF m 75 #[.val (.long q1), .second, .val (.long q2), .second, .val (.long q3), .second, .val (.ref b1), .val (.long j4), .second, .val (.long j6), .second, .val (.int j8), .val (.int j18), .val (.int j20), .val (.int j22), .unset] [(.int j22)])) _
          refine XS.ifNo X21.here hx rfl (hb hby at_75) rfl ((if0 _ _).trans (feq hc75_6).1) ?_
          show Steps p.tables e below (T21.setTop (mkF m 78 #[.val (.long q1), .second, .val (.long q2), .second, .val (.long q3), .second, .val (.ref b1), .val (.long j4), .second, .val (.long j6), .second, .val (.int j8), .val (.int j18), .val (.int j20), .val (.int j22), .unset] [])) _
          refine XS.iload X21.here hx rfl (hb hby at_78) rfl ?_
          show Steps p.tables e below (T21.setTop (mkF m 80 #[.val (.long q1), .second, .val (.long q2), .second, .val (.long q3), .second, .val (.ref b1), .val (.long j4), .second, .val (.long j6), .second, .val (.int j8), .val (.int j18), .val (.int j20), .val (.int j22), .unset] [(.int j20)])) _
          refine XS.ifYes X21.here hx rfl (pc0 := 80) (pc' := 87) rfl (hb hby at_80) rfl ((if0 _ _).trans (teq hc80_7).1) (by decide) (by decide) ?_
          show Steps p.tables e below (T21.setTop (mkF m 87 #[.val (.long q1), .second, .val (.long q2), .second, .val (.long q3), .second, .val (.ref b1), .val (.long j4), .second, .val (.long j6), .second, .val (.int j8), .val (.int j18), .val (.int j20), .val (.int j22), .unset] [])) _
          refine XS.iconst X21.here hx rfl (hb hby at_87) ?_
          exact k
        · skip
          refine ⟨(1 : Int32), (by simp only [if_neg hc75_6, if_neg hc80_7]), fun t k => ?_⟩
          show Steps p.tables e below (T21.setTop (mkF m 75 #[.val (.long q1), .second, .val (.long q2), .second, .val (.long q3), .second, .val (.ref b1), .val (.long j4), .second, .val (.long j6), .second, .val (.int j8), .val (.int j18), .val (.int j20), .val (.int j22), .unset] [(.int j22)])) _
          refine XS.ifNo X21.here hx rfl (hb hby at_75) rfl ((if0 _ _).trans (feq hc75_6).1) ?_
          show Steps p.tables e below (T21.setTop (mkF m 78 #[.val (.long q1), .second, .val (.long q2), .second, .val (.long q3), .second, .val (.ref b1), .val (.long j4), .second, .val (.long j6), .second, .val (.int j8), .val (.int j18), .val (.int j20), .val (.int j22), .unset] [])) _
          refine XS.iload X21.here hx rfl (hb hby at_78) rfl ?_
          show Steps p.tables e below (T21.setTop (mkF m 80 #[.val (.long q1), .second, .val (.long q2), .second, .val (.long q3), .second, .val (.ref b1), .val (.long j4), .second, .val (.long j6), .second, .val (.int j8), .val (.int j18), .val (.int j20), .val (.int j22), .unset] [(.int j20)])) _
          refine XS.ifNo X21.here hx rfl (hb hby at_80) rfl ((if0 _ _).trans (feq hc80_7).1) ?_
          show Steps p.tables e below (T21.setTop (mkF m 83 #[.val (.long q1), .second, .val (.long q2), .second, .val (.long q3), .second, .val (.ref b1), .val (.long j4), .second, .val (.long j6), .second, .val (.int j8), .val (.int j18), .val (.int j20), .val (.int j22), .unset] [])) _
          refine XS.iconst X21.here hx rfl (hb hby at_83) ?_
          show Steps p.tables e below (T21.setTop (mkF m 84 #[.val (.long q1), .second, .val (.long q2), .second, .val (.long q3), .second, .val (.ref b1), .val (.long j4), .second, .val (.long j6), .second, .val (.int j8), .val (.int j18), .val (.int j20), .val (.int j22), .unset] [(.int (1 : Int32))])) _
          refine XS.goto X21.here hx rfl (pc0 := 84) (pc' := 88) rfl (hb hby at_84) (by decide) (by decide) ?_
          exact k
    refine own_go st24 ?_
    show own_Go p.tables e below _ T21 (mkF m 88 #[.val (.long q1), .second, .val (.long q2), .second, .val (.long q3), .second, .val (.ref b1), .val (.long j4), .second, .val (.long j6), .second, .val (.int j8), .val (.int j18), .val (.int j20), .val (.int j22), .unset] [(.int j23)])
    refine own_go (T' := T21) (g' := (mkF m 92 #[.val (.long q1), .second, .val (.long q2), .second, .val (.long q3), .second, .val (.ref b1), .val (.long j4), .second, .val (.long j6), .second, .val (.int j8), .val (.int j18), .val (.int j20), .val (.int j22), .val (.int j23)] [(.int j8)])) (fun t k => ?_) ?_
    · show Steps p.tables e below (T21.setTop (mkF m 88 #[.val (.long q1), .second, .val (.long q2), .second, .val (.long q3), .second, .val (.ref b1), .val (.long j4), .second, .val (.long j6), .second, .val (.int j8), .val (.int j18), .val (.int j20), .val (.int j22), .unset] [(.int j23)])) _
      refine XS.istore X21.here hx rfl (hb hby at_88) rfl (l' := #[.val (.long q1), .second, .val (.long q2), .second, .val (.long q3), .second, .val (.ref b1), .val (.long j4), .second, .val (.long j6), .second, .val (.int j8), .val (.int j18), .val (.int j20), .val (.int j22), .val (.int j23)]) rfl ?_
      show Steps p.tables e below (T21.setTop (mkF m 90 #[.val (.long q1), .second, .val (.long q2), .second, .val (.long q3), .second, .val (.ref b1), .val (.long j4), .second, .val (.long j6), .second, .val (.int j8), .val (.int j18), .val (.int j20), .val (.int j22), .val (.int j23)] [])) _
      refine XS.iload X21.here hx rfl (hb hby at_90) rfl ?_
      exact k
    obtain ⟨j25, hj25, st26⟩ : ∃ (j25 : Int32), j25 = (if j8 = (0 : Int32) then (0 : Int32) else (if j18 = (0 : Int32) then (if j23 = (0 : Int32) then (0 : Int32) else (1 : Int32)) else (0 : Int32))) ∧ ∀ t, Steps p.tables e below (T21.setTop (mkF m 110 #[.val (.long q1), .second, .val (.long q2), .second, .val (.long q3), .second, .val (.ref b1), .val (.long j4), .second, .val (.long j6), .second, .val (.int j8), .val (.int j18), .val (.int j20), .val (.int j22), .val (.int j23)] [(.int j25)])) t → Steps p.tables e below (T21.setTop (mkF m 92 #[.val (.long q1), .second, .val (.long q2), .second, .val (.long q3), .second, .val (.ref b1), .val (.long j4), .second, .val (.long j6), .second, .val (.int j8), .val (.int j18), .val (.int j20), .val (.int j22), .val (.int j23)] [(.int j8)])) t := by
      by_cases hc92_8 : j8 = (0 : Int32)
      · skip
        refine ⟨(0 : Int32), (by simp only [if_pos hc92_8]), fun t k => ?_⟩
        show Steps p.tables e below (T21.setTop (mkF m 92 #[.val (.long q1), .second, .val (.long q2), .second, .val (.long q3), .second, .val (.ref b1), .val (.long j4), .second, .val (.long j6), .second, .val (.int j8), .val (.int j18), .val (.int j20), .val (.int j22), .val (.int j23)] [(.int j8)])) _
        refine XS.ifYes X21.here hx rfl (pc0 := 92) (pc' := 109) rfl (hb hby at_92) rfl ((if0 _ _).trans (teq hc92_8).1) (by decide) (by decide) ?_
        show Steps p.tables e below (T21.setTop (mkF m 109 #[.val (.long q1), .second, .val (.long q2), .second, .val (.long q3), .second, .val (.ref b1), .val (.long j4), .second, .val (.long j6), .second, .val (.int j8), .val (.int j18), .val (.int j20), .val (.int j22), .val (.int j23)] [])) _
        refine XS.iconst X21.here hx rfl (hb hby at_109) ?_
        exact k
      · skip
        by_cases hc97_9 : j18 = (0 : Int32)
        · skip
          by_cases hc102_10 : j23 = (0 : Int32)
          · skip
            refine ⟨(0 : Int32), (by simp only [if_neg hc92_8, if_pos hc97_9, if_pos hc102_10]), fun t k => ?_⟩
            show Steps p.tables e below (T21.setTop (mkF m 92 #[.val (.long q1), .second, .val (.long q2), .second, .val (.long q3), .second, .val (.ref b1), .val (.long j4), .second, .val (.long j6), .second, .val (.int j8), .val (.int j18), .val (.int j20), .val (.int j22), .val (.int j23)] [(.int j8)])) _
            refine XS.ifNo X21.here hx rfl (hb hby at_92) rfl ((if0 _ _).trans (feq hc92_8).1) ?_
            show Steps p.tables e below (T21.setTop (mkF m 95 #[.val (.long q1), .second, .val (.long q2), .second, .val (.long q3), .second, .val (.ref b1), .val (.long j4), .second, .val (.long j6), .second, .val (.int j8), .val (.int j18), .val (.int j20), .val (.int j22), .val (.int j23)] [])) _
            refine XS.iload X21.here hx rfl (hb hby at_95) rfl ?_
            show Steps p.tables e below (T21.setTop (mkF m 97 #[.val (.long q1), .second, .val (.long q2), .second, .val (.long q3), .second, .val (.ref b1), .val (.long j4), .second, .val (.long j6), .second, .val (.int j8), .val (.int j18), .val (.int j20), .val (.int j22), .val (.int j23)] [(.int j18)])) _
            refine XS.ifNo X21.here hx rfl (hb hby at_97) rfl ((if0 _ _).trans (teq hc97_9).2) ?_
            show Steps p.tables e below (T21.setTop (mkF m 100 #[.val (.long q1), .second, .val (.long q2), .second, .val (.long q3), .second, .val (.ref b1), .val (.long j4), .second, .val (.long j6), .second, .val (.int j8), .val (.int j18), .val (.int j20), .val (.int j22), .val (.int j23)] [])) _
            refine XS.iload X21.here hx rfl (hb hby at_100) rfl ?_
            show Steps p.tables e below (T21.setTop (mkF m 102 #[.val (.long q1), .second, .val (.long q2), .second, .val (.long q3), .second, .val (.ref b1), .val (.long j4), .second, .val (.long j6), .second, .val (.int j8), .val (.int j18), .val (.int j20), .val (.int j22), .val (.int j23)] [(.int j23)])) _
            refine XS.ifYes X21.here hx rfl (pc0 := 102) (pc' := 109) rfl (hb hby at_102) rfl ((if0 _ _).trans (teq hc102_10).1) (by decide) (by decide) ?_
            show Steps p.tables e below (T21.setTop (mkF m 109 #[.val (.long q1), .second, .val (.long q2), .second, .val (.long q3), .second, .val (.ref b1), .val (.long j4), .second, .val (.long j6), .second, .val (.int j8), .val (.int j18), .val (.int j20), .val (.int j22), .val (.int j23)] [])) _
            refine XS.iconst X21.here hx rfl (hb hby at_109) ?_
            exact k
          · skip
            refine ⟨(1 : Int32), (by simp only [if_neg hc92_8, if_pos hc97_9, if_neg hc102_10]), fun t k => ?_⟩
            show Steps p.tables e below (T21.setTop (mkF m 92 #[.val (.long q1), .second, .val (.long q2), .second, .val (.long q3), .second, .val (.ref b1), .val (.long j4), .second, .val (.long j6), .second, .val (.int j8), .val (.int j18), .val (.int j20), .val (.int j22), .val (.int j23)] [(.int j8)])) _
            refine XS.ifNo X21.here hx rfl (hb hby at_92) rfl ((if0 _ _).trans (feq hc92_8).1) ?_
            show Steps p.tables e below (T21.setTop (mkF m 95 #[.val (.long q1), .second, .val (.long q2), .second, .val (.long q3), .second, .val (.ref b1), .val (.long j4), .second, .val (.long j6), .second, .val (.int j8), .val (.int j18), .val (.int j20), .val (.int j22), .val (.int j23)] [])) _
            refine XS.iload X21.here hx rfl (hb hby at_95) rfl ?_
            show Steps p.tables e below (T21.setTop (mkF m 97 #[.val (.long q1), .second, .val (.long q2), .second, .val (.long q3), .second, .val (.ref b1), .val (.long j4), .second, .val (.long j6), .second, .val (.int j8), .val (.int j18), .val (.int j20), .val (.int j22), .val (.int j23)] [(.int j18)])) _
            refine XS.ifNo X21.here hx rfl (hb hby at_97) rfl ((if0 _ _).trans (teq hc97_9).2) ?_
            show Steps p.tables e below (T21.setTop (mkF m 100 #[.val (.long q1), .second, .val (.long q2), .second, .val (.long q3), .second, .val (.ref b1), .val (.long j4), .second, .val (.long j6), .second, .val (.int j8), .val (.int j18), .val (.int j20), .val (.int j22), .val (.int j23)] [])) _
            refine XS.iload X21.here hx rfl (hb hby at_100) rfl ?_
            show Steps p.tables e below (T21.setTop (mkF m 102 #[.val (.long q1), .second, .val (.long q2), .second, .val (.long q3), .second, .val (.ref b1), .val (.long j4), .second, .val (.long j6), .second, .val (.int j8), .val (.int j18), .val (.int j20), .val (.int j22), .val (.int j23)] [(.int j23)])) _
            refine XS.ifNo X21.here hx rfl (hb hby at_102) rfl ((if0 _ _).trans (feq hc102_10).1) ?_
            show Steps p.tables e below (T21.setTop (mkF m 105 #[.val (.long q1), .second, .val (.long q2), .second, .val (.long q3), .second, .val (.ref b1), .val (.long j4), .second, .val (.long j6), .second, .val (.int j8), .val (.int j18), .val (.int j20), .val (.int j22), .val (.int j23)] [])) _
            refine XS.iconst X21.here hx rfl (hb hby at_105) ?_
            show Steps p.tables e below (T21.setTop (mkF m 106 #[.val (.long q1), .second, .val (.long q2), .second, .val (.long q3), .second, .val (.ref b1), .val (.long j4), .second, .val (.long j6), .second, .val (.int j8), .val (.int j18), .val (.int j20), .val (.int j22), .val (.int j23)] [(.int (1 : Int32))])) _
            refine XS.goto X21.here hx rfl (pc0 := 106) (pc' := 110) rfl (hb hby at_106) (by decide) (by decide) ?_
            exact k
        · skip
          refine ⟨(0 : Int32), (by simp only [if_neg hc92_8, if_neg hc97_9]), fun t k => ?_⟩
          show Steps p.tables e below (T21.setTop (mkF m 92 #[.val (.long q1), .second, .val (.long q2), .second, .val (.long q3), .second, .val (.ref b1), .val (.long j4), .second, .val (.long j6), .second, .val (.int j8), .val (.int j18), .val (.int j20), .val (.int j22), .val (.int j23)] [(.int j8)])) _
          refine XS.ifNo X21.here hx rfl (hb hby at_92) rfl ((if0 _ _).trans (feq hc92_8).1) ?_
          show Steps p.tables e below (T21.setTop (mkF m 95 #[.val (.long q1), .second, .val (.long q2), .second, .val (.long q3), .second, .val (.ref b1), .val (.long j4), .second, .val (.long j6), .second, .val (.int j8), .val (.int j18), .val (.int j20), .val (.int j22), .val (.int j23)] [])) _
          refine XS.iload X21.here hx rfl (hb hby at_95) rfl ?_
          show Steps p.tables e below (T21.setTop (mkF m 97 #[.val (.long q1), .second, .val (.long q2), .second, .val (.long q3), .second, .val (.ref b1), .val (.long j4), .second, .val (.long j6), .second, .val (.int j8), .val (.int j18), .val (.int j20), .val (.int j22), .val (.int j23)] [(.int j18)])) _
          refine XS.ifYes X21.here hx rfl (pc0 := 97) (pc' := 109) rfl (hb hby at_97) rfl ((if0 _ _).trans (feq hc97_9).2) (by decide) (by decide) ?_
          show Steps p.tables e below (T21.setTop (mkF m 109 #[.val (.long q1), .second, .val (.long q2), .second, .val (.long q3), .second, .val (.ref b1), .val (.long j4), .second, .val (.long j6), .second, .val (.int j8), .val (.int j18), .val (.int j20), .val (.int j22), .val (.int j23)] [])) _
          refine XS.iconst X21.here hx rfl (hb hby at_109) ?_
          exact k
    refine own_go st26 ?_
    show own_Go p.tables e below _ T21 (mkF m 110 #[.val (.long q1), .second, .val (.long q2), .second, .val (.long q3), .second, .val (.ref b1), .val (.long j4), .second, .val (.long j6), .second, .val (.int j8), .val (.int j18), .val (.int j20), .val (.int j22), .val (.int j23)] [(.int j25)])
    have hv1 : (nar .boolean j25) = 1 := own_yes_f q1 q2 q3 j4 j6 j8 j18 j20 j22 j23 j25 hj4 hj6 hj8 hj18 hj20 hj22 hj23 hj25 hc42_1
    obtain ⟨fs, hr, hrun, hended, hW, hsame⟩ := X21.leave (v := some (.int (nar .boolean j25))) (fun h => by rw [Bd.returns] at h; cases h)
    refine ⟨_, _, ?_, hrun, hended, _, _, rfl, ?_, ⟨_, rfl⟩, hW, hsame.mono (by decide) (by decide)⟩
    · exact retN X21 hx (t := .boolean) Bd.returns (by simp) (hb hby at_110) hr
    · show Q0 Z q1 q2 q3 h0 n0 _ _ _
      exact ⟨by rw [hv1], NN⟩
set_option maxRecDepth 65536 in
set_option maxHeartbeats 40000000 in
theorem comes_1 {Post : Tables → Env → Array Value → State → Outcome → State → Prop} (hpost : ∀ tb e args s v u, (limb_1_1.after args s (.returned v) u = true ∧ limb_1_2.after args s (.returned v) u = true ∧ True) → FrameEnd s (.returned v) u (Jvm.fieldLocs frame_1_writes args s ++ Jvm.arrayLocs frame_1_arrays args s ++ Jvm.staticLocs frame_1_statics s) 16 128 → Post tb e args s (.returned v) u) :
    ArmFor flags0 classFile x code maxLocals ret World_1 tables_1 room_1 Calls_1 rest_1 Pre_1 Post := by
  intro l hfl _ _ p e ha hc hk s m args below hf hA hF happ hP
  obtain ⟨hcalls, hrest, hpre⟩ := hP
  obtain ⟨-, -, -, hnamed, -, -, -, hat⟩ := (Spec.applies_iff hf).mp happ
  obtain ⟨hg, hn⟩ := and_e (Cond.before_iff.mp (show (Jvm.Cond.and given_1 narrow_1).before args s = true from hpre))
  obtain ⟨hcount, hg0⟩ := and_e hg
  obtain ⟨ha0, hg1⟩ := and_e hg0
  obtain ⟨ha1, hg2⟩ := and_e hg1
  have ha2 := hg2
  obtain ⟨w0, w1, w2, rfl⟩ : ∃ w0 w1 w2 : Value, args = #[w0, w1, w2] := by
    have hs : args.size = 3 := by simpa [Cond.value, given_1] using hcount
    obtain ⟨L⟩ := args
    match L, hs with
    | [w0, w1, w2], _ => exact ⟨w0, w1, w2, rfl⟩
  have hw := fun d (hd : d ∈ tables_1) => atoms_spec (ws := Jvm.Cond.code x code maxLocals ret :: tables_1) hat d (List.mem_cons_of_mem _ hd)
  obtain ⟨i0, ei0⟩ := isL_v ha0
  obtain rfl : w0 = (.long i0) := Option.some.inj ei0
  obtain ⟨i1, ei1⟩ := isL_v ha1
  obtain rfl : w1 = (.long i1) := Option.some.inj ei1
  obtain ⟨i2, ei2⟩ := isL_v ha2
  obtain rfl : w2 = (.long i2) := Option.some.inj ei2
  obtain ⟨n, o, h1, h2, h3, _, L, rfl, ⟨rfl, N⟩, hq⟩ := rm0 l s _ hw tables_1 i0 i1 i2 s.heap s.heap.size (Nat.le_refl _) p e ha hc hk s m _ below hf ((Spec.applies_iff_loose hf).mp happ).1 ⟨rfl, State.Warmed39.refl s, rfl⟩ trivial
  refine ⟨n, _, h1, h2, h3, hpost _ _ _ _ _ _ ⟨Cond.after_iff.mpr rfl, Cond.after_iff.mpr (eq_i res_at (Term.int_eval (1)) rfl), trivial⟩ ⟨hq.1, hq.2.1, (hq.2.2.sift fun y hy => Or.inr (N y hy)).mono (by decide) (by decide)⟩⟩
theorem main_1_1 : Claimed_1_1 := comes_1 fun _ _ _ _ _ _ h hF => ⟨h.1, hF⟩
theorem main_1_2 : Claimed_1_2 := comes_1 fun _ _ _ _ _ _ h hF => ⟨h.2.1, hF⟩
end Jvm.Pilot.@@N@@
namespace Jvm.Pilot.@@N@@
open Jvm Jvm.ClassFile Sem Op Lib Jvm.Free Jvm.Stand Jvm.Pilot.@@N@@.Jvm.D
/-! MADE BY PROGRAM (witnessworld.py) out of the Statement's table words and the real class files: 12 classes; the members and pool entries that the words name. The judged class is class 1, her method 1. -/
namespace start1
open Jvm.ClassFile
def u (s : String) : CpInfo := .utf8 (stringToUtf16 s)
/-- a pool by its gaps: so many unusable entries, then the entry; so many at the end -/
def gap : Nat → List CpInfo → List CpInfo
  | 0, r => r
  | n + 1, r => .unusable :: gap n r
def poolList (es : List (Nat × CpInfo)) (last : Nat) : List CpInfo := es.foldr (fun e r => gap e.1 (e.2 :: r)) (gap last [])
def pool (es : List (Nat × CpInfo)) (last : Nat) : Array CpInfo := ⟨poolList es last⟩
def fileOf (pool : Array CpInfo) (this : Nat) (attrs : Array Attribute := #[]) (ms : Array MethodInfo := #[]) (fl : Nat := 33) (sup : Nat := 0) (ifs : Array Nat := #[]) (fds : Array FieldInfo := #[]) : ClassFile where
  minorVersion := 0
  majorVersion := 65
  constantPool := pool
  accessFlags := fl
  thisClass := this
  superClass := sup
  interfaces := ifs
  fields := fds
  methods := ms
  attributes := attrs
def plain (name : String) (sup : Option ClassId) : Class where
  name := name
  kind := .ordinary
  loader := none
  accessFlags := 33
  super := sup
  interfaces := #[]
  cf := none
  fields := #[]
  methods := #[]
  instanceTypes := #[]
  staticTypes := #[]
  resolved := #[]
  callSites := []
  init := .initialized
  statics := none
  mirror := none

def pool0 : Array CpInfo := pool [(5, u "<init>"), (0, u "()V"), (1, .class_ 10), (1, u "java/lang/Object")] 113

def k0c0 : Code := { maxStack := 0, maxLocals := 1, code := object_method_1_code, exceptionTable := #[], attributes := #[] }
def k0m0 : Method := { name := "<init>", desc := "()V", sig := { parameters := [], returnType := none }, accessFlags := 1, code := some k0c0 }
/-- java/lang/Object -/
def k0 : Class := { plain "java/lang/Object" none with
  accessFlags := 33
  interfaces := #[]
  cf := some (fileOf pool0 8 #[] #[{ accessFlags := 1, nameIndex := 5, descriptorIndex := 6, attributes := #[] }] 33 0 #[] #[])
  fields := #[]
  methods := #[k0m0]
  instanceTypes := #[]
  staticTypes := #[]
  resolved := Array.replicate 124 none
  statics := none }

def pool1 : Array CpInfo := pool [(2, .class_ 4), (1, u "java/lang/Object"), (0, u "<init>"), (0, u "()V"), (0, .class_ 8), (0, u "com/example/kirchberg/kirchberg/server/HeapBudget"), (0, .methodref 7 10), (0, .nameAndType 5 11), (0, u "(J)V"), (0, .methodref 13 14), (0, .class_ 15), (0, .nameAndType 16 17), (0, u "java/lang/Math"), (0, u "min"), (0, u "(JJ)J"), (0, .methodref 13 19), (0, .nameAndType 20 17), (0, u "max"), (0, .methodref 7 22), (0, .nameAndType 23 24), (0, u "holds"), (0, u "(J)Z"), (2, .long 9223372036854775807), (1, .class_ 30), (0, u "com/example/kirchberg/kirchberg/server/HeapBudgetHoldsPinLaw"), (2, u "law"), (0, u "(JJJ)Z")] 3

def k1m0 : Method := { name := "<init>", desc := "()V", sig := { parameters := [], returnType := none }, accessFlags := 1, code := none }
def k1c1 : Code := { maxStack := 5, maxLocals := 16, code := code, exceptionTable := #[], attributes := #[] }
def k1m1 : Method := { name := "law", desc := "(JJJ)Z", sig := { parameters := [.long, .long, .long], returnType := some .boolean }, accessFlags := 9, code := some k1c1 }
/-- com/example/kirchberg/kirchberg/server/HeapBudgetHoldsPinLaw -/
def k1 : Class := { plain "com/example/kirchberg/kirchberg/server/HeapBudgetHoldsPinLaw" (some 0) with
  accessFlags := 49
  interfaces := #[]
  cf := some (fileOf pool1 29 #[] #[{ accessFlags := 1, nameIndex := 5, descriptorIndex := 6, attributes := #[] }, { accessFlags := 9, nameIndex := 33, descriptorIndex := 34, attributes := #[] }] 49 2 #[] #[])
  fields := #[]
  methods := #[k1m0, k1m1]
  instanceTypes := #[]
  staticTypes := #[]
  resolved := Array.replicate 38 none
  statics := none }

def pool2 : Array CpInfo := pool [(1, .methodref 2 3), (0, .class_ 4), (0, .nameAndType 5 6), (0, u "java/lang/Object"), (0, u "<init>"), (0, u "()V"), (0, .class_ 8), (0, u "java/util/concurrent/atomic/AtomicLong"), (0, .methodref 7 3), (0, .fieldref 11 12), (0, .class_ 13), (0, .nameAndType 14 15), (0, u "com/example/kirchberg/kirchberg/server/HeapBudget"), (0, u "taken"), (0, u "Ljava/util/concurrent/atomic/AtomicLong;"), (0, .fieldref 11 17), (0, .nameAndType 18 19), (0, u "heapBytes"), (0, u "J"), (6, u "(J)V"), (18, .class_ 46), (0, u "com/example/kirchberg/kirchberg/server/HeapBudget$Room"), (11, u "HEAP_PER_BODY_BYTE"), (0, u "I"), (2, u "HEAP_PER_DATA_BODY_BYTE"), (1, u "HEAP_PER_STORED_BYTE"), (1, u "HEAP_PER_ANSWERED_BYTE"), (1, u "QUARTERS_FOR_REQUESTS"), (10, u "holds"), (0, u "(J)Z")] 11

def k2c0 : Code := { maxStack := 3, maxLocals := 3, code := prog_144_method_1_code, exceptionTable := #[], attributes := #[] }
def k2m0 : Method := { name := "<init>", desc := "(J)V", sig := { parameters := [.long], returnType := none }, accessFlags := 0, code := some k2c0 }
def k2c1 : Code := { maxStack := 4, maxLocals := 3, code := prog_144_method_7_code, exceptionTable := #[], attributes := #[] }
def k2m1 : Method := { name := "holds", desc := "(J)Z", sig := { parameters := [.long], returnType := some .boolean }, accessFlags := 0, code := some k2c1 }
/-- com/example/kirchberg/kirchberg/server/HeapBudget -/
def k2 : Class := { plain "com/example/kirchberg/kirchberg/server/HeapBudget" (some 0) with
  accessFlags := 32
  interfaces := #[]
  cf := some (fileOf pool2 11 #[.nestMembers #[45]] #[{ accessFlags := 0, nameIndex := 5, descriptorIndex := 26, attributes := #[] }, { accessFlags := 0, nameIndex := 79, descriptorIndex := 80, attributes := #[] }] 32 2 #[] #[{ accessFlags := 26, nameIndex := 58, descriptorIndex := 59, attributes := #[] }, { accessFlags := 26, nameIndex := 62, descriptorIndex := 59, attributes := #[] }, { accessFlags := 26, nameIndex := 64, descriptorIndex := 59, attributes := #[] }, { accessFlags := 26, nameIndex := 66, descriptorIndex := 59, attributes := #[] }, { accessFlags := 26, nameIndex := 68, descriptorIndex := 59, attributes := #[] }, { accessFlags := 18, nameIndex := 18, descriptorIndex := 19, attributes := #[] }, { accessFlags := 18, nameIndex := 14, descriptorIndex := 15, attributes := #[] }])
  fields := #[{ name := "HEAP_PER_BODY_BYTE", type := .int, accessFlags := 26, slot := 0, constantValue := 0 }, { name := "HEAP_PER_DATA_BODY_BYTE", type := .int, accessFlags := 26, slot := 1, constantValue := 0 }, { name := "HEAP_PER_STORED_BYTE", type := .int, accessFlags := 26, slot := 2, constantValue := 0 }, { name := "HEAP_PER_ANSWERED_BYTE", type := .int, accessFlags := 26, slot := 3, constantValue := 0 }, { name := "QUARTERS_FOR_REQUESTS", type := .int, accessFlags := 26, slot := 4, constantValue := 0 }, { name := "heapBytes", type := .long, accessFlags := 18, slot := 0, constantValue := 0 }, { name := "taken", type := (.object "java/util/concurrent/atomic/AtomicLong"), accessFlags := 18, slot := 1, constantValue := 0 }]
  methods := #[k2m0, k2m1]
  instanceTypes := #[.long, (.object "java/util/concurrent/atomic/AtomicLong")]
  staticTypes := #[.int, .int, .int, .int, .int]
  resolved := Array.replicate 92 none
  statics := none }

def pool3 : Array CpInfo := pool [(1, .class_ 2), (0, u "java/io/Serializable"), (0, .class_ 4), (0, u "java/lang/Object")] 2

/-- java/io/Serializable -/
def k3 : Class := { plain "java/io/Serializable" (some 0) with
  accessFlags := 1537
  interfaces := #[]
  cf := some (fileOf pool3 1 #[] #[] 1537 3 #[] #[])
  fields := #[]
  methods := #[]
  instanceTypes := #[]
  staticTypes := #[]
  resolved := Array.replicate 7 none
  statics := none }

def pool4 : Array CpInfo := pool [(1, .methodref 2 3), (0, .class_ 4), (0, .nameAndType 5 6), (0, u "java/lang/Object"), (0, u "<init>"), (0, u "()V"), (1, .class_ 10), (1, u "java/lang/Number"), (2, .class_ 14), (0, u "java/io/Serializable"), (0, u "serialVersionUID"), (0, u "J")] 20

def k4c0 : Code := { maxStack := 1, maxLocals := 1, code := jdk_18_method_1_code, exceptionTable := #[], attributes := #[] }
def k4m0 : Method := { name := "<init>", desc := "()V", sig := { parameters := [], returnType := none }, accessFlags := 1, code := some k4c0 }
/-- java/lang/Number -/
def k4 : Class := { plain "java/lang/Number" (some 0) with
  accessFlags := 1057
  interfaces := #[3]
  cf := some (fileOf pool4 8 #[] #[{ accessFlags := 1, nameIndex := 5, descriptorIndex := 6, attributes := #[] }] 1057 2 #[13] #[{ accessFlags := 26, nameIndex := 15, descriptorIndex := 16, attributes := #[] }])
  fields := #[{ name := "serialVersionUID", type := .long, accessFlags := 26, slot := 0, constantValue := 0 }]
  methods := #[k4m0]
  instanceTypes := #[]
  staticTypes := #[.long]
  resolved := Array.replicate 37 none
  statics := none }

def pool5 : Array CpInfo := pool [(1, .methodref 2 3), (0, .class_ 4), (0, .nameAndType 5 6), (0, u "java/lang/Number"), (0, u "<init>"), (0, u "()V"), (1, .class_ 10), (1, u "java/util/concurrent/atomic/AtomicLong"), (0, u "value"), (0, u "J"), (2, u "U"), (0, u "Ljdk/internal/misc/Unsafe;"), (2, u "VALUE"), (91, u "VM_SUPPORTS_LONG_CAS"), (0, u "Z"), (9, .class_ 123), (0, u "java/io/Serializable"), (0, u "serialVersionUID")] 67

def k5c0 : Code := { maxStack := 1, maxLocals := 1, code := jdk_2805_method_3_code, exceptionTable := #[], attributes := #[] }
def k5m0 : Method := { name := "<init>", desc := "()V", sig := { parameters := [], returnType := none }, accessFlags := 1, code := some k5c0 }
/-- java/util/concurrent/atomic/AtomicLong -/
def k5 : Class := { plain "java/util/concurrent/atomic/AtomicLong" (some 4) with
  accessFlags := 33
  interfaces := #[3]
  cf := some (fileOf pool5 8 #[] #[{ accessFlags := 1, nameIndex := 5, descriptorIndex := 6, attributes := #[] }] 33 2 #[122] #[{ accessFlags := 26, nameIndex := 124, descriptorIndex := 12, attributes := #[] }, { accessFlags := 24, nameIndex := 111, descriptorIndex := 112, attributes := #[] }, { accessFlags := 26, nameIndex := 15, descriptorIndex := 16, attributes := #[] }, { accessFlags := 26, nameIndex := 19, descriptorIndex := 12, attributes := #[] }, { accessFlags := 66, nameIndex := 11, descriptorIndex := 12, attributes := #[] }])
  fields := #[{ name := "serialVersionUID", type := .long, accessFlags := 26, slot := 0, constantValue := 0 }, { name := "VM_SUPPORTS_LONG_CAS", type := .boolean, accessFlags := 24, slot := 1, constantValue := 0 }, { name := "U", type := (.object "jdk/internal/misc/Unsafe"), accessFlags := 26, slot := 2, constantValue := 0 }, { name := "VALUE", type := .long, accessFlags := 26, slot := 3, constantValue := 0 }, { name := "value", type := .long, accessFlags := 66, slot := 0, constantValue := 0 }]
  methods := #[k5m0]
  instanceTypes := #[.long]
  staticTypes := #[.long, .boolean, (.object "jdk/internal/misc/Unsafe"), .long]
  resolved := Array.replicate 192 none
  statics := none }

def pool6 : Array CpInfo := pool [(1, .class_ 2), (0, u "java/lang/Math"), (1, .class_ 6), (1, u "java/lang/Object"), (0, u "<init>"), (0, u "()V"), (89, .class_ 100), (1, u "java/lang/Math$RandomNumberGeneratorHolder"), (20, u "(JJ)J"), (50, u "negativeZeroFloatBits"), (0, u "J"), (2, u "negativeZeroDoubleBits"), (21, u "max"), (2, u "min"), (43, u "$assertionsDisabled"), (0, u "Z"), (91, u "twoToTheDoubleScaleDown"), (0, u "D"), (4, u "twoToTheDoubleScaleUp"), (9, u "E"), (3, u "PI"), (2, u "TAU"), (2, u "DEGREES_TO_RADIANS"), (0, u "RADIANS_TO_DEGREES")] 94

def k6m0 : Method := { name := "<init>", desc := "()V", sig := { parameters := [], returnType := none }, accessFlags := 2, code := none }
def k6c1 : Code := { maxStack := 4, maxLocals := 4, code := jdk_29_method_66_code, exceptionTable := #[], attributes := #[] }
def k6m1 : Method := { name := "max", desc := "(JJ)J", sig := { parameters := [.long, .long], returnType := some .long }, accessFlags := 9, code := some k6c1 }
def k6c2 : Code := { maxStack := 4, maxLocals := 4, code := jdk_29_method_70_code, exceptionTable := #[], attributes := #[] }
def k6m2 : Method := { name := "min", desc := "(JJ)J", sig := { parameters := [.long, .long], returnType := some .long }, accessFlags := 9, code := some k6c2 }
/-- java/lang/Math -/
def k6 : Class := { plain "java/lang/Math" (some 0) with
  accessFlags := 49
  interfaces := #[]
  cf := some (fileOf pool6 1 #[.nestMembers #[98]] #[{ accessFlags := 2, nameIndex := 7, descriptorIndex := 8, attributes := #[] }, { accessFlags := 9, nameIndex := 198, descriptorIndex := 121, attributes := #[] }, { accessFlags := 9, nameIndex := 201, descriptorIndex := 121, attributes := #[] }] 49 4 #[] #[{ accessFlags := 25, nameIndex := 354, descriptorIndex := 339, attributes := #[] }, { accessFlags := 25, nameIndex := 358, descriptorIndex := 339, attributes := #[] }, { accessFlags := 25, nameIndex := 361, descriptorIndex := 339, attributes := #[] }, { accessFlags := 26, nameIndex := 364, descriptorIndex := 339, attributes := #[] }, { accessFlags := 26, nameIndex := 365, descriptorIndex := 339, attributes := #[] }, { accessFlags := 26, nameIndex := 172, descriptorIndex := 173, attributes := #[] }, { accessFlags := 26, nameIndex := 176, descriptorIndex := 173, attributes := #[] }, { accessFlags := 8, nameIndex := 344, descriptorIndex := 339, attributes := #[] }, { accessFlags := 8, nameIndex := 338, descriptorIndex := 339, attributes := #[] }, { accessFlags := 4120, nameIndex := 245, descriptorIndex := 246, attributes := #[] }])
  fields := #[{ name := "E", type := .double, accessFlags := 25, slot := 0, constantValue := 0 }, { name := "PI", type := .double, accessFlags := 25, slot := 1, constantValue := 0 }, { name := "TAU", type := .double, accessFlags := 25, slot := 2, constantValue := 0 }, { name := "DEGREES_TO_RADIANS", type := .double, accessFlags := 26, slot := 3, constantValue := 0 }, { name := "RADIANS_TO_DEGREES", type := .double, accessFlags := 26, slot := 4, constantValue := 0 }, { name := "negativeZeroFloatBits", type := .long, accessFlags := 26, slot := 5, constantValue := 0 }, { name := "negativeZeroDoubleBits", type := .long, accessFlags := 26, slot := 6, constantValue := 0 }, { name := "twoToTheDoubleScaleUp", type := .double, accessFlags := 8, slot := 7, constantValue := 0 }, { name := "twoToTheDoubleScaleDown", type := .double, accessFlags := 8, slot := 8, constantValue := 0 }, { name := "$assertionsDisabled", type := .boolean, accessFlags := 4120, slot := 9, constantValue := 0 }]
  methods := #[k6m0, k6m1, k6m2]
  instanceTypes := #[]
  staticTypes := #[.double, .double, .double, .double, .double, .long, .long, .double, .double, .boolean]
  resolved := Array.replicate 460 none
  statics := none }

def pool7 : Array CpInfo := pool [(1, u "java/lang/Cloneable"), (0, .class_ 1), (0, u "java/lang/Object"), (0, .class_ 3)] 3

/-- java/lang/Cloneable -/
def k7 : Class := { plain "java/lang/Cloneable" (some 0) with
  accessFlags := 1537
  interfaces := #[]
  cf := some (fileOf pool7 2 #[] #[] 1537 4 #[] #[])
  fields := #[]
  methods := #[]
  instanceTypes := #[]
  staticTypes := #[]
  resolved := Array.replicate 8 none
  statics := none }

/-- the primitive byte -/
def k8 : Class := { plain "byte" none with kind := .primitive 'B', accessFlags := 0x411 }
/-- [B -/
def k9 : Class := { plain "[B" (some 0) with kind := .array 8 .byte, interfaces := #[7, 3], accessFlags := 1041 }

/-- the primitive int -/
def k10 : Class := { plain "int" none with kind := .primitive 'I', accessFlags := 0x411 }
/-- [I -/
def k11 : Class := { plain "[I" (some 0) with kind := .array 10 .int, interfaces := #[7, 3], accessFlags := 1041 }

def heap : Heap := #[]
def classes : Array Class := #[k0, k1, k2, k3, k4, k5, k6, k7, k8, k9, k10, k11]
def interned : List (Array UInt16 × Addr) := []
def slotsUsed : Nat := 0
def theMethod : MethodId := ⟨1, 1⟩
def args0 : Array Value := #[.long 7, .long 8, .long 9]
def aboutOver (below : List Frame) : State where
  vm := { classes := classes, interned := interned.toArray }
  heap := heap
  slotsUsed := slotsUsed
  threads := #[{ frames := .invoking theMethod args0 :: below }]
def below0 : List Frame := [.native { method := ⟨0, 0⟩, args := #[] }]
def about1 : State := aboutOver below0
def p0 : Program := .bare "" "" ""
def e0 : Env := launch0.env 0 0 0
theorem w_frames : about1.frames = Frame.invoking theMethod args0 :: below0 := rfl
set_option maxRecDepth 65536 in
theorem w_args : argsFit about1.vm theMethod args0 = true := by decide +kernel
set_option maxRecDepth 65536 in
theorem w_heap : heapFits about1 = true := by decide +kernel
set_option maxRecDepth 65536 in
theorem w_runnable : about1.curStatus? = some .runnable := by decide +kernel
set_option maxRecDepth 65536 in
theorem w_alone : about1.alone = true := by decide +kernel
set_option maxRecDepth 65536 in
theorem w_named : about1.methodNamed? x = some theMethod := by decide +kernel
set_option maxRecDepth 65536 in
theorem w_hears : about1.hears theMethod below0 = true := by decide +kernel
set_option maxRecDepth 65536 in
theorem w_ripe : about1.ripe theMethod args0 below0 = true := by decide +kernel
theorem w_running : about1.status = .running := rfl
set_option maxRecDepth 65536 in
theorem w_room : about1.hasRoom e0.platform room_1 = true :=
  launch0.hasRoom_least _ room_1 (by decide +kernel) (by decide +kernel) (by decide +kernel) (by decide +kernel) (by decide +kernel) (by decide +kernel)
theorem allAtoms_all (ts : List Jvm.Cond) (a : Array Jvm.Value) (st : Jvm.State) : (allAtoms ts).before a st = ts.all (fun c => c.before a st) := by
  induction ts with
  | nil => rfl
  | cons c t ih =>
    show (Jvm.Cond.and c (allAtoms t)).before a st = _
    rw [Jvm.Cond.before_and, ih, List.all_cons]
def words1 : List Jvm.Cond := Jvm.Cond.code x code maxLocals ret :: tables_1
/-- a 'code' word, met by the world's own term for the bytes: nothing is compared byte by byte -/
theorem code_word {y : MethodName} {bytes : ByteArray} {mx : Nat} {rt : Option FieldType} {a : Array Value} {s : State} {m : MethodId} {meth : Method} {c : Code} (h1 : s.methodNamed? y = some m) (h2 : s.vm.method? m = some meth) (h3 : meth.code = some c) (h4 : c.code = bytes)
    (h5 : (c.maxLocals == mx && c.exceptionTable.isEmpty && decide (c.maxStack ≤ mostOperands) && decide (meth.sig.returnType = rt) && !meth.locks && decide (parseMethodDescriptor y.desc = some meth.sig)) = true) : (Jvm.Cond.code y bytes mx rt).before a s = true := by
  simp only [Bool.and_eq_true, beq_iff_eq, Bool.not_eq_true', decide_eq_true_eq] at h5
  obtain ⟨⟨⟨⟨⟨g1, g2⟩, g3⟩, g4⟩, g5⟩, g6⟩ := h5
  simp [Cond.before, Cond.holds, Cond.value, h1, h2, h3, h4, g1, g2, g3, g4, g5, g6]
def isCode : Jvm.Cond → Bool
  | .code _ _ _ _ => true
  | _ => false
theorem all_split {L : List Jvm.Cond} {P : Jvm.Cond → Bool} (h1 : L.all (fun c => isCode c || P c) = true) (h2 : ∀ c ∈ L.filter isCode, P c = true) : L.all P = true := by
  refine List.all_eq_true.mpr fun c hc => ?_
  have h := List.all_eq_true.mp h1 c hc
  rcases Bool.eq_false_or_eq_true (isCode c) with hi | hi
  · exact h2 c (List.mem_filter.mpr ⟨hc, hi⟩)
  · simpa [hi] using h
set_option maxRecDepth 65536 in
theorem w_c0 : (Jvm.Cond.code x code maxLocals ret).before args0 about1 = true := code_word (m := ⟨1, 1⟩) (meth := k1m1) (c := k1c1) (by decide +kernel) rfl rfl rfl (by decide +kernel)
set_option maxRecDepth 65536 in
theorem w_c1 : (Jvm.Cond.code ({ cls := "com/example/kirchberg/kirchberg/server/HeapBudget", name := "<init>", desc := "(J)V" } : Jvm.MethodName) prog_144_method_1_code (3 : Nat) (Option.none : Option Jvm.ClassFile.FieldType)).before args0 about1 = true := code_word (m := ⟨2, 0⟩) (meth := k2m0) (c := k2c0) (by decide +kernel) rfl rfl rfl (by decide +kernel)
set_option maxRecDepth 65536 in
theorem w_c2 : (Jvm.Cond.code ({ cls := "java/lang/Object", name := "<init>", desc := "()V" } : Jvm.MethodName) object_method_1_code (1 : Nat) (Option.none : Option Jvm.ClassFile.FieldType)).before args0 about1 = true := code_word (m := ⟨0, 0⟩) (meth := k0m0) (c := k0c0) (by decide +kernel) rfl rfl rfl (by decide +kernel)
set_option maxRecDepth 65536 in
theorem w_c3 : (Jvm.Cond.code ({ cls := "java/util/concurrent/atomic/AtomicLong", name := "<init>", desc := "()V" } : Jvm.MethodName) jdk_2805_method_3_code (1 : Nat) (Option.none : Option Jvm.ClassFile.FieldType)).before args0 about1 = true := code_word (m := ⟨5, 0⟩) (meth := k5m0) (c := k5c0) (by decide +kernel) rfl rfl rfl (by decide +kernel)
set_option maxRecDepth 65536 in
theorem w_c4 : (Jvm.Cond.code ({ cls := "java/lang/Number", name := "<init>", desc := "()V" } : Jvm.MethodName) jdk_18_method_1_code (1 : Nat) (Option.none : Option Jvm.ClassFile.FieldType)).before args0 about1 = true := code_word (m := ⟨4, 0⟩) (meth := k4m0) (c := k4c0) (by decide +kernel) rfl rfl rfl (by decide +kernel)
set_option maxRecDepth 65536 in
theorem w_c5 : (Jvm.Cond.code ({ cls := "java/lang/Math", name := "min", desc := "(JJ)J" } : Jvm.MethodName) jdk_29_method_70_code (4 : Nat) (Option.some Jvm.ClassFile.FieldType.long)).before args0 about1 = true := code_word (m := ⟨6, 2⟩) (meth := k6m2) (c := k6c2) (by decide +kernel) rfl rfl rfl (by decide +kernel)
set_option maxRecDepth 65536 in
theorem w_c6 : (Jvm.Cond.code ({ cls := "java/lang/Math", name := "max", desc := "(JJ)J" } : Jvm.MethodName) jdk_29_method_66_code (4 : Nat) (Option.some Jvm.ClassFile.FieldType.long)).before args0 about1 = true := code_word (m := ⟨6, 1⟩) (meth := k6m1) (c := k6c1) (by decide +kernel) rfl rfl rfl (by decide +kernel)
set_option maxRecDepth 65536 in
theorem w_c7 : (Jvm.Cond.code ({ cls := "com/example/kirchberg/kirchberg/server/HeapBudget", name := "holds", desc := "(J)Z" } : Jvm.MethodName) prog_144_method_7_code (3 : Nat) (Option.some Jvm.ClassFile.FieldType.boolean)).before args0 about1 = true := code_word (m := ⟨2, 1⟩) (meth := k2m1) (c := k2c1) (by decide +kernel) rfl rfl rfl (by decide +kernel)
def codes1 : List Jvm.Cond := [Jvm.Cond.code x code maxLocals ret, Jvm.Cond.code ({ cls := "com/example/kirchberg/kirchberg/server/HeapBudget", name := "<init>", desc := "(J)V" } : Jvm.MethodName) prog_144_method_1_code (3 : Nat) (Option.none : Option Jvm.ClassFile.FieldType), Jvm.Cond.code ({ cls := "java/lang/Object", name := "<init>", desc := "()V" } : Jvm.MethodName) object_method_1_code (1 : Nat) (Option.none : Option Jvm.ClassFile.FieldType), Jvm.Cond.code ({ cls := "java/util/concurrent/atomic/AtomicLong", name := "<init>", desc := "()V" } : Jvm.MethodName) jdk_2805_method_3_code (1 : Nat) (Option.none : Option Jvm.ClassFile.FieldType), Jvm.Cond.code ({ cls := "java/lang/Number", name := "<init>", desc := "()V" } : Jvm.MethodName) jdk_18_method_1_code (1 : Nat) (Option.none : Option Jvm.ClassFile.FieldType), Jvm.Cond.code ({ cls := "java/lang/Math", name := "min", desc := "(JJ)J" } : Jvm.MethodName) jdk_29_method_70_code (4 : Nat) (Option.some Jvm.ClassFile.FieldType.long), Jvm.Cond.code ({ cls := "java/lang/Math", name := "max", desc := "(JJ)J" } : Jvm.MethodName) jdk_29_method_66_code (4 : Nat) (Option.some Jvm.ClassFile.FieldType.long), Jvm.Cond.code ({ cls := "com/example/kirchberg/kirchberg/server/HeapBudget", name := "holds", desc := "(J)Z" } : Jvm.MethodName) prog_144_method_7_code (3 : Nat) (Option.some Jvm.ClassFile.FieldType.boolean)]
set_option maxRecDepth 65536 in
theorem codes_eq : words1.filter isCode = codes1 := rfl
theorem w_codes : ∀ c ∈ words1.filter isCode, c.before args0 about1 = true := by
  rw [codes_eq]
  intro c hc
  simp only [codes1, List.mem_cons, List.not_mem_nil, or_false] at hc
  rcases hc with rfl | rfl | rfl | rfl | rfl | rfl | rfl | rfl
  · exact w_c0
  · exact w_c1
  · exact w_c2
  · exact w_c3
  · exact w_c4
  · exact w_c5
  · exact w_c6
  · exact w_c7
set_option maxRecDepth 65536 in
theorem w_t1 : (words1.take 24).all (fun c => isCode c || c.before args0 about1) = true := by decide +kernel
set_option maxRecDepth 65536 in
theorem w_t2 : (words1.drop 24).all (fun c => isCode c || c.before args0 about1) = true := by decide +kernel
theorem w_tables : (allAtoms (Jvm.Cond.code x code maxLocals ret :: tables_1)).before args0 about1 = true := by
  rw [allAtoms_all]
  show words1.all (fun c => c.before args0 about1) = true
  refine all_split ?_ w_codes
  rw [← List.take_append_drop 24 words1, List.all_append, w_t1, w_t2]
  rfl
set_option maxRecDepth 65536 in
theorem w_case : (Jvm.Cond.and given_1 narrow_1).before args0 about1 = true := by decide +kernel
theorem w_applies : (headSpec (Jvm.Cond.code x code maxLocals ret :: tables_1) room_1).applies x e0.platform about1 = true :=
  (Spec.applies_iff w_frames).mpr ⟨w_running, w_runnable, w_alone, w_named, w_hears, w_ripe, w_room, w_tables⟩
theorem atStart : AtStart classFile x code maxLocals ret World_1 tables_1 room_1 Calls_1 rest_1 Pre_1 launch0 p0 e0 about1 theMethod args0 below0 :=
  ⟨lists_1, trivial, launch0.admits_env _ _ _, launch0.least_env, fairChoices_fair.cas, fairChoices_fair.clock, w_frames, w_args, w_heap, w_applies, trivial, trivial, w_case⟩
end start1
theorem witness_1 : WitnessClaimed_1 := ⟨start1.p0, start1.e0, start1.about1, start1.theMethod, start1.args0, start1.below0, start1.atStart⟩
end Jvm.Pilot.@@N@@

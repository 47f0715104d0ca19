import JvmDerived
import JvmDerived.Pilot.@@N@@Statement
import JvmDerived.Pilot.@@N@@Code
set_option linter.unusedVariables false
set_option linter.unusedSimpArgs false
namespace Jvm.RoadKit
open Sem ClassFile Op Lib Jvm.Stand Jvm.Free Jvm.LawKit
section New
variable {p : Program} {l : Launch} {e : Env} {R : Room} {s : State} {m : MethodId} {args : Array Value} {below : List Frame} {meth : Method} {c : Code} {T : State} {locs : List Loc} {cells slots : Nat}
theorem retI (X : Stand p l e R s m args below meth c T locs cells slots) (hx : p.tables.exec = Jvm.exec) {pc : Nat} {Ls : Array Slot} {z : Int32} {rest : List Value} (hret : meth.sig.returnType = some .int) (hd : decode c.code pc = .ok (.ireturn, 1)) {fs : List Frame}
    (hl : ∀ (f : JFrame) (acts : List Action), f.method = m → f.locked = none → f.entered = [] → (doReturn e (T.setTop f) acts (some (.int z))).1 = T.setFrames fs) : Steps p.tables e below (T.setTop (mkF m pc Ls (.int z :: rest))) (T.setFrames fs) := by
  have hm' : T.vm.method? m = some meth := X.method'
  have hn : narrow .int (.int z) = .int z := rfl
  show Steps p.tables e below (T.setTop { method := m, pc := pc, locals := Ls, stack := _ :: rest, locked := none }) _
  jvm_step X.here [X.here.top, hx, hd, hm', hret, hn]
  first | (intro acts; rw [hl _ acts rfl rfl rfl]) | rw [hl _ _ rfl rfl rfl]
  exact Steps.refl _
theorem own_retJ (X : Stand p l e R s m args below meth c T locs cells slots) (hx : p.tables.exec = Jvm.exec) {pc : Nat} {Ls : Array Slot} {z : Int64} {rest : List Value} (hret : meth.sig.returnType = some .long) (hd : decode c.code pc = .ok (.lreturn, 1)) {fs : List Frame}
    (hl : ∀ (f : JFrame) (acts : List Action), f.method = m → f.locked = none → f.entered = [] → (doReturn e (T.setTop f) acts (some (.long z))).1 = T.setFrames fs) : Steps p.tables e below (T.setTop (mkF m pc Ls (.long z :: rest))) (T.setFrames fs) :=
  retOut X hx (t := .long) (i := .lreturn) hret rfl (Or.inr (Or.inl ⟨rfl, rfl, z, rfl⟩)) hd hl
theorem own_retR (X : Stand p l e R s m args below meth c T locs cells slots) (hx : p.tables.exec = Jvm.exec) {pc : Nat} {Ls : Array Slot} {w : Value} {t : FieldType} {rest : List Value} (hret : meth.sig.returnType = some t) (ht : t.isReference = true) (hw : w.isRef = true) (hd : decode c.code pc = .ok (.areturn, 1)) {fs : List Frame}
    (hl : ∀ (f : JFrame) (acts : List Action), f.method = m → f.locked = none → f.entered = [] → (doReturn e (T.setTop f) acts (some w)).1 = T.setFrames fs) : Steps p.tables e below (T.setTop (mkF m pc Ls (w :: rest))) (T.setFrames fs) :=
  retOut X hx (i := .areturn) hret (by cases t <;> simp_all [FieldType.isReference, narrow]) (Or.inr (Or.inr (Or.inr (Or.inr ⟨rfl, ht, hw⟩)))) hd hl
theorem own_narZ (x : Int32) : nar .boolean x = x &&& 1 := rfl
theorem own_narC (x : Int32) : nar .char x = x.toUInt32.toUInt16.toUInt32.toInt32 := rfl
theorem own_narB (x : Int32) : nar .byte x = x.toInt8.toInt32 := rfl
/-- where the run stands, and how it ends -/
abbrev own_Go (tb : Tables) (e : Env) (below : List Frame) (P : State → Outcome → Prop) (T : State) (g : JFrame) : Prop := ∃ s₂ o, Steps tb e below (T.setTop g) s₂ ∧ s₂.status = .running ∧ Ended s₂ below o ∧ P s₂ o
theorem own_go {tb : Tables} {P : State → Outcome → Prop} {T' : State} {g g' : JFrame} (st : ∀ t, Steps tb e below (T'.setTop g') t → Steps tb e below (T.setTop g) t) (k : own_Go tb e below P T' g') : own_Go tb e below P T g := by
  obtain ⟨s₂, o, h1, h2⟩ := k
  exact ⟨s₂, o, st _ h1, h2⟩
theorem own_start {tb : Tables} {P : State → Outcome → Prop} {g g' : JFrame} (q : g = g') (k : own_Go tb e below P T g') : own_Go tb e below P T g := q ▸ k
theorem own_selPriv {z y : MethodName} (hz : z.cls = y.cls) (hs : (Cond.selects y.cls z z).before args s = true) (hp : s.PrivateAt y) (hi : (Cond.instanceMethod y).before args s = true) (hy : y.cls ≠ "java/lang/invoke/MethodHandle" ∧ y.cls ≠ "java/lang/invoke/VarHandle") : (Cond.selects y.cls y y).before args s = true := by
  obtain ⟨c, r, m, h1, -, h3, -, k, h5, h6⟩ := Cond.selects_spec hs
  exact selects_self_of_private (hz ▸ findClass_of_methodNamed h3) h5 h6 hp hi hy
end New
end Jvm.RoadKit
namespace Jvm.Pilot.@@N@@
open Jvm Jvm.ClassFile Sem Op Lib Jvm.Free Jvm.Stand Jvm.LawKit Jvm.RoadKit Bundle Jvm.Pilot.@@N@@.Jvm.D
def own_ls (w : Nat → Int64) : List Value := (List.range 2048).map (fun i => Value.long (w i))
def own_up (w : Nat → Int64) (i : Nat) (x : Int64) : Nat → Int64 := fun k => if k = i then x else w k
theorem own_ls_len (w : Nat → Int64) : (own_ls w).length = 2048 := by simp only [own_ls, List.length_map, List.length_range]
theorem own_ls_get (w : Nat → Int64) (i : Nat) (h : i < 2048) : (own_ls w)[i]? = some (Value.long (w i)) := by
  simp only [own_ls, List.getElem?_map, List.getElem?_range h, Option.map_some]
theorem own_ls_pad : ∀ i, (own_ls (fun _ => 0)).getD i (Value.long (0 : Int64)) = ([] : List Value).getD i (Value.long (0 : Int64)) := by
  intro i
  rw [List.getD_eq_getElem?_getD]
  by_cases h : i < 2048
  · rw [own_ls_get _ _ h]; rfl
  · rw [List.getElem?_eq_none (by rw [own_ls_len]; omega)]; rfl
theorem own_ls_nat {j : Int32} (h0 : ¬ (j < (0 : Int32))) (h1 : j < (2048 : Int32)) : j.toNatClampNeg < 2048 := by
  rw [Int32.lt_iff_toInt_lt] at h0 h1
  have k0 : (0 : Int32).toInt = 0 := rfl
  have k1 : (2048 : Int32).toInt = 2048 := rfl
  show j.toInt.toNat < 2048
  omega
theorem own_ls_at (w : Nat → Int64) {j : Int32} (h0 : ¬ (j < (0 : Int32))) (h1 : j < (2048 : Int32)) (dv : Value) : (own_ls w).getD j.toNatClampNeg dv = Value.long (w j.toNatClampNeg) := by
  rw [List.getD_eq_getElem?_getD, own_ls_get _ _ (own_ls_nat h0 h1)]; rfl
theorem own_ls_upd (w : Nat → Int64) (i : Nat) (x : Int64) : (own_ls w).set i (Value.long x) = own_ls (own_up w i x) := by
  apply List.ext_getElem?
  intro k
  by_cases h : k < 2048
  · rw [own_ls_get _ _ h, List.getElem?_set, own_ls_len]
    by_cases e : i = k
    · rw [if_pos e, if_pos (e ▸ h)]; simp only [own_up, if_pos e.symm]
    · rw [if_neg e, own_ls_get _ _ h]; simp only [own_up, if_neg (fun q : k = i => e q.symm)]
  · rw [List.getElem?_eq_none (by rw [List.length_set, own_ls_len]; omega), List.getElem?_eq_none (by rw [own_ls_len]; omega)]
theorem own_ls_set {Z : State} {h h' : Heap} {a : Addr} {k : ClassId} {c : Cell} {w : Nat → Int64} {x : Int64} {j : Int32} {dv : Value} (A : Arr Z h a c .long) (q1 : c.cls = k) (S : c.slots.size = (2048 : Int32).toNatClampNeg) (q3 : ¬ (2048 : Int32) < 0) (H : Has c (own_ls w) dv) (G : ∀ i, i < c.slots.size → fits .long ((own_ls w).getD i dv) = true) (W : Wr h h' a j.toNatClampNeg (.long x)) (h0 : ¬ (j < (0 : Int32))) (h1 : j < (2048 : Int32)) : Arv Z h' a k .long (2048 : Int32) (own_ls (own_up w j.toNatClampNeg x)) dv := by
  have q := Arv.set A q1 S q3 H G rfl W j.toNatClampNeg rfl (by rw [own_ls_len]; exact own_ls_nat h0 h1)
  rw [own_ls_upd] at q
  exact q
theorem d7_0 : decode prog_3_method_8_code 0 = .ok (.ldc2_w 140, 3) := by decide +kernel
theorem d7_3 : decode prog_3_method_8_code 3 = .ok (.iload_n 0, 1) := by decide +kernel
theorem d7_4 : decode prog_3_method_8_code 4 = .ok (.bipush 64, 2) := by decide +kernel
theorem d7_6 : decode prog_3_method_8_code 6 = .ok (.irem, 1) := by decide +kernel
theorem d7_7 : decode prog_3_method_8_code 7 = .ok (.lushr, 1) := by decide +kernel
theorem d7_8 : decode prog_3_method_8_code 8 = .ok (.lreturn, 1) := by decide +kernel
theorem pn_0 : plainName "com/example/capd/capd/status/Bitstring" = true := by first | (simp [plainName, overriddenIn]; done) | decide +kernel
theorem ef_7 (m : MethodId) (p1 : Int32) : entryFrame m #[(.int p1)] 1 = mkF m 0 #[.val (.int p1)] [] := by first | (simp [entryFrame, mkF, argsToLocals, Value.category]; done) | rfl
def r_7 (p1 : Int32) : Int64 := (((-9223372036854775808 : Int64).toUInt64 >>> ((p1 % (64 : Int32)) &&& 0x3f).toInt64.toUInt64).toInt64)
def Q7 (Z : State) (p1 : Int32) (h0 : Heap) (n0 : Nat) (v : Option Value) (h : Heap) (L : List Loc) : Prop := v = some (.long (r_7 p1)) ∧ Fr n0 L ∧ h = h0
set_option maxRecDepth 65536 in
set_option maxHeartbeats 40000000 in
theorem rm7 (l : Launch) (Z : State) (a0 : Array Value) (hw : ∀ d ∈ tables_1, d.before a0 Z = true) (ws : List Jvm.Cond) (p1 : Int32) (h0 : Heap) (n0 : Nat) (Z0 : n0 ≤ h0.size) :
    MetFree l (⟨"com/example/capd/capd/status/Bitstring", "mask", "(I)J"⟩ : MethodName) (head1 (Jvm.Cond.code (⟨"com/example/capd/capd/status/Bitstring", "mask", "(I)J"⟩ : MethodName) prog_3_method_8_code 1 (some .long) :: ws) ({ frames := 0, cells := 0, slots := 0, locals := 0 } : Room)) (fun a U => a = #[(.int p1)] ∧ Z.Warmed39 U.vm ∧ U.heap = h0) (fun _ _ _ _ _ => True) (fun _ U o U' => ∃ v L, o = .returned v ∧ Q7 Z p1 h0 n0 v U'.heap L ∧ FrameEnd U o U' L ({ frames := 0, cells := 0, slots := 0, locals := 0 } : Room).cells ({ frames := 0, cells := 0, slots := 0, locals := 0 } : Room).slots) := by
  refine MetFree.of_bodySF (plainFor_of_name pn_0) hisR ?_
  intro p e s m args below meth c s₁ Bd hml0 hP hK
  obtain ⟨rfl, hZ, hh⟩ := hP
  have hx := Bd.exec
  have hby := Bd.bytes
  have hml : c.maxLocals = 1 := hml0
  have hown : s.vm.findClass "com/example/capd/capd/status/Bitstring" = some m.cls := findClass_of_methodNamed Bd.named
  have hnm := (name_of_methodNamed Bd.named Bd.method).1
  have X0 : Stand p l e ({ frames := 0, cells := 0, slots := 0, locals := 0 } : Room) s m #[(.int p1)] below meth c s₁ [] 0 0 := Stand.of_body Bd
  have e0 : s₁.heap = h0 := by rw [← hh, Bd.state]; rfl
  have NN := Fr.nil n0
  have KK : Keep h0 h0 [] := Keep.refl h0 []
  refine own_start (ef_7 m p1) ?_
  refine own_go (T' := s₁) (g' := (mkF m 8 #[.val (.int p1)] [(.long (((-9223372036854775808 : Int64).toUInt64 >>> ((p1 % (64 : Int32)) &&& 0x3f).toInt64.toUInt64).toInt64))])) (fun t k => ?_) ?_
  · show Steps p.tables e below (s₁.setTop (mkF m 0 #[.val (.int p1)] [])) _
    refine X0.ldc2Long hx hown (mvT hZ (hw _ (List.mem_of_getElem? (i := 38) rfl))) (g := (mkF m 0 #[.val (.int p1)] [])) rfl (hb hby d7_0) _ ?_
    show Steps p.tables e below (s₁.setTop (mkF m 3 #[.val (.int p1)] [(.long (-9223372036854775808 : Int64))])) _
    refine XS.iloadN X0.here hx rfl (hb hby d7_3) rfl ?_
    show Steps p.tables e below (s₁.setTop (mkF m 4 #[.val (.int p1)] [(.int p1), (.long (-9223372036854775808 : Int64))])) _
    refine XS.bipush X0.here hx rfl (hb hby d7_4) ?_
    show Steps p.tables e below (s₁.setTop (mkF m 6 #[.val (.int p1)] [(.int (64 : Int32)), (.int p1), (.long (-9223372036854775808 : Int64))])) _
    refine iremM X0 hx rfl (hb hby d7_6) rfl (by decide) ?_
    show Steps p.tables e below (s₁.setTop (mkF m 7 #[.val (.int p1)] [(.int (p1 % (64 : Int32))), (.long (-9223372036854775808 : Int64))])) _
    refine XS.lushr X0.here hx rfl (hb hby d7_7) rfl ?_
    exact k
  obtain ⟨fs, hr, hrun, hended, hW, hsame⟩ := X0.leave (v := some (.long (((-9223372036854775808 : Int64).toUInt64 >>> ((p1 % (64 : Int32)) &&& 0x3f).toInt64.toUInt64).toInt64))) (fun h => by rw [Bd.returns] at h; cases h)
  refine ⟨_, _, ?_, hrun, hended, _, _, rfl, ?_, ⟨_, rfl⟩, hW, hsame.mono (by decide) (by decide)⟩
  · exact own_retJ X0 hx Bd.returns (hb hby d7_8) hr
  · show Q7 Z p1 h0 n0 _ s₁.heap _
    rw [e0]
    exact ⟨rfl, NN, rfl⟩
theorem d6_0 : decode jdk_41_method_11_code 0 = .ok (.iload_n 0, 1) := by decide +kernel
theorem d6_1 : decode jdk_41_method_11_code 1 = .ok (.ifCond .lt 8, 3) := by decide +kernel
theorem d6_4 : decode jdk_41_method_11_code 4 = .ok (.iload_n 0, 1) := by decide +kernel
theorem d6_5 : decode jdk_41_method_11_code 5 = .ok (.iload_n 1, 1) := by decide +kernel
theorem d6_6 : decode jdk_41_method_11_code 6 = .ok (.if_icmp .lt 10, 3) := by decide +kernel
theorem d6_16 : decode jdk_41_method_11_code 16 = .ok (.iload_n 0, 1) := by decide +kernel
theorem d6_17 : decode jdk_41_method_11_code 17 = .ok (.ireturn, 1) := by decide +kernel
theorem pn_1 : plainName "jdk/internal/util/Preconditions" = true := by first | (simp [plainName, overriddenIn]; done) | decide +kernel
theorem ef_6 (m : MethodId) (p1 : Int32) (p2 : Int32) : entryFrame m #[(.int p1), (.int p2), .null] 3 = mkF m 0 #[.val (.int p1), .val (.int p2), .val .null] [] := by first | (simp [entryFrame, mkF, argsToLocals, Value.category]; done) | rfl
def r_6 (p1 : Int32) (p2 : Int32) : Int32 := p1
def Q6 (Z : State) (p1 : Int32) (p2 : Int32) (h0 : Heap) (n0 : Nat) (v : Option Value) (h : Heap) (L : List Loc) : Prop := v = some (.int (r_6 p1 p2)) ∧ Fr n0 L ∧ h = h0
set_option maxRecDepth 65536 in
set_option maxHeartbeats 40000000 in
theorem rm6 (l : Launch) (Z : State) (a0 : Array Value) (hw : ∀ d ∈ tables_1, d.before a0 Z = true) (ws : List Jvm.Cond) (p1 : Int32) (p2 : Int32) (h0 : Heap) (n0 : Nat) (Z0 : n0 ≤ h0.size) (hc1 : ¬ (p1 < (0 : Int32))) (hc6 : p1 < p2) :
    MetFree l (⟨"jdk/internal/util/Preconditions", "checkIndex", "(IILjava/util/function/BiFunction;)I"⟩ : MethodName) (head1 (Jvm.Cond.code (⟨"jdk/internal/util/Preconditions", "checkIndex", "(IILjava/util/function/BiFunction;)I"⟩ : MethodName) jdk_41_method_11_code 3 (some .int) :: ws) ({ frames := 0, cells := 0, slots := 0, locals := 0 } : Room)) (fun a U => a = #[(.int p1), (.int p2), .null] ∧ Z.Warmed39 U.vm ∧ U.heap = h0) (fun _ _ _ _ _ => True) (fun _ U o U' => ∃ v L, o = .returned v ∧ Q6 Z p1 p2 h0 n0 v U'.heap L ∧ FrameEnd U o U' L ({ frames := 0, cells := 0, slots := 0, locals := 0 } : Room).cells ({ frames := 0, cells := 0, slots := 0, locals := 0 } : Room).slots) := by
  refine MetFree.of_bodySF (plainFor_of_name pn_1) hisR ?_
  intro p e s m args below meth c s₁ Bd hml0 hP hK
  obtain ⟨rfl, hZ, hh⟩ := hP
  have hx := Bd.exec
  have hby := Bd.bytes
  have hml : c.maxLocals = 3 := hml0
  have hown : s.vm.findClass "jdk/internal/util/Preconditions" = some m.cls := findClass_of_methodNamed Bd.named
  have hnm := (name_of_methodNamed Bd.named Bd.method).1
  have X0 : Stand p l e ({ frames := 0, cells := 0, slots := 0, locals := 0 } : Room) s m #[(.int p1), (.int p2), .null] below meth c s₁ [] 0 0 := Stand.of_body Bd
  have e0 : s₁.heap = h0 := by rw [← hh, Bd.state]; rfl
  have NN := Fr.nil n0
  have KK : Keep h0 h0 [] := Keep.refl h0 []
  refine own_start (ef_6 m p1 p2) ?_
  refine own_go (T' := s₁) (g' := (mkF m 1 #[.val (.int p1), .val (.int p2), .val .null] [(.int p1)])) (fun t k => ?_) ?_
  · show Steps p.tables e below (s₁.setTop (mkF m 0 #[.val (.int p1), .val (.int p2), .val .null] [])) _
    refine XS.iloadN X0.here hx rfl (hb hby d6_0) rfl ?_
    exact k
  refine own_go (T' := s₁) (g' := (mkF m 6 #[.val (.int p1), .val (.int p2), .val .null] [(.int p2), (.int p1)])) (fun t k => ?_) ?_
  · show Steps p.tables e below (s₁.setTop (mkF m 1 #[.val (.int p1), .val (.int p2), .val .null] [(.int p1)])) _
    refine XS.ifNo X0.here hx rfl (hb hby d6_1) rfl ((if0 _ _).trans (flt hc1).1) ?_
    show Steps p.tables e below (s₁.setTop (mkF m 4 #[.val (.int p1), .val (.int p2), .val .null] [])) _
    refine XS.iloadN X0.here hx rfl (hb hby d6_4) rfl ?_
    show Steps p.tables e below (s₁.setTop (mkF m 5 #[.val (.int p1), .val (.int p2), .val .null] [(.int p1)])) _
    refine XS.iloadN X0.here hx rfl (hb hby d6_5) rfl ?_
    exact k
  refine own_go (T' := s₁) (g' := (mkF m 17 #[.val (.int p1), .val (.int p2), .val .null] [(.int p1)])) (fun t k => ?_) ?_
  · show Steps p.tables e below (s₁.setTop (mkF m 6 #[.val (.int p1), .val (.int p2), .val .null] [(.int p2), (.int p1)])) _
    refine XS.icmpYes X0.here hx rfl (pc0 := 6) (pc' := 16) rfl (hb hby d6_6) rfl (tlt hc6).1 (by decide) (by decide) ?_
    show Steps p.tables e below (s₁.setTop (mkF m 16 #[.val (.int p1), .val (.int p2), .val .null] [])) _
    refine XS.iloadN X0.here hx rfl (hb hby d6_16) rfl ?_
    exact k
  obtain ⟨fs, hr, hrun, hended, hW, hsame⟩ := X0.leave (v := some (.int p1)) (fun h => by rw [Bd.returns] at h; cases h)
  refine ⟨_, _, ?_, hrun, hended, _, _, rfl, ?_, ⟨_, rfl⟩, hW, hsame.mono (by decide) (by decide)⟩
  · exact retI X0 hx Bd.returns (hb hby d6_17) hr
  · show Q6 Z p1 p2 h0 n0 _ s₁.heap _
    rw [e0]
    exact ⟨rfl, NN, rfl⟩
theorem d5_0 : decode jdk_31_method_17_code 0 = .ok (.iload_n 0, 1) := by decide +kernel
theorem d5_1 : decode jdk_31_method_17_code 1 = .ok (.iload_n 1, 1) := by decide +kernel
theorem d5_2 : decode jdk_31_method_17_code 2 = .ok (.aconst_null, 1) := by decide +kernel
theorem d5_3 : decode jdk_31_method_17_code 3 = .ok (.invokestatic 105, 3) := by decide +kernel
theorem d5_6 : decode jdk_31_method_17_code 6 = .ok (.ireturn, 1) := by decide +kernel
theorem pn_2 : plainName "java/util/Objects" = true := by first | (simp [plainName, overriddenIn]; done) | decide +kernel
theorem pd_4 : parseMethodDescriptor "(IILjava/util/function/BiFunction;)I" = some ⟨[.int, .int, (.object "java/util/function/BiFunction")], some .int⟩ := by decide +kernel
theorem ef_5 (m : MethodId) (p1 : Int32) (p2 : Int32) : entryFrame m #[(.int p1), (.int p2)] 2 = mkF m 0 #[.val (.int p1), .val (.int p2)] [] := by first | (simp [entryFrame, mkF, argsToLocals, Value.category]; done) | rfl
def r_5 (p1 : Int32) (p2 : Int32) : Int32 := (r_6 p1 p2)
def Q5 (Z : State) (p1 : Int32) (p2 : Int32) (h0 : Heap) (n0 : Nat) (v : Option Value) (h : Heap) (L : List Loc) : Prop := v = some (.int (r_5 p1 p2)) ∧ Fr n0 L ∧ h = h0
set_option maxRecDepth 65536 in
set_option maxHeartbeats 40000000 in
theorem rm5 (l : Launch) (Z : State) (a0 : Array Value) (hw : ∀ d ∈ tables_1, d.before a0 Z = true) (ws : List Jvm.Cond) (p1 : Int32) (p2 : Int32) (h0 : Heap) (n0 : Nat) (Z0 : n0 ≤ h0.size) (hhc1_3 : ¬ (p1 < (0 : Int32))) (hhc6_3 : p1 < p2) :
    MetFree l (⟨"java/util/Objects", "checkIndex", "(II)I"⟩ : MethodName) (head1 (Jvm.Cond.code (⟨"java/util/Objects", "checkIndex", "(II)I"⟩ : MethodName) jdk_31_method_17_code 2 (some .int) :: ws) ({ frames := 1, cells := 0, slots := 0, locals := 14 } : Room)) (fun a U => a = #[(.int p1), (.int p2)] ∧ Z.Warmed39 U.vm ∧ U.heap = h0) (fun _ _ _ _ _ => True) (fun _ U o U' => ∃ v L, o = .returned v ∧ Q5 Z p1 p2 h0 n0 v U'.heap L ∧ FrameEnd U o U' L ({ frames := 1, cells := 0, slots := 0, locals := 14 } : Room).cells ({ frames := 1, cells := 0, slots := 0, locals := 14 } : Room).slots) := by
  refine MetFree.of_bodySF (plainFor_of_name pn_2) hisR ?_
  intro p e s m args below meth c s₁ Bd hml0 hP hK
  obtain ⟨rfl, hZ, hh⟩ := hP
  have hx := Bd.exec
  have hby := Bd.bytes
  have hml : c.maxLocals = 2 := hml0
  have hown : s.vm.findClass "java/util/Objects" = some m.cls := findClass_of_methodNamed Bd.named
  have hnm := (name_of_methodNamed Bd.named Bd.method).1
  have X0 : Stand p l e ({ frames := 1, cells := 0, slots := 0, locals := 14 } : Room) s m #[(.int p1), (.int p2)] below meth c s₁ [] 0 0 := Stand.of_body Bd
  have e0 : s₁.heap = h0 := by rw [← hh, Bd.state]; rfl
  have NN := Fr.nil n0
  have KK : Keep h0 h0 [] := Keep.refl h0 []
  refine own_start (ef_5 m p1 p2) ?_
  refine own_go (T' := s₁) (g' := (mkF m 3 #[.val (.int p1), .val (.int p2)] [.null, (.int p2), (.int p1)])) (fun t k => ?_) ?_
  · show Steps p.tables e below (s₁.setTop (mkF m 0 #[.val (.int p1), .val (.int p2)] [])) _
    refine XS.iloadN X0.here hx rfl (hb hby d5_0) rfl ?_
    show Steps p.tables e below (s₁.setTop (mkF m 1 #[.val (.int p1), .val (.int p2)] [(.int p1)])) _
    refine XS.iloadN X0.here hx rfl (hb hby d5_1) rfl ?_
    show Steps p.tables e below (s₁.setTop (mkF m 2 #[.val (.int p1), .val (.int p2)] [(.int p2), (.int p1)])) _
    refine XS.aconstNull X0.here hx rfl (hb hby d5_2) ?_
    exact k
  obtain ⟨_, _, ⟨T1, L1, k1, n1⟩, -, X1, ⟨Lc1, hQ1, l1, y1, z1⟩, st1⟩ := Jvm.LawKit.callS X0 hx (y := (⟨"jdk/internal/util/Preconditions", "checkIndex", "(IILjava/util/function/BiFunction;)I"⟩ : MethodName)) hown (mvT hZ (hw _ (List.mem_of_getElem? (i := 31) rfl))) (mvT hZ (hw _ (List.mem_of_getElem? (i := 32) rfl))) (mvT hZ (hw _ (List.mem_of_getElem? (i := 33) rfl))) (mvT hZ (hw _ (List.mem_of_getElem? (i := 34) rfl))) (by decide) (backOf (W := 0) (rm6 l Z a0 hw [] p1 p2 h0 n0 Z0 hhc1_3 hhc6_3) hZ (hw _ (List.mem_of_getElem? (i := 34) rfl)) (hw _ (List.mem_of_getElem? (i := 33) rfl)) (by decide) (by decide)) (g := (mkF m 3 #[.val (.int p1), .val (.int p2)] [.null, (.int p2), (.int p1)])) rfl (by rw [hml]; rfl) (argsL := [(.int p1), (.int p2), .null]) (rest := []) (lenOf pd_4 rfl) rfl (by show 2 * 0 + _ ≤ _; exact Nat.le_of_eq rfl) (hb hby d5_3) (fun _ _ => ⟨rfl, e0, (by decide : 0 + 0 ≤ _), (by decide : 0 + 0 ≤ _)⟩)
  dsimp only [Pt.U, Pt.locs, Pt.cells, Pt.slots] at X1 l1 y1 z1 st1 hQ1
  subst l1 y1 z1
  obtain ⟨rfl, N1q, e1⟩ := hQ1
  have NN := Fr.app NN N1q
  refine own_go st1 ?_
  show own_Go p.tables e below _ T1 (mkF m 6 #[.val (.int p1), .val (.int p2)] [(.int (r_6 p1 p2))])
  obtain ⟨fs, hr, hrun, hended, hW, hsame⟩ := X1.leave (v := some (.int (r_6 p1 p2))) (fun h => by rw [Bd.returns] at h; cases h)
  refine ⟨_, _, ?_, hrun, hended, _, _, rfl, ?_, ⟨_, rfl⟩, hW, hsame.mono (by decide) (by decide)⟩
  · exact retI X1 hx Bd.returns (hb hby d5_6) hr
  · show Q5 Z p1 p2 h0 n0 _ T1.heap _
    rw [e1]
    exact ⟨rfl, NN, rfl⟩
theorem d4_0 : decode prog_3_method_6_code 0 = .ok (.iload_n 1, 1) := by decide +kernel
theorem d4_1 : decode prog_3_method_6_code 1 = .ok (.aload_n 0, 1) := by decide +kernel
theorem d4_2 : decode prog_3_method_6_code 2 = .ok (.getfield 19, 3) := by decide +kernel
theorem d4_5 : decode prog_3_method_6_code 5 = .ok (.invokestatic 127, 3) := by decide +kernel
theorem d4_8 : decode prog_3_method_6_code 8 = .ok (.pop, 1) := by decide +kernel
theorem d4_9 : decode prog_3_method_6_code 9 = .ok (.aload_n 0, 1) := by decide +kernel
theorem d4_10 : decode prog_3_method_6_code 10 = .ok (.getfield 15, 3) := by decide +kernel
theorem d4_13 : decode prog_3_method_6_code 13 = .ok (.iload_n 1, 1) := by decide +kernel
theorem d4_14 : decode prog_3_method_6_code 14 = .ok (.bipush 64, 2) := by decide +kernel
theorem d4_16 : decode prog_3_method_6_code 16 = .ok (.idiv, 1) := by decide +kernel
theorem d4_17 : decode prog_3_method_6_code 17 = .ok (.laload, 1) := by decide +kernel
theorem d4_18 : decode prog_3_method_6_code 18 = .ok (.iload_n 1, 1) := by decide +kernel
theorem d4_19 : decode prog_3_method_6_code 19 = .ok (.invokestatic 133, 3) := by decide +kernel
theorem d4_22 : decode prog_3_method_6_code 22 = .ok (.land, 1) := by decide +kernel
theorem d4_23 : decode prog_3_method_6_code 23 = .ok (.lconst 0, 1) := by decide +kernel
theorem d4_24 : decode prog_3_method_6_code 24 = .ok (.lcmp, 1) := by decide +kernel
theorem d4_25 : decode prog_3_method_6_code 25 = .ok (.ifCond .eq 7, 3) := by decide +kernel
theorem d4_28 : decode prog_3_method_6_code 28 = .ok (.iconst 1, 1) := by decide +kernel
theorem d4_29 : decode prog_3_method_6_code 29 = .ok (.goto 4, 3) := by decide +kernel
theorem d4_32 : decode prog_3_method_6_code 32 = .ok (.iconst 0, 1) := by decide +kernel
theorem d4_33 : decode prog_3_method_6_code 33 = .ok (.ireturn, 1) := by decide +kernel
theorem pd_3 : parseMethodDescriptor "(II)I" = some ⟨[.int, .int], some .int⟩ := by decide +kernel
theorem pd_5 : parseMethodDescriptor "(I)J" = some ⟨[.int], some .long⟩ := by decide +kernel
theorem ef_4 (m : MethodId) (a1 : Addr) (p2 : Int32) : entryFrame m #[(.ref a1), (.int p2)] 2 = mkF m 0 #[.val (.ref a1), .val (.int p2)] [] := by first | (simp [entryFrame, mkF, argsToLocals, Value.category]; done) | rfl
def r_4 (p2 : Int32) (w_size_a1 : Int32) (f_w_words_a1 : Nat → Int64) : Int32 := (((if ((f_w_words_a1 ((p2 / (64 : Int32))).toNatClampNeg) &&& (r_7 p2)) = (0 : Int64) then (0 : Int32) else (1 : Int32))) &&& 1)
def Q4 (Z : State) (a1 : Addr) (p2 : Int32) (w_size_a1 : Int32) (w_words_a1 : Addr) (k_w_words_a1 : ClassId) (f_w_words_a1 : Nat → Int64) (h0 : Heap) (n0 : Nat) (v : Option Value) (h : Heap) (L : List Loc) : Prop := v = some (.int (r_4 p2 w_size_a1 f_w_words_a1)) ∧ Fr n0 L ∧ h = h0
set_option maxRecDepth 65536 in
set_option maxHeartbeats 40000000 in
theorem rm4 (l : Launch) (Z : State) (a0 : Array Value) (hw : ∀ d ∈ tables_1, d.before a0 Z = true) (ws : List Jvm.Cond) (a1 : Addr) (p2 : Int32) (w_size_a1 : Int32) (w_words_a1 : Addr) (k_w_words_a1 : ClassId) (f_w_words_a1 : Nat → Int64) (h0 : Heap) (n0 : Nat) (Z0 : n0 ≤ h0.size) (F_a1_size : Fld Z h0 a1 "com/example/capd/capd/status/Bitstring" "size" "I" (.int w_size_a1)) (hhhc1_3_5 : ¬ (p2 < (0 : Int32))) (hhhc6_3_5 : p2 < w_size_a1) (F_a1_words : Fld Z h0 a1 "com/example/capd/capd/status/Bitstring" "words" "[J" (.ref w_words_a1)) (V_w_words_a1 : Arv Z h0 w_words_a1 k_w_words_a1 .long (2048 : Int32) (own_ls f_w_words_a1) (.long (0 : Int64))) (hlo17 : ¬ ((p2 / (64 : Int32)) < (0 : Int32))) (hhi17 : (p2 / (64 : Int32)) < (2048 : Int32)) :
    MetFree l (⟨"com/example/capd/capd/status/Bitstring", "get", "(I)Z"⟩ : MethodName) (head1 (Jvm.Cond.code (⟨"com/example/capd/capd/status/Bitstring", "get", "(I)Z"⟩ : MethodName) prog_3_method_6_code 2 (some .boolean) :: ws) ({ frames := 2, cells := 0, slots := 0, locals := 27 } : Room)) (fun a U => a = #[(.ref a1), (.int p2)] ∧ Z.Warmed39 U.vm ∧ U.heap = h0) (fun _ _ _ _ _ => True) (fun _ U o U' => ∃ v L, o = .returned v ∧ Q4 Z a1 p2 w_size_a1 w_words_a1 k_w_words_a1 f_w_words_a1 h0 n0 v U'.heap L ∧ FrameEnd U o U' L ({ frames := 2, cells := 0, slots := 0, locals := 27 } : Room).cells ({ frames := 2, cells := 0, slots := 0, locals := 27 } : Room).slots) := by
  refine MetFree.of_bodySF (plainFor_of_name pn_0) hisR ?_
  intro p e s m args below meth c s₁ Bd hml0 hP hK
  obtain ⟨rfl, hZ, hh⟩ := hP
  have hx := Bd.exec
  have hby := Bd.bytes
  have hml : c.maxLocals = 2 := hml0
  have hown : s.vm.findClass "com/example/capd/capd/status/Bitstring" = some m.cls := findClass_of_methodNamed Bd.named
  have hnm := (name_of_methodNamed Bd.named Bd.method).1
  have X0 : Stand p l e ({ frames := 2, cells := 0, slots := 0, locals := 27 } : Room) s m #[(.ref a1), (.int p2)] below meth c s₁ [] 0 0 := Stand.of_body Bd
  have e0 : s₁.heap = h0 := by rw [← hh, Bd.state]; rfl
  have NN := Fr.nil n0
  have KK : Keep h0 h0 [] := Keep.refl h0 []
  refine own_start (ef_4 m a1 p2) ?_
  refine own_go (T' := s₁) (g' := (mkF m 2 #[.val (.ref a1), .val (.int p2)] [(.ref a1), (.int p2)])) (fun t k => ?_) ?_
  · show Steps p.tables e below (s₁.setTop (mkF m 0 #[.val (.ref a1), .val (.int p2)] [])) _
    refine XS.iloadN X0.here hx rfl (hb hby d4_0) rfl ?_
    show Steps p.tables e below (s₁.setTop (mkF m 1 #[.val (.ref a1), .val (.int p2)] [(.int p2)])) _
    refine XS.aloadN X0.here hx rfl (hb hby d4_1) rfl rfl ?_
    exact k
  obtain ⟨T1, X1, e1, st1⟩ := getF X0 hx hZ hown (host := "") (Or.inl (hw _ (List.mem_of_getElem? (i := 18) rfl))) Via.refl e0 F_a1_size (g := (mkF m 2 #[.val (.ref a1), .val (.int p2)] [(.ref a1), (.int p2)])) rfl rfl (hb hby d4_2)
  refine own_go st1 ?_
  show own_Go p.tables e below _ T1 (mkF m 5 #[.val (.ref a1), .val (.int p2)] [(.int w_size_a1), (.int p2)])
  obtain ⟨_, _, ⟨T2, L2, k2, n2⟩, -, X2, ⟨Lc2, hQ2, l2, y2, z2⟩, st2⟩ := Jvm.LawKit.callS X1 hx (y := (⟨"java/util/Objects", "checkIndex", "(II)I"⟩ : MethodName)) hown (mvT hZ (hw _ (List.mem_of_getElem? (i := 27) rfl))) (mvT hZ (hw _ (List.mem_of_getElem? (i := 28) rfl))) (mvT hZ (hw _ (List.mem_of_getElem? (i := 29) rfl))) (mvT hZ (hw _ (List.mem_of_getElem? (i := 30) rfl))) (by decide) (backOf (W := 0) (rm5 l Z a0 hw [] p2 w_size_a1 h0 n0 Z0 hhhc1_3_5 hhhc6_3_5) hZ (hw _ (List.mem_of_getElem? (i := 30) rfl)) (hw _ (List.mem_of_getElem? (i := 29) rfl)) (by decide) (by decide)) (g := (mkF m 5 #[.val (.ref a1), .val (.int p2)] [(.int w_size_a1), (.int p2)])) rfl (by rw [hml]; rfl) (argsL := [(.int p2), (.int w_size_a1)]) (rest := []) (lenOf pd_3 rfl) rfl (by show 2 * 0 + _ ≤ _; exact Nat.le_of_eq rfl) (hb hby d4_5) (fun _ _ => ⟨rfl, e1, (by decide : 0 + 0 ≤ _), (by decide : 0 + 0 ≤ _)⟩)
  dsimp only [Pt.U, Pt.locs, Pt.cells, Pt.slots] at X2 l2 y2 z2 st2 hQ2
  subst l2 y2 z2
  obtain ⟨rfl, N2q, e2⟩ := hQ2
  have NN := Fr.app NN N2q
  refine own_go st2 ?_
  show own_Go p.tables e below _ T2 (mkF m 8 #[.val (.ref a1), .val (.int p2)] [(.int (r_5 p2 w_size_a1))])
  refine own_go (T' := T2) (g' := (mkF m 10 #[.val (.ref a1), .val (.int p2)] [(.ref a1)])) (fun t k => ?_) ?_
  · show Steps p.tables e below (T2.setTop (mkF m 8 #[.val (.ref a1), .val (.int p2)] [(.int (r_5 p2 w_size_a1))])) _
    refine XS.pop X2.here hx rfl (hb hby d4_8) rfl rfl ?_
    show Steps p.tables e below (T2.setTop (mkF m 9 #[.val (.ref a1), .val (.int p2)] [])) _
    refine XS.aloadN X2.here hx rfl (hb hby d4_9) rfl rfl ?_
    exact k
  obtain ⟨T3, X3, e3, st3⟩ := getF X2 hx hZ hown (host := "") (Or.inl (hw _ (List.mem_of_getElem? (i := 16) rfl))) Via.refl e2 F_a1_words (g := (mkF m 10 #[.val (.ref a1), .val (.int p2)] [(.ref a1)])) rfl rfl (hb hby d4_10)
  refine own_go st3 ?_
  show own_Go p.tables e below _ T3 (mkF m 13 #[.val (.ref a1), .val (.int p2)] [(.ref w_words_a1)])
  refine own_go (T' := T3) (g' := (mkF m 17 #[.val (.ref a1), .val (.int p2)] [(.int (p2 / (64 : Int32))), (.ref w_words_a1)])) (fun t k => ?_) ?_
  · show Steps p.tables e below (T3.setTop (mkF m 13 #[.val (.ref a1), .val (.int p2)] [(.ref w_words_a1)])) _
    refine XS.iloadN X3.here hx rfl (hb hby d4_13) rfl ?_
    show Steps p.tables e below (T3.setTop (mkF m 14 #[.val (.ref a1), .val (.int p2)] [(.int p2), (.ref w_words_a1)])) _
    refine XS.bipush X3.here hx rfl (hb hby d4_14) ?_
    show Steps p.tables e below (T3.setTop (mkF m 16 #[.val (.ref a1), .val (.int p2)] [(.int (64 : Int32)), (.int p2), (.ref w_words_a1)])) _
    refine XS.idiv X3.here hx rfl (hb hby d4_16) rfl (by decide) ?_
    exact k
  have Vq := V_w_words_a1
  obtain ⟨cl4, Ar4, q4, Sz4, Ng4, Hs4, Gs4⟩ := Vq
  have hin4 : ¬ ((p2 / (64 : Int32)) < 0 ∨ cl4.slots.size ≤ ((p2 / (64 : Int32))).toNatClampNeg) := inb_of Sz4 ⟨hlo17, hhi17⟩
  have hat4 : cl4.slots[((p2 / (64 : Int32))).toNatClampNeg]? = some (.long (f_w_words_a1 ((p2 / (64 : Int32))).toNatClampNeg)) := Hs4.at hin4 (own_ls_at f_w_words_a1 hlo17 hhi17 _)
  refine own_go (fun t k => X3.laload hx (j := (p2 / (64 : Int32))) (v := (.long (f_w_words_a1 ((p2 / (64 : Int32))).toNatClampNeg))) (by rw [e3]; exact Ar4.1) (State.isArrayOf_alike hZ.alike Ar4.2.1) Ar4.2.2 hin4 hat4 (g := (mkF m 17 #[.val (.ref a1), .val (.int p2)] [(.int (p2 / (64 : Int32))), (.ref w_words_a1)])) rfl rfl (hb hby d4_17) t k) ?_
  show own_Go p.tables e below _ T3 (mkF m 18 #[.val (.ref a1), .val (.int p2)] [(.long (f_w_words_a1 ((p2 / (64 : Int32))).toNatClampNeg))])
  refine own_go (T' := T3) (g' := (mkF m 19 #[.val (.ref a1), .val (.int p2)] [(.int p2), (.long (f_w_words_a1 ((p2 / (64 : Int32))).toNatClampNeg))])) (fun t k => ?_) ?_
  · show Steps p.tables e below (T3.setTop (mkF m 18 #[.val (.ref a1), .val (.int p2)] [(.long (f_w_words_a1 ((p2 / (64 : Int32))).toNatClampNeg))])) _
    refine XS.iloadN X3.here hx rfl (hb hby d4_18) rfl ?_
    exact k
  obtain ⟨_, _, ⟨T5, L5, k5, n5⟩, -, X5, ⟨Lc5, hQ5, l5, y5, z5⟩, st5⟩ := Jvm.LawKit.callS X3 hx (y := (⟨"com/example/capd/capd/status/Bitstring", "mask", "(I)J"⟩ : MethodName)) hown (mvT hZ (hw _ (List.mem_of_getElem? (i := 35) rfl))) (mvT hZ (hw _ (List.mem_of_getElem? (i := 36) rfl))) (mvT hZ (hw _ (List.mem_of_getElem? (i := 4) rfl))) (mvT hZ (hw _ (List.mem_of_getElem? (i := 37) rfl))) (by decide) (backOf (W := 2) (rm7 l Z a0 hw [] p2 h0 n0 Z0 ) hZ (hw _ (List.mem_of_getElem? (i := 37) rfl)) (hw _ (List.mem_of_getElem? (i := 4) rfl)) (by decide) (by decide)) (g := (mkF m 19 #[.val (.ref a1), .val (.int p2)] [(.int p2), (.long (f_w_words_a1 ((p2 / (64 : Int32))).toNatClampNeg))])) rfl (by rw [hml]; rfl) (argsL := [(.int p2)]) (rest := [(.long (f_w_words_a1 ((p2 / (64 : Int32))).toNatClampNeg))]) (lenOf pd_5 rfl) rfl (by show 2 * 0 + _ ≤ _; exact Nat.le_of_eq rfl) (hb hby d4_19) (fun _ _ => ⟨rfl, e3, (by decide : 0 + 0 ≤ _), (by decide : 0 + 0 ≤ _)⟩)
  dsimp only [Pt.U, Pt.locs, Pt.cells, Pt.slots] at X5 l5 y5 z5 st5 hQ5
  subst l5 y5 z5
  obtain ⟨rfl, N5q, e5⟩ := hQ5
  have NN := Fr.app NN N5q
  refine own_go st5 ?_
  show own_Go p.tables e below _ T5 (mkF m 22 #[.val (.ref a1), .val (.int p2)] [(.long (r_7 p2)), (.long (f_w_words_a1 ((p2 / (64 : Int32))).toNatClampNeg))])
  refine own_go (T' := T5) (g' := (mkF m 25 #[.val (.ref a1), .val (.int p2)] [(.int (lcmpW ((f_w_words_a1 ((p2 / (64 : Int32))).toNatClampNeg) &&& (r_7 p2)) (0 : Int64)))])) (fun t k => ?_) ?_
  · show Steps p.tables e below (T5.setTop (mkF m 22 #[.val (.ref a1), .val (.int p2)] [(.long (r_7 p2)), (.long (f_w_words_a1 ((p2 / (64 : Int32))).toNatClampNeg))])) _
    refine XS.land X5.here hx rfl (hb hby d4_22) rfl ?_
    show Steps p.tables e below (T5.setTop (mkF m 23 #[.val (.ref a1), .val (.int p2)] [(.long ((f_w_words_a1 ((p2 / (64 : Int32))).toNatClampNeg) &&& (r_7 p2)))])) _
    refine XS.lconst X5.here hx rfl (hb hby d4_23) ?_
    show Steps p.tables e below (T5.setTop (mkF m 24 #[.val (.ref a1), .val (.int p2)] [(.long (0 : Int64)), (.long ((f_w_words_a1 ((p2 / (64 : Int32))).toNatClampNeg) &&& (r_7 p2)))])) _
    refine XS.lcmp X5.here hx rfl (hb hby d4_24) rfl ?_
    exact k
  obtain ⟨j6, hj6, st7⟩ : ∃ (j6 : Int32), j6 = (if ((f_w_words_a1 ((p2 / (64 : Int32))).toNatClampNeg) &&& (r_7 p2)) = (0 : Int64) then (0 : Int32) else (1 : Int32)) ∧ ∀ t, Steps p.tables e below (T5.setTop (mkF m 33 #[.val (.ref a1), .val (.int p2)] [(.int j6)])) t → Steps p.tables e below (T5.setTop (mkF m 25 #[.val (.ref a1), .val (.int p2)] [(.int (lcmpW ((f_w_words_a1 ((p2 / (64 : Int32))).toNatClampNeg) &&& (r_7 p2)) (0 : Int64)))])) t := by
    by_cases hc25_1 : ((f_w_words_a1 ((p2 / (64 : Int32))).toNatClampNeg) &&& (r_7 p2)) = (0 : Int64)
    · skip
      refine ⟨(0 : Int32), (by simp only [if_pos hc25_1]), fun t k => ?_⟩
      show Steps p.tables e below (T5.setTop (mkF m 25 #[.val (.ref a1), .val (.int p2)] [(.int (lcmpW ((f_w_words_a1 ((p2 / (64 : Int32))).toNatClampNeg) &&& (r_7 p2)) (0 : Int64)))])) _
      refine XS.ifYes X5.here hx rfl (pc0 := 25) (pc' := 32) rfl (hb hby d4_25) rfl ((if0 _ _).trans (teq ((lw_eq ((f_w_words_a1 ((p2 / (64 : Int32))).toNatClampNeg) &&& (r_7 p2)) (0 : Int64)).mpr hc25_1)).1) (by decide) (by decide) ?_
      show Steps p.tables e below (T5.setTop (mkF m 32 #[.val (.ref a1), .val (.int p2)] [])) _
      refine XS.iconst X5.here hx rfl (hb hby d4_32) ?_
      exact k
    · skip
      refine ⟨(1 : Int32), (by simp only [if_neg hc25_1]), fun t k => ?_⟩
      show Steps p.tables e below (T5.setTop (mkF m 25 #[.val (.ref a1), .val (.int p2)] [(.int (lcmpW ((f_w_words_a1 ((p2 / (64 : Int32))).toNatClampNeg) &&& (r_7 p2)) (0 : Int64)))])) _
      refine XS.ifNo X5.here hx rfl (hb hby d4_25) rfl ((if0 _ _).trans (feq (fun q => hc25_1 ((lw_eq ((f_w_words_a1 ((p2 / (64 : Int32))).toNatClampNeg) &&& (r_7 p2)) (0 : Int64)).mp q))).1) ?_
      show Steps p.tables e below (T5.setTop (mkF m 28 #[.val (.ref a1), .val (.int p2)] [])) _
      refine XS.iconst X5.here hx rfl (hb hby d4_28) ?_
      show Steps p.tables e below (T5.setTop (mkF m 29 #[.val (.ref a1), .val (.int p2)] [(.int (1 : Int32))])) _
      refine XS.goto X5.here hx rfl (pc0 := 29) (pc' := 33) rfl (hb hby d4_29) (by decide) (by decide) ?_
      exact k
  refine own_go st7 ?_
  show own_Go p.tables e below _ T5 (mkF m 33 #[.val (.ref a1), .val (.int p2)] [(.int j6)])
  obtain ⟨fs, hr, hrun, hended, hW, hsame⟩ := X5.leave (v := some (.int (nar .boolean j6))) (fun h => by rw [Bd.returns] at h; cases h)
  refine ⟨_, _, ?_, hrun, hended, _, _, rfl, ?_, ⟨_, rfl⟩, hW, hsame.mono (by decide) (by decide)⟩
  · exact retN X5 hx (t := .boolean) Bd.returns (by simp) (hb hby d4_33) hr
  · show Q4 Z a1 p2 w_size_a1 w_words_a1 k_w_words_a1 f_w_words_a1 h0 n0 _ T5.heap _
    rw [e5]
    exact ⟨(by first | (simp only [hj6, r_4, own_narZ, own_narC, own_narB]; done) | (subst hj6; first | (simp only [r_4, own_narZ, own_narC, own_narB]; done) | rfl)), NN, rfl⟩
theorem d8_0 : decode prog_3_method_7_code 0 = .ok (.iload_n 1, 1) := by decide +kernel
theorem d8_1 : decode prog_3_method_7_code 1 = .ok (.aload_n 0, 1) := by decide +kernel
theorem d8_2 : decode prog_3_method_7_code 2 = .ok (.getfield 19, 3) := by decide +kernel
theorem d8_5 : decode prog_3_method_7_code 5 = .ok (.invokestatic 127, 3) := by decide +kernel
theorem d8_8 : decode prog_3_method_7_code 8 = .ok (.pop, 1) := by decide +kernel
theorem d8_9 : decode prog_3_method_7_code 9 = .ok (.aload_n 0, 1) := by decide +kernel
theorem d8_10 : decode prog_3_method_7_code 10 = .ok (.iload_n 1, 1) := by decide +kernel
theorem d8_11 : decode prog_3_method_7_code 11 = .ok (.invokevirtual 137, 3) := by decide +kernel
theorem d8_14 : decode prog_3_method_7_code 14 = .ok (.ifCond .ne 29, 3) := by decide +kernel
theorem d8_17 : decode prog_3_method_7_code 17 = .ok (.aload_n 0, 1) := by decide +kernel
theorem d8_18 : decode prog_3_method_7_code 18 = .ok (.getfield 15, 3) := by decide +kernel
theorem d8_21 : decode prog_3_method_7_code 21 = .ok (.iload_n 1, 1) := by decide +kernel
theorem d8_22 : decode prog_3_method_7_code 22 = .ok (.bipush 64, 2) := by decide +kernel
theorem d8_24 : decode prog_3_method_7_code 24 = .ok (.idiv, 1) := by decide +kernel
theorem d8_25 : decode prog_3_method_7_code 25 = .ok (.dup2, 1) := by decide +kernel
theorem d8_26 : decode prog_3_method_7_code 26 = .ok (.laload, 1) := by decide +kernel
theorem d8_27 : decode prog_3_method_7_code 27 = .ok (.iload_n 1, 1) := by decide +kernel
theorem d8_28 : decode prog_3_method_7_code 28 = .ok (.invokestatic 133, 3) := by decide +kernel
theorem d8_31 : decode prog_3_method_7_code 31 = .ok (.lor, 1) := by decide +kernel
theorem d8_32 : decode prog_3_method_7_code 32 = .ok (.lastore, 1) := by decide +kernel
theorem d8_33 : decode prog_3_method_7_code 33 = .ok (.aload_n 0, 1) := by decide +kernel
theorem d8_34 : decode prog_3_method_7_code 34 = .ok (.dup, 1) := by decide +kernel
theorem d8_35 : decode prog_3_method_7_code 35 = .ok (.getfield 23, 3) := by decide +kernel
theorem d8_38 : decode prog_3_method_7_code 38 = .ok (.iconst 1, 1) := by decide +kernel
theorem d8_39 : decode prog_3_method_7_code 39 = .ok (.iadd, 1) := by decide +kernel
theorem d8_40 : decode prog_3_method_7_code 40 = .ok (.putfield 23, 3) := by decide +kernel
theorem d8_43 : decode prog_3_method_7_code 43 = .ok (.return_, 1) := by decide +kernel
theorem pd_2 : parseMethodDescriptor "(I)Z" = some ⟨[.int], some .boolean⟩ := by decide +kernel
theorem ef_8 (m : MethodId) (a1 : Addr) (p2 : Int32) : entryFrame m #[(.ref a1), (.int p2)] 2 = mkF m 0 #[.val (.ref a1), .val (.int p2)] [] := by first | (simp [entryFrame, mkF, argsToLocals, Value.category]; done) | rfl
def u_8_w_words_a1_fn (p2 : Int32) (w_size_a1 : Int32) (f_w_words_a1 : Nat → Int64) (w_count_a1 : Int32) : Nat → Int64 := (if (r_4 p2 w_size_a1 f_w_words_a1) = (0 : Int32) then (own_up f_w_words_a1 ((p2 / (64 : Int32))).toNatClampNeg ((f_w_words_a1 ((p2 / (64 : Int32))).toNatClampNeg) ||| (r_7 p2))) else f_w_words_a1)
def u_8_a1_count (p2 : Int32) (w_size_a1 : Int32) (f_w_words_a1 : Nat → Int64) (w_count_a1 : Int32) : Int32 := (if (r_4 p2 w_size_a1 f_w_words_a1) = (0 : Int32) then (w_count_a1 + (1 : Int32)) else w_count_a1)
def Q8 (Z : State) (a1 : Addr) (p2 : Int32) (w_size_a1 : Int32) (w_words_a1 : Addr) (k_w_words_a1 : ClassId) (f_w_words_a1 : Nat → Int64) (w_count_a1 : Int32) (h0 : Heap) (n0 : Nat) (v : Option Value) (h : Heap) (L : List Loc) : Prop := v = none ∧ Fr n0 L ∧ Keep h0 h [w_words_a1, a1] ∧ Arv Z h w_words_a1 k_w_words_a1 .long (2048 : Int32) (own_ls (u_8_w_words_a1_fn p2 w_size_a1 f_w_words_a1 w_count_a1)) (.long (0 : Int64)) ∧ Exa Z h a1 "com/example/capd/capd/status/Bitstring" ∧ Fld Z h a1 "com/example/capd/capd/status/Bitstring" "size" "I" (.int w_size_a1) ∧ Fld Z h a1 "com/example/capd/capd/status/Bitstring" "words" "[J" (.ref w_words_a1) ∧ Fld Z h a1 "com/example/capd/capd/status/Bitstring" "count" "I" (.int (u_8_a1_count p2 w_size_a1 f_w_words_a1 w_count_a1))
set_option maxRecDepth 65536 in
set_option maxHeartbeats 40000000 in
theorem rm8 (l : Launch) (Z : State) (a0 : Array Value) (hw : ∀ d ∈ tables_1, d.before a0 Z = true) (ws : List Jvm.Cond) (a1 : Addr) (p2 : Int32) (w_size_a1 : Int32) (w_words_a1 : Addr) (k_w_words_a1 : ClassId) (f_w_words_a1 : Nat → Int64) (w_count_a1 : Int32) (h0 : Heap) (n0 : Nat) (Z0 : n0 ≤ h0.size) (F_a1_size : Fld Z h0 a1 "com/example/capd/capd/status/Bitstring" "size" "I" (.int w_size_a1)) (hhhc1_3_5 : ¬ (p2 < (0 : Int32))) (hhhc6_3_5 : p2 < w_size_a1) (hhhhc1_3_5_11 : ¬ (p2 < (0 : Int32))) (hhhhc6_3_5_11 : p2 < w_size_a1) (F_a1_words : Fld Z h0 a1 "com/example/capd/capd/status/Bitstring" "words" "[J" (.ref w_words_a1)) (V_w_words_a1 : Arv Z h0 w_words_a1 k_w_words_a1 .long (2048 : Int32) (own_ls f_w_words_a1) (.long (0 : Int64))) (hhlo17_11 : ¬ ((p2 / (64 : Int32)) < (0 : Int32))) (hhhi17_11 : (p2 / (64 : Int32)) < (2048 : Int32)) (E_a1 : Exa Z h0 a1 "com/example/capd/capd/status/Bitstring") (hlo26 : ¬ ((p2 / (64 : Int32)) < (0 : Int32))) (hhi26 : (p2 / (64 : Int32)) < (2048 : Int32)) (hlo32 : ¬ ((p2 / (64 : Int32)) < (0 : Int32))) (hhi32 : (p2 / (64 : Int32)) < (2048 : Int32)) (ne_a1_w_words_a1 : a1 ≠ w_words_a1) (g_w_words_a1 : n0 ≤ w_words_a1) (F_a1_count : Fld Z h0 a1 "com/example/capd/capd/status/Bitstring" "count" "I" (.int w_count_a1)) (g_a1 : n0 ≤ a1) :
    MetFree l (⟨"com/example/capd/capd/status/Bitstring", "set", "(I)V"⟩ : MethodName) (head1 (Jvm.Cond.code (⟨"com/example/capd/capd/status/Bitstring", "set", "(I)V"⟩ : MethodName) prog_3_method_7_code 2 none :: ws) ({ frames := 3, cells := 0, slots := 0, locals := 40 } : Room)) (fun a U => a = #[(.ref a1), (.int p2)] ∧ Z.Warmed39 U.vm ∧ U.heap = h0) (fun _ _ _ _ _ => True) (fun _ U o U' => ∃ v L, o = .returned v ∧ Q8 Z a1 p2 w_size_a1 w_words_a1 k_w_words_a1 f_w_words_a1 w_count_a1 h0 n0 v U'.heap L ∧ FrameEnd U o U' L ({ frames := 3, cells := 0, slots := 0, locals := 40 } : Room).cells ({ frames := 3, cells := 0, slots := 0, locals := 40 } : Room).slots) := by
  refine MetFree.of_bodySF (plainFor_of_name pn_0) hisR ?_
  intro p e s m args below meth c s₁ Bd hml0 hP hK
  obtain ⟨rfl, hZ, hh⟩ := hP
  have hx := Bd.exec
  have hby := Bd.bytes
  have hml : c.maxLocals = 2 := hml0
  have hown : s.vm.findClass "com/example/capd/capd/status/Bitstring" = some m.cls := findClass_of_methodNamed Bd.named
  have hnm := (name_of_methodNamed Bd.named Bd.method).1
  have X0 : Stand p l e ({ frames := 3, cells := 0, slots := 0, locals := 40 } : Room) s m #[(.ref a1), (.int p2)] below meth c s₁ [] 0 0 := Stand.of_body Bd
  have e0 : s₁.heap = h0 := by rw [← hh, Bd.state]; rfl
  have NN := Fr.nil n0
  have KK : Keep h0 h0 [w_words_a1, a1] := Keep.refl h0 [w_words_a1, a1]
  refine own_start (ef_8 m a1 p2) ?_
  refine own_go (T' := s₁) (g' := (mkF m 2 #[.val (.ref a1), .val (.int p2)] [(.ref a1), (.int p2)])) (fun t k => ?_) ?_
  · show Steps p.tables e below (s₁.setTop (mkF m 0 #[.val (.ref a1), .val (.int p2)] [])) _
    refine XS.iloadN X0.here hx rfl (hb hby d8_0) rfl ?_
    show Steps p.tables e below (s₁.setTop (mkF m 1 #[.val (.ref a1), .val (.int p2)] [(.int p2)])) _
    refine XS.aloadN X0.here hx rfl (hb hby d8_1) rfl rfl ?_
    exact k
  obtain ⟨T1, X1, e1, st1⟩ := getF X0 hx hZ hown (host := "") (Or.inl (hw _ (List.mem_of_getElem? (i := 18) rfl))) Via.refl e0 F_a1_size (g := (mkF m 2 #[.val (.ref a1), .val (.int p2)] [(.ref a1), (.int p2)])) rfl rfl (hb hby d8_2)
  refine own_go st1 ?_
  show own_Go p.tables e below _ T1 (mkF m 5 #[.val (.ref a1), .val (.int p2)] [(.int w_size_a1), (.int p2)])
  obtain ⟨_, _, ⟨T2, L2, k2, n2⟩, -, X2, ⟨Lc2, hQ2, l2, y2, z2⟩, st2⟩ := Jvm.LawKit.callS X1 hx (y := (⟨"java/util/Objects", "checkIndex", "(II)I"⟩ : MethodName)) hown (mvT hZ (hw _ (List.mem_of_getElem? (i := 27) rfl))) (mvT hZ (hw _ (List.mem_of_getElem? (i := 28) rfl))) (mvT hZ (hw _ (List.mem_of_getElem? (i := 29) rfl))) (mvT hZ (hw _ (List.mem_of_getElem? (i := 30) rfl))) (by decide) (backOf (W := 0) (rm5 l Z a0 hw [] p2 w_size_a1 h0 n0 Z0 hhhc1_3_5 hhhc6_3_5) hZ (hw _ (List.mem_of_getElem? (i := 30) rfl)) (hw _ (List.mem_of_getElem? (i := 29) rfl)) (by decide) (by decide)) (g := (mkF m 5 #[.val (.ref a1), .val (.int p2)] [(.int w_size_a1), (.int p2)])) rfl (by rw [hml]; rfl) (argsL := [(.int p2), (.int w_size_a1)]) (rest := []) (lenOf pd_3 rfl) rfl (by show 2 * 0 + _ ≤ _; exact Nat.le_of_eq rfl) (hb hby d8_5) (fun _ _ => ⟨rfl, e1, (by decide : 0 + 0 ≤ _), (by decide : 0 + 0 ≤ _)⟩)
  dsimp only [Pt.U, Pt.locs, Pt.cells, Pt.slots] at X2 l2 y2 z2 st2 hQ2
  subst l2 y2 z2
  obtain ⟨rfl, N2q, e2⟩ := hQ2
  have NN := Fr.app NN N2q
  refine own_go st2 ?_
  show own_Go p.tables e below _ T2 (mkF m 8 #[.val (.ref a1), .val (.int p2)] [(.int (r_5 p2 w_size_a1))])
  refine own_go (T' := T2) (g' := (mkF m 11 #[.val (.ref a1), .val (.int p2)] [(.int p2), (.ref a1)])) (fun t k => ?_) ?_
  · show Steps p.tables e below (T2.setTop (mkF m 8 #[.val (.ref a1), .val (.int p2)] [(.int (r_5 p2 w_size_a1))])) _
    refine XS.pop X2.here hx rfl (hb hby d8_8) rfl rfl ?_
    show Steps p.tables e below (T2.setTop (mkF m 9 #[.val (.ref a1), .val (.int p2)] [])) _
    refine XS.aloadN X2.here hx rfl (hb hby d8_9) rfl rfl ?_
    show Steps p.tables e below (T2.setTop (mkF m 10 #[.val (.ref a1), .val (.int p2)] [(.ref a1)])) _
    refine XS.iloadN X2.here hx rfl (hb hby d8_10) rfl ?_
    exact k
  obtain ⟨cq3, kq3, q3a, q3b, q3c⟩ := isOf hZ e2 E_a1
  obtain ⟨_, _, ⟨T3, L3, k3, n3⟩, -, X3, ⟨Lc3, hQ3, l3, y3, z3⟩, st3⟩ := X2.virtualBack hx (y := (⟨"com/example/capd/capd/status/Bitstring", "get", "(I)Z"⟩ : MethodName)) (z := (⟨"com/example/capd/capd/status/Bitstring", "get", "(I)Z"⟩ : MethodName)) hown (mvT hZ (hw _ (List.mem_of_getElem? (i := 44) rfl))) (mvT hZ (hw _ (List.mem_of_getElem? (i := 23) rfl))) (notFace_of_selects (args := #[]) (mvT hZ (hw _ (List.mem_of_getElem? (i := 25) rfl)))) (mvT hZ (hw _ (List.mem_of_getElem? (i := 25) rfl))) (mvT hZ (hw _ (List.mem_of_getElem? (i := 24) rfl))) (by decide) (backOf (W := 0) (rm4 l Z a0 hw [] a1 p2 w_size_a1 w_words_a1 k_w_words_a1 f_w_words_a1 h0 n0 Z0 F_a1_size hhhc1_3_5 hhhc6_3_5 F_a1_words V_w_words_a1 hhlo17_11 hhhi17_11) hZ (hw _ (List.mem_of_getElem? (i := 26) rfl)) (hw _ (List.mem_of_getElem? (i := 4) rfl)) (by decide) (by decide)) q3a q3c (g := (mkF m 11 #[.val (.ref a1), .val (.int p2)] [(.int p2), (.ref a1)])) rfl (by rw [hml]; rfl) (Steps.refl _) (argsL := [(.int p2)]) (rest := []) (lenOf pd_2 rfl) rfl (by show 2 * 0 + _ ≤ _; exact Nat.le_of_eq rfl) (hb hby d8_11) (fun _ _ => ⟨rfl, e2, (by decide : 0 + 0 ≤ _), (by decide : 0 + 0 ≤ _)⟩)
  dsimp only [Pt.U, Pt.locs, Pt.cells, Pt.slots] at X3 l3 y3 z3 st3 hQ3
  subst l3 y3 z3
  obtain ⟨rfl, N3q, e3⟩ := hQ3
  have NN := Fr.app NN N3q
  refine own_go (fun t k => st3.trans k) ?_
  show own_Go p.tables e below _ T3 (mkF m 14 #[.val (.ref a1), .val (.int p2)] [(.int (r_4 p2 w_size_a1 f_w_words_a1))])
  by_cases hc14_1 : (r_4 p2 w_size_a1 f_w_words_a1) = (0 : Int32)
  · skip
    refine own_go (T' := T3) (g' := (mkF m 18 #[.val (.ref a1), .val (.int p2)] [(.ref a1)])) (fun t k => ?_) ?_
    · show Steps p.tables e below (T3.setTop (mkF m 14 #[.val (.ref a1), .val (.int p2)] [(.int (r_4 p2 w_size_a1 f_w_words_a1))])) _
      refine XS.ifNo X3.here hx rfl (hb hby d8_14) rfl ((if0 _ _).trans (teq hc14_1).2) ?_
      show Steps p.tables e below (T3.setTop (mkF m 17 #[.val (.ref a1), .val (.int p2)] [])) _
      refine XS.aloadN X3.here hx rfl (hb hby d8_17) rfl rfl ?_
      exact k
    obtain ⟨T4, X4, e4, st4⟩ := getF X3 hx hZ hown (host := "") (Or.inl (hw _ (List.mem_of_getElem? (i := 16) rfl))) Via.refl e3 F_a1_words (g := (mkF m 18 #[.val (.ref a1), .val (.int p2)] [(.ref a1)])) rfl rfl (hb hby d8_18)
    refine own_go st4 ?_
    show own_Go p.tables e below _ T4 (mkF m 21 #[.val (.ref a1), .val (.int p2)] [(.ref w_words_a1)])
    refine own_go (T' := T4) (g' := (mkF m 26 #[.val (.ref a1), .val (.int p2)] [(.int (p2 / (64 : Int32))), (.ref w_words_a1), (.int (p2 / (64 : Int32))), (.ref w_words_a1)])) (fun t k => ?_) ?_
    · show Steps p.tables e below (T4.setTop (mkF m 21 #[.val (.ref a1), .val (.int p2)] [(.ref w_words_a1)])) _
      refine XS.iloadN X4.here hx rfl (hb hby d8_21) rfl ?_
      show Steps p.tables e below (T4.setTop (mkF m 22 #[.val (.ref a1), .val (.int p2)] [(.int p2), (.ref w_words_a1)])) _
      refine XS.bipush X4.here hx rfl (hb hby d8_22) ?_
      show Steps p.tables e below (T4.setTop (mkF m 24 #[.val (.ref a1), .val (.int p2)] [(.int (64 : Int32)), (.int p2), (.ref w_words_a1)])) _
      refine XS.idiv X4.here hx rfl (hb hby d8_24) rfl (by decide) ?_
      show Steps p.tables e below (T4.setTop (mkF m 25 #[.val (.ref a1), .val (.int p2)] [(.int (p2 / (64 : Int32))), (.ref w_words_a1)])) _
      refine XT.dup2 X4.here hx rfl (hb hby d8_25) rfl rfl rfl ?_
      exact k
    have Vq := V_w_words_a1
    obtain ⟨cl5, Ar5, q5, Sz5, Ng5, Hs5, Gs5⟩ := Vq
    have hin5 : ¬ ((p2 / (64 : Int32)) < 0 ∨ cl5.slots.size ≤ ((p2 / (64 : Int32))).toNatClampNeg) := inb_of Sz5 ⟨hhlo17_11, hhhi17_11⟩
    have hat5 : cl5.slots[((p2 / (64 : Int32))).toNatClampNeg]? = some (.long (f_w_words_a1 ((p2 / (64 : Int32))).toNatClampNeg)) := Hs5.at hin5 (own_ls_at f_w_words_a1 hhlo17_11 hhhi17_11 _)
    refine own_go (fun t k => X4.laload hx (j := (p2 / (64 : Int32))) (v := (.long (f_w_words_a1 ((p2 / (64 : Int32))).toNatClampNeg))) (by rw [e4]; exact Ar5.1) (State.isArrayOf_alike hZ.alike Ar5.2.1) Ar5.2.2 hin5 hat5 (g := (mkF m 26 #[.val (.ref a1), .val (.int p2)] [(.int (p2 / (64 : Int32))), (.ref w_words_a1), (.int (p2 / (64 : Int32))), (.ref w_words_a1)])) rfl rfl (hb hby d8_26) t k) ?_
    show own_Go p.tables e below _ T4 (mkF m 27 #[.val (.ref a1), .val (.int p2)] [(.long (f_w_words_a1 ((p2 / (64 : Int32))).toNatClampNeg)), (.int (p2 / (64 : Int32))), (.ref w_words_a1)])
    refine own_go (T' := T4) (g' := (mkF m 28 #[.val (.ref a1), .val (.int p2)] [(.int p2), (.long (f_w_words_a1 ((p2 / (64 : Int32))).toNatClampNeg)), (.int (p2 / (64 : Int32))), (.ref w_words_a1)])) (fun t k => ?_) ?_
    · show Steps p.tables e below (T4.setTop (mkF m 27 #[.val (.ref a1), .val (.int p2)] [(.long (f_w_words_a1 ((p2 / (64 : Int32))).toNatClampNeg)), (.int (p2 / (64 : Int32))), (.ref w_words_a1)])) _
      refine XS.iloadN X4.here hx rfl (hb hby d8_27) rfl ?_
      exact k
    obtain ⟨_, _, ⟨T6, L6, k6, n6⟩, -, X6, ⟨Lc6, hQ6, l6, y6, z6⟩, st6⟩ := Jvm.LawKit.callS X4 hx (y := (⟨"com/example/capd/capd/status/Bitstring", "mask", "(I)J"⟩ : MethodName)) hown (mvT hZ (hw _ (List.mem_of_getElem? (i := 35) rfl))) (mvT hZ (hw _ (List.mem_of_getElem? (i := 36) rfl))) (mvT hZ (hw _ (List.mem_of_getElem? (i := 4) rfl))) (mvT hZ (hw _ (List.mem_of_getElem? (i := 37) rfl))) (by decide) (backOf (W := 4) (rm7 l Z a0 hw [] p2 h0 n0 Z0 ) hZ (hw _ (List.mem_of_getElem? (i := 37) rfl)) (hw _ (List.mem_of_getElem? (i := 4) rfl)) (by decide) (by decide)) (g := (mkF m 28 #[.val (.ref a1), .val (.int p2)] [(.int p2), (.long (f_w_words_a1 ((p2 / (64 : Int32))).toNatClampNeg)), (.int (p2 / (64 : Int32))), (.ref w_words_a1)])) rfl (by rw [hml]; rfl) (argsL := [(.int p2)]) (rest := [(.long (f_w_words_a1 ((p2 / (64 : Int32))).toNatClampNeg)), (.int (p2 / (64 : Int32))), (.ref w_words_a1)]) (lenOf pd_5 rfl) rfl (by show 2 * 0 + _ ≤ _; exact Nat.le_of_eq rfl) (hb hby d8_28) (fun _ _ => ⟨rfl, e4, (by decide : 0 + 0 ≤ _), (by decide : 0 + 0 ≤ _)⟩)
    dsimp only [Pt.U, Pt.locs, Pt.cells, Pt.slots] at X6 l6 y6 z6 st6 hQ6
    subst l6 y6 z6
    obtain ⟨rfl, N6q, e6⟩ := hQ6
    have NN := Fr.app NN N6q
    refine own_go st6 ?_
    show own_Go p.tables e below _ T6 (mkF m 31 #[.val (.ref a1), .val (.int p2)] [(.long (r_7 p2)), (.long (f_w_words_a1 ((p2 / (64 : Int32))).toNatClampNeg)), (.int (p2 / (64 : Int32))), (.ref w_words_a1)])
    refine own_go (T' := T6) (g' := (mkF m 32 #[.val (.ref a1), .val (.int p2)] [(.long ((f_w_words_a1 ((p2 / (64 : Int32))).toNatClampNeg) ||| (r_7 p2))), (.int (p2 / (64 : Int32))), (.ref w_words_a1)])) (fun t k => ?_) ?_
    · show Steps p.tables e below (T6.setTop (mkF m 31 #[.val (.ref a1), .val (.int p2)] [(.long (r_7 p2)), (.long (f_w_words_a1 ((p2 / (64 : Int32))).toNatClampNeg)), (.int (p2 / (64 : Int32))), (.ref w_words_a1)])) _
      refine XS.lor X6.here hx rfl (hb hby d8_31) rfl ?_
      exact k
    have Vq := V_w_words_a1
    obtain ⟨cl7, Ar7, q7, Sz7, Ng7, Hs7, Gs7⟩ := Vq
    have hin7 : ¬ ((p2 / (64 : Int32)) < 0 ∨ cl7.slots.size ≤ ((p2 / (64 : Int32))).toNatClampNeg) := inb_of Sz7 ⟨hhlo17_11, hhhi17_11⟩
    obtain ⟨T8, h8, X8, e8, W8, st8⟩ := stJ X6 hx hZ e6 Ar7 (j := (p2 / (64 : Int32))) hin7 (g := (mkF m 32 #[.val (.ref a1), .val (.int p2)] [(.long ((f_w_words_a1 ((p2 / (64 : Int32))).toNatClampNeg) ||| (r_7 p2))), (.int (p2 / (64 : Int32))), (.ref w_words_a1)])) rfl rfl (hb hby d8_32)
    refine own_go st8 ?_
    have F_a1_size := F_a1_size.other W8 (Or.inl ne_a1_w_words_a1)
    have F_a1_words := F_a1_words.other W8 (Or.inl ne_a1_w_words_a1)
    have E_a1 := E_a1.wr W8
    have F_a1_count := F_a1_count.other W8 (Or.inl ne_a1_w_words_a1)
    have Z0 := Nat.le_trans Z0 (Keep.of_wr W8).1
    have KK := KK.wr W8 (Or.inl (List.mem_of_getElem? (i := 0) rfl))
    have NN := Fr.snoc X8 NN g_w_words_a1
    have V_w_words_a1 : Arv Z h8 w_words_a1 k_w_words_a1 .long (2048 : Int32) (own_ls (own_up f_w_words_a1 ((p2 / (64 : Int32))).toNatClampNeg ((f_w_words_a1 ((p2 / (64 : Int32))).toNatClampNeg) ||| (r_7 p2)))) (.long (0 : Int64)) := own_ls_set Ar7 q7 Sz7 Ng7 Hs7 Gs7 W8 hhlo17_11 hhhi17_11
    show own_Go p.tables e below _ T8 (mkF m 33 #[.val (.ref a1), .val (.int p2)] [])
    refine own_go (T' := T8) (g' := (mkF m 35 #[.val (.ref a1), .val (.int p2)] [(.ref a1), (.ref a1)])) (fun t k => ?_) ?_
    · show Steps p.tables e below (T8.setTop (mkF m 33 #[.val (.ref a1), .val (.int p2)] [])) _
      refine XS.aloadN X8.here hx rfl (hb hby d8_33) rfl rfl ?_
      show Steps p.tables e below (T8.setTop (mkF m 34 #[.val (.ref a1), .val (.int p2)] [(.ref a1)])) _
      refine XS.dup X8.here hx rfl (hb hby d8_34) rfl rfl ?_
      exact k
    obtain ⟨T9, X9, e9, st9⟩ := getF X8 hx hZ hown (host := "") (Or.inl (hw _ (List.mem_of_getElem? (i := 20) rfl))) Via.refl e8 F_a1_count (g := (mkF m 35 #[.val (.ref a1), .val (.int p2)] [(.ref a1), (.ref a1)])) rfl rfl (hb hby d8_35)
    refine own_go st9 ?_
    show own_Go p.tables e below _ T9 (mkF m 38 #[.val (.ref a1), .val (.int p2)] [(.int w_count_a1), (.ref a1)])
    refine own_go (T' := T9) (g' := (mkF m 40 #[.val (.ref a1), .val (.int p2)] [(.int (w_count_a1 + (1 : Int32))), (.ref a1)])) (fun t k => ?_) ?_
    · show Steps p.tables e below (T9.setTop (mkF m 38 #[.val (.ref a1), .val (.int p2)] [(.int w_count_a1), (.ref a1)])) _
      refine XS.iconst X9.here hx rfl (hb hby d8_38) ?_
      show Steps p.tables e below (T9.setTop (mkF m 39 #[.val (.ref a1), .val (.int p2)] [(.int (1 : Int32)), (.int w_count_a1), (.ref a1)])) _
      refine XS.iadd X9.here hx rfl (hb hby d8_39) rfl ?_
      exact k
    obtain ⟨T10, h10, X10, e10, W10, st10⟩ := putF X9 hx hZ hown (host := "") (Or.inl (hw _ (List.mem_of_getElem? (i := 20) rfl))) Via.refl e9 F_a1_count E_a1 (Or.inl (hw _ (List.mem_of_getElem? (i := 21) rfl))) (hw _ (List.mem_of_getElem? (i := 3) rfl)) (ty := .int) (by decide) rfl rfl (g := (mkF m 40 #[.val (.ref a1), .val (.int p2)] [(.int (w_count_a1 + (1 : Int32))), (.ref a1)])) rfl rfl (hb hby d8_40)
    refine own_go st10 ?_
    have F_a1_size := F_a1_size.other W10 (Or.inr (slot_ne (Or.inr (hw _ (List.mem_of_getElem? (i := 19) rfl))) (Or.inl (hw _ (List.mem_of_getElem? (i := 21) rfl))) (by decide) (t := .int) (t' := .int) (by decide) (by decide)))
    have F_a1_words := F_a1_words.other W10 (Or.inr (slot_ne (Or.inr (hw _ (List.mem_of_getElem? (i := 17) rfl))) (Or.inl (hw _ (List.mem_of_getElem? (i := 21) rfl))) (by decide) (t := (.array .long)) (t' := .int) (by decide) (by decide)))
    have V_w_words_a1 := V_w_words_a1.other W10 (Ne.symm ne_a1_w_words_a1)
    have E_a1 := E_a1.wr W10
    have F_a1_count := F_a1_count.same W10
    have Z0 := Nat.le_trans Z0 (Keep.of_wr W10).1
    have KK := KK.wr W10 (Or.inl (List.mem_of_getElem? (i := 1) rfl))
    have NN := Fr.snoc X10 NN g_a1
    show own_Go p.tables e below _ T10 (mkF m 43 #[.val (.ref a1), .val (.int p2)] [])
    obtain ⟨fs, hr, hrun, hended, hW, hsame⟩ := X10.leave (v := none) (fun _ => rfl)
    refine ⟨_, _, ?_, hrun, hended, _, _, rfl, ?_, ⟨_, rfl⟩, hW, hsame.mono (by decide) (by decide)⟩
    · exact X10.returnOut hx Bd.returns (hb hby d8_43) hr
    · show Q8 Z a1 p2 w_size_a1 w_words_a1 k_w_words_a1 f_w_words_a1 w_count_a1 h0 n0 _ T10.heap _
      rw [e10]
      exact ⟨rfl, NN, KK, (by rw [← ((by first | (simp only [u_8_w_words_a1_fn, if_pos hc14_1]; done) | (simp only [u_8_w_words_a1_fn, if_pos hc14_1])) : (own_up f_w_words_a1 ((p2 / (64 : Int32))).toNatClampNeg ((f_w_words_a1 ((p2 / (64 : Int32))).toNatClampNeg) ||| (r_7 p2))) = u_8_w_words_a1_fn p2 w_size_a1 f_w_words_a1 w_count_a1)]; exact V_w_words_a1), E_a1, F_a1_size, F_a1_words, (by rw [← ((by first | (simp only [u_8_a1_count, if_pos hc14_1]; done) | (simp only [u_8_a1_count, if_pos hc14_1])) : (w_count_a1 + (1 : Int32)) = u_8_a1_count p2 w_size_a1 f_w_words_a1 w_count_a1)]; exact F_a1_count)⟩
  · skip
    refine own_go (T' := T3) (g' := (mkF m 43 #[.val (.ref a1), .val (.int p2)] [])) (fun t k => ?_) ?_
    · show Steps p.tables e below (T3.setTop (mkF m 14 #[.val (.ref a1), .val (.int p2)] [(.int (r_4 p2 w_size_a1 f_w_words_a1))])) _
      refine XS.ifYes X3.here hx rfl (pc0 := 14) (pc' := 43) rfl (hb hby d8_14) rfl ((if0 _ _).trans (feq hc14_1).2) (by decide) (by decide) ?_
      exact k
    obtain ⟨fs, hr, hrun, hended, hW, hsame⟩ := X3.leave (v := none) (fun _ => rfl)
    refine ⟨_, _, ?_, hrun, hended, _, _, rfl, ?_, ⟨_, rfl⟩, hW, hsame.mono (by decide) (by decide)⟩
    · exact X3.returnOut hx Bd.returns (hb hby d8_43) hr
    · show Q8 Z a1 p2 w_size_a1 w_words_a1 k_w_words_a1 f_w_words_a1 w_count_a1 h0 n0 _ T3.heap _
      rw [e3]
      exact ⟨rfl, NN, KK, (by rw [← ((by first | (simp only [u_8_w_words_a1_fn, if_neg hc14_1]; done) | (simp only [u_8_w_words_a1_fn, if_neg hc14_1])) : f_w_words_a1 = u_8_w_words_a1_fn p2 w_size_a1 f_w_words_a1 w_count_a1)]; exact V_w_words_a1), E_a1, F_a1_size, F_a1_words, (by rw [← ((by first | (simp only [u_8_a1_count, if_neg hc14_1]; done) | (simp only [u_8_a1_count, if_neg hc14_1])) : w_count_a1 = u_8_a1_count p2 w_size_a1 f_w_words_a1 w_count_a1)]; exact F_a1_count)⟩
theorem d2_0 : decode prog_3_method_2_code 0 = .ok (.aload_n 0, 1) := by decide +kernel
theorem d2_1 : decode prog_3_method_2_code 1 = .ok (.invokespecial 10, 3) := by decide +kernel
theorem d2_4 : decode prog_3_method_2_code 4 = .ok (.aload_n 0, 1) := by decide +kernel
theorem d2_5 : decode prog_3_method_2_code 5 = .ok (.aload_n 1, 1) := by decide +kernel
theorem d2_6 : decode prog_3_method_2_code 6 = .ok (.putfield 15, 3) := by decide +kernel
theorem d2_9 : decode prog_3_method_2_code 9 = .ok (.aload_n 0, 1) := by decide +kernel
theorem d2_10 : decode prog_3_method_2_code 10 = .ok (.iload_n 2, 1) := by decide +kernel
theorem d2_11 : decode prog_3_method_2_code 11 = .ok (.putfield 19, 3) := by decide +kernel
theorem d2_14 : decode prog_3_method_2_code 14 = .ok (.aload_n 0, 1) := by decide +kernel
theorem d2_15 : decode prog_3_method_2_code 15 = .ok (.iload_n 3, 1) := by decide +kernel
theorem d2_16 : decode prog_3_method_2_code 16 = .ok (.putfield 23, 3) := by decide +kernel
theorem d2_19 : decode prog_3_method_2_code 19 = .ok (.return_, 1) := by decide +kernel
theorem ef_2 (m : MethodId) (a1 : Addr) (a2 : Addr) (p3 : Int32) (p4 : Int32) : entryFrame m #[(.ref a1), (.ref a2), (.int p3), (.int p4)] 4 = mkF m 0 #[.val (.ref a1), .val (.ref a2), .val (.int p3), .val (.int p4)] [] := by first | (simp [entryFrame, mkF, argsToLocals, Value.category]; done) | rfl
def Q2 (Z : State) (a1 : Addr) (a2 : Addr) (p3 : Int32) (p4 : Int32) (u_words_a1 : Value) (u_size_a1 : Value) (u_count_a1 : Value) (h0 : Heap) (n0 : Nat) (v : Option Value) (h : Heap) (L : List Loc) : Prop := v = none ∧ Fr n0 L ∧ Keep h0 h [a1] ∧ Exa Z h a1 "com/example/capd/capd/status/Bitstring" ∧ Fld Z h a1 "com/example/capd/capd/status/Bitstring" "words" "[J" (.ref a2) ∧ Fld Z h a1 "com/example/capd/capd/status/Bitstring" "size" "I" (.int p3) ∧ Fld Z h a1 "com/example/capd/capd/status/Bitstring" "count" "I" (.int p4)
set_option maxRecDepth 65536 in
set_option maxHeartbeats 40000000 in
theorem rm2 (l : Launch) (Z : State) (a0 : Array Value) (hw : ∀ d ∈ tables_1, d.before a0 Z = true) (ws : List Jvm.Cond) (a1 : Addr) (a2 : Addr) (p3 : Int32) (p4 : Int32) (u_words_a1 : Value) (u_size_a1 : Value) (u_count_a1 : Value) (h0 : Heap) (n0 : Nat) (Z0 : n0 ≤ h0.size) (E_a1 : Exa Z h0 a1 "com/example/capd/capd/status/Bitstring") (F_a1_words : Fld Z h0 a1 "com/example/capd/capd/status/Bitstring" "words" "[J" u_words_a1) (g_a1 : n0 ≤ a1) (F_a1_size : Fld Z h0 a1 "com/example/capd/capd/status/Bitstring" "size" "I" u_size_a1) (F_a1_count : Fld Z h0 a1 "com/example/capd/capd/status/Bitstring" "count" "I" u_count_a1) :
    MetFree l (⟨"com/example/capd/capd/status/Bitstring", "<init>", "([JII)V"⟩ : MethodName) (head1 (Jvm.Cond.code (⟨"com/example/capd/capd/status/Bitstring", "<init>", "([JII)V"⟩ : MethodName) prog_3_method_2_code 4 none :: ws) ({ frames := 1, cells := 0, slots := 0, locals := 12 } : Room)) (fun a U => a = #[(.ref a1), (.ref a2), (.int p3), (.int p4)] ∧ Z.Warmed39 U.vm ∧ U.heap = h0) (fun _ _ _ _ _ => True) (fun _ U o U' => ∃ v L, o = .returned v ∧ Q2 Z a1 a2 p3 p4 u_words_a1 u_size_a1 u_count_a1 h0 n0 v U'.heap L ∧ FrameEnd U o U' L ({ frames := 1, cells := 0, slots := 0, locals := 12 } : Room).cells ({ frames := 1, cells := 0, slots := 0, locals := 12 } : Room).slots) := by
  refine MetFree.of_bodySF (plainFor_of_name pn_0) hisR ?_
  intro p e s m args below meth c s₁ Bd hml0 hP hK
  obtain ⟨rfl, hZ, hh⟩ := hP
  have hx := Bd.exec
  have hby := Bd.bytes
  have hml : c.maxLocals = 4 := hml0
  have hown : s.vm.findClass "com/example/capd/capd/status/Bitstring" = some m.cls := findClass_of_methodNamed Bd.named
  have hnm := (name_of_methodNamed Bd.named Bd.method).1
  have X0 : Stand p l e ({ frames := 1, cells := 0, slots := 0, locals := 12 } : Room) s m #[(.ref a1), (.ref a2), (.int p3), (.int p4)] below meth c s₁ [] 0 0 := Stand.of_body Bd
  have e0 : s₁.heap = h0 := by rw [← hh, Bd.state]; rfl
  have NN := Fr.nil n0
  have KK : Keep h0 h0 [a1] := Keep.refl h0 [a1]
  refine own_start (ef_2 m a1 a2 p3 p4) ?_
  refine own_go (T' := s₁) (g' := (mkF m 1 #[.val (.ref a1), .val (.ref a2), .val (.int p3), .val (.int p4)] [(.ref a1)])) (fun t k => ?_) ?_
  · show Steps p.tables e below (s₁.setTop (mkF m 0 #[.val (.ref a1), .val (.ref a2), .val (.int p3), .val (.int p4)] [])) _
    refine XS.aloadN X0.here hx rfl (hb hby d2_0) rfl rfl ?_
    exact k
  obtain ⟨T1, X1, e1, st1⟩ := initO X0 hx hZ hown (hw _ (List.mem_of_getElem? (i := 13) rfl)) (hw _ (List.mem_of_getElem? (i := 14) rfl)) (hw _ (List.mem_of_getElem? (i := 15) rfl)) e0 (g := (mkF m 1 #[.val (.ref a1), .val (.ref a2), .val (.int p3), .val (.int p4)] [(.ref a1)])) rfl (by rw [hml]; rfl) rfl (hb hby d2_1) (by decide) (W := 0) (by show 2 * 0 + _ ≤ _; exact Nat.le_of_eq rfl) (by decide)
  refine own_go st1 ?_
  show own_Go p.tables e below _ T1 (mkF m 4 #[.val (.ref a1), .val (.ref a2), .val (.int p3), .val (.int p4)] [])
  refine own_go (T' := T1) (g' := (mkF m 6 #[.val (.ref a1), .val (.ref a2), .val (.int p3), .val (.int p4)] [(.ref a2), (.ref a1)])) (fun t k => ?_) ?_
  · show Steps p.tables e below (T1.setTop (mkF m 4 #[.val (.ref a1), .val (.ref a2), .val (.int p3), .val (.int p4)] [])) _
    refine XS.aloadN X1.here hx rfl (hb hby d2_4) rfl rfl ?_
    show Steps p.tables e below (T1.setTop (mkF m 5 #[.val (.ref a1), .val (.ref a2), .val (.int p3), .val (.int p4)] [(.ref a1)])) _
    refine XS.aloadN X1.here hx rfl (hb hby d2_5) rfl rfl ?_
    exact k
  obtain ⟨T2, h2, X2, e2, W2, st2⟩ := putF X1 hx hZ hown (host := "") (Or.inl (hw _ (List.mem_of_getElem? (i := 16) rfl))) Via.refl e1 F_a1_words E_a1 (Or.inr ⟨(hw _ (List.mem_of_getElem? (i := 17) rfl)), rfl, hnm⟩) (hw _ (List.mem_of_getElem? (i := 3) rfl)) (ty := (.array .long)) (by decide) rfl rfl (g := (mkF m 6 #[.val (.ref a1), .val (.ref a2), .val (.int p3), .val (.int p4)] [(.ref a2), (.ref a1)])) rfl rfl (hb hby d2_6)
  refine own_go st2 ?_
  have E_a1 := E_a1.wr W2
  have F_a1_words := F_a1_words.same W2
  have F_a1_size := F_a1_size.other W2 (Or.inr (slot_ne (Or.inr (hw _ (List.mem_of_getElem? (i := 19) rfl))) (Or.inr (hw _ (List.mem_of_getElem? (i := 17) rfl))) (by decide) (t := .int) (t' := (.array .long)) (by decide) (by decide)))
  have F_a1_count := F_a1_count.other W2 (Or.inr (slot_ne (Or.inl (hw _ (List.mem_of_getElem? (i := 21) rfl))) (Or.inr (hw _ (List.mem_of_getElem? (i := 17) rfl))) (by decide) (t := .int) (t' := (.array .long)) (by decide) (by decide)))
  have Z0 := Nat.le_trans Z0 (Keep.of_wr W2).1
  have KK := KK.wr W2 (Or.inl (List.mem_of_getElem? (i := 0) rfl))
  have NN := Fr.snoc X2 NN g_a1
  show own_Go p.tables e below _ T2 (mkF m 9 #[.val (.ref a1), .val (.ref a2), .val (.int p3), .val (.int p4)] [])
  refine own_go (T' := T2) (g' := (mkF m 11 #[.val (.ref a1), .val (.ref a2), .val (.int p3), .val (.int p4)] [(.int p3), (.ref a1)])) (fun t k => ?_) ?_
  · show Steps p.tables e below (T2.setTop (mkF m 9 #[.val (.ref a1), .val (.ref a2), .val (.int p3), .val (.int p4)] [])) _
    refine XS.aloadN X2.here hx rfl (hb hby d2_9) rfl rfl ?_
    show Steps p.tables e below (T2.setTop (mkF m 10 #[.val (.ref a1), .val (.ref a2), .val (.int p3), .val (.int p4)] [(.ref a1)])) _
    refine XS.iloadN X2.here hx rfl (hb hby d2_10) rfl ?_
    exact k
  obtain ⟨T3, h3, X3, e3, W3, st3⟩ := putF X2 hx hZ hown (host := "") (Or.inl (hw _ (List.mem_of_getElem? (i := 18) rfl))) Via.refl e2 F_a1_size E_a1 (Or.inr ⟨(hw _ (List.mem_of_getElem? (i := 19) rfl)), rfl, hnm⟩) (hw _ (List.mem_of_getElem? (i := 3) rfl)) (ty := .int) (by decide) rfl rfl (g := (mkF m 11 #[.val (.ref a1), .val (.ref a2), .val (.int p3), .val (.int p4)] [(.int p3), (.ref a1)])) rfl rfl (hb hby d2_11)
  refine own_go st3 ?_
  have E_a1 := E_a1.wr W3
  have F_a1_words := F_a1_words.other W3 (Or.inr (slot_ne (Or.inr (hw _ (List.mem_of_getElem? (i := 17) rfl))) (Or.inr (hw _ (List.mem_of_getElem? (i := 19) rfl))) (by decide) (t := (.array .long)) (t' := .int) (by decide) (by decide)))
  have F_a1_size := F_a1_size.same W3
  have F_a1_count := F_a1_count.other W3 (Or.inr (slot_ne (Or.inl (hw _ (List.mem_of_getElem? (i := 21) rfl))) (Or.inr (hw _ (List.mem_of_getElem? (i := 19) rfl))) (by decide) (t := .int) (t' := .int) (by decide) (by decide)))
  have Z0 := Nat.le_trans Z0 (Keep.of_wr W3).1
  have KK := KK.wr W3 (Or.inl (List.mem_of_getElem? (i := 0) rfl))
  have NN := Fr.snoc X3 NN g_a1
  show own_Go p.tables e below _ T3 (mkF m 14 #[.val (.ref a1), .val (.ref a2), .val (.int p3), .val (.int p4)] [])
  refine own_go (T' := T3) (g' := (mkF m 16 #[.val (.ref a1), .val (.ref a2), .val (.int p3), .val (.int p4)] [(.int p4), (.ref a1)])) (fun t k => ?_) ?_
  · show Steps p.tables e below (T3.setTop (mkF m 14 #[.val (.ref a1), .val (.ref a2), .val (.int p3), .val (.int p4)] [])) _
    refine XS.aloadN X3.here hx rfl (hb hby d2_14) rfl rfl ?_
    show Steps p.tables e below (T3.setTop (mkF m 15 #[.val (.ref a1), .val (.ref a2), .val (.int p3), .val (.int p4)] [(.ref a1)])) _
    refine XS.iloadN X3.here hx rfl (hb hby d2_15) rfl ?_
    exact k
  obtain ⟨T4, h4, X4, e4, W4, st4⟩ := putF X3 hx hZ hown (host := "") (Or.inl (hw _ (List.mem_of_getElem? (i := 20) rfl))) Via.refl e3 F_a1_count E_a1 (Or.inl (hw _ (List.mem_of_getElem? (i := 21) rfl))) (hw _ (List.mem_of_getElem? (i := 3) rfl)) (ty := .int) (by decide) rfl rfl (g := (mkF m 16 #[.val (.ref a1), .val (.ref a2), .val (.int p3), .val (.int p4)] [(.int p4), (.ref a1)])) rfl rfl (hb hby d2_16)
  refine own_go st4 ?_
  have E_a1 := E_a1.wr W4
  have F_a1_words := F_a1_words.other W4 (Or.inr (slot_ne (Or.inr (hw _ (List.mem_of_getElem? (i := 17) rfl))) (Or.inl (hw _ (List.mem_of_getElem? (i := 21) rfl))) (by decide) (t := (.array .long)) (t' := .int) (by decide) (by decide)))
  have F_a1_size := F_a1_size.other W4 (Or.inr (slot_ne (Or.inr (hw _ (List.mem_of_getElem? (i := 19) rfl))) (Or.inl (hw _ (List.mem_of_getElem? (i := 21) rfl))) (by decide) (t := .int) (t' := .int) (by decide) (by decide)))
  have F_a1_count := F_a1_count.same W4
  have Z0 := Nat.le_trans Z0 (Keep.of_wr W4).1
  have KK := KK.wr W4 (Or.inl (List.mem_of_getElem? (i := 0) rfl))
  have NN := Fr.snoc X4 NN g_a1
  show own_Go p.tables e below _ T4 (mkF m 19 #[.val (.ref a1), .val (.ref a2), .val (.int p3), .val (.int p4)] [])
  obtain ⟨fs, hr, hrun, hended, hW, hsame⟩ := X4.leave (v := none) (fun _ => rfl)
  refine ⟨_, _, ?_, hrun, hended, _, _, rfl, ?_, ⟨_, rfl⟩, hW, hsame.mono (by decide) (by decide)⟩
  · exact X4.returnOut hx Bd.returns (hb hby d2_19) hr
  · show Q2 Z a1 a2 p3 p4 u_words_a1 u_size_a1 u_count_a1 h0 n0 _ T4.heap _
    rw [e4]
    exact ⟨rfl, NN, KK, E_a1, F_a1_words, F_a1_size, F_a1_count⟩
theorem d1_0 : decode prog_3_method_1_code 0 = .ok (.aload_n 0, 1) := by decide +kernel
theorem d1_1 : decode prog_3_method_1_code 1 = .ok (.sipush 2048, 3) := by decide +kernel
theorem d1_4 : decode prog_3_method_1_code 4 = .ok (.newarray .long, 2) := by decide +kernel
theorem d1_6 : decode prog_3_method_1_code 6 = .ok (.ldc 5, 2) := by decide +kernel
theorem d1_8 : decode prog_3_method_1_code 8 = .ok (.iconst 0, 1) := by decide +kernel
theorem d1_9 : decode prog_3_method_1_code 9 = .ok (.invokespecial 6, 3) := by decide +kernel
theorem d1_12 : decode prog_3_method_1_code 12 = .ok (.return_, 1) := by decide +kernel
theorem pd_1 : parseMethodDescriptor "([JII)V" = some ⟨[(.array .long), .int, .int], none⟩ := by decide +kernel
theorem ef_1 (m : MethodId) (a1 : Addr) : entryFrame m #[(.ref a1)] 1 = mkF m 0 #[.val (.ref a1)] [] := by first | (simp [entryFrame, mkF, argsToLocals, Value.category]; done) | rfl
def Q1 (Z : State) (a1 : Addr) (u_words_a1 : Value) (u_size_a1 : Value) (u_count_a1 : Value) (h0 : Heap) (n0 : Nat) (v : Option Value) (h : Heap) (L : List Loc) : Prop := ∃ (b1 : Addr), ∃ (k1 : ClassId), v = none ∧ Fr n0 L ∧ Keep h0 h [a1] ∧ Exa Z h a1 "com/example/capd/capd/status/Bitstring" ∧ Fld Z h a1 "com/example/capd/capd/status/Bitstring" "words" "[J" (.ref b1) ∧ Fld Z h a1 "com/example/capd/capd/status/Bitstring" "size" "I" (.int (131072 : Int32)) ∧ Fld Z h a1 "com/example/capd/capd/status/Bitstring" "count" "I" (.int (0 : Int32)) ∧ n0 ≤ b1 ∧ h0.size ≤ b1 ∧ Arv Z h b1 k1 .long (2048 : Int32) (own_ls (fun _ => 0)) (.long (0 : Int64))
set_option maxRecDepth 65536 in
set_option maxHeartbeats 40000000 in
theorem rm1 (l : Launch) (Z : State) (a0 : Array Value) (hw : ∀ d ∈ tables_1, d.before a0 Z = true) (ws : List Jvm.Cond) (a1 : Addr) (u_words_a1 : Value) (u_size_a1 : Value) (u_count_a1 : Value) (h0 : Heap) (n0 : Nat) (Z0 : n0 ≤ h0.size) (E_a1 : Exa Z h0 a1 "com/example/capd/capd/status/Bitstring") (F_a1_words : Fld Z h0 a1 "com/example/capd/capd/status/Bitstring" "words" "[J" u_words_a1) (g_a1 : n0 ≤ a1) (F_a1_size : Fld Z h0 a1 "com/example/capd/capd/status/Bitstring" "size" "I" u_size_a1) (F_a1_count : Fld Z h0 a1 "com/example/capd/capd/status/Bitstring" "count" "I" u_count_a1) :
    MetFree l (⟨"com/example/capd/capd/status/Bitstring", "<init>", "()V"⟩ : MethodName) (head1 (Jvm.Cond.code (⟨"com/example/capd/capd/status/Bitstring", "<init>", "()V"⟩ : MethodName) prog_3_method_1_code 1 none :: ws) ({ frames := 2, cells := 1, slots := 2048, locals := 27 } : Room)) (fun a U => a = #[(.ref a1)] ∧ Z.Warmed39 U.vm ∧ U.heap = h0) (fun _ _ _ _ _ => True) (fun _ U o U' => ∃ v L, o = .returned v ∧ Q1 Z a1 u_words_a1 u_size_a1 u_count_a1 h0 n0 v U'.heap L ∧ FrameEnd U o U' L ({ frames := 2, cells := 1, slots := 2048, locals := 27 } : Room).cells ({ frames := 2, cells := 1, slots := 2048, locals := 27 } : Room).slots) := by
  refine MetFree.of_bodySF (plainFor_of_name pn_0) hisR ?_
  intro p e s m args below meth c s₁ Bd hml0 hP hK
  obtain ⟨rfl, hZ, hh⟩ := hP
  have hx := Bd.exec
  have hby := Bd.bytes
  have hml : c.maxLocals = 1 := hml0
  have hown : s.vm.findClass "com/example/capd/capd/status/Bitstring" = some m.cls := findClass_of_methodNamed Bd.named
  have hnm := (name_of_methodNamed Bd.named Bd.method).1
  have X0 : Stand p l e ({ frames := 2, cells := 1, slots := 2048, locals := 27 } : Room) s m #[(.ref a1)] below meth c s₁ [] 0 0 := Stand.of_body Bd
  have e0 : s₁.heap = h0 := by rw [← hh, Bd.state]; rfl
  have NN := Fr.nil n0
  have KK : Keep h0 h0 [a1] := Keep.refl h0 [a1]
  refine own_start (ef_1 m a1) ?_
  refine own_go (T' := s₁) (g' := (mkF m 4 #[.val (.ref a1)] [(.int (2048 : Int32)), (.ref a1)])) (fun t k => ?_) ?_
  · show Steps p.tables e below (s₁.setTop (mkF m 0 #[.val (.ref a1)] [])) _
    refine XS.aloadN X0.here hx rfl (hb hby d1_0) rfl rfl ?_
    show Steps p.tables e below (s₁.setTop (mkF m 1 #[.val (.ref a1)] [(.ref a1)])) _
    refine XS.sipush X0.here hx rfl (hb hby d1_1) ?_
    exact k
  obtain ⟨T1, h1, k1, X1, e1, E1, A1, st1⟩ := newP X0 hx hZ (hw _ (List.mem_of_getElem? (i := 8) rfl)) e0 (g := (mkF m 4 #[.val (.ref a1)] [(.int (2048 : Int32)), (.ref a1)])) rfl (hb hby d1_4) rfl (by decide) (cap := 2048) (by decide) (by decide) (by decide) (by decide)
  obtain ⟨b1, g1⟩ : ∃ z, z = h0.size := ⟨_, rfl⟩
  rw [← g1] at A1 st1
  have g_b1 : n0 ≤ b1 := Nat.le_trans Z0 (Nat.le_of_eq g1.symm)
  have sz_b1 : h0.size ≤ b1 := Nat.le_trans KK.1 (Nat.le_of_eq g1.symm)
  have ne_a1_b1 : a1 ≠ b1 := Nat.ne_of_lt (Nat.lt_of_lt_of_le E_a1.lt (Nat.le_of_eq g1.symm))
  have E_a1 := E_a1.ext E1
  have F_a1_words := F_a1_words.ext E1
  have F_a1_size := F_a1_size.ext E1
  have F_a1_count := F_a1_count.ext E1
  have Z0 := Nat.le_trans Z0 E1.1
  have KK := KK.ext E1
  have V_b1 : Arv Z h1 b1 k1 .long (2048 : Int32) (own_ls (fun _ => 0)) (.long (0 : Int64)) := (Arv.new A1 (by decide)).pad (own_ls_pad)
  refine own_go st1 ?_
  show own_Go p.tables e below _ T1 (mkF m 6 #[.val (.ref a1)] [(.ref b1), (.ref a1)])
  refine own_go (T' := T1) (g' := (mkF m 9 #[.val (.ref a1)] [(.int (0 : Int32)), (.int (131072 : Int32)), (.ref b1), (.ref a1)])) (fun t k => ?_) ?_
  · show Steps p.tables e below (T1.setTop (mkF m 6 #[.val (.ref a1)] [(.ref b1), (.ref a1)])) _
    refine X1.ldcInt hx hown (mvT hZ (hw _ (List.mem_of_getElem? (i := 9) rfl))) (g := (mkF m 6 #[.val (.ref a1)] [(.ref b1), (.ref a1)])) rfl (hb hby d1_6) _ ?_
    show Steps p.tables e below (T1.setTop (mkF m 8 #[.val (.ref a1)] [(.int (131072 : Int32)), (.ref b1), (.ref a1)])) _
    refine XS.iconst X1.here hx rfl (hb hby d1_8) ?_
    exact k
  obtain ⟨_, _, ⟨T2, L2, k2, n2⟩, -, X2, ⟨Lc2, hQ2, l2, y2, z2⟩, st2⟩ := X1.specialBack hx (y := (⟨"com/example/capd/capd/status/Bitstring", "<init>", "([JII)V"⟩ : MethodName)) rfl hown (mvT hZ (hw _ (List.mem_of_getElem? (i := 10) rfl))) (mvT hZ (hw _ (List.mem_of_getElem? (i := 11) rfl))) (mvT hZ (hw _ (List.mem_of_getElem? (i := 12) rfl))) (by decide) (backOf (W := 0) (rm2 l Z a0 hw [] a1 b1 (131072 : Int32) (0 : Int32) u_words_a1 u_size_a1 u_count_a1 h1 n0 Z0 E_a1 F_a1_words g_a1 F_a1_size F_a1_count) hZ (hw _ (List.mem_of_getElem? (i := 12) rfl)) (hw _ (List.mem_of_getElem? (i := 4) rfl)) (by decide) (by decide)) (g := (mkF m 9 #[.val (.ref a1)] [(.int (0 : Int32)), (.int (131072 : Int32)), (.ref b1), (.ref a1)])) rfl (by rw [hml]; rfl) (Steps.refl _) (a := a1) (argsL := [(.ref b1), (.int (131072 : Int32)), (.int (0 : Int32))]) (rest := []) (lenOf pd_1 rfl) rfl (by show 2 * 0 + _ ≤ _; exact Nat.le_of_eq rfl) (hb hby d1_9) (fun _ _ => ⟨rfl, e1, (by decide : 1 + 0 ≤ _), (by decide : 2048 + 0 ≤ _)⟩)
  dsimp only [Pt.U, Pt.locs, Pt.cells, Pt.slots] at X2 l2 y2 z2 st2 hQ2
  subst l2 y2 z2
  obtain ⟨rfl, N2q, K2, Q2_0, Q2_1, Q2_2, Q2_3⟩ := hQ2
  have V_b1 := V_b1.keep K2 (ninS (Ne.symm ne_a1_b1) nin0)
  have E_a1 := Q2_0
  have F_a1_words := Q2_1
  have F_a1_size := Q2_2
  have F_a1_count := Q2_3
  have Z0 := Nat.le_trans Z0 K2.1
  have KK := KK.trans K2 (allS (Or.inl (List.mem_of_getElem? (i := 0) rfl)) all0)
  have NN := Fr.app NN N2q
  refine own_go (fun t k => st2.trans k) ?_
  show own_Go p.tables e below _ T2 (mkF m 12 #[.val (.ref a1)] [])
  obtain ⟨fs, hr, hrun, hended, hW, hsame⟩ := X2.leave (v := none) (fun _ => rfl)
  refine ⟨_, _, ?_, hrun, hended, _, _, rfl, ?_, ⟨_, rfl⟩, hW, hsame.mono (by decide) (by decide)⟩
  · exact X2.returnOut hx Bd.returns (hb hby d1_12) hr
  · show Q1 Z a1 u_words_a1 u_size_a1 u_count_a1 h0 n0 _ T2.heap _
    exact ⟨b1, k1, rfl, NN, KK, E_a1, F_a1_words, F_a1_size, F_a1_count, g_b1, sz_b1, V_b1⟩
def own_pl_m (n : Nat) : Int64 := (((-9223372036854775808 : Int64).toUInt64 >>> ((Int32.ofNat n) &&& 0x3f).toInt64.toUInt64).toInt64)
set_option maxRecDepth 65536 in
theorem own_pl_mm : ∀ a b : Fin 64, (own_pl_m a.val &&& own_pl_m b.val) = if a = b then own_pl_m a.val else 0 := by decide +kernel
set_option maxRecDepth 65536 in
theorem own_pl_mz : ∀ a : Fin 64, ¬ own_pl_m a.val = 0 := by decide +kernel
theorem own_pl_or (a b c : Int64) : (a ||| b) &&& c = (a &&& c) ||| (b &&& c) := by
  apply Int64.toBitVec_inj.mp
  apply BitVec.eq_of_getLsbD_eq
  intro i hi
  simp only [Int64.toBitVec_and, Int64.toBitVec_or, BitVec.getLsbD_and, BitVec.getLsbD_or]
  cases a.toBitVec.getLsbD i <;> cases b.toBitVec.getLsbD i <;> cases c.toBitVec.getLsbD i <;> rfl
theorem own_pl_or0 (a : Int64) : a ||| 0 = a := by
  apply Int64.toBitVec_inj.mp
  rw [Int64.toBitVec_or]
  exact BitVec.or_zero
theorem own_pl_ornz (a b : Int64) (h : ¬ b = 0) : ¬ (a &&& b) ||| b = 0 := by
  intro q
  apply h
  apply Int64.toBitVec_inj.mp
  apply BitVec.eq_of_getLsbD_eq
  intro i hi
  have z := congrArg (fun t => (Int64.toBitVec t).getLsbD i) q
  simp only [Int64.toBitVec_and, Int64.toBitVec_or, BitVec.getLsbD_and, BitVec.getLsbD_or] at z
  rw [← z]
  cases a.toBitVec.getLsbD i <;> cases b.toBitVec.getLsbD i <;> rfl
theorem own_pl_ix (i : Int32) (h0 : ¬ (i < (0 : Int32))) (h1 : i < (131072 : Int32)) : 0 ≤ i.toInt ∧ i.toInt < 131072 ∧ (i / (64 : Int32)).toNatClampNeg = (i.toInt / 64).toNat ∧ r_7 i = own_pl_m (i.toInt % 64).toNat ∧ (i / (64 : Int32)).toInt = i.toInt / 64 := by
  rw [Int32.lt_iff_toInt_lt] at h0 h1
  have k0 : (0 : Int32).toInt = 0 := rfl
  have k1 : (131072 : Int32).toInt = 131072 := rfl
  have d := (c_idiv i (64 : Int32) 64 rfl (by decide)).1 (by omega)
  have m := (c_irem i (64 : Int32) 64 rfl).1 (by omega)
  refine ⟨by omega, by omega, ?_, ?_, d⟩
  · show (i / (64 : Int32)).toInt.toNat = _
    rw [d]
  · have e : i % (64 : Int32) = Int32.ofNat (i.toInt % 64).toNat := by
      apply Int32.toInt_inj.mp
      rw [m, Int32.toInt_ofNat_of_lt (by omega)]
      omega
    simp only [r_7, own_pl_m, e]
theorem own_pl_q (i : Int32) (h0 : ¬ (i < (0 : Int32))) (h1 : i < (131072 : Int32)) : ¬ ((i / (64 : Int32)) < (0 : Int32)) ∧ (i / (64 : Int32)) < (2048 : Int32) := by
  have x := own_pl_ix i h0 h1
  have k0 : (0 : Int32).toInt = 0 := rfl
  have k1 : (2048 : Int32).toInt = 2048 := rfl
  rw [Int32.lt_iff_toInt_lt, Int32.lt_iff_toInt_lt]
  omega
theorem own_pl_g (k s : Int32) (w : Nat → Int64) : r_4 k s w = if ((w ((k / (64 : Int32))).toNatClampNeg) &&& (r_7 k)) = (0 : Int64) then (0 : Int32) else (1 : Int32) := by
  simp only [r_4]
  by_cases h : ((w ((k / (64 : Int32))).toNatClampNeg) &&& (r_7 k)) = (0 : Int64)
  · simp only [if_pos h]; rfl
  · simp only [if_neg h]; rfl
theorem own_pl_gz (k s : Int32) : r_4 k s (fun _ => 0) = 0 := by
  rw [own_pl_g, if_pos]
  exact Int64.zero_and
theorem own_pl_gs (k i s c : Int32) (w : Nat → Int64) (k0 : ¬ (k < (0 : Int32))) (k1 : k < (131072 : Int32)) (i0 : ¬ (i < (0 : Int32))) (i1 : i < (131072 : Int32)) : r_4 k s (u_8_w_words_a1_fn i s w c) = if k = i then 1 else r_4 k s w := by
  obtain ⟨ka, kb, kd, km, -⟩ := own_pl_ix k k0 k1
  obtain ⟨ia, ib, id, im, -⟩ := own_pl_ix i i0 i1
  simp only [u_8_w_words_a1_fn]
  by_cases u : r_4 i s w = (0 : Int32)
  · rw [if_pos u]
    by_cases e : k = i
    · rw [if_pos e, e, own_pl_g, if_neg]
      simp only [own_up, if_pos]
      rw [own_pl_or, im, own_pl_mm ⟨(i.toInt % 64).toNat, by omega⟩ ⟨(i.toInt % 64).toNat, by omega⟩, if_pos rfl]
      exact own_pl_ornz _ _ (own_pl_mz ⟨(i.toInt % 64).toNat, by omega⟩)
    · rw [if_neg e, own_pl_g, own_pl_g]
      by_cases f : (k / (64 : Int32)).toNatClampNeg = (i / (64 : Int32)).toNatClampNeg
      · simp only [own_up, if_pos f]
        have ne : ¬ ((⟨(i.toInt % 64).toNat, by omega⟩ : Fin 64) = ⟨(k.toInt % 64).toNat, by omega⟩) := by
          intro q
          have q' := congrArg Fin.val q
          simp only at q'
          apply e
          apply Int32.toInt_inj.mp
          rw [kd, id] at f
          omega
        rw [own_pl_or, im, km, own_pl_mm ⟨(i.toInt % 64).toNat, by omega⟩ ⟨(k.toInt % 64).toNat, by omega⟩, if_neg ne, own_pl_or0, f]
      · simp only [own_up, if_neg f]
  · rw [if_neg u]
    by_cases e : k = i
    · rw [if_pos e, e]
      rw [own_pl_g] at u ⊢
      by_cases z : ((w ((i / (64 : Int32))).toNatClampNeg) &&& (r_7 i)) = (0 : Int64)
      · exact absurd (if_pos z) u
      · exact if_neg z
    · rw [if_neg e]
theorem own_pl_mask (x y : Int32) (h : y = (x &&& (131071 : Int32))) : ¬ (y < (0 : Int32)) ∧ y < (131072 : Int32) := by
  have m := c_mask x (131071 : Int32) 17 (by decide) (by decide)
  rw [← h] at m
  have k0 : (0 : Int32).toInt = 0 := rfl
  have k4 : (131072 : Int32).toInt = 131072 := rfl
  simp only [Int32.lt_iff_toInt_lt]
  omega
theorem own_pl_modn (x y : Int32) (h : y = ((x &&& (2147483647 : Int32)) % (131072 : Int32))) : ¬ (y < (0 : Int32)) ∧ y < (131072 : Int32) := by
  have m := c_mask x (2147483647 : Int32) 31 (by decide) (by decide)
  have g := (c_irem (x &&& (2147483647 : Int32)) (131072 : Int32) 131072 rfl).1 (by omega)
  rw [← h] at g
  have k0 : (0 : Int32).toInt = 0 := rfl
  have k4 : (131072 : Int32).toInt = 131072 := rfl
  simp only [Int32.lt_iff_toInt_lt]
  omega
theorem own_pl_xor (x c : Int32) (h0 : ¬ (x < (0 : Int32))) (h1 : x < (131072 : Int32)) (hc : c = 1 ∨ c = 63 ∨ c = 64) : ¬ ((x ^^^ c) < (0 : Int32)) ∧ (x ^^^ c) < (131072 : Int32) := by
  have a : x &&& (131071 : Int32) = x := by
    have m := c_mask x (131071 : Int32) 17 (by decide) (by decide)
    apply Int32.toInt_inj.mp
    rw [Int32.lt_iff_toInt_lt] at h0 h1
    have k0 : (0 : Int32).toInt = 0 := rfl
    have k4 : (131072 : Int32).toInt = 131072 := rfl
    omega
  have b : c &&& (131071 : Int32) = c := by rcases hc with rfl | rfl | rfl <;> rfl
  apply own_pl_mask (x ^^^ c)
  apply Int32.toBitVec_inj.mp
  apply BitVec.eq_of_getLsbD_eq
  intro i hi
  have a' := congrArg (fun t => (Int32.toBitVec t).getLsbD i) a
  have b' := congrArg (fun t => (Int32.toBitVec t).getLsbD i) b
  simp only [Int32.toBitVec_and, Int32.toBitVec_xor, BitVec.getLsbD_and, BitVec.getLsbD_xor] at a' b' ⊢
  revert a' b'
  cases x.toBitVec.getLsbD i <;> cases c.toBitVec.getLsbD i <;> cases (131071 : Int32).toBitVec.getLsbD i <;> intro a' b' <;> first | rfl | exact absurd a' (by decide) | exact absurd b' (by decide)
theorem own_pl_k (p3 j1 j2 j5 j6 : Int32) (r1 : ¬ (j1 < (0 : Int32)) ∧ j1 < (131072 : Int32)) (r2 : ¬ (j2 < (0 : Int32)) ∧ j2 < (131072 : Int32)) (hj6 : j6 = (if j5 = (0 : Int32) then j1 else (if j5 = (1 : Int32) then j2 else (if j5 = (2 : Int32) then (j1 ^^^ (1 : Int32)) else (if j5 = (3 : Int32) then (j1 ^^^ (63 : Int32)) else (if j5 = (4 : Int32) then (j1 ^^^ (64 : Int32)) else (if j5 = (5 : Int32) then ((131072 : Int32) - (1 : Int32)) else (if j5 = (6 : Int32) then (0 : Int32) else ((p3 &&& (2147483647 : Int32)) % (131072 : Int32)))))))))) : ¬ (j6 < (0 : Int32)) ∧ j6 < (131072 : Int32) := by
  rw [hj6]
  by_cases c0 : j5 = (0 : Int32)
  · rw [if_pos c0]; exact r1
  rw [if_neg c0]
  by_cases c1 : j5 = (1 : Int32)
  · rw [if_pos c1]; exact r2
  rw [if_neg c1]
  by_cases c2 : j5 = (2 : Int32)
  · rw [if_pos c2]; exact own_pl_xor _ _ r1.1 r1.2 (Or.inl rfl)
  rw [if_neg c2]
  by_cases c3 : j5 = (3 : Int32)
  · rw [if_pos c3]; exact own_pl_xor _ _ r1.1 r1.2 (Or.inr (Or.inl rfl))
  rw [if_neg c3]
  by_cases c4 : j5 = (4 : Int32)
  · rw [if_pos c4]; exact own_pl_xor _ _ r1.1 r1.2 (Or.inr (Or.inr rfl))
  rw [if_neg c4]
  by_cases c5 : j5 = (5 : Int32)
  · rw [if_pos c5]; decide
  rw [if_neg c5]
  by_cases c6 : j5 = (6 : Int32)
  · rw [if_pos c6]; decide
  rw [if_neg c6]
  exact own_pl_modn p3 _ rfl
theorem pn_3 : plainName "com/example/capd/capd/status/BitstringGetPinLaw" = true := by first | (simp [plainName, overriddenIn]; done) | decide +kernel
theorem pd_0 : parseMethodDescriptor "()V" = some ⟨[], none⟩ := by decide +kernel
theorem pd_6 : parseMethodDescriptor "(I)V" = some ⟨[.int], none⟩ := by decide +kernel
theorem ef_0 (m : MethodId) (p1 : Int32) (p2 : Int32) (p3 : Int32) (p4 : Int32) : entryFrame m #[(.int p1), (.int p2), (.int p3), (.int p4)] maxLocals = mkF m 0 #[.val (.int p1), .val (.int p2), .val (.int p3), .val (.int p4), .unset, .unset, .unset, .unset, .unset, .unset, .unset, .unset, .unset, .unset, .unset, .unset] [] := by first | (simp [entryFrame, mkF, argsToLocals, Value.category, maxLocals]; done) | rfl
def Q0 (Z : State) (p1 : Int32) (p2 : Int32) (p3 : Int32) (p4 : Int32) (h0 : Heap) (n0 : Nat) (v : Option Value) (h : Heap) (L : List Loc) : Prop := v = some (.int 1) ∧ Fr n0 L
theorem own_at_hhhhc1_3_5_164 (p1 : Int32) (p2 : Int32) (p3 : Int32) (p4 : Int32) (j1 : Int32) (j2 : Int32) (j5 : Int32) (j6 : Int32) (hj1 : j1 = ((p1 &&& (2147483647 : Int32)) % (131072 : Int32))) (hj2 : j2 = ((p2 &&& (2147483647 : Int32)) % (131072 : Int32))) (hj5 : j5 = (p4 &&& (7 : Int32))) (hj6 : j6 = (if j5 = (0 : Int32) then j1 else (if j5 = (1 : Int32) then j2 else (if j5 = (2 : Int32) then (j1 ^^^ (1 : Int32)) else (if j5 = (3 : Int32) then (j1 ^^^ (63 : Int32)) else (if j5 = (4 : Int32) then (j1 ^^^ (64 : Int32)) else (if j5 = (5 : Int32) then ((131072 : Int32) - (1 : Int32)) else (if j5 = (6 : Int32) then (0 : Int32) else ((p3 &&& (2147483647 : Int32)) % (131072 : Int32)))))))))) : ¬ (j6 < (0 : Int32)) := by
  exact (own_pl_k p3 j1 j2 j5 j6 (own_pl_modn _ _ hj1) (own_pl_modn _ _ hj2) hj6).1
theorem own_at_hhhhc6_3_5_164 (p1 : Int32) (p2 : Int32) (p3 : Int32) (p4 : Int32) (j1 : Int32) (j2 : Int32) (j5 : Int32) (j6 : Int32) (hj1 : j1 = ((p1 &&& (2147483647 : Int32)) % (131072 : Int32))) (hj2 : j2 = ((p2 &&& (2147483647 : Int32)) % (131072 : Int32))) (hj5 : j5 = (p4 &&& (7 : Int32))) (hj6 : j6 = (if j5 = (0 : Int32) then j1 else (if j5 = (1 : Int32) then j2 else (if j5 = (2 : Int32) then (j1 ^^^ (1 : Int32)) else (if j5 = (3 : Int32) then (j1 ^^^ (63 : Int32)) else (if j5 = (4 : Int32) then (j1 ^^^ (64 : Int32)) else (if j5 = (5 : Int32) then ((131072 : Int32) - (1 : Int32)) else (if j5 = (6 : Int32) then (0 : Int32) else ((p3 &&& (2147483647 : Int32)) % (131072 : Int32)))))))))) (hhhhc1_3_5_164 : ¬ (j6 < (0 : Int32))) : j6 < (131072 : Int32) := by
  exact (own_pl_k p3 j1 j2 j5 j6 (own_pl_modn _ _ hj1) (own_pl_modn _ _ hj2) hj6).2
theorem own_at_hhlo17_164 (p1 : Int32) (p2 : Int32) (p3 : Int32) (p4 : Int32) (j1 : Int32) (j2 : Int32) (j5 : Int32) (j6 : Int32) (hj1 : j1 = ((p1 &&& (2147483647 : Int32)) % (131072 : Int32))) (hj2 : j2 = ((p2 &&& (2147483647 : Int32)) % (131072 : Int32))) (hj5 : j5 = (p4 &&& (7 : Int32))) (hj6 : j6 = (if j5 = (0 : Int32) then j1 else (if j5 = (1 : Int32) then j2 else (if j5 = (2 : Int32) then (j1 ^^^ (1 : Int32)) else (if j5 = (3 : Int32) then (j1 ^^^ (63 : Int32)) else (if j5 = (4 : Int32) then (j1 ^^^ (64 : Int32)) else (if j5 = (5 : Int32) then ((131072 : Int32) - (1 : Int32)) else (if j5 = (6 : Int32) then (0 : Int32) else ((p3 &&& (2147483647 : Int32)) % (131072 : Int32)))))))))) (hhhhc1_3_5_164 : ¬ (j6 < (0 : Int32))) (hhhhc6_3_5_164 : j6 < (131072 : Int32)) : ¬ ((j6 / (64 : Int32)) < (0 : Int32)) := by
  exact (own_pl_q _ (own_pl_k p3 j1 j2 j5 j6 (own_pl_modn _ _ hj1) (own_pl_modn _ _ hj2) hj6).1 (own_pl_k p3 j1 j2 j5 j6 (own_pl_modn _ _ hj1) (own_pl_modn _ _ hj2) hj6).2).1
theorem own_at_hhhi17_164 (p1 : Int32) (p2 : Int32) (p3 : Int32) (p4 : Int32) (j1 : Int32) (j2 : Int32) (j5 : Int32) (j6 : Int32) (hj1 : j1 = ((p1 &&& (2147483647 : Int32)) % (131072 : Int32))) (hj2 : j2 = ((p2 &&& (2147483647 : Int32)) % (131072 : Int32))) (hj5 : j5 = (p4 &&& (7 : Int32))) (hj6 : j6 = (if j5 = (0 : Int32) then j1 else (if j5 = (1 : Int32) then j2 else (if j5 = (2 : Int32) then (j1 ^^^ (1 : Int32)) else (if j5 = (3 : Int32) then (j1 ^^^ (63 : Int32)) else (if j5 = (4 : Int32) then (j1 ^^^ (64 : Int32)) else (if j5 = (5 : Int32) then ((131072 : Int32) - (1 : Int32)) else (if j5 = (6 : Int32) then (0 : Int32) else ((p3 &&& (2147483647 : Int32)) % (131072 : Int32)))))))))) (hhhhc1_3_5_164 : ¬ (j6 < (0 : Int32))) (hhhhc6_3_5_164 : j6 < (131072 : Int32)) (hhlo17_164 : ¬ ((j6 / (64 : Int32)) < (0 : Int32))) : (j6 / (64 : Int32)) < (2048 : Int32) := by
  exact (own_pl_q _ (own_pl_k p3 j1 j2 j5 j6 (own_pl_modn _ _ hj1) (own_pl_modn _ _ hj2) hj6).1 (own_pl_k p3 j1 j2 j5 j6 (own_pl_modn _ _ hj1) (own_pl_modn _ _ hj2) hj6).2).2
theorem own_at_hhhhc1_3_5_173 (p1 : Int32) (p2 : Int32) (p3 : Int32) (p4 : Int32) (j1 : Int32) (j2 : Int32) (j5 : Int32) (j6 : Int32) (hj1 : j1 = ((p1 &&& (2147483647 : Int32)) % (131072 : Int32))) (hj2 : j2 = ((p2 &&& (2147483647 : Int32)) % (131072 : Int32))) (hj5 : j5 = (p4 &&& (7 : Int32))) (hj6 : j6 = (if j5 = (0 : Int32) then j1 else (if j5 = (1 : Int32) then j2 else (if j5 = (2 : Int32) then (j1 ^^^ (1 : Int32)) else (if j5 = (3 : Int32) then (j1 ^^^ (63 : Int32)) else (if j5 = (4 : Int32) then (j1 ^^^ (64 : Int32)) else (if j5 = (5 : Int32) then ((131072 : Int32) - (1 : Int32)) else (if j5 = (6 : Int32) then (0 : Int32) else ((p3 &&& (2147483647 : Int32)) % (131072 : Int32)))))))))) (hhhhc1_3_5_164 : ¬ (j6 < (0 : Int32))) (hhhhc6_3_5_164 : j6 < (131072 : Int32)) (hhlo17_164 : ¬ ((j6 / (64 : Int32)) < (0 : Int32))) (hhhi17_164 : (j6 / (64 : Int32)) < (2048 : Int32)) : ¬ (j1 < (0 : Int32)) := by
  exact (own_pl_modn _ _ hj1).1
theorem own_at_hhhhc6_3_5_173 (p1 : Int32) (p2 : Int32) (p3 : Int32) (p4 : Int32) (j1 : Int32) (j2 : Int32) (j5 : Int32) (j6 : Int32) (hj1 : j1 = ((p1 &&& (2147483647 : Int32)) % (131072 : Int32))) (hj2 : j2 = ((p2 &&& (2147483647 : Int32)) % (131072 : Int32))) (hj5 : j5 = (p4 &&& (7 : Int32))) (hj6 : j6 = (if j5 = (0 : Int32) then j1 else (if j5 = (1 : Int32) then j2 else (if j5 = (2 : Int32) then (j1 ^^^ (1 : Int32)) else (if j5 = (3 : Int32) then (j1 ^^^ (63 : Int32)) else (if j5 = (4 : Int32) then (j1 ^^^ (64 : Int32)) else (if j5 = (5 : Int32) then ((131072 : Int32) - (1 : Int32)) else (if j5 = (6 : Int32) then (0 : Int32) else ((p3 &&& (2147483647 : Int32)) % (131072 : Int32)))))))))) (hhhhc1_3_5_164 : ¬ (j6 < (0 : Int32))) (hhhhc6_3_5_164 : j6 < (131072 : Int32)) (hhlo17_164 : ¬ ((j6 / (64 : Int32)) < (0 : Int32))) (hhhi17_164 : (j6 / (64 : Int32)) < (2048 : Int32)) (hhhhc1_3_5_173 : ¬ (j1 < (0 : Int32))) : j1 < (131072 : Int32) := by
  exact (own_pl_modn _ _ hj1).2
theorem own_at_hhhlo17_11_173 (p1 : Int32) (p2 : Int32) (p3 : Int32) (p4 : Int32) (j1 : Int32) (j2 : Int32) (j5 : Int32) (j6 : Int32) (hj1 : j1 = ((p1 &&& (2147483647 : Int32)) % (131072 : Int32))) (hj2 : j2 = ((p2 &&& (2147483647 : Int32)) % (131072 : Int32))) (hj5 : j5 = (p4 &&& (7 : Int32))) (hj6 : j6 = (if j5 = (0 : Int32) then j1 else (if j5 = (1 : Int32) then j2 else (if j5 = (2 : Int32) then (j1 ^^^ (1 : Int32)) else (if j5 = (3 : Int32) then (j1 ^^^ (63 : Int32)) else (if j5 = (4 : Int32) then (j1 ^^^ (64 : Int32)) else (if j5 = (5 : Int32) then ((131072 : Int32) - (1 : Int32)) else (if j5 = (6 : Int32) then (0 : Int32) else ((p3 &&& (2147483647 : Int32)) % (131072 : Int32)))))))))) (hhhhc1_3_5_164 : ¬ (j6 < (0 : Int32))) (hhhhc6_3_5_164 : j6 < (131072 : Int32)) (hhlo17_164 : ¬ ((j6 / (64 : Int32)) < (0 : Int32))) (hhhi17_164 : (j6 / (64 : Int32)) < (2048 : Int32)) (hhhhc1_3_5_173 : ¬ (j1 < (0 : Int32))) (hhhhc6_3_5_173 : j1 < (131072 : Int32)) : ¬ ((j1 / (64 : Int32)) < (0 : Int32)) := by
  exact (own_pl_q _ (own_pl_modn _ _ hj1).1 (own_pl_modn _ _ hj1).2).1
theorem own_at_hhhhi17_11_173 (p1 : Int32) (p2 : Int32) (p3 : Int32) (p4 : Int32) (j1 : Int32) (j2 : Int32) (j5 : Int32) (j6 : Int32) (hj1 : j1 = ((p1 &&& (2147483647 : Int32)) % (131072 : Int32))) (hj2 : j2 = ((p2 &&& (2147483647 : Int32)) % (131072 : Int32))) (hj5 : j5 = (p4 &&& (7 : Int32))) (hj6 : j6 = (if j5 = (0 : Int32) then j1 else (if j5 = (1 : Int32) then j2 else (if j5 = (2 : Int32) then (j1 ^^^ (1 : Int32)) else (if j5 = (3 : Int32) then (j1 ^^^ (63 : Int32)) else (if j5 = (4 : Int32) then (j1 ^^^ (64 : Int32)) else (if j5 = (5 : Int32) then ((131072 : Int32) - (1 : Int32)) else (if j5 = (6 : Int32) then (0 : Int32) else ((p3 &&& (2147483647 : Int32)) % (131072 : Int32)))))))))) (hhhhc1_3_5_164 : ¬ (j6 < (0 : Int32))) (hhhhc6_3_5_164 : j6 < (131072 : Int32)) (hhlo17_164 : ¬ ((j6 / (64 : Int32)) < (0 : Int32))) (hhhi17_164 : (j6 / (64 : Int32)) < (2048 : Int32)) (hhhhc1_3_5_173 : ¬ (j1 < (0 : Int32))) (hhhhc6_3_5_173 : j1 < (131072 : Int32)) (hhhlo17_11_173 : ¬ ((j1 / (64 : Int32)) < (0 : Int32))) : (j1 / (64 : Int32)) < (2048 : Int32) := by
  exact (own_pl_q _ (own_pl_modn _ _ hj1).1 (own_pl_modn _ _ hj1).2).2
theorem own_yes_t (p1 : Int32) (p2 : Int32) (p3 : Int32) (p4 : Int32) (j1 : Int32) (j2 : Int32) (j3 : Int32) (j5 : Int32) (j6 : Int32) (j11 : Int32) (j14 : Int32) (j15 : Int32) (j18 : Int32) (j19 : Int32) (hj1 : j1 = ((p1 &&& (2147483647 : Int32)) % (131072 : Int32))) (hj2 : j2 = ((p2 &&& (2147483647 : Int32)) % (131072 : Int32))) (hj3 : j3 = (if (p4 &&& (8 : Int32)) = (0 : Int32) then (0 : Int32) else (1 : Int32))) (hj5 : j5 = (p4 &&& (7 : Int32))) (hj6 : j6 = (if j5 = (0 : Int32) then j1 else (if j5 = (1 : Int32) then j2 else (if j5 = (2 : Int32) then (j1 ^^^ (1 : Int32)) else (if j5 = (3 : Int32) then (j1 ^^^ (63 : Int32)) else (if j5 = (4 : Int32) then (j1 ^^^ (64 : Int32)) else (if j5 = (5 : Int32) then ((131072 : Int32) - (1 : Int32)) else (if j5 = (6 : Int32) then (0 : Int32) else ((p3 &&& (2147483647 : Int32)) % (131072 : Int32)))))))))) (hj11 : j11 = (r_4 j6 (131072 : Int32) (fun _ => 0))) (hj14 : j14 = (r_4 j6 (131072 : Int32) (u_8_w_words_a1_fn j1 (131072 : Int32) (fun _ => 0) (0 : Int32)))) (hj15 : j15 = (if j6 = j1 then (1 : Int32) else (0 : Int32))) (hj18 : j18 = (r_4 j1 (131072 : Int32) (u_8_w_words_a1_fn j1 (131072 : Int32) (fun _ => 0) (0 : Int32)))) (hj19 : j19 = (if j11 = (0 : Int32) then (if j14 = j15 then (if j18 = (0 : Int32) then (0 : Int32) else (1 : Int32)) else (0 : Int32)) else (0 : Int32))) (hhhhc1_3_5_164 : ¬ (j6 < (0 : Int32))) (hhhhc6_3_5_164 : j6 < (131072 : Int32)) (hhlo17_164 : ¬ ((j6 / (64 : Int32)) < (0 : Int32))) (hhhi17_164 : (j6 / (64 : Int32)) < (2048 : Int32)) (hhhhc1_3_5_173 : ¬ (j1 < (0 : Int32))) (hhhhc6_3_5_173 : j1 < (131072 : Int32)) (hhhlo17_11_173 : ¬ ((j1 / (64 : Int32)) < (0 : Int32))) (hhhhi17_11_173 : (j1 / (64 : Int32)) < (2048 : Int32)) (hc178_9 : j3 = (0 : Int32)) : (nar .boolean j19) = 1 := by
  have rj1 := (own_pl_modn _ _ hj1)
  have rj2 := (own_pl_modn _ _ hj2)
  have rj6 := (own_pl_k p3 j1 j2 j5 j6 (own_pl_modn _ _ hj1) (own_pl_modn _ _ hj2) hj6)
  rw [own_pl_gz] at hj11
  rw [own_pl_gs _ _ _ _ _ rj6.1 rj6.2 rj1.1 rj1.2, own_pl_gz] at hj14
  rw [own_pl_gs _ _ _ _ _ rj1.1 rj1.2 rj1.1 rj1.2, if_pos rfl] at hj18
  have e : j14 = j15 := by rw [hj14, hj15]
  have f : ¬ j18 = 0 := by rw [hj18]; decide
  rw [hj19, if_pos hj11, if_pos e, if_neg f]
  rfl
theorem own_at_hhhhc1_3_5_185_f (p1 : Int32) (p2 : Int32) (p3 : Int32) (p4 : Int32) (j1 : Int32) (j2 : Int32) (j3 : Int32) (j5 : Int32) (j6 : Int32) (hj1 : j1 = ((p1 &&& (2147483647 : Int32)) % (131072 : Int32))) (hj2 : j2 = ((p2 &&& (2147483647 : Int32)) % (131072 : Int32))) (hj3 : j3 = (if (p4 &&& (8 : Int32)) = (0 : Int32) then (0 : Int32) else (1 : Int32))) (hj5 : j5 = (p4 &&& (7 : Int32))) (hj6 : j6 = (if j5 = (0 : Int32) then j1 else (if j5 = (1 : Int32) then j2 else (if j5 = (2 : Int32) then (j1 ^^^ (1 : Int32)) else (if j5 = (3 : Int32) then (j1 ^^^ (63 : Int32)) else (if j5 = (4 : Int32) then (j1 ^^^ (64 : Int32)) else (if j5 = (5 : Int32) then ((131072 : Int32) - (1 : Int32)) else (if j5 = (6 : Int32) then (0 : Int32) else ((p3 &&& (2147483647 : Int32)) % (131072 : Int32)))))))))) (hhhhc1_3_5_164 : ¬ (j6 < (0 : Int32))) (hhhhc6_3_5_164 : j6 < (131072 : Int32)) (hhlo17_164 : ¬ ((j6 / (64 : Int32)) < (0 : Int32))) (hhhi17_164 : (j6 / (64 : Int32)) < (2048 : Int32)) (hhhhc1_3_5_173 : ¬ (j1 < (0 : Int32))) (hhhhc6_3_5_173 : j1 < (131072 : Int32)) (hhhlo17_11_173 : ¬ ((j1 / (64 : Int32)) < (0 : Int32))) (hhhhi17_11_173 : (j1 / (64 : Int32)) < (2048 : Int32)) (hc178_9 : ¬ (j3 = (0 : Int32))) : ¬ (j2 < (0 : Int32)) := by
  exact (own_pl_modn _ _ hj2).1
theorem own_at_hhhhc6_3_5_185_f (p1 : Int32) (p2 : Int32) (p3 : Int32) (p4 : Int32) (j1 : Int32) (j2 : Int32) (j3 : Int32) (j5 : Int32) (j6 : Int32) (hj1 : j1 = ((p1 &&& (2147483647 : Int32)) % (131072 : Int32))) (hj2 : j2 = ((p2 &&& (2147483647 : Int32)) % (131072 : Int32))) (hj3 : j3 = (if (p4 &&& (8 : Int32)) = (0 : Int32) then (0 : Int32) else (1 : Int32))) (hj5 : j5 = (p4 &&& (7 : Int32))) (hj6 : j6 = (if j5 = (0 : Int32) then j1 else (if j5 = (1 : Int32) then j2 else (if j5 = (2 : Int32) then (j1 ^^^ (1 : Int32)) else (if j5 = (3 : Int32) then (j1 ^^^ (63 : Int32)) else (if j5 = (4 : Int32) then (j1 ^^^ (64 : Int32)) else (if j5 = (5 : Int32) then ((131072 : Int32) - (1 : Int32)) else (if j5 = (6 : Int32) then (0 : Int32) else ((p3 &&& (2147483647 : Int32)) % (131072 : Int32)))))))))) (hhhhc1_3_5_164 : ¬ (j6 < (0 : Int32))) (hhhhc6_3_5_164 : j6 < (131072 : Int32)) (hhlo17_164 : ¬ ((j6 / (64 : Int32)) < (0 : Int32))) (hhhi17_164 : (j6 / (64 : Int32)) < (2048 : Int32)) (hhhhc1_3_5_173 : ¬ (j1 < (0 : Int32))) (hhhhc6_3_5_173 : j1 < (131072 : Int32)) (hhhlo17_11_173 : ¬ ((j1 / (64 : Int32)) < (0 : Int32))) (hhhhi17_11_173 : (j1 / (64 : Int32)) < (2048 : Int32)) (hc178_9 : ¬ (j3 = (0 : Int32))) (hhhhc1_3_5_185 : ¬ (j2 < (0 : Int32))) : j2 < (131072 : Int32) := by
  exact (own_pl_modn _ _ hj2).2
theorem own_at_hhhlo17_11_185_f (p1 : Int32) (p2 : Int32) (p3 : Int32) (p4 : Int32) (j1 : Int32) (j2 : Int32) (j3 : Int32) (j5 : Int32) (j6 : Int32) (hj1 : j1 = ((p1 &&& (2147483647 : Int32)) % (131072 : Int32))) (hj2 : j2 = ((p2 &&& (2147483647 : Int32)) % (131072 : Int32))) (hj3 : j3 = (if (p4 &&& (8 : Int32)) = (0 : Int32) then (0 : Int32) else (1 : Int32))) (hj5 : j5 = (p4 &&& (7 : Int32))) (hj6 : j6 = (if j5 = (0 : Int32) then j1 else (if j5 = (1 : Int32) then j2 else (if j5 = (2 : Int32) then (j1 ^^^ (1 : Int32)) else (if j5 = (3 : Int32) then (j1 ^^^ (63 : Int32)) else (if j5 = (4 : Int32) then (j1 ^^^ (64 : Int32)) else (if j5 = (5 : Int32) then ((131072 : Int32) - (1 : Int32)) else (if j5 = (6 : Int32) then (0 : Int32) else ((p3 &&& (2147483647 : Int32)) % (131072 : Int32)))))))))) (hhhhc1_3_5_164 : ¬ (j6 < (0 : Int32))) (hhhhc6_3_5_164 : j6 < (131072 : Int32)) (hhlo17_164 : ¬ ((j6 / (64 : Int32)) < (0 : Int32))) (hhhi17_164 : (j6 / (64 : Int32)) < (2048 : Int32)) (hhhhc1_3_5_173 : ¬ (j1 < (0 : Int32))) (hhhhc6_3_5_173 : j1 < (131072 : Int32)) (hhhlo17_11_173 : ¬ ((j1 / (64 : Int32)) < (0 : Int32))) (hhhhi17_11_173 : (j1 / (64 : Int32)) < (2048 : Int32)) (hc178_9 : ¬ (j3 = (0 : Int32))) (hhhhc1_3_5_185 : ¬ (j2 < (0 : Int32))) (hhhhc6_3_5_185 : j2 < (131072 : Int32)) : ¬ ((j2 / (64 : Int32)) < (0 : Int32)) := by
  exact (own_pl_q _ (own_pl_modn _ _ hj2).1 (own_pl_modn _ _ hj2).2).1
theorem own_at_hhhhi17_11_185_f (p1 : Int32) (p2 : Int32) (p3 : Int32) (p4 : Int32) (j1 : Int32) (j2 : Int32) (j3 : Int32) (j5 : Int32) (j6 : Int32) (hj1 : j1 = ((p1 &&& (2147483647 : Int32)) % (131072 : Int32))) (hj2 : j2 = ((p2 &&& (2147483647 : Int32)) % (131072 : Int32))) (hj3 : j3 = (if (p4 &&& (8 : Int32)) = (0 : Int32) then (0 : Int32) else (1 : Int32))) (hj5 : j5 = (p4 &&& (7 : Int32))) (hj6 : j6 = (if j5 = (0 : Int32) then j1 else (if j5 = (1 : Int32) then j2 else (if j5 = (2 : Int32) then (j1 ^^^ (1 : Int32)) else (if j5 = (3 : Int32) then (j1 ^^^ (63 : Int32)) else (if j5 = (4 : Int32) then (j1 ^^^ (64 : Int32)) else (if j5 = (5 : Int32) then ((131072 : Int32) - (1 : Int32)) else (if j5 = (6 : Int32) then (0 : Int32) else ((p3 &&& (2147483647 : Int32)) % (131072 : Int32)))))))))) (hhhhc1_3_5_164 : ¬ (j6 < (0 : Int32))) (hhhhc6_3_5_164 : j6 < (131072 : Int32)) (hhlo17_164 : ¬ ((j6 / (64 : Int32)) < (0 : Int32))) (hhhi17_164 : (j6 / (64 : Int32)) < (2048 : Int32)) (hhhhc1_3_5_173 : ¬ (j1 < (0 : Int32))) (hhhhc6_3_5_173 : j1 < (131072 : Int32)) (hhhlo17_11_173 : ¬ ((j1 / (64 : Int32)) < (0 : Int32))) (hhhhi17_11_173 : (j1 / (64 : Int32)) < (2048 : Int32)) (hc178_9 : ¬ (j3 = (0 : Int32))) (hhhhc1_3_5_185 : ¬ (j2 < (0 : Int32))) (hhhhc6_3_5_185 : j2 < (131072 : Int32)) (hhhlo17_11_185 : ¬ ((j2 / (64 : Int32)) < (0 : Int32))) : (j2 / (64 : Int32)) < (2048 : Int32) := by
  exact (own_pl_q _ (own_pl_modn _ _ hj2).1 (own_pl_modn _ _ hj2).2).2
theorem own_yes_f (p1 : Int32) (p2 : Int32) (p3 : Int32) (p4 : Int32) (j1 : Int32) (j2 : Int32) (j3 : Int32) (j5 : Int32) (j6 : Int32) (j11 : Int32) (j23 : Int32) (j24 : Int32) (j27 : Int32) (j29 : Int32) (j31 : Int32) (hj1 : j1 = ((p1 &&& (2147483647 : Int32)) % (131072 : Int32))) (hj2 : j2 = ((p2 &&& (2147483647 : Int32)) % (131072 : Int32))) (hj3 : j3 = (if (p4 &&& (8 : Int32)) = (0 : Int32) then (0 : Int32) else (1 : Int32))) (hj5 : j5 = (p4 &&& (7 : Int32))) (hj6 : j6 = (if j5 = (0 : Int32) then j1 else (if j5 = (1 : Int32) then j2 else (if j5 = (2 : Int32) then (j1 ^^^ (1 : Int32)) else (if j5 = (3 : Int32) then (j1 ^^^ (63 : Int32)) else (if j5 = (4 : Int32) then (j1 ^^^ (64 : Int32)) else (if j5 = (5 : Int32) then ((131072 : Int32) - (1 : Int32)) else (if j5 = (6 : Int32) then (0 : Int32) else ((p3 &&& (2147483647 : Int32)) % (131072 : Int32)))))))))) (hj11 : j11 = (r_4 j6 (131072 : Int32) (fun _ => 0))) (hj23 : j23 = (r_4 j6 (131072 : Int32) (u_8_w_words_a1_fn j2 (131072 : Int32) (u_8_w_words_a1_fn j1 (131072 : Int32) (fun _ => 0) (0 : Int32)) (u_8_a1_count j1 (131072 : Int32) (fun _ => 0) (0 : Int32))))) (hj24 : j24 = (if j6 = j1 then (1 : Int32) else (if j6 = j2 then (1 : Int32) else (0 : Int32)))) (hj27 : j27 = (r_4 j1 (131072 : Int32) (u_8_w_words_a1_fn j2 (131072 : Int32) (u_8_w_words_a1_fn j1 (131072 : Int32) (fun _ => 0) (0 : Int32)) (u_8_a1_count j1 (131072 : Int32) (fun _ => 0) (0 : Int32))))) (hj29 : j29 = (if (r_4 j2 (131072 : Int32) (u_8_w_words_a1_fn j2 (131072 : Int32) (u_8_w_words_a1_fn j1 (131072 : Int32) (fun _ => 0) (0 : Int32)) (u_8_a1_count j1 (131072 : Int32) (fun _ => 0) (0 : Int32)))) = (0 : Int32) then (0 : Int32) else (1 : Int32))) (hj31 : j31 = (if j11 = (0 : Int32) then (if j23 = j24 then (if j27 = (0 : Int32) then (0 : Int32) else (if j29 = (0 : Int32) then (0 : Int32) else (1 : Int32))) else (0 : Int32)) else (0 : Int32))) (hhhhc1_3_5_164 : ¬ (j6 < (0 : Int32))) (hhhhc6_3_5_164 : j6 < (131072 : Int32)) (hhlo17_164 : ¬ ((j6 / (64 : Int32)) < (0 : Int32))) (hhhi17_164 : (j6 / (64 : Int32)) < (2048 : Int32)) (hhhhc1_3_5_173 : ¬ (j1 < (0 : Int32))) (hhhhc6_3_5_173 : j1 < (131072 : Int32)) (hhhlo17_11_173 : ¬ ((j1 / (64 : Int32)) < (0 : Int32))) (hhhhi17_11_173 : (j1 / (64 : Int32)) < (2048 : Int32)) (hc178_9 : ¬ (j3 = (0 : Int32))) (hhhhc1_3_5_185 : ¬ (j2 < (0 : Int32))) (hhhhc6_3_5_185 : j2 < (131072 : Int32)) (hhhlo17_11_185 : ¬ ((j2 / (64 : Int32)) < (0 : Int32))) (hhhhi17_11_185 : (j2 / (64 : Int32)) < (2048 : Int32)) : (nar .boolean j31) = 1 := by
  have rj1 := (own_pl_modn _ _ hj1)
  have rj2 := (own_pl_modn _ _ hj2)
  have rj6 := (own_pl_k p3 j1 j2 j5 j6 (own_pl_modn _ _ hj1) (own_pl_modn _ _ hj2) hj6)
  rw [own_pl_gz] at hj11
  rw [own_pl_gs _ _ _ _ _ rj6.1 rj6.2 rj2.1 rj2.2, own_pl_gs _ _ _ _ _ rj6.1 rj6.2 rj1.1 rj1.2, own_pl_gz] at hj23
  rw [own_pl_gs _ _ _ _ _ rj1.1 rj1.2 rj2.1 rj2.2, own_pl_gs _ _ _ _ _ rj1.1 rj1.2 rj1.1 rj1.2, if_pos (rfl : j1 = j1), ite_self] at hj27
  rw [own_pl_gs _ _ _ _ _ rj2.1 rj2.2 rj2.1 rj2.2, if_pos rfl, if_neg (by decide)] at hj29
  have e : j23 = j24 := by
    rw [hj23, hj24]
    by_cases a : j6 = j1
    · rw [if_pos a, if_pos a, ite_self]
    · rw [if_neg a, if_neg a]
  have f : ¬ j27 = 0 := by rw [hj27]; decide
  have g : ¬ j29 = 0 := by rw [hj29]; decide
  rw [hj31, if_pos hj11, if_pos e, if_neg f, if_neg g]
  rfl
set_option maxRecDepth 65536 in
set_option maxHeartbeats 40000000 in
theorem rm0 (l : Launch) (Z : State) (a0 : Array Value) (hw : ∀ d ∈ tables_1, d.before a0 Z = true) (ws : List Jvm.Cond) (p1 : Int32) (p2 : Int32) (p3 : Int32) (p4 : Int32) (h0 : Heap) (n0 : Nat) (Z0 : n0 ≤ h0.size) :
    MetFree l x (head1 (Jvm.Cond.code x code maxLocals ret :: ws) room_1) (fun a U => a = #[(.int p1), (.int p2), (.int p3), (.int p4)] ∧ Z.Warmed39 U.vm ∧ U.heap = h0) (fun _ _ _ _ _ => True) (fun _ U o U' => ∃ v L, o = .returned v ∧ Q0 Z p1 p2 p3 p4 h0 n0 v U'.heap L ∧ FrameEnd U o U' L room_1.cells room_1.slots) := by
  refine MetFree.of_bodySF (plainFor_of_name pn_3) hisR ?_
  intro p e s m args below meth c s₁ Bd hml0 hP hK
  obtain ⟨rfl, hZ, hh⟩ := hP
  have hx := Bd.exec
  have hby := Bd.bytes
  have hml : c.maxLocals = 16 := hml0
  have hown : s.vm.findClass "com/example/capd/capd/status/BitstringGetPinLaw" = some m.cls := findClass_of_methodNamed Bd.named
  have hnm := (name_of_methodNamed Bd.named Bd.method).1
  have X0 : Stand p l e room_1 s m #[(.int p1), (.int p2), (.int p3), (.int p4)] below meth c s₁ [] 0 0 := Stand.of_body Bd
  have e0 : s₁.heap = h0 := by rw [← hh, Bd.state]; rfl
  have NN := Fr.nil n0
  have KK : Keep h0 h0 [] := Keep.refl h0 []
  refine own_start (ef_0 m p1 p2 p3 p4) ?_
  refine own_go (T' := s₁) (g' := (mkF m 13 #[.val (.int p1), .val (.int p2), .val (.int p3), .val (.int p4), .val (.int (131072 : Int32)), .val (.int ((p1 &&& (2147483647 : Int32)) % (131072 : Int32))), .unset, .unset, .unset, .unset, .unset, .unset, .unset, .unset, .unset, .unset] [])) (fun t k => ?_) ?_
  · show Steps p.tables e below (s₁.setTop (mkF m 0 #[.val (.int p1), .val (.int p2), .val (.int p3), .val (.int p4), .unset, .unset, .unset, .unset, .unset, .unset, .unset, .unset, .unset, .unset, .unset, .unset] [])) _
    refine X0.ldcInt hx hown (mvT hZ (hw _ (List.mem_of_getElem? (i := 0) rfl))) (g := (mkF m 0 #[.val (.int p1), .val (.int p2), .val (.int p3), .val (.int p4), .unset, .unset, .unset, .unset, .unset, .unset, .unset, .unset, .unset, .unset, .unset, .unset] [])) rfl (hb hby at_0) _ ?_
    show Steps p.tables e below (s₁.setTop (mkF m 2 #[.val (.int p1), .val (.int p2), .val (.int p3), .val (.int p4), .unset, .unset, .unset, .unset, .unset, .unset, .unset, .unset, .unset, .unset, .unset, .unset] [(.int (131072 : Int32))])) _
    refine XS.istore X0.here hx rfl (hb hby at_2) rfl (l' := #[.val (.int p1), .val (.int p2), .val (.int p3), .val (.int p4), .val (.int (131072 : Int32)), .unset, .unset, .unset, .unset, .unset, .unset, .unset, .unset, .unset, .unset, .unset]) rfl ?_
    show Steps p.tables e below (s₁.setTop (mkF m 4 #[.val (.int p1), .val (.int p2), .val (.int p3), .val (.int p4), .val (.int (131072 : Int32)), .unset, .unset, .unset, .unset, .unset, .unset, .unset, .unset, .unset, .unset, .unset] [])) _
    refine XS.iloadN X0.here hx rfl (hb hby at_4) rfl ?_
    show Steps p.tables e below (s₁.setTop (mkF m 5 #[.val (.int p1), .val (.int p2), .val (.int p3), .val (.int p4), .val (.int (131072 : Int32)), .unset, .unset, .unset, .unset, .unset, .unset, .unset, .unset, .unset, .unset, .unset] [(.int p1)])) _
    refine X0.ldcInt hx hown (mvT hZ (hw _ (List.mem_of_getElem? (i := 1) rfl))) (g := (mkF m 5 #[.val (.int p1), .val (.int p2), .val (.int p3), .val (.int p4), .val (.int (131072 : Int32)), .unset, .unset, .unset, .unset, .unset, .unset, .unset, .unset, .unset, .unset, .unset] [(.int p1)])) rfl (hb hby at_5) _ ?_
    show Steps p.tables e below (s₁.setTop (mkF m 7 #[.val (.int p1), .val (.int p2), .val (.int p3), .val (.int p4), .val (.int (131072 : Int32)), .unset, .unset, .unset, .unset, .unset, .unset, .unset, .unset, .unset, .unset, .unset] [(.int (2147483647 : Int32)), (.int p1)])) _
    refine XS.iand X0.here hx rfl (hb hby at_7) rfl ?_
    show Steps p.tables e below (s₁.setTop (mkF m 8 #[.val (.int p1), .val (.int p2), .val (.int p3), .val (.int p4), .val (.int (131072 : Int32)), .unset, .unset, .unset, .unset, .unset, .unset, .unset, .unset, .unset, .unset, .unset] [(.int (p1 &&& (2147483647 : Int32)))])) _
    refine XS.iload X0.here hx rfl (hb hby at_8) rfl ?_
    show Steps p.tables e below (s₁.setTop (mkF m 10 #[.val (.int p1), .val (.int p2), .val (.int p3), .val (.int p4), .val (.int (131072 : Int32)), .unset, .unset, .unset, .unset, .unset, .unset, .unset, .unset, .unset, .unset, .unset] [(.int (131072 : Int32)), (.int (p1 &&& (2147483647 : Int32)))])) _
    refine iremM X0 hx rfl (hb hby at_10) rfl (by decide) ?_
    show Steps p.tables e below (s₁.setTop (mkF m 11 #[.val (.int p1), .val (.int p2), .val (.int p3), .val (.int p4), .val (.int (131072 : Int32)), .unset, .unset, .unset, .unset, .unset, .unset, .unset, .unset, .unset, .unset, .unset] [(.int ((p1 &&& (2147483647 : Int32)) % (131072 : Int32)))])) _
    refine XS.istore X0.here hx rfl (hb hby at_11) rfl (l' := #[.val (.int p1), .val (.int p2), .val (.int p3), .val (.int p4), .val (.int (131072 : Int32)), .val (.int ((p1 &&& (2147483647 : Int32)) % (131072 : Int32))), .unset, .unset, .unset, .unset, .unset, .unset, .unset, .unset, .unset, .unset]) rfl ?_
    exact k
  show own_Go p.tables e below _ s₁ (mkF m 13 #[.val (.int p1), .val (.int p2), .val (.int p3), .val (.int p4), .val (.int (131072 : Int32)), .val (.int ((p1 &&& (2147483647 : Int32)) % (131072 : Int32))), .unset, .unset, .unset, .unset, .unset, .unset, .unset, .unset, .unset, .unset] [])
  obtain ⟨j1, hj1⟩ : ∃ z : Int32, z = ((p1 &&& (2147483647 : Int32)) % (131072 : Int32)) := ⟨_, rfl⟩
  rw [← hj1]
  show own_Go p.tables e below _ s₁ (mkF m 13 #[.val (.int p1), .val (.int p2), .val (.int p3), .val (.int p4), .val (.int (131072 : Int32)), .val (.int j1), .unset, .unset, .unset, .unset, .unset, .unset, .unset, .unset, .unset, .unset] [])
  refine own_go (T' := s₁) (g' := (mkF m 22 #[.val (.int p1), .val (.int p2), .val (.int p3), .val (.int p4), .val (.int (131072 : Int32)), .val (.int j1), .val (.int ((p2 &&& (2147483647 : Int32)) % (131072 : Int32))), .unset, .unset, .unset, .unset, .unset, .unset, .unset, .unset, .unset] [])) (fun t k => ?_) ?_
  · show Steps p.tables e below (s₁.setTop (mkF m 13 #[.val (.int p1), .val (.int p2), .val (.int p3), .val (.int p4), .val (.int (131072 : Int32)), .val (.int j1), .unset, .unset, .unset, .unset, .unset, .unset, .unset, .unset, .unset, .unset] [])) _
    refine XS.iloadN X0.here hx rfl (hb hby at_13) rfl ?_
    show Steps p.tables e below (s₁.setTop (mkF m 14 #[.val (.int p1), .val (.int p2), .val (.int p3), .val (.int p4), .val (.int (131072 : Int32)), .val (.int j1), .unset, .unset, .unset, .unset, .unset, .unset, .unset, .unset, .unset, .unset] [(.int p2)])) _
    refine X0.ldcInt hx hown (mvT hZ (hw _ (List.mem_of_getElem? (i := 1) rfl))) (g := (mkF m 14 #[.val (.int p1), .val (.int p2), .val (.int p3), .val (.int p4), .val (.int (131072 : Int32)), .val (.int j1), .unset, .unset, .unset, .unset, .unset, .unset, .unset, .unset, .unset, .unset] [(.int p2)])) rfl (hb hby at_14) _ ?_
    show Steps p.tables e below (s₁.setTop (mkF m 16 #[.val (.int p1), .val (.int p2), .val (.int p3), .val (.int p4), .val (.int (131072 : Int32)), .val (.int j1), .unset, .unset, .unset, .unset, .unset, .unset, .unset, .unset, .unset, .unset] [(.int (2147483647 : Int32)), (.int p2)])) _
    refine XS.iand X0.here hx rfl (hb hby at_16) rfl ?_
    show Steps p.tables e below (s₁.setTop (mkF m 17 #[.val (.int p1), .val (.int p2), .val (.int p3), .val (.int p4), .val (.int (131072 : Int32)), .val (.int j1), .unset, .unset, .unset, .unset, .unset, .unset, .unset, .unset, .unset, .unset] [(.int (p2 &&& (2147483647 : Int32)))])) _
    refine XS.iload X0.here hx rfl (hb hby at_17) rfl ?_
    show Steps p.tables e below (s₁.setTop (mkF m 19 #[.val (.int p1), .val (.int p2), .val (.int p3), .val (.int p4), .val (.int (131072 : Int32)), .val (.int j1), .unset, .unset, .unset, .unset, .unset, .unset, .unset, .unset, .unset, .unset] [(.int (131072 : Int32)), (.int (p2 &&& (2147483647 : Int32)))])) _
    refine iremM X0 hx rfl (hb hby at_19) rfl (by decide) ?_
    show Steps p.tables e below (s₁.setTop (mkF m 20 #[.val (.int p1), .val (.int p2), .val (.int p3), .val (.int p4), .val (.int (131072 : Int32)), .val (.int j1), .unset, .unset, .unset, .unset, .unset, .unset, .unset, .unset, .unset, .unset] [(.int ((p2 &&& (2147483647 : Int32)) % (131072 : Int32)))])) _
    refine XS.istore X0.here hx rfl (hb hby at_20) rfl (l' := #[.val (.int p1), .val (.int p2), .val (.int p3), .val (.int p4), .val (.int (131072 : Int32)), .val (.int j1), .val (.int ((p2 &&& (2147483647 : Int32)) % (131072 : Int32))), .unset, .unset, .unset, .unset, .unset, .unset, .unset, .unset, .unset]) rfl ?_
    exact k
  show own_Go p.tables e below _ s₁ (mkF m 22 #[.val (.int p1), .val (.int p2), .val (.int p3), .val (.int p4), .val (.int (131072 : Int32)), .val (.int j1), .val (.int ((p2 &&& (2147483647 : Int32)) % (131072 : Int32))), .unset, .unset, .unset, .unset, .unset, .unset, .unset, .unset, .unset] [])
  obtain ⟨j2, hj2⟩ : ∃ z : Int32, z = ((p2 &&& (2147483647 : Int32)) % (131072 : Int32)) := ⟨_, rfl⟩
  rw [← hj2]
  show own_Go p.tables e below _ s₁ (mkF m 22 #[.val (.int p1), .val (.int p2), .val (.int p3), .val (.int p4), .val (.int (131072 : Int32)), .val (.int j1), .val (.int j2), .unset, .unset, .unset, .unset, .unset, .unset, .unset, .unset, .unset] [])
  refine own_go (T' := s₁) (g' := (mkF m 26 #[.val (.int p1), .val (.int p2), .val (.int p3), .val (.int p4), .val (.int (131072 : Int32)), .val (.int j1), .val (.int j2), .unset, .unset, .unset, .unset, .unset, .unset, .unset, .unset, .unset] [(.int (p4 &&& (8 : Int32)))])) (fun t k => ?_) ?_
  · show Steps p.tables e below (s₁.setTop (mkF m 22 #[.val (.int p1), .val (.int p2), .val (.int p3), .val (.int p4), .val (.int (131072 : Int32)), .val (.int j1), .val (.int j2), .unset, .unset, .unset, .unset, .unset, .unset, .unset, .unset, .unset] [])) _
    refine XS.iloadN X0.here hx rfl (hb hby at_22) rfl ?_
    show Steps p.tables e below (s₁.setTop (mkF m 23 #[.val (.int p1), .val (.int p2), .val (.int p3), .val (.int p4), .val (.int (131072 : Int32)), .val (.int j1), .val (.int j2), .unset, .unset, .unset, .unset, .unset, .unset, .unset, .unset, .unset] [(.int p4)])) _
    refine XS.bipush X0.here hx rfl (hb hby at_23) ?_
    show Steps p.tables e below (s₁.setTop (mkF m 25 #[.val (.int p1), .val (.int p2), .val (.int p3), .val (.int p4), .val (.int (131072 : Int32)), .val (.int j1), .val (.int j2), .unset, .unset, .unset, .unset, .unset, .unset, .unset, .unset, .unset] [(.int (8 : Int32)), (.int p4)])) _
    refine XS.iand X0.here hx rfl (hb hby at_25) rfl ?_
    exact k
  obtain ⟨j3, hj3, st4⟩ : ∃ (j3 : Int32), j3 = (if (p4 &&& (8 : Int32)) = (0 : Int32) then (0 : Int32) else (1 : Int32)) ∧ ∀ t, Steps p.tables e below (s₁.setTop (mkF m 34 #[.val (.int p1), .val (.int p2), .val (.int p3), .val (.int p4), .val (.int (131072 : Int32)), .val (.int j1), .val (.int j2), .unset, .unset, .unset, .unset, .unset, .unset, .unset, .unset, .unset] [(.int j3)])) t → Steps p.tables e below (s₁.setTop (mkF m 26 #[.val (.int p1), .val (.int p2), .val (.int p3), .val (.int p4), .val (.int (131072 : Int32)), .val (.int j1), .val (.int j2), .unset, .unset, .unset, .unset, .unset, .unset, .unset, .unset, .unset] [(.int (p4 &&& (8 : Int32)))])) t := by
    by_cases hc26_1 : (p4 &&& (8 : Int32)) = (0 : Int32)
    · skip
      refine ⟨(0 : Int32), (by simp only [if_pos hc26_1]), fun t k => ?_⟩
      show Steps p.tables e below (s₁.setTop (mkF m 26 #[.val (.int p1), .val (.int p2), .val (.int p3), .val (.int p4), .val (.int (131072 : Int32)), .val (.int j1), .val (.int j2), .unset, .unset, .unset, .unset, .unset, .unset, .unset, .unset, .unset] [(.int (p4 &&& (8 : Int32)))])) _
      refine XS.ifYes X0.here hx rfl (pc0 := 26) (pc' := 33) rfl (hb hby at_26) rfl ((if0 _ _).trans (teq hc26_1).1) (by decide) (by decide) ?_
      show Steps p.tables e below (s₁.setTop (mkF m 33 #[.val (.int p1), .val (.int p2), .val (.int p3), .val (.int p4), .val (.int (131072 : Int32)), .val (.int j1), .val (.int j2), .unset, .unset, .unset, .unset, .unset, .unset, .unset, .unset, .unset] [])) _
      refine XS.iconst X0.here hx rfl (hb hby at_33) ?_
      exact k
    · skip
      refine ⟨(1 : Int32), (by simp only [if_neg hc26_1]), fun t k => ?_⟩
      show Steps p.tables e below (s₁.setTop (mkF m 26 #[.val (.int p1), .val (.int p2), .val (.int p3), .val (.int p4), .val (.int (131072 : Int32)), .val (.int j1), .val (.int j2), .unset, .unset, .unset, .unset, .unset, .unset, .unset, .unset, .unset] [(.int (p4 &&& (8 : Int32)))])) _
      refine XS.ifNo X0.here hx rfl (hb hby at_26) rfl ((if0 _ _).trans (feq hc26_1).1) ?_
      show Steps p.tables e below (s₁.setTop (mkF m 29 #[.val (.int p1), .val (.int p2), .val (.int p3), .val (.int p4), .val (.int (131072 : Int32)), .val (.int j1), .val (.int j2), .unset, .unset, .unset, .unset, .unset, .unset, .unset, .unset, .unset] [])) _
      refine XS.iconst X0.here hx rfl (hb hby at_29) ?_
      show Steps p.tables e below (s₁.setTop (mkF m 30 #[.val (.int p1), .val (.int p2), .val (.int p3), .val (.int p4), .val (.int (131072 : Int32)), .val (.int j1), .val (.int j2), .unset, .unset, .unset, .unset, .unset, .unset, .unset, .unset, .unset] [(.int (1 : Int32))])) _
      refine XS.goto X0.here hx rfl (pc0 := 30) (pc' := 34) rfl (hb hby at_30) (by decide) (by decide) ?_
      exact k
  refine own_go st4 ?_
  show own_Go p.tables e below _ s₁ (mkF m 34 #[.val (.int p1), .val (.int p2), .val (.int p3), .val (.int p4), .val (.int (131072 : Int32)), .val (.int j1), .val (.int j2), .unset, .unset, .unset, .unset, .unset, .unset, .unset, .unset, .unset] [(.int j3)])
  refine own_go (T' := s₁) (g' := (mkF m 42 #[.val (.int p1), .val (.int p2), .val (.int p3), .val (.int p4), .val (.int (131072 : Int32)), .val (.int j1), .val (.int j2), .val (.int j3), .val (.int (p4 &&& (7 : Int32))), .unset, .unset, .unset, .unset, .unset, .unset, .unset] [])) (fun t k => ?_) ?_
  · show Steps p.tables e below (s₁.setTop (mkF m 34 #[.val (.int p1), .val (.int p2), .val (.int p3), .val (.int p4), .val (.int (131072 : Int32)), .val (.int j1), .val (.int j2), .unset, .unset, .unset, .unset, .unset, .unset, .unset, .unset, .unset] [(.int j3)])) _
    refine XS.istore X0.here hx rfl (hb hby at_34) rfl (l' := #[.val (.int p1), .val (.int p2), .val (.int p3), .val (.int p4), .val (.int (131072 : Int32)), .val (.int j1), .val (.int j2), .val (.int j3), .unset, .unset, .unset, .unset, .unset, .unset, .unset, .unset]) rfl ?_
    show Steps p.tables e below (s₁.setTop (mkF m 36 #[.val (.int p1), .val (.int p2), .val (.int p3), .val (.int p4), .val (.int (131072 : Int32)), .val (.int j1), .val (.int j2), .val (.int j3), .unset, .unset, .unset, .unset, .unset, .unset, .unset, .unset] [])) _
    refine XS.iloadN X0.here hx rfl (hb hby at_36) rfl ?_
    show Steps p.tables e below (s₁.setTop (mkF m 37 #[.val (.int p1), .val (.int p2), .val (.int p3), .val (.int p4), .val (.int (131072 : Int32)), .val (.int j1), .val (.int j2), .val (.int j3), .unset, .unset, .unset, .unset, .unset, .unset, .unset, .unset] [(.int p4)])) _
    refine XS.bipush X0.here hx rfl (hb hby at_37) ?_
    show Steps p.tables e below (s₁.setTop (mkF m 39 #[.val (.int p1), .val (.int p2), .val (.int p3), .val (.int p4), .val (.int (131072 : Int32)), .val (.int j1), .val (.int j2), .val (.int j3), .unset, .unset, .unset, .unset, .unset, .unset, .unset, .unset] [(.int (7 : Int32)), (.int p4)])) _
    refine XS.iand X0.here hx rfl (hb hby at_39) rfl ?_
    show Steps p.tables e below (s₁.setTop (mkF m 40 #[.val (.int p1), .val (.int p2), .val (.int p3), .val (.int p4), .val (.int (131072 : Int32)), .val (.int j1), .val (.int j2), .val (.int j3), .unset, .unset, .unset, .unset, .unset, .unset, .unset, .unset] [(.int (p4 &&& (7 : Int32)))])) _
    refine XS.istore X0.here hx rfl (hb hby at_40) rfl (l' := #[.val (.int p1), .val (.int p2), .val (.int p3), .val (.int p4), .val (.int (131072 : Int32)), .val (.int j1), .val (.int j2), .val (.int j3), .val (.int (p4 &&& (7 : Int32))), .unset, .unset, .unset, .unset, .unset, .unset, .unset]) rfl ?_
    exact k
  show own_Go p.tables e below _ s₁ (mkF m 42 #[.val (.int p1), .val (.int p2), .val (.int p3), .val (.int p4), .val (.int (131072 : Int32)), .val (.int j1), .val (.int j2), .val (.int j3), .val (.int (p4 &&& (7 : Int32))), .unset, .unset, .unset, .unset, .unset, .unset, .unset] [])
  obtain ⟨j5, hj5⟩ : ∃ z : Int32, z = (p4 &&& (7 : Int32)) := ⟨_, rfl⟩
  rw [← hj5]
  show own_Go p.tables e below _ s₁ (mkF m 42 #[.val (.int p1), .val (.int p2), .val (.int p3), .val (.int p4), .val (.int (131072 : Int32)), .val (.int j1), .val (.int j2), .val (.int j3), .val (.int j5), .unset, .unset, .unset, .unset, .unset, .unset, .unset] [])
  refine own_go (T' := s₁) (g' := (mkF m 44 #[.val (.int p1), .val (.int p2), .val (.int p3), .val (.int p4), .val (.int (131072 : Int32)), .val (.int j1), .val (.int j2), .val (.int j3), .val (.int j5), .unset, .unset, .unset, .unset, .unset, .unset, .unset] [(.int j5)])) (fun t k => ?_) ?_
  · show Steps p.tables e below (s₁.setTop (mkF m 42 #[.val (.int p1), .val (.int p2), .val (.int p3), .val (.int p4), .val (.int (131072 : Int32)), .val (.int j1), .val (.int j2), .val (.int j3), .val (.int j5), .unset, .unset, .unset, .unset, .unset, .unset, .unset] [])) _
    refine XS.iload X0.here hx rfl (hb hby at_42) rfl ?_
    exact k
  obtain ⟨j6, hj6, st7⟩ : ∃ (j6 : Int32), j6 = (if j5 = (0 : Int32) then j1 else (if j5 = (1 : Int32) then j2 else (if j5 = (2 : Int32) then (j1 ^^^ (1 : Int32)) else (if j5 = (3 : Int32) then (j1 ^^^ (63 : Int32)) else (if j5 = (4 : Int32) then (j1 ^^^ (64 : Int32)) else (if j5 = (5 : Int32) then ((131072 : Int32) - (1 : Int32)) else (if j5 = (6 : Int32) then (0 : Int32) else ((p3 &&& (2147483647 : Int32)) % (131072 : Int32))))))))) ∧ ∀ t, Steps p.tables e below (s₁.setTop (mkF m 151 #[.val (.int p1), .val (.int p2), .val (.int p3), .val (.int p4), .val (.int (131072 : Int32)), .val (.int j1), .val (.int j2), .val (.int j3), .val (.int j5), .val (.int j6), .unset, .unset, .unset, .unset, .unset, .unset] [])) t → Steps p.tables e below (s₁.setTop (mkF m 44 #[.val (.int p1), .val (.int p2), .val (.int p3), .val (.int p4), .val (.int (131072 : Int32)), .val (.int j1), .val (.int j2), .val (.int j3), .val (.int j5), .unset, .unset, .unset, .unset, .unset, .unset, .unset] [(.int j5)])) t := by
    by_cases hc44_2 : j5 = (0 : Int32)
    · skip
      refine ⟨j1, (by simp only [if_pos hc44_2]), fun t k => ?_⟩
      show Steps p.tables e below (s₁.setTop (mkF m 44 #[.val (.int p1), .val (.int p2), .val (.int p3), .val (.int p4), .val (.int (131072 : Int32)), .val (.int j1), .val (.int j2), .val (.int j3), .val (.int j5), .unset, .unset, .unset, .unset, .unset, .unset, .unset] [(.int j5)])) _
      refine XS.ifNo X0.here hx rfl (hb hby at_44) rfl ((if0 _ _).trans (teq hc44_2).2) ?_
      show Steps p.tables e below (s₁.setTop (mkF m 47 #[.val (.int p1), .val (.int p2), .val (.int p3), .val (.int p4), .val (.int (131072 : Int32)), .val (.int j1), .val (.int j2), .val (.int j3), .val (.int j5), .unset, .unset, .unset, .unset, .unset, .unset, .unset] [])) _
      refine XS.iload X0.here hx rfl (hb hby at_47) rfl ?_
      show Steps p.tables e below (s₁.setTop (mkF m 49 #[.val (.int p1), .val (.int p2), .val (.int p3), .val (.int p4), .val (.int (131072 : Int32)), .val (.int j1), .val (.int j2), .val (.int j3), .val (.int j5), .unset, .unset, .unset, .unset, .unset, .unset, .unset] [(.int j1)])) _
      refine XS.istore X0.here hx rfl (hb hby at_49) rfl (l' := #[.val (.int p1), .val (.int p2), .val (.int p3), .val (.int p4), .val (.int (131072 : Int32)), .val (.int j1), .val (.int j2), .val (.int j3), .val (.int j5), .val (.int j1), .unset, .unset, .unset, .unset, .unset, .unset]) rfl ?_
      show Steps p.tables e below (s₁.setTop (mkF m 51 #[.val (.int p1), .val (.int p2), .val (.int p3), .val (.int p4), .val (.int (131072 : Int32)), .val (.int j1), .val (.int j2), .val (.int j3), .val (.int j5), .val (.int j1), .unset, .unset, .unset, .unset, .unset, .unset] [])) _
      refine XS.goto X0.here hx rfl (pc0 := 51) (pc' := 151) rfl (hb hby at_51) (by decide) (by decide) ?_
      exact k
    · skip
      by_cases hc57_3 : j5 = (1 : Int32)
      · skip
        refine ⟨j2, (by simp only [if_neg hc44_2, if_pos hc57_3]), fun t k => ?_⟩
        show Steps p.tables e below (s₁.setTop (mkF m 44 #[.val (.int p1), .val (.int p2), .val (.int p3), .val (.int p4), .val (.int (131072 : Int32)), .val (.int j1), .val (.int j2), .val (.int j3), .val (.int j5), .unset, .unset, .unset, .unset, .unset, .unset, .unset] [(.int j5)])) _
        refine XS.ifYes X0.here hx rfl (pc0 := 44) (pc' := 54) rfl (hb hby at_44) rfl ((if0 _ _).trans (feq hc44_2).2) (by decide) (by decide) ?_
        show Steps p.tables e below (s₁.setTop (mkF m 54 #[.val (.int p1), .val (.int p2), .val (.int p3), .val (.int p4), .val (.int (131072 : Int32)), .val (.int j1), .val (.int j2), .val (.int j3), .val (.int j5), .unset, .unset, .unset, .unset, .unset, .unset, .unset] [])) _
        refine XS.iload X0.here hx rfl (hb hby at_54) rfl ?_
        show Steps p.tables e below (s₁.setTop (mkF m 56 #[.val (.int p1), .val (.int p2), .val (.int p3), .val (.int p4), .val (.int (131072 : Int32)), .val (.int j1), .val (.int j2), .val (.int j3), .val (.int j5), .unset, .unset, .unset, .unset, .unset, .unset, .unset] [(.int j5)])) _
        refine XS.iconst X0.here hx rfl (hb hby at_56) ?_
        show Steps p.tables e below (s₁.setTop (mkF m 57 #[.val (.int p1), .val (.int p2), .val (.int p3), .val (.int p4), .val (.int (131072 : Int32)), .val (.int j1), .val (.int j2), .val (.int j3), .val (.int j5), .unset, .unset, .unset, .unset, .unset, .unset, .unset] [(.int (1 : Int32)), (.int j5)])) _
        refine XS.icmpNo X0.here hx rfl (hb hby at_57) rfl (teq hc57_3).2 ?_
        show Steps p.tables e below (s₁.setTop (mkF m 60 #[.val (.int p1), .val (.int p2), .val (.int p3), .val (.int p4), .val (.int (131072 : Int32)), .val (.int j1), .val (.int j2), .val (.int j3), .val (.int j5), .unset, .unset, .unset, .unset, .unset, .unset, .unset] [])) _
        refine XS.iload X0.here hx rfl (hb hby at_60) rfl ?_
        show Steps p.tables e below (s₁.setTop (mkF m 62 #[.val (.int p1), .val (.int p2), .val (.int p3), .val (.int p4), .val (.int (131072 : Int32)), .val (.int j1), .val (.int j2), .val (.int j3), .val (.int j5), .unset, .unset, .unset, .unset, .unset, .unset, .unset] [(.int j2)])) _
        refine XS.istore X0.here hx rfl (hb hby at_62) rfl (l' := #[.val (.int p1), .val (.int p2), .val (.int p3), .val (.int p4), .val (.int (131072 : Int32)), .val (.int j1), .val (.int j2), .val (.int j3), .val (.int j5), .val (.int j2), .unset, .unset, .unset, .unset, .unset, .unset]) rfl ?_
        show Steps p.tables e below (s₁.setTop (mkF m 64 #[.val (.int p1), .val (.int p2), .val (.int p3), .val (.int p4), .val (.int (131072 : Int32)), .val (.int j1), .val (.int j2), .val (.int j3), .val (.int j5), .val (.int j2), .unset, .unset, .unset, .unset, .unset, .unset] [])) _
        refine XS.goto X0.here hx rfl (pc0 := 64) (pc' := 151) rfl (hb hby at_64) (by decide) (by decide) ?_
        exact k
      · skip
        by_cases hc70_4 : j5 = (2 : Int32)
        · skip
          refine ⟨(j1 ^^^ (1 : Int32)), (by simp only [if_neg hc44_2, if_neg hc57_3, if_pos hc70_4]), fun t k => ?_⟩
          show Steps p.tables e below (s₁.setTop (mkF m 44 #[.val (.int p1), .val (.int p2), .val (.int p3), .val (.int p4), .val (.int (131072 : Int32)), .val (.int j1), .val (.int j2), .val (.int j3), .val (.int j5), .unset, .unset, .unset, .unset, .unset, .unset, .unset] [(.int j5)])) _
          refine XS.ifYes X0.here hx rfl (pc0 := 44) (pc' := 54) rfl (hb hby at_44) rfl ((if0 _ _).trans (feq hc44_2).2) (by decide) (by decide) ?_
          show Steps p.tables e below (s₁.setTop (mkF m 54 #[.val (.int p1), .val (.int p2), .val (.int p3), .val (.int p4), .val (.int (131072 : Int32)), .val (.int j1), .val (.int j2), .val (.int j3), .val (.int j5), .unset, .unset, .unset, .unset, .unset, .unset, .unset] [])) _
          refine XS.iload X0.here hx rfl (hb hby at_54) rfl ?_
          show Steps p.tables e below (s₁.setTop (mkF m 56 #[.val (.int p1), .val (.int p2), .val (.int p3), .val (.int p4), .val (.int (131072 : Int32)), .val (.int j1), .val (.int j2), .val (.int j3), .val (.int j5), .unset, .unset, .unset, .unset, .unset, .unset, .unset] [(.int j5)])) _
          refine XS.iconst X0.here hx rfl (hb hby at_56) ?_
          show Steps p.tables e below (s₁.setTop (mkF m 57 #[.val (.int p1), .val (.int p2), .val (.int p3), .val (.int p4), .val (.int (131072 : Int32)), .val (.int j1), .val (.int j2), .val (.int j3), .val (.int j5), .unset, .unset, .unset, .unset, .unset, .unset, .unset] [(.int (1 : Int32)), (.int j5)])) _
          refine XS.icmpYes X0.here hx rfl (pc0 := 57) (pc' := 67) rfl (hb hby at_57) rfl (feq hc57_3).2 (by decide) (by decide) ?_
          show Steps p.tables e below (s₁.setTop (mkF m 67 #[.val (.int p1), .val (.int p2), .val (.int p3), .val (.int p4), .val (.int (131072 : Int32)), .val (.int j1), .val (.int j2), .val (.int j3), .val (.int j5), .unset, .unset, .unset, .unset, .unset, .unset, .unset] [])) _
          refine XS.iload X0.here hx rfl (hb hby at_67) rfl ?_
          show Steps p.tables e below (s₁.setTop (mkF m 69 #[.val (.int p1), .val (.int p2), .val (.int p3), .val (.int p4), .val (.int (131072 : Int32)), .val (.int j1), .val (.int j2), .val (.int j3), .val (.int j5), .unset, .unset, .unset, .unset, .unset, .unset, .unset] [(.int j5)])) _
          refine XS.iconst X0.here hx rfl (hb hby at_69) ?_
          show Steps p.tables e below (s₁.setTop (mkF m 70 #[.val (.int p1), .val (.int p2), .val (.int p3), .val (.int p4), .val (.int (131072 : Int32)), .val (.int j1), .val (.int j2), .val (.int j3), .val (.int j5), .unset, .unset, .unset, .unset, .unset, .unset, .unset] [(.int (2 : Int32)), (.int j5)])) _
          refine XS.icmpNo X0.here hx rfl (hb hby at_70) rfl (teq hc70_4).2 ?_
          show Steps p.tables e below (s₁.setTop (mkF m 73 #[.val (.int p1), .val (.int p2), .val (.int p3), .val (.int p4), .val (.int (131072 : Int32)), .val (.int j1), .val (.int j2), .val (.int j3), .val (.int j5), .unset, .unset, .unset, .unset, .unset, .unset, .unset] [])) _
          refine XS.iload X0.here hx rfl (hb hby at_73) rfl ?_
          show Steps p.tables e below (s₁.setTop (mkF m 75 #[.val (.int p1), .val (.int p2), .val (.int p3), .val (.int p4), .val (.int (131072 : Int32)), .val (.int j1), .val (.int j2), .val (.int j3), .val (.int j5), .unset, .unset, .unset, .unset, .unset, .unset, .unset] [(.int j1)])) _
          refine XS.iconst X0.here hx rfl (hb hby at_75) ?_
          show Steps p.tables e below (s₁.setTop (mkF m 76 #[.val (.int p1), .val (.int p2), .val (.int p3), .val (.int p4), .val (.int (131072 : Int32)), .val (.int j1), .val (.int j2), .val (.int j3), .val (.int j5), .unset, .unset, .unset, .unset, .unset, .unset, .unset] [(.int (1 : Int32)), (.int j1)])) _
          refine XS.ixor X0.here hx rfl (hb hby at_76) rfl ?_
          show Steps p.tables e below (s₁.setTop (mkF m 77 #[.val (.int p1), .val (.int p2), .val (.int p3), .val (.int p4), .val (.int (131072 : Int32)), .val (.int j1), .val (.int j2), .val (.int j3), .val (.int j5), .unset, .unset, .unset, .unset, .unset, .unset, .unset] [(.int (j1 ^^^ (1 : Int32)))])) _
          refine XS.istore X0.here hx rfl (hb hby at_77) rfl (l' := #[.val (.int p1), .val (.int p2), .val (.int p3), .val (.int p4), .val (.int (131072 : Int32)), .val (.int j1), .val (.int j2), .val (.int j3), .val (.int j5), .val (.int (j1 ^^^ (1 : Int32))), .unset, .unset, .unset, .unset, .unset, .unset]) rfl ?_
          show Steps p.tables e below (s₁.setTop (mkF m 79 #[.val (.int p1), .val (.int p2), .val (.int p3), .val (.int p4), .val (.int (131072 : Int32)), .val (.int j1), .val (.int j2), .val (.int j3), .val (.int j5), .val (.int (j1 ^^^ (1 : Int32))), .unset, .unset, .unset, .unset, .unset, .unset] [])) _
          refine XS.goto X0.here hx rfl (pc0 := 79) (pc' := 151) rfl (hb hby at_79) (by decide) (by decide) ?_
          exact k
        · skip
          by_cases hc85_5 : j5 = (3 : Int32)
          · skip
            refine ⟨(j1 ^^^ (63 : Int32)), (by simp only [if_neg hc44_2, if_neg hc57_3, if_neg hc70_4, if_pos hc85_5]), fun t k => ?_⟩
            show Steps p.tables e below (s₁.setTop (mkF m 44 #[.val (.int p1), .val (.int p2), .val (.int p3), .val (.int p4), .val (.int (131072 : Int32)), .val (.int j1), .val (.int j2), .val (.int j3), .val (.int j5), .unset, .unset, .unset, .unset, .unset, .unset, .unset] [(.int j5)])) _
            refine XS.ifYes X0.here hx rfl (pc0 := 44) (pc' := 54) rfl (hb hby at_44) rfl ((if0 _ _).trans (feq hc44_2).2) (by decide) (by decide) ?_
            show Steps p.tables e below (s₁.setTop (mkF m 54 #[.val (.int p1), .val (.int p2), .val (.int p3), .val (.int p4), .val (.int (131072 : Int32)), .val (.int j1), .val (.int j2), .val (.int j3), .val (.int j5), .unset, .unset, .unset, .unset, .unset, .unset, .unset] [])) _
            refine XS.iload X0.here hx rfl (hb hby at_54) rfl ?_
            show Steps p.tables e below (s₁.setTop (mkF m 56 #[.val (.int p1), .val (.int p2), .val (.int p3), .val (.int p4), .val (.int (131072 : Int32)), .val (.int j1), .val (.int j2), .val (.int j3), .val (.int j5), .unset, .unset, .unset, .unset, .unset, .unset, .unset] [(.int j5)])) _
            refine XS.iconst X0.here hx rfl (hb hby at_56) ?_
            show Steps p.tables e below (s₁.setTop (mkF m 57 #[.val (.int p1), .val (.int p2), .val (.int p3), .val (.int p4), .val (.int (131072 : Int32)), .val (.int j1), .val (.int j2), .val (.int j3), .val (.int j5), .unset, .unset, .unset, .unset, .unset, .unset, .unset] [(.int (1 : Int32)), (.int j5)])) _
            refine XS.icmpYes X0.here hx rfl (pc0 := 57) (pc' := 67) rfl (hb hby at_57) rfl (feq hc57_3).2 (by decide) (by decide) ?_
            show Steps p.tables e below (s₁.setTop (mkF m 67 #[.val (.int p1), .val (.int p2), .val (.int p3), .val (.int p4), .val (.int (131072 : Int32)), .val (.int j1), .val (.int j2), .val (.int j3), .val (.int j5), .unset, .unset, .unset, .unset, .unset, .unset, .unset] [])) _
            refine XS.iload X0.here hx rfl (hb hby at_67) rfl ?_
            show Steps p.tables e below (s₁.setTop (mkF m 69 #[.val (.int p1), .val (.int p2), .val (.int p3), .val (.int p4), .val (.int (131072 : Int32)), .val (.int j1), .val (.int j2), .val (.int j3), .val (.int j5), .unset, .unset, .unset, .unset, .unset, .unset, .unset] [(.int j5)])) _
            refine XS.iconst X0.here hx rfl (hb hby at_69) ?_
            show Steps p.tables e below (s₁.setTop (mkF m 70 #[.val (.int p1), .val (.int p2), .val (.int p3), .val (.int p4), .val (.int (131072 : Int32)), .val (.int j1), .val (.int j2), .val (.int j3), .val (.int j5), .unset, .unset, .unset, .unset, .unset, .unset, .unset] [(.int (2 : Int32)), (.int j5)])) _
            refine XS.icmpYes X0.here hx rfl (pc0 := 70) (pc' := 82) rfl (hb hby at_70) rfl (feq hc70_4).2 (by decide) (by decide) ?_
            show Steps p.tables e below (s₁.setTop (mkF m 82 #[.val (.int p1), .val (.int p2), .val (.int p3), .val (.int p4), .val (.int (131072 : Int32)), .val (.int j1), .val (.int j2), .val (.int j3), .val (.int j5), .unset, .unset, .unset, .unset, .unset, .unset, .unset] [])) _
            refine XS.iload X0.here hx rfl (hb hby at_82) rfl ?_
            show Steps p.tables e below (s₁.setTop (mkF m 84 #[.val (.int p1), .val (.int p2), .val (.int p3), .val (.int p4), .val (.int (131072 : Int32)), .val (.int j1), .val (.int j2), .val (.int j3), .val (.int j5), .unset, .unset, .unset, .unset, .unset, .unset, .unset] [(.int j5)])) _
            refine XS.iconst X0.here hx rfl (hb hby at_84) ?_
            show Steps p.tables e below (s₁.setTop (mkF m 85 #[.val (.int p1), .val (.int p2), .val (.int p3), .val (.int p4), .val (.int (131072 : Int32)), .val (.int j1), .val (.int j2), .val (.int j3), .val (.int j5), .unset, .unset, .unset, .unset, .unset, .unset, .unset] [(.int (3 : Int32)), (.int j5)])) _
            refine XS.icmpNo X0.here hx rfl (hb hby at_85) rfl (teq hc85_5).2 ?_
            show Steps p.tables e below (s₁.setTop (mkF m 88 #[.val (.int p1), .val (.int p2), .val (.int p3), .val (.int p4), .val (.int (131072 : Int32)), .val (.int j1), .val (.int j2), .val (.int j3), .val (.int j5), .unset, .unset, .unset, .unset, .unset, .unset, .unset] [])) _
            refine XS.iload X0.here hx rfl (hb hby at_88) rfl ?_
            show Steps p.tables e below (s₁.setTop (mkF m 90 #[.val (.int p1), .val (.int p2), .val (.int p3), .val (.int p4), .val (.int (131072 : Int32)), .val (.int j1), .val (.int j2), .val (.int j3), .val (.int j5), .unset, .unset, .unset, .unset, .unset, .unset, .unset] [(.int j1)])) _
            refine XS.bipush X0.here hx rfl (hb hby at_90) ?_
            show Steps p.tables e below (s₁.setTop (mkF m 92 #[.val (.int p1), .val (.int p2), .val (.int p3), .val (.int p4), .val (.int (131072 : Int32)), .val (.int j1), .val (.int j2), .val (.int j3), .val (.int j5), .unset, .unset, .unset, .unset, .unset, .unset, .unset] [(.int (63 : Int32)), (.int j1)])) _
            refine XS.ixor X0.here hx rfl (hb hby at_92) rfl ?_
            show Steps p.tables e below (s₁.setTop (mkF m 93 #[.val (.int p1), .val (.int p2), .val (.int p3), .val (.int p4), .val (.int (131072 : Int32)), .val (.int j1), .val (.int j2), .val (.int j3), .val (.int j5), .unset, .unset, .unset, .unset, .unset, .unset, .unset] [(.int (j1 ^^^ (63 : Int32)))])) _
            refine XS.istore X0.here hx rfl (hb hby at_93) rfl (l' := #[.val (.int p1), .val (.int p2), .val (.int p3), .val (.int p4), .val (.int (131072 : Int32)), .val (.int j1), .val (.int j2), .val (.int j3), .val (.int j5), .val (.int (j1 ^^^ (63 : Int32))), .unset, .unset, .unset, .unset, .unset, .unset]) rfl ?_
            show Steps p.tables e below (s₁.setTop (mkF m 95 #[.val (.int p1), .val (.int p2), .val (.int p3), .val (.int p4), .val (.int (131072 : Int32)), .val (.int j1), .val (.int j2), .val (.int j3), .val (.int j5), .val (.int (j1 ^^^ (63 : Int32))), .unset, .unset, .unset, .unset, .unset, .unset] [])) _
            refine XS.goto X0.here hx rfl (pc0 := 95) (pc' := 151) rfl (hb hby at_95) (by decide) (by decide) ?_
            exact k
          · skip
            by_cases hc101_6 : j5 = (4 : Int32)
            · skip
              refine ⟨(j1 ^^^ (64 : Int32)), (by simp only [if_neg hc44_2, if_neg hc57_3, if_neg hc70_4, if_neg hc85_5, if_pos hc101_6]), fun t k => ?_⟩
              show Steps p.tables e below (s₁.setTop (mkF m 44 #[.val (.int p1), .val (.int p2), .val (.int p3), .val (.int p4), .val (.int (131072 : Int32)), .val (.int j1), .val (.int j2), .val (.int j3), .val (.int j5), .unset, .unset, .unset, .unset, .unset, .unset, .unset] [(.int j5)])) _
              refine XS.ifYes X0.here hx rfl (pc0 := 44) (pc' := 54) rfl (hb hby at_44) rfl ((if0 _ _).trans (feq hc44_2).2) (by decide) (by decide) ?_
              show Steps p.tables e below (s₁.setTop (mkF m 54 #[.val (.int p1), .val (.int p2), .val (.int p3), .val (.int p4), .val (.int (131072 : Int32)), .val (.int j1), .val (.int j2), .val (.int j3), .val (.int j5), .unset, .unset, .unset, .unset, .unset, .unset, .unset] [])) _
              refine XS.iload X0.here hx rfl (hb hby at_54) rfl ?_
              show Steps p.tables e below (s₁.setTop (mkF m 56 #[.val (.int p1), .val (.int p2), .val (.int p3), .val (.int p4), .val (.int (131072 : Int32)), .val (.int j1), .val (.int j2), .val (.int j3), .val (.int j5), .unset, .unset, .unset, .unset, .unset, .unset, .unset] [(.int j5)])) _
              refine XS.iconst X0.here hx rfl (hb hby at_56) ?_
              show Steps p.tables e below (s₁.setTop (mkF m 57 #[.val (.int p1), .val (.int p2), .val (.int p3), .val (.int p4), .val (.int (131072 : Int32)), .val (.int j1), .val (.int j2), .val (.int j3), .val (.int j5), .unset, .unset, .unset, .unset, .unset, .unset, .unset] [(.int (1 : Int32)), (.int j5)])) _
              refine XS.icmpYes X0.here hx rfl (pc0 := 57) (pc' := 67) rfl (hb hby at_57) rfl (feq hc57_3).2 (by decide) (by decide) ?_
              show Steps p.tables e below (s₁.setTop (mkF m 67 #[.val (.int p1), .val (.int p2), .val (.int p3), .val (.int p4), .val (.int (131072 : Int32)), .val (.int j1), .val (.int j2), .val (.int j3), .val (.int j5), .unset, .unset, .unset, .unset, .unset, .unset, .unset] [])) _
              refine XS.iload X0.here hx rfl (hb hby at_67) rfl ?_
              show Steps p.tables e below (s₁.setTop (mkF m 69 #[.val (.int p1), .val (.int p2), .val (.int p3), .val (.int p4), .val (.int (131072 : Int32)), .val (.int j1), .val (.int j2), .val (.int j3), .val (.int j5), .unset, .unset, .unset, .unset, .unset, .unset, .unset] [(.int j5)])) _
              refine XS.iconst X0.here hx rfl (hb hby at_69) ?_
              show Steps p.tables e below (s₁.setTop (mkF m 70 #[.val (.int p1), .val (.int p2), .val (.int p3), .val (.int p4), .val (.int (131072 : Int32)), .val (.int j1), .val (.int j2), .val (.int j3), .val (.int j5), .unset, .unset, .unset, .unset, .unset, .unset, .unset] [(.int (2 : Int32)), (.int j5)])) _
              refine XS.icmpYes X0.here hx rfl (pc0 := 70) (pc' := 82) rfl (hb hby at_70) rfl (feq hc70_4).2 (by decide) (by decide) ?_
              show Steps p.tables e below (s₁.setTop (mkF m 82 #[.val (.int p1), .val (.int p2), .val (.int p3), .val (.int p4), .val (.int (131072 : Int32)), .val (.int j1), .val (.int j2), .val (.int j3), .val (.int j5), .unset, .unset, .unset, .unset, .unset, .unset, .unset] [])) _
              refine XS.iload X0.here hx rfl (hb hby at_82) rfl ?_
              show Steps p.tables e below (s₁.setTop (mkF m 84 #[.val (.int p1), .val (.int p2), .val (.int p3), .val (.int p4), .val (.int (131072 : Int32)), .val (.int j1), .val (.int j2), .val (.int j3), .val (.int j5), .unset, .unset, .unset, .unset, .unset, .unset, .unset] [(.int j5)])) _
              refine XS.iconst X0.here hx rfl (hb hby at_84) ?_
              show Steps p.tables e below (s₁.setTop (mkF m 85 #[.val (.int p1), .val (.int p2), .val (.int p3), .val (.int p4), .val (.int (131072 : Int32)), .val (.int j1), .val (.int j2), .val (.int j3), .val (.int j5), .unset, .unset, .unset, .unset, .unset, .unset, .unset] [(.int (3 : Int32)), (.int j5)])) _
              refine XS.icmpYes X0.here hx rfl (pc0 := 85) (pc' := 98) rfl (hb hby at_85) rfl (feq hc85_5).2 (by decide) (by decide) ?_
              show Steps p.tables e below (s₁.setTop (mkF m 98 #[.val (.int p1), .val (.int p2), .val (.int p3), .val (.int p4), .val (.int (131072 : Int32)), .val (.int j1), .val (.int j2), .val (.int j3), .val (.int j5), .unset, .unset, .unset, .unset, .unset, .unset, .unset] [])) _
              refine XS.iload X0.here hx rfl (hb hby at_98) rfl ?_
              show Steps p.tables e below (s₁.setTop (mkF m 100 #[.val (.int p1), .val (.int p2), .val (.int p3), .val (.int p4), .val (.int (131072 : Int32)), .val (.int j1), .val (.int j2), .val (.int j3), .val (.int j5), .unset, .unset, .unset, .unset, .unset, .unset, .unset] [(.int j5)])) _
              refine XS.iconst X0.here hx rfl (hb hby at_100) ?_
              show Steps p.tables e below (s₁.setTop (mkF m 101 #[.val (.int p1), .val (.int p2), .val (.int p3), .val (.int p4), .val (.int (131072 : Int32)), .val (.int j1), .val (.int j2), .val (.int j3), .val (.int j5), .unset, .unset, .unset, .unset, .unset, .unset, .unset] [(.int (4 : Int32)), (.int j5)])) _
              refine XS.icmpNo X0.here hx rfl (hb hby at_101) rfl (teq hc101_6).2 ?_
              show Steps p.tables e below (s₁.setTop (mkF m 104 #[.val (.int p1), .val (.int p2), .val (.int p3), .val (.int p4), .val (.int (131072 : Int32)), .val (.int j1), .val (.int j2), .val (.int j3), .val (.int j5), .unset, .unset, .unset, .unset, .unset, .unset, .unset] [])) _
              refine XS.iload X0.here hx rfl (hb hby at_104) rfl ?_
              show Steps p.tables e below (s₁.setTop (mkF m 106 #[.val (.int p1), .val (.int p2), .val (.int p3), .val (.int p4), .val (.int (131072 : Int32)), .val (.int j1), .val (.int j2), .val (.int j3), .val (.int j5), .unset, .unset, .unset, .unset, .unset, .unset, .unset] [(.int j1)])) _
              refine XS.bipush X0.here hx rfl (hb hby at_106) ?_
              show Steps p.tables e below (s₁.setTop (mkF m 108 #[.val (.int p1), .val (.int p2), .val (.int p3), .val (.int p4), .val (.int (131072 : Int32)), .val (.int j1), .val (.int j2), .val (.int j3), .val (.int j5), .unset, .unset, .unset, .unset, .unset, .unset, .unset] [(.int (64 : Int32)), (.int j1)])) _
              refine XS.ixor X0.here hx rfl (hb hby at_108) rfl ?_
              show Steps p.tables e below (s₁.setTop (mkF m 109 #[.val (.int p1), .val (.int p2), .val (.int p3), .val (.int p4), .val (.int (131072 : Int32)), .val (.int j1), .val (.int j2), .val (.int j3), .val (.int j5), .unset, .unset, .unset, .unset, .unset, .unset, .unset] [(.int (j1 ^^^ (64 : Int32)))])) _
              refine XS.istore X0.here hx rfl (hb hby at_109) rfl (l' := #[.val (.int p1), .val (.int p2), .val (.int p3), .val (.int p4), .val (.int (131072 : Int32)), .val (.int j1), .val (.int j2), .val (.int j3), .val (.int j5), .val (.int (j1 ^^^ (64 : Int32))), .unset, .unset, .unset, .unset, .unset, .unset]) rfl ?_
              show Steps p.tables e below (s₁.setTop (mkF m 111 #[.val (.int p1), .val (.int p2), .val (.int p3), .val (.int p4), .val (.int (131072 : Int32)), .val (.int j1), .val (.int j2), .val (.int j3), .val (.int j5), .val (.int (j1 ^^^ (64 : Int32))), .unset, .unset, .unset, .unset, .unset, .unset] [])) _
              refine XS.goto X0.here hx rfl (pc0 := 111) (pc' := 151) rfl (hb hby at_111) (by decide) (by decide) ?_
              exact k
            · skip
              by_cases hc117_7 : j5 = (5 : Int32)
              · skip
                refine ⟨((131072 : Int32) - (1 : Int32)), (by simp only [if_neg hc44_2, if_neg hc57_3, if_neg hc70_4, if_neg hc85_5, if_neg hc101_6, if_pos hc117_7]), fun t k => ?_⟩
                show Steps p.tables e below (s₁.setTop (mkF m 44 #[.val (.int p1), .val (.int p2), .val (.int p3), .val (.int p4), .val (.int (131072 : Int32)), .val (.int j1), .val (.int j2), .val (.int j3), .val (.int j5), .unset, .unset, .unset, .unset, .unset, .unset, .unset] [(.int j5)])) _
                refine XS.ifYes X0.here hx rfl (pc0 := 44) (pc' := 54) rfl (hb hby at_44) rfl ((if0 _ _).trans (feq hc44_2).2) (by decide) (by decide) ?_
                show Steps p.tables e below (s₁.setTop (mkF m 54 #[.val (.int p1), .val (.int p2), .val (.int p3), .val (.int p4), .val (.int (131072 : Int32)), .val (.int j1), .val (.int j2), .val (.int j3), .val (.int j5), .unset, .unset, .unset, .unset, .unset, .unset, .unset] [])) _
                refine XS.iload X0.here hx rfl (hb hby at_54) rfl ?_
                show Steps p.tables e below (s₁.setTop (mkF m 56 #[.val (.int p1), .val (.int p2), .val (.int p3), .val (.int p4), .val (.int (131072 : Int32)), .val (.int j1), .val (.int j2), .val (.int j3), .val (.int j5), .unset, .unset, .unset, .unset, .unset, .unset, .unset] [(.int j5)])) _
                refine XS.iconst X0.here hx rfl (hb hby at_56) ?_
                show Steps p.tables e below (s₁.setTop (mkF m 57 #[.val (.int p1), .val (.int p2), .val (.int p3), .val (.int p4), .val (.int (131072 : Int32)), .val (.int j1), .val (.int j2), .val (.int j3), .val (.int j5), .unset, .unset, .unset, .unset, .unset, .unset, .unset] [(.int (1 : Int32)), (.int j5)])) _
                refine XS.icmpYes X0.here hx rfl (pc0 := 57) (pc' := 67) rfl (hb hby at_57) rfl (feq hc57_3).2 (by decide) (by decide) ?_
                show Steps p.tables e below (s₁.setTop (mkF m 67 #[.val (.int p1), .val (.int p2), .val (.int p3), .val (.int p4), .val (.int (131072 : Int32)), .val (.int j1), .val (.int j2), .val (.int j3), .val (.int j5), .unset, .unset, .unset, .unset, .unset, .unset, .unset] [])) _
                refine XS.iload X0.here hx rfl (hb hby at_67) rfl ?_
                show Steps p.tables e below (s₁.setTop (mkF m 69 #[.val (.int p1), .val (.int p2), .val (.int p3), .val (.int p4), .val (.int (131072 : Int32)), .val (.int j1), .val (.int j2), .val (.int j3), .val (.int j5), .unset, .unset, .unset, .unset, .unset, .unset, .unset] [(.int j5)])) _
                refine XS.iconst X0.here hx rfl (hb hby at_69) ?_
                show Steps p.tables e below (s₁.setTop (mkF m 70 #[.val (.int p1), .val (.int p2), .val (.int p3), .val (.int p4), .val (.int (131072 : Int32)), .val (.int j1), .val (.int j2), .val (.int j3), .val (.int j5), .unset, .unset, .unset, .unset, .unset, .unset, .unset] [(.int (2 : Int32)), (.int j5)])) _
                refine XS.icmpYes X0.here hx rfl (pc0 := 70) (pc' := 82) rfl (hb hby at_70) rfl (feq hc70_4).2 (by decide) (by decide) ?_
                show Steps p.tables e below (s₁.setTop (mkF m 82 #[.val (.int p1), .val (.int p2), .val (.int p3), .val (.int p4), .val (.int (131072 : Int32)), .val (.int j1), .val (.int j2), .val (.int j3), .val (.int j5), .unset, .unset, .unset, .unset, .unset, .unset, .unset] [])) _
                refine XS.iload X0.here hx rfl (hb hby at_82) rfl ?_
                show Steps p.tables e below (s₁.setTop (mkF m 84 #[.val (.int p1), .val (.int p2), .val (.int p3), .val (.int p4), .val (.int (131072 : Int32)), .val (.int j1), .val (.int j2), .val (.int j3), .val (.int j5), .unset, .unset, .unset, .unset, .unset, .unset, .unset] [(.int j5)])) _
                refine XS.iconst X0.here hx rfl (hb hby at_84) ?_
                show Steps p.tables e below (s₁.setTop (mkF m 85 #[.val (.int p1), .val (.int p2), .val (.int p3), .val (.int p4), .val (.int (131072 : Int32)), .val (.int j1), .val (.int j2), .val (.int j3), .val (.int j5), .unset, .unset, .unset, .unset, .unset, .unset, .unset] [(.int (3 : Int32)), (.int j5)])) _
                refine XS.icmpYes X0.here hx rfl (pc0 := 85) (pc' := 98) rfl (hb hby at_85) rfl (feq hc85_5).2 (by decide) (by decide) ?_
                show Steps p.tables e below (s₁.setTop (mkF m 98 #[.val (.int p1), .val (.int p2), .val (.int p3), .val (.int p4), .val (.int (131072 : Int32)), .val (.int j1), .val (.int j2), .val (.int j3), .val (.int j5), .unset, .unset, .unset, .unset, .unset, .unset, .unset] [])) _
                refine XS.iload X0.here hx rfl (hb hby at_98) rfl ?_
                show Steps p.tables e below (s₁.setTop (mkF m 100 #[.val (.int p1), .val (.int p2), .val (.int p3), .val (.int p4), .val (.int (131072 : Int32)), .val (.int j1), .val (.int j2), .val (.int j3), .val (.int j5), .unset, .unset, .unset, .unset, .unset, .unset, .unset] [(.int j5)])) _
                refine XS.iconst X0.here hx rfl (hb hby at_100) ?_
                show Steps p.tables e below (s₁.setTop (mkF m 101 #[.val (.int p1), .val (.int p2), .val (.int p3), .val (.int p4), .val (.int (131072 : Int32)), .val (.int j1), .val (.int j2), .val (.int j3), .val (.int j5), .unset, .unset, .unset, .unset, .unset, .unset, .unset] [(.int (4 : Int32)), (.int j5)])) _
                refine XS.icmpYes X0.here hx rfl (pc0 := 101) (pc' := 114) rfl (hb hby at_101) rfl (feq hc101_6).2 (by decide) (by decide) ?_
                show Steps p.tables e below (s₁.setTop (mkF m 114 #[.val (.int p1), .val (.int p2), .val (.int p3), .val (.int p4), .val (.int (131072 : Int32)), .val (.int j1), .val (.int j2), .val (.int j3), .val (.int j5), .unset, .unset, .unset, .unset, .unset, .unset, .unset] [])) _
                refine XS.iload X0.here hx rfl (hb hby at_114) rfl ?_
                show Steps p.tables e below (s₁.setTop (mkF m 116 #[.val (.int p1), .val (.int p2), .val (.int p3), .val (.int p4), .val (.int (131072 : Int32)), .val (.int j1), .val (.int j2), .val (.int j3), .val (.int j5), .unset, .unset, .unset, .unset, .unset, .unset, .unset] [(.int j5)])) _
                refine XS.iconst X0.here hx rfl (hb hby at_116) ?_
                show Steps p.tables e below (s₁.setTop (mkF m 117 #[.val (.int p1), .val (.int p2), .val (.int p3), .val (.int p4), .val (.int (131072 : Int32)), .val (.int j1), .val (.int j2), .val (.int j3), .val (.int j5), .unset, .unset, .unset, .unset, .unset, .unset, .unset] [(.int (5 : Int32)), (.int j5)])) _
                refine XS.icmpNo X0.here hx rfl (hb hby at_117) rfl (teq hc117_7).2 ?_
                show Steps p.tables e below (s₁.setTop (mkF m 120 #[.val (.int p1), .val (.int p2), .val (.int p3), .val (.int p4), .val (.int (131072 : Int32)), .val (.int j1), .val (.int j2), .val (.int j3), .val (.int j5), .unset, .unset, .unset, .unset, .unset, .unset, .unset] [])) _
                refine XS.iload X0.here hx rfl (hb hby at_120) rfl ?_
                show Steps p.tables e below (s₁.setTop (mkF m 122 #[.val (.int p1), .val (.int p2), .val (.int p3), .val (.int p4), .val (.int (131072 : Int32)), .val (.int j1), .val (.int j2), .val (.int j3), .val (.int j5), .unset, .unset, .unset, .unset, .unset, .unset, .unset] [(.int (131072 : Int32))])) _
                refine XS.iconst X0.here hx rfl (hb hby at_122) ?_
                show Steps p.tables e below (s₁.setTop (mkF m 123 #[.val (.int p1), .val (.int p2), .val (.int p3), .val (.int p4), .val (.int (131072 : Int32)), .val (.int j1), .val (.int j2), .val (.int j3), .val (.int j5), .unset, .unset, .unset, .unset, .unset, .unset, .unset] [(.int (1 : Int32)), (.int (131072 : Int32))])) _
                refine XS.isub X0.here hx rfl (hb hby at_123) rfl ?_
                show Steps p.tables e below (s₁.setTop (mkF m 124 #[.val (.int p1), .val (.int p2), .val (.int p3), .val (.int p4), .val (.int (131072 : Int32)), .val (.int j1), .val (.int j2), .val (.int j3), .val (.int j5), .unset, .unset, .unset, .unset, .unset, .unset, .unset] [(.int ((131072 : Int32) - (1 : Int32)))])) _
                refine XS.istore X0.here hx rfl (hb hby at_124) rfl (l' := #[.val (.int p1), .val (.int p2), .val (.int p3), .val (.int p4), .val (.int (131072 : Int32)), .val (.int j1), .val (.int j2), .val (.int j3), .val (.int j5), .val (.int ((131072 : Int32) - (1 : Int32))), .unset, .unset, .unset, .unset, .unset, .unset]) rfl ?_
                show Steps p.tables e below (s₁.setTop (mkF m 126 #[.val (.int p1), .val (.int p2), .val (.int p3), .val (.int p4), .val (.int (131072 : Int32)), .val (.int j1), .val (.int j2), .val (.int j3), .val (.int j5), .val (.int ((131072 : Int32) - (1 : Int32))), .unset, .unset, .unset, .unset, .unset, .unset] [])) _
                refine XS.goto X0.here hx rfl (pc0 := 126) (pc' := 151) rfl (hb hby at_126) (by decide) (by decide) ?_
                exact k
              · skip
                by_cases hc133_8 : j5 = (6 : Int32)
                · skip
                  refine ⟨(0 : Int32), (by simp only [if_neg hc44_2, if_neg hc57_3, if_neg hc70_4, if_neg hc85_5, if_neg hc101_6, if_neg hc117_7, if_pos hc133_8]), fun t k => ?_⟩
                  show Steps p.tables e below (s₁.setTop (mkF m 44 #[.val (.int p1), .val (.int p2), .val (.int p3), .val (.int p4), .val (.int (131072 : Int32)), .val (.int j1), .val (.int j2), .val (.int j3), .val (.int j5), .unset, .unset, .unset, .unset, .unset, .unset, .unset] [(.int j5)])) _
                  refine XS.ifYes X0.here hx rfl (pc0 := 44) (pc' := 54) rfl (hb hby at_44) rfl ((if0 _ _).trans (feq hc44_2).2) (by decide) (by decide) ?_
                  show Steps p.tables e below (s₁.setTop (mkF m 54 #[.val (.int p1), .val (.int p2), .val (.int p3), .val (.int p4), .val (.int (131072 : Int32)), .val (.int j1), .val (.int j2), .val (.int j3), .val (.int j5), .unset, .unset, .unset, .unset, .unset, .unset, .unset] [])) _
                  refine XS.iload X0.here hx rfl (hb hby at_54) rfl ?_
                  show Steps p.tables e below (s₁.setTop (mkF m 56 #[.val (.int p1), .val (.int p2), .val (.int p3), .val (.int p4), .val (.int (131072 : Int32)), .val (.int j1), .val (.int j2), .val (.int j3), .val (.int j5), .unset, .unset, .unset, .unset, .unset, .unset, .unset] [(.int j5)])) _
                  refine XS.iconst X0.here hx rfl (hb hby at_56) ?_
                  show Steps p.tables e below (s₁.setTop (mkF m 57 #[.val (.int p1), .val (.int p2), .val (.int p3), .val (.int p4), .val (.int (131072 : Int32)), .val (.int j1), .val (.int j2), .val (.int j3), .val (.int j5), .unset, .unset, .unset, .unset, .unset, .unset, .unset] [(.int (1 : Int32)), (.int j5)])) _
                  refine XS.icmpYes X0.here hx rfl (pc0 := 57) (pc' := 67) rfl (hb hby at_57) rfl (feq hc57_3).2 (by decide) (by decide) ?_
                  show Steps p.tables e below (s₁.setTop (mkF m 67 #[.val (.int p1), .val (.int p2), .val (.int p3), .val (.int p4), .val (.int (131072 : Int32)), .val (.int j1), .val (.int j2), .val (.int j3), .val (.int j5), .unset, .unset, .unset, .unset, .unset, .unset, .unset] [])) _
                  refine XS.iload X0.here hx rfl (hb hby at_67) rfl ?_
                  show Steps p.tables e below (s₁.setTop (mkF m 69 #[.val (.int p1), .val (.int p2), .val (.int p3), .val (.int p4), .val (.int (131072 : Int32)), .val (.int j1), .val (.int j2), .val (.int j3), .val (.int j5), .unset, .unset, .unset, .unset, .unset, .unset, .unset] [(.int j5)])) _
                  refine XS.iconst X0.here hx rfl (hb hby at_69) ?_
                  show Steps p.tables e below (s₁.setTop (mkF m 70 #[.val (.int p1), .val (.int p2), .val (.int p3), .val (.int p4), .val (.int (131072 : Int32)), .val (.int j1), .val (.int j2), .val (.int j3), .val (.int j5), .unset, .unset, .unset, .unset, .unset, .unset, .unset] [(.int (2 : Int32)), (.int j5)])) _
                  refine XS.icmpYes X0.here hx rfl (pc0 := 70) (pc' := 82) rfl (hb hby at_70) rfl (feq hc70_4).2 (by decide) (by decide) ?_
                  show Steps p.tables e below (s₁.setTop (mkF m 82 #[.val (.int p1), .val (.int p2), .val (.int p3), .val (.int p4), .val (.int (131072 : Int32)), .val (.int j1), .val (.int j2), .val (.int j3), .val (.int j5), .unset, .unset, .unset, .unset, .unset, .unset, .unset] [])) _
                  refine XS.iload X0.here hx rfl (hb hby at_82) rfl ?_
                  show Steps p.tables e below (s₁.setTop (mkF m 84 #[.val (.int p1), .val (.int p2), .val (.int p3), .val (.int p4), .val (.int (131072 : Int32)), .val (.int j1), .val (.int j2), .val (.int j3), .val (.int j5), .unset, .unset, .unset, .unset, .unset, .unset, .unset] [(.int j5)])) _
                  refine XS.iconst X0.here hx rfl (hb hby at_84) ?_
                  show Steps p.tables e below (s₁.setTop (mkF m 85 #[.val (.int p1), .val (.int p2), .val (.int p3), .val (.int p4), .val (.int (131072 : Int32)), .val (.int j1), .val (.int j2), .val (.int j3), .val (.int j5), .unset, .unset, .unset, .unset, .unset, .unset, .unset] [(.int (3 : Int32)), (.int j5)])) _
                  refine XS.icmpYes X0.here hx rfl (pc0 := 85) (pc' := 98) rfl (hb hby at_85) rfl (feq hc85_5).2 (by decide) (by decide) ?_
                  show Steps p.tables e below (s₁.setTop (mkF m 98 #[.val (.int p1), .val (.int p2), .val (.int p3), .val (.int p4), .val (.int (131072 : Int32)), .val (.int j1), .val (.int j2), .val (.int j3), .val (.int j5), .unset, .unset, .unset, .unset, .unset, .unset, .unset] [])) _
                  refine XS.iload X0.here hx rfl (hb hby at_98) rfl ?_
                  show Steps p.tables e below (s₁.setTop (mkF m 100 #[.val (.int p1), .val (.int p2), .val (.int p3), .val (.int p4), .val (.int (131072 : Int32)), .val (.int j1), .val (.int j2), .val (.int j3), .val (.int j5), .unset, .unset, .unset, .unset, .unset, .unset, .unset] [(.int j5)])) _
                  refine XS.iconst X0.here hx rfl (hb hby at_100) ?_
                  show Steps p.tables e below (s₁.setTop (mkF m 101 #[.val (.int p1), .val (.int p2), .val (.int p3), .val (.int p4), .val (.int (131072 : Int32)), .val (.int j1), .val (.int j2), .val (.int j3), .val (.int j5), .unset, .unset, .unset, .unset, .unset, .unset, .unset] [(.int (4 : Int32)), (.int j5)])) _
                  refine XS.icmpYes X0.here hx rfl (pc0 := 101) (pc' := 114) rfl (hb hby at_101) rfl (feq hc101_6).2 (by decide) (by decide) ?_
                  show Steps p.tables e below (s₁.setTop (mkF m 114 #[.val (.int p1), .val (.int p2), .val (.int p3), .val (.int p4), .val (.int (131072 : Int32)), .val (.int j1), .val (.int j2), .val (.int j3), .val (.int j5), .unset, .unset, .unset, .unset, .unset, .unset, .unset] [])) _
                  refine XS.iload X0.here hx rfl (hb hby at_114) rfl ?_
                  show Steps p.tables e below (s₁.setTop (mkF m 116 #[.val (.int p1), .val (.int p2), .val (.int p3), .val (.int p4), .val (.int (131072 : Int32)), .val (.int j1), .val (.int j2), .val (.int j3), .val (.int j5), .unset, .unset, .unset, .unset, .unset, .unset, .unset] [(.int j5)])) _
                  refine XS.iconst X0.here hx rfl (hb hby at_116) ?_
                  show Steps p.tables e below (s₁.setTop (mkF m 117 #[.val (.int p1), .val (.int p2), .val (.int p3), .val (.int p4), .val (.int (131072 : Int32)), .val (.int j1), .val (.int j2), .val (.int j3), .val (.int j5), .unset, .unset, .unset, .unset, .unset, .unset, .unset] [(.int (5 : Int32)), (.int j5)])) _
                  refine XS.icmpYes X0.here hx rfl (pc0 := 117) (pc' := 129) rfl (hb hby at_117) rfl (feq hc117_7).2 (by decide) (by decide) ?_
                  show Steps p.tables e below (s₁.setTop (mkF m 129 #[.val (.int p1), .val (.int p2), .val (.int p3), .val (.int p4), .val (.int (131072 : Int32)), .val (.int j1), .val (.int j2), .val (.int j3), .val (.int j5), .unset, .unset, .unset, .unset, .unset, .unset, .unset] [])) _
                  refine XS.iload X0.here hx rfl (hb hby at_129) rfl ?_
                  show Steps p.tables e below (s₁.setTop (mkF m 131 #[.val (.int p1), .val (.int p2), .val (.int p3), .val (.int p4), .val (.int (131072 : Int32)), .val (.int j1), .val (.int j2), .val (.int j3), .val (.int j5), .unset, .unset, .unset, .unset, .unset, .unset, .unset] [(.int j5)])) _
                  refine XS.bipush X0.here hx rfl (hb hby at_131) ?_
                  show Steps p.tables e below (s₁.setTop (mkF m 133 #[.val (.int p1), .val (.int p2), .val (.int p3), .val (.int p4), .val (.int (131072 : Int32)), .val (.int j1), .val (.int j2), .val (.int j3), .val (.int j5), .unset, .unset, .unset, .unset, .unset, .unset, .unset] [(.int (6 : Int32)), (.int j5)])) _
                  refine XS.icmpNo X0.here hx rfl (hb hby at_133) rfl (teq hc133_8).2 ?_
                  show Steps p.tables e below (s₁.setTop (mkF m 136 #[.val (.int p1), .val (.int p2), .val (.int p3), .val (.int p4), .val (.int (131072 : Int32)), .val (.int j1), .val (.int j2), .val (.int j3), .val (.int j5), .unset, .unset, .unset, .unset, .unset, .unset, .unset] [])) _
                  refine XS.iconst X0.here hx rfl (hb hby at_136) ?_
                  show Steps p.tables e below (s₁.setTop (mkF m 137 #[.val (.int p1), .val (.int p2), .val (.int p3), .val (.int p4), .val (.int (131072 : Int32)), .val (.int j1), .val (.int j2), .val (.int j3), .val (.int j5), .unset, .unset, .unset, .unset, .unset, .unset, .unset] [(.int (0 : Int32))])) _
                  refine XS.istore X0.here hx rfl (hb hby at_137) rfl (l' := #[.val (.int p1), .val (.int p2), .val (.int p3), .val (.int p4), .val (.int (131072 : Int32)), .val (.int j1), .val (.int j2), .val (.int j3), .val (.int j5), .val (.int (0 : Int32)), .unset, .unset, .unset, .unset, .unset, .unset]) rfl ?_
                  show Steps p.tables e below (s₁.setTop (mkF m 139 #[.val (.int p1), .val (.int p2), .val (.int p3), .val (.int p4), .val (.int (131072 : Int32)), .val (.int j1), .val (.int j2), .val (.int j3), .val (.int j5), .val (.int (0 : Int32)), .unset, .unset, .unset, .unset, .unset, .unset] [])) _
                  refine XS.goto X0.here hx rfl (pc0 := 139) (pc' := 151) rfl (hb hby at_139) (by decide) (by decide) ?_
                  exact k
                · skip
                  refine ⟨((p3 &&& (2147483647 : Int32)) % (131072 : Int32)), (by simp only [if_neg hc44_2, if_neg hc57_3, if_neg hc70_4, if_neg hc85_5, if_neg hc101_6, if_neg hc117_7, if_neg hc133_8]), fun t k => ?_⟩
                  show Steps p.tables e below (s₁.setTop (mkF m 44 #[.val (.int p1), .val (.int p2), .val (.int p3), .val (.int p4), .val (.int (131072 : Int32)), .val (.int j1), .val (.int j2), .val (.int j3), .val (.int j5), .unset, .unset, .unset, .unset, .unset, .unset, .unset] [(.int j5)])) _
                  refine XS.ifYes X0.here hx rfl (pc0 := 44) (pc' := 54) rfl (hb hby at_44) rfl ((if0 _ _).trans (feq hc44_2).2) (by decide) (by decide) ?_
                  show Steps p.tables e below (s₁.setTop (mkF m 54 #[.val (.int p1), .val (.int p2), .val (.int p3), .val (.int p4), .val (.int (131072 : Int32)), .val (.int j1), .val (.int j2), .val (.int j3), .val (.int j5), .unset, .unset, .unset, .unset, .unset, .unset, .unset] [])) _
                  refine XS.iload X0.here hx rfl (hb hby at_54) rfl ?_
                  show Steps p.tables e below (s₁.setTop (mkF m 56 #[.val (.int p1), .val (.int p2), .val (.int p3), .val (.int p4), .val (.int (131072 : Int32)), .val (.int j1), .val (.int j2), .val (.int j3), .val (.int j5), .unset, .unset, .unset, .unset, .unset, .unset, .unset] [(.int j5)])) _
                  refine XS.iconst X0.here hx rfl (hb hby at_56) ?_
                  show Steps p.tables e below (s₁.setTop (mkF m 57 #[.val (.int p1), .val (.int p2), .val (.int p3), .val (.int p4), .val (.int (131072 : Int32)), .val (.int j1), .val (.int j2), .val (.int j3), .val (.int j5), .unset, .unset, .unset, .unset, .unset, .unset, .unset] [(.int (1 : Int32)), (.int j5)])) _
                  refine XS.icmpYes X0.here hx rfl (pc0 := 57) (pc' := 67) rfl (hb hby at_57) rfl (feq hc57_3).2 (by decide) (by decide) ?_
                  show Steps p.tables e below (s₁.setTop (mkF m 67 #[.val (.int p1), .val (.int p2), .val (.int p3), .val (.int p4), .val (.int (131072 : Int32)), .val (.int j1), .val (.int j2), .val (.int j3), .val (.int j5), .unset, .unset, .unset, .unset, .unset, .unset, .unset] [])) _
                  refine XS.iload X0.here hx rfl (hb hby at_67) rfl ?_
                  show Steps p.tables e below (s₁.setTop (mkF m 69 #[.val (.int p1), .val (.int p2), .val (.int p3), .val (.int p4), .val (.int (131072 : Int32)), .val (.int j1), .val (.int j2), .val (.int j3), .val (.int j5), .unset, .unset, .unset, .unset, .unset, .unset, .unset] [(.int j5)])) _
                  refine XS.iconst X0.here hx rfl (hb hby at_69) ?_
                  show Steps p.tables e below (s₁.setTop (mkF m 70 #[.val (.int p1), .val (.int p2), .val (.int p3), .val (.int p4), .val (.int (131072 : Int32)), .val (.int j1), .val (.int j2), .val (.int j3), .val (.int j5), .unset, .unset, .unset, .unset, .unset, .unset, .unset] [(.int (2 : Int32)), (.int j5)])) _
                  refine XS.icmpYes X0.here hx rfl (pc0 := 70) (pc' := 82) rfl (hb hby at_70) rfl (feq hc70_4).2 (by decide) (by decide) ?_
                  show Steps p.tables e below (s₁.setTop (mkF m 82 #[.val (.int p1), .val (.int p2), .val (.int p3), .val (.int p4), .val (.int (131072 : Int32)), .val (.int j1), .val (.int j2), .val (.int j3), .val (.int j5), .unset, .unset, .unset, .unset, .unset, .unset, .unset] [])) _
                  refine XS.iload X0.here hx rfl (hb hby at_82) rfl ?_
                  show Steps p.tables e below (s₁.setTop (mkF m 84 #[.val (.int p1), .val (.int p2), .val (.int p3), .val (.int p4), .val (.int (131072 : Int32)), .val (.int j1), .val (.int j2), .val (.int j3), .val (.int j5), .unset, .unset, .unset, .unset, .unset, .unset, .unset] [(.int j5)])) _
                  refine XS.iconst X0.here hx rfl (hb hby at_84) ?_
                  show Steps p.tables e below (s₁.setTop (mkF m 85 #[.val (.int p1), .val (.int p2), .val (.int p3), .val (.int p4), .val (.int (131072 : Int32)), .val (.int j1), .val (.int j2), .val (.int j3), .val (.int j5), .unset, .unset, .unset, .unset, .unset, .unset, .unset] [(.int (3 : Int32)), (.int j5)])) _
                  refine XS.icmpYes X0.here hx rfl (pc0 := 85) (pc' := 98) rfl (hb hby at_85) rfl (feq hc85_5).2 (by decide) (by decide) ?_
                  show Steps p.tables e below (s₁.setTop (mkF m 98 #[.val (.int p1), .val (.int p2), .val (.int p3), .val (.int p4), .val (.int (131072 : Int32)), .val (.int j1), .val (.int j2), .val (.int j3), .val (.int j5), .unset, .unset, .unset, .unset, .unset, .unset, .unset] [])) _
                  refine XS.iload X0.here hx rfl (hb hby at_98) rfl ?_
                  show Steps p.tables e below (s₁.setTop (mkF m 100 #[.val (.int p1), .val (.int p2), .val (.int p3), .val (.int p4), .val (.int (131072 : Int32)), .val (.int j1), .val (.int j2), .val (.int j3), .val (.int j5), .unset, .unset, .unset, .unset, .unset, .unset, .unset] [(.int j5)])) _
                  refine XS.iconst X0.here hx rfl (hb hby at_100) ?_
                  show Steps p.tables e below (s₁.setTop (mkF m 101 #[.val (.int p1), .val (.int p2), .val (.int p3), .val (.int p4), .val (.int (131072 : Int32)), .val (.int j1), .val (.int j2), .val (.int j3), .val (.int j5), .unset, .unset, .unset, .unset, .unset, .unset, .unset] [(.int (4 : Int32)), (.int j5)])) _
                  refine XS.icmpYes X0.here hx rfl (pc0 := 101) (pc' := 114) rfl (hb hby at_101) rfl (feq hc101_6).2 (by decide) (by decide) ?_
                  show Steps p.tables e below (s₁.setTop (mkF m 114 #[.val (.int p1), .val (.int p2), .val (.int p3), .val (.int p4), .val (.int (131072 : Int32)), .val (.int j1), .val (.int j2), .val (.int j3), .val (.int j5), .unset, .unset, .unset, .unset, .unset, .unset, .unset] [])) _
                  refine XS.iload X0.here hx rfl (hb hby at_114) rfl ?_
                  show Steps p.tables e below (s₁.setTop (mkF m 116 #[.val (.int p1), .val (.int p2), .val (.int p3), .val (.int p4), .val (.int (131072 : Int32)), .val (.int j1), .val (.int j2), .val (.int j3), .val (.int j5), .unset, .unset, .unset, .unset, .unset, .unset, .unset] [(.int j5)])) _
                  refine XS.iconst X0.here hx rfl (hb hby at_116) ?_
                  show Steps p.tables e below (s₁.setTop (mkF m 117 #[.val (.int p1), .val (.int p2), .val (.int p3), .val (.int p4), .val (.int (131072 : Int32)), .val (.int j1), .val (.int j2), .val (.int j3), .val (.int j5), .unset, .unset, .unset, .unset, .unset, .unset, .unset] [(.int (5 : Int32)), (.int j5)])) _
                  refine XS.icmpYes X0.here hx rfl (pc0 := 117) (pc' := 129) rfl (hb hby at_117) rfl (feq hc117_7).2 (by decide) (by decide) ?_
                  show Steps p.tables e below (s₁.setTop (mkF m 129 #[.val (.int p1), .val (.int p2), .val (.int p3), .val (.int p4), .val (.int (131072 : Int32)), .val (.int j1), .val (.int j2), .val (.int j3), .val (.int j5), .unset, .unset, .unset, .unset, .unset, .unset, .unset] [])) _
                  refine XS.iload X0.here hx rfl (hb hby at_129) rfl ?_
                  show Steps p.tables e below (s₁.setTop (mkF m 131 #[.val (.int p1), .val (.int p2), .val (.int p3), .val (.int p4), .val (.int (131072 : Int32)), .val (.int j1), .val (.int j2), .val (.int j3), .val (.int j5), .unset, .unset, .unset, .unset, .unset, .unset, .unset] [(.int j5)])) _
                  refine XS.bipush X0.here hx rfl (hb hby at_131) ?_
                  show Steps p.tables e below (s₁.setTop (mkF m 133 #[.val (.int p1), .val (.int p2), .val (.int p3), .val (.int p4), .val (.int (131072 : Int32)), .val (.int j1), .val (.int j2), .val (.int j3), .val (.int j5), .unset, .unset, .unset, .unset, .unset, .unset, .unset] [(.int (6 : Int32)), (.int j5)])) _
                  refine XS.icmpYes X0.here hx rfl (pc0 := 133) (pc' := 142) rfl (hb hby at_133) rfl (feq hc133_8).2 (by decide) (by decide) ?_
                  show Steps p.tables e below (s₁.setTop (mkF m 142 #[.val (.int p1), .val (.int p2), .val (.int p3), .val (.int p4), .val (.int (131072 : Int32)), .val (.int j1), .val (.int j2), .val (.int j3), .val (.int j5), .unset, .unset, .unset, .unset, .unset, .unset, .unset] [])) _
                  refine XS.iloadN X0.here hx rfl (hb hby at_142) rfl ?_
                  show Steps p.tables e below (s₁.setTop (mkF m 143 #[.val (.int p1), .val (.int p2), .val (.int p3), .val (.int p4), .val (.int (131072 : Int32)), .val (.int j1), .val (.int j2), .val (.int j3), .val (.int j5), .unset, .unset, .unset, .unset, .unset, .unset, .unset] [(.int p3)])) _
                  refine X0.ldcInt hx hown (mvT hZ (hw _ (List.mem_of_getElem? (i := 1) rfl))) (g := (mkF m 143 #[.val (.int p1), .val (.int p2), .val (.int p3), .val (.int p4), .val (.int (131072 : Int32)), .val (.int j1), .val (.int j2), .val (.int j3), .val (.int j5), .unset, .unset, .unset, .unset, .unset, .unset, .unset] [(.int p3)])) rfl (hb hby at_143) _ ?_
                  show Steps p.tables e below (s₁.setTop (mkF m 145 #[.val (.int p1), .val (.int p2), .val (.int p3), .val (.int p4), .val (.int (131072 : Int32)), .val (.int j1), .val (.int j2), .val (.int j3), .val (.int j5), .unset, .unset, .unset, .unset, .unset, .unset, .unset] [(.int (2147483647 : Int32)), (.int p3)])) _
                  refine XS.iand X0.here hx rfl (hb hby at_145) rfl ?_
                  show Steps p.tables e below (s₁.setTop (mkF m 146 #[.val (.int p1), .val (.int p2), .val (.int p3), .val (.int p4), .val (.int (131072 : Int32)), .val (.int j1), .val (.int j2), .val (.int j3), .val (.int j5), .unset, .unset, .unset, .unset, .unset, .unset, .unset] [(.int (p3 &&& (2147483647 : Int32)))])) _
                  refine XS.iload X0.here hx rfl (hb hby at_146) rfl ?_
                  show Steps p.tables e below (s₁.setTop (mkF m 148 #[.val (.int p1), .val (.int p2), .val (.int p3), .val (.int p4), .val (.int (131072 : Int32)), .val (.int j1), .val (.int j2), .val (.int j3), .val (.int j5), .unset, .unset, .unset, .unset, .unset, .unset, .unset] [(.int (131072 : Int32)), (.int (p3 &&& (2147483647 : Int32)))])) _
                  refine iremM X0 hx rfl (hb hby at_148) rfl (by decide) ?_
                  show Steps p.tables e below (s₁.setTop (mkF m 149 #[.val (.int p1), .val (.int p2), .val (.int p3), .val (.int p4), .val (.int (131072 : Int32)), .val (.int j1), .val (.int j2), .val (.int j3), .val (.int j5), .unset, .unset, .unset, .unset, .unset, .unset, .unset] [(.int ((p3 &&& (2147483647 : Int32)) % (131072 : Int32)))])) _
                  refine XS.istore X0.here hx rfl (hb hby at_149) rfl (l' := #[.val (.int p1), .val (.int p2), .val (.int p3), .val (.int p4), .val (.int (131072 : Int32)), .val (.int j1), .val (.int j2), .val (.int j3), .val (.int j5), .val (.int ((p3 &&& (2147483647 : Int32)) % (131072 : Int32))), .unset, .unset, .unset, .unset, .unset, .unset]) rfl ?_
                  exact k
  refine own_go st7 ?_
  show own_Go p.tables e below _ s₁ (mkF m 151 #[.val (.int p1), .val (.int p2), .val (.int p3), .val (.int p4), .val (.int (131072 : Int32)), .val (.int j1), .val (.int j2), .val (.int j3), .val (.int j5), .val (.int j6), .unset, .unset, .unset, .unset, .unset, .unset] [])
  obtain ⟨T8, h8, X8, e8, E8, A8, D8, -, st8⟩ := newO X0 hx hZ hown (hw _ (List.mem_of_getElem? (i := 2) rfl)) (hw _ (List.mem_of_getElem? (i := 3) rfl)) (hw _ (List.mem_of_getElem? (i := 4) rfl)) e0 (g := (mkF m 151 #[.val (.int p1), .val (.int p2), .val (.int p3), .val (.int p4), .val (.int (131072 : Int32)), .val (.int j1), .val (.int j2), .val (.int j3), .val (.int j5), .val (.int j6), .unset, .unset, .unset, .unset, .unset, .unset] [])) rfl (hb hby at_151) (by decide) (by decide)
  obtain ⟨b8, g8⟩ : ∃ z, z = h0.size := ⟨_, rfl⟩
  rw [← g8] at A8 D8 st8
  have g_b8 : n0 ≤ b8 := Nat.le_trans Z0 (Nat.le_of_eq g8.symm)
  have sz_b8 : h0.size ≤ b8 := Nat.le_trans KK.1 (Nat.le_of_eq g8.symm)
  have Z0 := Nat.le_trans Z0 E8.1
  have KK := KK.ext E8
  have E_b8 := A8
  have F_b8_words : Fld Z h8 b8 "com/example/capd/capd/status/Bitstring" "words" "[J" .null := D8 (Or.inr (hw _ (List.mem_of_getElem? (i := 17) rfl))) (ty := (.array .long)) (by decide)
  have F_b8_size : Fld Z h8 b8 "com/example/capd/capd/status/Bitstring" "size" "I" (.int (0 : Int32)) := D8 (Or.inr (hw _ (List.mem_of_getElem? (i := 19) rfl))) (ty := .int) (by decide)
  have F_b8_count : Fld Z h8 b8 "com/example/capd/capd/status/Bitstring" "count" "I" (.int (0 : Int32)) := D8 (Or.inl (hw _ (List.mem_of_getElem? (i := 21) rfl))) (ty := .int) (by decide)
  refine own_go st8 ?_
  show own_Go p.tables e below _ T8 (mkF m 154 #[.val (.int p1), .val (.int p2), .val (.int p3), .val (.int p4), .val (.int (131072 : Int32)), .val (.int j1), .val (.int j2), .val (.int j3), .val (.int j5), .val (.int j6), .unset, .unset, .unset, .unset, .unset, .unset] [(.ref b8)])
  refine own_go (T' := T8) (g' := (mkF m 155 #[.val (.int p1), .val (.int p2), .val (.int p3), .val (.int p4), .val (.int (131072 : Int32)), .val (.int j1), .val (.int j2), .val (.int j3), .val (.int j5), .val (.int j6), .unset, .unset, .unset, .unset, .unset, .unset] [(.ref b8), (.ref b8)])) (fun t k => ?_) ?_
  · show Steps p.tables e below (T8.setTop (mkF m 154 #[.val (.int p1), .val (.int p2), .val (.int p3), .val (.int p4), .val (.int (131072 : Int32)), .val (.int j1), .val (.int j2), .val (.int j3), .val (.int j5), .val (.int j6), .unset, .unset, .unset, .unset, .unset, .unset] [(.ref b8)])) _
    refine XS.dup X8.here hx rfl (hb hby at_154) rfl rfl ?_
    exact k
  obtain ⟨_, _, ⟨T9, L9, k9, n9⟩, -, X9, ⟨Lc9, hQ9, l9, y9, z9⟩, st9⟩ := X8.specialBack hx (y := (⟨"com/example/capd/capd/status/Bitstring", "<init>", "()V"⟩ : MethodName)) rfl hown (mvT hZ (hw _ (List.mem_of_getElem? (i := 5) rfl))) (mvT hZ (hw _ (List.mem_of_getElem? (i := 6) rfl))) (mvT hZ (hw _ (List.mem_of_getElem? (i := 7) rfl))) (by decide) (backOf (W := 1) (rm1 l Z a0 hw [] b8 .null (.int (0 : Int32)) (.int (0 : Int32)) h8 n0 Z0 E_b8 F_b8_words g_b8 F_b8_size F_b8_count) hZ (hw _ (List.mem_of_getElem? (i := 7) rfl)) (hw _ (List.mem_of_getElem? (i := 4) rfl)) (by decide) (by decide)) (g := (mkF m 155 #[.val (.int p1), .val (.int p2), .val (.int p3), .val (.int p4), .val (.int (131072 : Int32)), .val (.int j1), .val (.int j2), .val (.int j3), .val (.int j5), .val (.int j6), .unset, .unset, .unset, .unset, .unset, .unset] [(.ref b8), (.ref b8)])) rfl (by rw [hml]; rfl) (Steps.refl _) (a := b8) (argsL := []) (rest := [(.ref b8)]) (lenOf pd_0 rfl) rfl (by show 2 * 0 + _ ≤ _; exact Nat.le_of_eq rfl) (hb hby at_155) (fun _ _ => ⟨rfl, e8, (by decide : 1 + 1 ≤ _), (by decide : 3 + 2048 ≤ _)⟩)
  dsimp only [Pt.U, Pt.locs, Pt.cells, Pt.slots] at X9 l9 y9 z9 st9 hQ9
  subst l9 y9 z9
  obtain ⟨b9_0, k9_1, rfl, N9q, K9, Q9_0, Q9_1, Q9_2, Q9_3, R9_0, R9_1, R9_2⟩ := hQ9
  have ne_b8_b9_0 : b8 ≠ b9_0 := Nat.ne_of_lt (Nat.lt_of_lt_of_le E_b8.lt R9_1)
  have E_b8 := Q9_0
  have F_b8_words := Q9_1
  have F_b8_size := Q9_2
  have F_b8_count := Q9_3
  have g_b9_0 := R9_0
  have sz_b9_0 : h0.size ≤ b9_0 := Nat.le_trans KK.1 R9_1
  have V_b9_0 := R9_2
  have Z0 := Nat.le_trans Z0 K9.1
  have KK := KK.trans K9 (allS (Or.inr sz_b8) all0)
  have NN := Fr.app NN N9q
  refine own_go (fun t k => st9.trans k) ?_
  show own_Go p.tables e below _ T9 (mkF m 158 #[.val (.int p1), .val (.int p2), .val (.int p3), .val (.int p4), .val (.int (131072 : Int32)), .val (.int j1), .val (.int j2), .val (.int j3), .val (.int j5), .val (.int j6), .unset, .unset, .unset, .unset, .unset, .unset] [(.ref b8)])
  refine own_go (T' := T9) (g' := (mkF m 164 #[.val (.int p1), .val (.int p2), .val (.int p3), .val (.int p4), .val (.int (131072 : Int32)), .val (.int j1), .val (.int j2), .val (.int j3), .val (.int j5), .val (.int j6), .val (.ref b8), .unset, .unset, .unset, .unset, .unset] [(.int j6), (.ref b8)])) (fun t k => ?_) ?_
  · show Steps p.tables e below (T9.setTop (mkF m 158 #[.val (.int p1), .val (.int p2), .val (.int p3), .val (.int p4), .val (.int (131072 : Int32)), .val (.int j1), .val (.int j2), .val (.int j3), .val (.int j5), .val (.int j6), .unset, .unset, .unset, .unset, .unset, .unset] [(.ref b8)])) _
    refine XS.astore X9.here hx rfl (hb hby at_158) rfl rfl (l' := #[.val (.int p1), .val (.int p2), .val (.int p3), .val (.int p4), .val (.int (131072 : Int32)), .val (.int j1), .val (.int j2), .val (.int j3), .val (.int j5), .val (.int j6), .val (.ref b8), .unset, .unset, .unset, .unset, .unset]) rfl ?_
    show Steps p.tables e below (T9.setTop (mkF m 160 #[.val (.int p1), .val (.int p2), .val (.int p3), .val (.int p4), .val (.int (131072 : Int32)), .val (.int j1), .val (.int j2), .val (.int j3), .val (.int j5), .val (.int j6), .val (.ref b8), .unset, .unset, .unset, .unset, .unset] [])) _
    refine XS.aload X9.here hx rfl (hb hby at_160) rfl rfl ?_
    show Steps p.tables e below (T9.setTop (mkF m 162 #[.val (.int p1), .val (.int p2), .val (.int p3), .val (.int p4), .val (.int (131072 : Int32)), .val (.int j1), .val (.int j2), .val (.int j3), .val (.int j5), .val (.int j6), .val (.ref b8), .unset, .unset, .unset, .unset, .unset] [(.ref b8)])) _
    refine XS.iload X9.here hx rfl (hb hby at_162) rfl ?_
    exact k
  have hhhhc1_3_5_164 : ¬ (j6 < (0 : Int32)) := own_at_hhhhc1_3_5_164 p1 p2 p3 p4 j1 j2 j5 j6 hj1 hj2 hj5 hj6
  have hhhhc6_3_5_164 : j6 < (131072 : Int32) := own_at_hhhhc6_3_5_164 p1 p2 p3 p4 j1 j2 j5 j6 hj1 hj2 hj5 hj6 hhhhc1_3_5_164
  have hhlo17_164 : ¬ ((j6 / (64 : Int32)) < (0 : Int32)) := own_at_hhlo17_164 p1 p2 p3 p4 j1 j2 j5 j6 hj1 hj2 hj5 hj6 hhhhc1_3_5_164 hhhhc6_3_5_164
  have hhhi17_164 : (j6 / (64 : Int32)) < (2048 : Int32) := own_at_hhhi17_164 p1 p2 p3 p4 j1 j2 j5 j6 hj1 hj2 hj5 hj6 hhhhc1_3_5_164 hhhhc6_3_5_164 hhlo17_164
  obtain ⟨cq10, kq10, q10a, q10b, q10c⟩ := isOf hZ rfl E_b8
  obtain ⟨_, _, ⟨T10, L10, k10, n10⟩, -, X10, ⟨Lc10, hQ10, l10, y10, z10⟩, st10⟩ := X9.virtualBack hx (y := (⟨"com/example/capd/capd/status/Bitstring", "get", "(I)Z"⟩ : MethodName)) (z := (⟨"com/example/capd/capd/status/Bitstring", "get", "(I)Z"⟩ : MethodName)) hown (mvT hZ (hw _ (List.mem_of_getElem? (i := 22) rfl))) (mvT hZ (hw _ (List.mem_of_getElem? (i := 23) rfl))) (notFace_of_selects (args := #[]) (mvT hZ (hw _ (List.mem_of_getElem? (i := 25) rfl)))) (mvT hZ (hw _ (List.mem_of_getElem? (i := 25) rfl))) (mvT hZ (hw _ (List.mem_of_getElem? (i := 24) rfl))) (by decide) (backOf (W := 0) (rm4 l Z a0 hw [] b8 j6 (131072 : Int32) b9_0 k9_1 (fun _ => 0) T9.heap n0 Z0 F_b8_size hhhhc1_3_5_164 hhhhc6_3_5_164 F_b8_words V_b9_0 hhlo17_164 hhhi17_164) hZ (hw _ (List.mem_of_getElem? (i := 26) rfl)) (hw _ (List.mem_of_getElem? (i := 4) rfl)) (by decide) (by decide)) q10a q10c (g := (mkF m 164 #[.val (.int p1), .val (.int p2), .val (.int p3), .val (.int p4), .val (.int (131072 : Int32)), .val (.int j1), .val (.int j2), .val (.int j3), .val (.int j5), .val (.int j6), .val (.ref b8), .unset, .unset, .unset, .unset, .unset] [(.int j6), (.ref b8)])) rfl (by rw [hml]; rfl) (Steps.refl _) (argsL := [(.int j6)]) (rest := []) (lenOf pd_2 rfl) rfl (by show 2 * 0 + _ ≤ _; exact Nat.le_of_eq rfl) (hb hby at_164) (fun _ _ => ⟨rfl, rfl, (by decide : 2 + 0 ≤ _), (by decide : 2051 + 0 ≤ _)⟩)
  dsimp only [Pt.U, Pt.locs, Pt.cells, Pt.slots] at X10 l10 y10 z10 st10 hQ10
  subst l10 y10 z10
  obtain ⟨rfl, N10q, e10⟩ := hQ10
  have NN := Fr.app NN N10q
  refine own_go (fun t k => st10.trans k) ?_
  show own_Go p.tables e below _ T10 (mkF m 167 #[.val (.int p1), .val (.int p2), .val (.int p3), .val (.int p4), .val (.int (131072 : Int32)), .val (.int j1), .val (.int j2), .val (.int j3), .val (.int j5), .val (.int j6), .val (.ref b8), .unset, .unset, .unset, .unset, .unset] [(.int (r_4 j6 (131072 : Int32) (fun _ => 0)))])
  refine own_go (T' := T10) (g' := (mkF m 169 #[.val (.int p1), .val (.int p2), .val (.int p3), .val (.int p4), .val (.int (131072 : Int32)), .val (.int j1), .val (.int j2), .val (.int j3), .val (.int j5), .val (.int j6), .val (.ref b8), .val (.int (r_4 j6 (131072 : Int32) (fun _ => 0))), .unset, .unset, .unset, .unset] [])) (fun t k => ?_) ?_
  · show Steps p.tables e below (T10.setTop (mkF m 167 #[.val (.int p1), .val (.int p2), .val (.int p3), .val (.int p4), .val (.int (131072 : Int32)), .val (.int j1), .val (.int j2), .val (.int j3), .val (.int j5), .val (.int j6), .val (.ref b8), .unset, .unset, .unset, .unset, .unset] [(.int (r_4 j6 (131072 : Int32) (fun _ => 0)))])) _
    refine XS.istore X10.here hx rfl (hb hby at_167) rfl (l' := #[.val (.int p1), .val (.int p2), .val (.int p3), .val (.int p4), .val (.int (131072 : Int32)), .val (.int j1), .val (.int j2), .val (.int j3), .val (.int j5), .val (.int j6), .val (.ref b8), .val (.int (r_4 j6 (131072 : Int32) (fun _ => 0))), .unset, .unset, .unset, .unset]) rfl ?_
    exact k
  show own_Go p.tables e below _ T10 (mkF m 169 #[.val (.int p1), .val (.int p2), .val (.int p3), .val (.int p4), .val (.int (131072 : Int32)), .val (.int j1), .val (.int j2), .val (.int j3), .val (.int j5), .val (.int j6), .val (.ref b8), .val (.int (r_4 j6 (131072 : Int32) (fun _ => 0))), .unset, .unset, .unset, .unset] [])
  obtain ⟨j11, hj11⟩ : ∃ z : Int32, z = (r_4 j6 (131072 : Int32) (fun _ => 0)) := ⟨_, rfl⟩
  rw [← hj11]
  show own_Go p.tables e below _ T10 (mkF m 169 #[.val (.int p1), .val (.int p2), .val (.int p3), .val (.int p4), .val (.int (131072 : Int32)), .val (.int j1), .val (.int j2), .val (.int j3), .val (.int j5), .val (.int j6), .val (.ref b8), .val (.int j11), .unset, .unset, .unset, .unset] [])
  refine own_go (T' := T10) (g' := (mkF m 173 #[.val (.int p1), .val (.int p2), .val (.int p3), .val (.int p4), .val (.int (131072 : Int32)), .val (.int j1), .val (.int j2), .val (.int j3), .val (.int j5), .val (.int j6), .val (.ref b8), .val (.int j11), .unset, .unset, .unset, .unset] [(.int j1), (.ref b8)])) (fun t k => ?_) ?_
  · show Steps p.tables e below (T10.setTop (mkF m 169 #[.val (.int p1), .val (.int p2), .val (.int p3), .val (.int p4), .val (.int (131072 : Int32)), .val (.int j1), .val (.int j2), .val (.int j3), .val (.int j5), .val (.int j6), .val (.ref b8), .val (.int j11), .unset, .unset, .unset, .unset] [])) _
    refine XS.aload X10.here hx rfl (hb hby at_169) rfl rfl ?_
    show Steps p.tables e below (T10.setTop (mkF m 171 #[.val (.int p1), .val (.int p2), .val (.int p3), .val (.int p4), .val (.int (131072 : Int32)), .val (.int j1), .val (.int j2), .val (.int j3), .val (.int j5), .val (.int j6), .val (.ref b8), .val (.int j11), .unset, .unset, .unset, .unset] [(.ref b8)])) _
    refine XS.iload X10.here hx rfl (hb hby at_171) rfl ?_
    exact k
  have hhhhc1_3_5_173 : ¬ (j1 < (0 : Int32)) := own_at_hhhhc1_3_5_173 p1 p2 p3 p4 j1 j2 j5 j6 hj1 hj2 hj5 hj6 hhhhc1_3_5_164 hhhhc6_3_5_164 hhlo17_164 hhhi17_164
  have hhhhc6_3_5_173 : j1 < (131072 : Int32) := own_at_hhhhc6_3_5_173 p1 p2 p3 p4 j1 j2 j5 j6 hj1 hj2 hj5 hj6 hhhhc1_3_5_164 hhhhc6_3_5_164 hhlo17_164 hhhi17_164 hhhhc1_3_5_173
  have hhhlo17_11_173 : ¬ ((j1 / (64 : Int32)) < (0 : Int32)) := own_at_hhhlo17_11_173 p1 p2 p3 p4 j1 j2 j5 j6 hj1 hj2 hj5 hj6 hhhhc1_3_5_164 hhhhc6_3_5_164 hhlo17_164 hhhi17_164 hhhhc1_3_5_173 hhhhc6_3_5_173
  have hhhhi17_11_173 : (j1 / (64 : Int32)) < (2048 : Int32) := own_at_hhhhi17_11_173 p1 p2 p3 p4 j1 j2 j5 j6 hj1 hj2 hj5 hj6 hhhhc1_3_5_164 hhhhc6_3_5_164 hhlo17_164 hhhi17_164 hhhhc1_3_5_173 hhhhc6_3_5_173 hhhlo17_11_173
  obtain ⟨cq12, kq12, q12a, q12b, q12c⟩ := isOf hZ e10 E_b8
  obtain ⟨_, _, ⟨T12, L12, k12, n12⟩, -, X12, ⟨Lc12, hQ12, l12, y12, z12⟩, st12⟩ := X10.virtualBack hx (y := (⟨"com/example/capd/capd/status/Bitstring", "set", "(I)V"⟩ : MethodName)) (z := (⟨"com/example/capd/capd/status/Bitstring", "set", "(I)V"⟩ : MethodName)) hown (mvT hZ (hw _ (List.mem_of_getElem? (i := 39) rfl))) (mvT hZ (hw _ (List.mem_of_getElem? (i := 40) rfl))) (notFace_of_selects (args := #[]) (mvT hZ (hw _ (List.mem_of_getElem? (i := 42) rfl)))) (mvT hZ (hw _ (List.mem_of_getElem? (i := 42) rfl))) (mvT hZ (hw _ (List.mem_of_getElem? (i := 41) rfl))) (by decide) (backOf (W := 0) (rm8 l Z a0 hw [] b8 j1 (131072 : Int32) b9_0 k9_1 (fun _ => 0) (0 : Int32) T9.heap n0 Z0 F_b8_size hhhhc1_3_5_173 hhhhc6_3_5_173 hhhhc1_3_5_173 hhhhc6_3_5_173 F_b8_words V_b9_0 hhhlo17_11_173 hhhhi17_11_173 E_b8 hhhlo17_11_173 hhhhi17_11_173 hhhlo17_11_173 hhhhi17_11_173 ne_b8_b9_0 g_b9_0 F_b8_count g_b8) hZ (hw _ (List.mem_of_getElem? (i := 43) rfl)) (hw _ (List.mem_of_getElem? (i := 4) rfl)) (by decide) (by decide)) q12a q12c (g := (mkF m 173 #[.val (.int p1), .val (.int p2), .val (.int p3), .val (.int p4), .val (.int (131072 : Int32)), .val (.int j1), .val (.int j2), .val (.int j3), .val (.int j5), .val (.int j6), .val (.ref b8), .val (.int j11), .unset, .unset, .unset, .unset] [(.int j1), (.ref b8)])) rfl (by rw [hml]; rfl) (Steps.refl _) (argsL := [(.int j1)]) (rest := []) (lenOf pd_6 rfl) rfl (by show 2 * 0 + _ ≤ _; exact Nat.le_of_eq rfl) (hb hby at_173) (fun _ _ => ⟨rfl, e10, (by decide : 2 + 0 ≤ _), (by decide : 2051 + 0 ≤ _)⟩)
  dsimp only [Pt.U, Pt.locs, Pt.cells, Pt.slots] at X12 l12 y12 z12 st12 hQ12
  subst l12 y12 z12
  obtain ⟨rfl, N12q, K12, Q12_0, Q12_1, Q12_2, Q12_3, Q12_4⟩ := hQ12
  have V_b9_0 := Q12_0
  have E_b8 := Q12_1
  have F_b8_size := Q12_2
  have F_b8_words := Q12_3
  have F_b8_count := Q12_4
  have Z0 := Nat.le_trans Z0 K12.1
  have KK := KK.trans K12 (allS (Or.inr sz_b9_0) (allS (Or.inr sz_b8) all0))
  have NN := Fr.app NN N12q
  refine own_go (fun t k => st12.trans k) ?_
  show own_Go p.tables e below _ T12 (mkF m 176 #[.val (.int p1), .val (.int p2), .val (.int p3), .val (.int p4), .val (.int (131072 : Int32)), .val (.int j1), .val (.int j2), .val (.int j3), .val (.int j5), .val (.int j6), .val (.ref b8), .val (.int j11), .unset, .unset, .unset, .unset] [])
  refine own_go (T' := T12) (g' := (mkF m 178 #[.val (.int p1), .val (.int p2), .val (.int p3), .val (.int p4), .val (.int (131072 : Int32)), .val (.int j1), .val (.int j2), .val (.int j3), .val (.int j5), .val (.int j6), .val (.ref b8), .val (.int j11), .unset, .unset, .unset, .unset] [(.int j3)])) (fun t k => ?_) ?_
  · show Steps p.tables e below (T12.setTop (mkF m 176 #[.val (.int p1), .val (.int p2), .val (.int p3), .val (.int p4), .val (.int (131072 : Int32)), .val (.int j1), .val (.int j2), .val (.int j3), .val (.int j5), .val (.int j6), .val (.ref b8), .val (.int j11), .unset, .unset, .unset, .unset] [])) _
    refine XS.iload X12.here hx rfl (hb hby at_176) rfl ?_
    exact k
  by_cases hc178_9 : j3 = (0 : Int32)
  · skip
    refine own_go (T' := T12) (g' := (mkF m 192 #[.val (.int p1), .val (.int p2), .val (.int p3), .val (.int p4), .val (.int (131072 : Int32)), .val (.int j1), .val (.int j2), .val (.int j3), .val (.int j5), .val (.int j6), .val (.ref b8), .val (.int j11), .unset, .unset, .unset, .unset] [(.int j6), (.ref b8)])) (fun t k => ?_) ?_
    · show Steps p.tables e below (T12.setTop (mkF m 178 #[.val (.int p1), .val (.int p2), .val (.int p3), .val (.int p4), .val (.int (131072 : Int32)), .val (.int j1), .val (.int j2), .val (.int j3), .val (.int j5), .val (.int j6), .val (.ref b8), .val (.int j11), .unset, .unset, .unset, .unset] [(.int j3)])) _
      refine XS.ifYes X12.here hx rfl (pc0 := 178) (pc' := 188) rfl (hb hby at_178) rfl ((if0 _ _).trans (teq hc178_9).1) (by decide) (by decide) ?_
      show Steps p.tables e below (T12.setTop (mkF m 188 #[.val (.int p1), .val (.int p2), .val (.int p3), .val (.int p4), .val (.int (131072 : Int32)), .val (.int j1), .val (.int j2), .val (.int j3), .val (.int j5), .val (.int j6), .val (.ref b8), .val (.int j11), .unset, .unset, .unset, .unset] [])) _
      refine XS.aload X12.here hx rfl (hb hby at_188) rfl rfl ?_
      show Steps p.tables e below (T12.setTop (mkF m 190 #[.val (.int p1), .val (.int p2), .val (.int p3), .val (.int p4), .val (.int (131072 : Int32)), .val (.int j1), .val (.int j2), .val (.int j3), .val (.int j5), .val (.int j6), .val (.ref b8), .val (.int j11), .unset, .unset, .unset, .unset] [(.ref b8)])) _
      refine XS.iload X12.here hx rfl (hb hby at_190) rfl ?_
      exact k
    obtain ⟨cq13, kq13, q13a, q13b, q13c⟩ := isOf hZ rfl E_b8
    obtain ⟨_, _, ⟨T13, L13, k13, n13⟩, -, X13, ⟨Lc13, hQ13, l13, y13, z13⟩, st13⟩ := X12.virtualBack hx (y := (⟨"com/example/capd/capd/status/Bitstring", "get", "(I)Z"⟩ : MethodName)) (z := (⟨"com/example/capd/capd/status/Bitstring", "get", "(I)Z"⟩ : MethodName)) hown (mvT hZ (hw _ (List.mem_of_getElem? (i := 22) rfl))) (mvT hZ (hw _ (List.mem_of_getElem? (i := 23) rfl))) (notFace_of_selects (args := #[]) (mvT hZ (hw _ (List.mem_of_getElem? (i := 25) rfl)))) (mvT hZ (hw _ (List.mem_of_getElem? (i := 25) rfl))) (mvT hZ (hw _ (List.mem_of_getElem? (i := 24) rfl))) (by decide) (backOf (W := 0) (rm4 l Z a0 hw [] b8 j6 (131072 : Int32) b9_0 k9_1 (u_8_w_words_a1_fn j1 (131072 : Int32) (fun _ => 0) (0 : Int32)) T12.heap n0 Z0 F_b8_size hhhhc1_3_5_164 hhhhc6_3_5_164 F_b8_words V_b9_0 hhlo17_164 hhhi17_164) hZ (hw _ (List.mem_of_getElem? (i := 26) rfl)) (hw _ (List.mem_of_getElem? (i := 4) rfl)) (by decide) (by decide)) q13a q13c (g := (mkF m 192 #[.val (.int p1), .val (.int p2), .val (.int p3), .val (.int p4), .val (.int (131072 : Int32)), .val (.int j1), .val (.int j2), .val (.int j3), .val (.int j5), .val (.int j6), .val (.ref b8), .val (.int j11), .unset, .unset, .unset, .unset] [(.int j6), (.ref b8)])) rfl (by rw [hml]; rfl) (Steps.refl _) (argsL := [(.int j6)]) (rest := []) (lenOf pd_2 rfl) rfl (by show 2 * 0 + _ ≤ _; exact Nat.le_of_eq rfl) (hb hby at_192) (fun _ _ => ⟨rfl, rfl, (by decide : 2 + 0 ≤ _), (by decide : 2051 + 0 ≤ _)⟩)
    dsimp only [Pt.U, Pt.locs, Pt.cells, Pt.slots] at X13 l13 y13 z13 st13 hQ13
    subst l13 y13 z13
    obtain ⟨rfl, N13q, e13⟩ := hQ13
    have NN := Fr.app NN N13q
    refine own_go (fun t k => st13.trans k) ?_
    show own_Go p.tables e below _ T13 (mkF m 195 #[.val (.int p1), .val (.int p2), .val (.int p3), .val (.int p4), .val (.int (131072 : Int32)), .val (.int j1), .val (.int j2), .val (.int j3), .val (.int j5), .val (.int j6), .val (.ref b8), .val (.int j11), .unset, .unset, .unset, .unset] [(.int (r_4 j6 (131072 : Int32) (u_8_w_words_a1_fn j1 (131072 : Int32) (fun _ => 0) (0 : Int32))))])
    refine own_go (T' := T13) (g' := (mkF m 197 #[.val (.int p1), .val (.int p2), .val (.int p3), .val (.int p4), .val (.int (131072 : Int32)), .val (.int j1), .val (.int j2), .val (.int j3), .val (.int j5), .val (.int j6), .val (.ref b8), .val (.int j11), .val (.int (r_4 j6 (131072 : Int32) (u_8_w_words_a1_fn j1 (131072 : Int32) (fun _ => 0) (0 : Int32)))), .unset, .unset, .unset] [])) (fun t k => ?_) ?_
    · show Steps p.tables e below (T13.setTop (mkF m 195 #[.val (.int p1), .val (.int p2), .val (.int p3), .val (.int p4), .val (.int (131072 : Int32)), .val (.int j1), .val (.int j2), .val (.int j3), .val (.int j5), .val (.int j6), .val (.ref b8), .val (.int j11), .unset, .unset, .unset, .unset] [(.int (r_4 j6 (131072 : Int32) (u_8_w_words_a1_fn j1 (131072 : Int32) (fun _ => 0) (0 : Int32))))])) _
      refine XS.istore X13.here hx rfl (hb hby at_195) rfl (l' := #[.val (.int p1), .val (.int p2), .val (.int p3), .val (.int p4), .val (.int (131072 : Int32)), .val (.int j1), .val (.int j2), .val (.int j3), .val (.int j5), .val (.int j6), .val (.ref b8), .val (.int j11), .val (.int (r_4 j6 (131072 : Int32) (u_8_w_words_a1_fn j1 (131072 : Int32) (fun _ => 0) (0 : Int32)))), .unset, .unset, .unset]) rfl ?_
      exact k
    show own_Go p.tables e below _ T13 (mkF m 197 #[.val (.int p1), .val (.int p2), .val (.int p3), .val (.int p4), .val (.int (131072 : Int32)), .val (.int j1), .val (.int j2), .val (.int j3), .val (.int j5), .val (.int j6), .val (.ref b8), .val (.int j11), .val (.int (r_4 j6 (131072 : Int32) (u_8_w_words_a1_fn j1 (131072 : Int32) (fun _ => 0) (0 : Int32)))), .unset, .unset, .unset] [])
    obtain ⟨j14, hj14⟩ : ∃ z : Int32, z = (r_4 j6 (131072 : Int32) (u_8_w_words_a1_fn j1 (131072 : Int32) (fun _ => 0) (0 : Int32))) := ⟨_, rfl⟩
    rw [← hj14]
    show own_Go p.tables e below _ T13 (mkF m 197 #[.val (.int p1), .val (.int p2), .val (.int p3), .val (.int p4), .val (.int (131072 : Int32)), .val (.int j1), .val (.int j2), .val (.int j3), .val (.int j5), .val (.int j6), .val (.ref b8), .val (.int j11), .val (.int j14), .unset, .unset, .unset] [])
    refine own_go (T' := T13) (g' := (mkF m 201 #[.val (.int p1), .val (.int p2), .val (.int p3), .val (.int p4), .val (.int (131072 : Int32)), .val (.int j1), .val (.int j2), .val (.int j3), .val (.int j5), .val (.int j6), .val (.ref b8), .val (.int j11), .val (.int j14), .unset, .unset, .unset] [(.int j1), (.int j6)])) (fun t k => ?_) ?_
    · show Steps p.tables e below (T13.setTop (mkF m 197 #[.val (.int p1), .val (.int p2), .val (.int p3), .val (.int p4), .val (.int (131072 : Int32)), .val (.int j1), .val (.int j2), .val (.int j3), .val (.int j5), .val (.int j6), .val (.ref b8), .val (.int j11), .val (.int j14), .unset, .unset, .unset] [])) _
      refine XS.iload X13.here hx rfl (hb hby at_197) rfl ?_
      show Steps p.tables e below (T13.setTop (mkF m 199 #[.val (.int p1), .val (.int p2), .val (.int p3), .val (.int p4), .val (.int (131072 : Int32)), .val (.int j1), .val (.int j2), .val (.int j3), .val (.int j5), .val (.int j6), .val (.ref b8), .val (.int j11), .val (.int j14), .unset, .unset, .unset] [(.int j6)])) _
      refine XS.iload X13.here hx rfl (hb hby at_199) rfl ?_
      exact k
    obtain ⟨j15, hj15, st16⟩ : ∃ (j15 : Int32), j15 = (if j6 = j1 then (1 : Int32) else (0 : Int32)) ∧ ∀ t, Steps p.tables e below (T13.setTop (mkF m 221 #[.val (.int p1), .val (.int p2), .val (.int p3), .val (.int p4), .val (.int (131072 : Int32)), .val (.int j1), .val (.int j2), .val (.int j3), .val (.int j5), .val (.int j6), .val (.ref b8), .val (.int j11), .val (.int j14), .unset, .unset, .unset] [(.int j15)])) t → Steps p.tables e below (T13.setTop (mkF m 201 #[.val (.int p1), .val (.int p2), .val (.int p3), .val (.int p4), .val (.int (131072 : Int32)), .val (.int j1), .val (.int j2), .val (.int j3), .val (.int j5), .val (.int j6), .val (.ref b8), .val (.int j11), .val (.int j14), .unset, .unset, .unset] [(.int j1), (.int j6)])) t := by
      by_cases hc201_10 : j6 = j1
      · skip
        refine ⟨(1 : Int32), (by simp only [if_pos hc201_10]), fun t k => ?_⟩
        show Steps p.tables e below (T13.setTop (mkF m 201 #[.val (.int p1), .val (.int p2), .val (.int p3), .val (.int p4), .val (.int (131072 : Int32)), .val (.int j1), .val (.int j2), .val (.int j3), .val (.int j5), .val (.int j6), .val (.ref b8), .val (.int j11), .val (.int j14), .unset, .unset, .unset] [(.int j1), (.int j6)])) _
        refine XS.icmpYes X13.here hx rfl (pc0 := 201) (pc' := 216) rfl (hb hby at_201) rfl (teq hc201_10).1 (by decide) (by decide) ?_
        show Steps p.tables e below (T13.setTop (mkF m 216 #[.val (.int p1), .val (.int p2), .val (.int p3), .val (.int p4), .val (.int (131072 : Int32)), .val (.int j1), .val (.int j2), .val (.int j3), .val (.int j5), .val (.int j6), .val (.ref b8), .val (.int j11), .val (.int j14), .unset, .unset, .unset] [])) _
        refine XS.iconst X13.here hx rfl (hb hby at_216) ?_
        show Steps p.tables e below (T13.setTop (mkF m 217 #[.val (.int p1), .val (.int p2), .val (.int p3), .val (.int p4), .val (.int (131072 : Int32)), .val (.int j1), .val (.int j2), .val (.int j3), .val (.int j5), .val (.int j6), .val (.ref b8), .val (.int j11), .val (.int j14), .unset, .unset, .unset] [(.int (1 : Int32))])) _
        refine XS.goto X13.here hx rfl (pc0 := 217) (pc' := 221) rfl (hb hby at_217) (by decide) (by decide) ?_
        exact k
      · skip
        refine ⟨(0 : Int32), (by simp only [if_neg hc201_10]), fun t k => ?_⟩
        show Steps p.tables e below (T13.setTop (mkF m 201 #[.val (.int p1), .val (.int p2), .val (.int p3), .val (.int p4), .val (.int (131072 : Int32)), .val (.int j1), .val (.int j2), .val (.int j3), .val (.int j5), .val (.int j6), .val (.ref b8), .val (.int j11), .val (.int j14), .unset, .unset, .unset] [(.int j1), (.int j6)])) _
        refine XS.icmpNo X13.here hx rfl (hb hby at_201) rfl (feq hc201_10).1 ?_
        show Steps p.tables e below (T13.setTop (mkF m 204 #[.val (.int p1), .val (.int p2), .val (.int p3), .val (.int p4), .val (.int (131072 : Int32)), .val (.int j1), .val (.int j2), .val (.int j3), .val (.int j5), .val (.int j6), .val (.ref b8), .val (.int j11), .val (.int j14), .unset, .unset, .unset] [])) _
        refine XS.iload X13.here hx rfl (hb hby at_204) rfl ?_
        show Steps p.tables e below (T13.setTop (mkF m 206 #[.val (.int p1), .val (.int p2), .val (.int p3), .val (.int p4), .val (.int (131072 : Int32)), .val (.int j1), .val (.int j2), .val (.int j3), .val (.int j5), .val (.int j6), .val (.ref b8), .val (.int j11), .val (.int j14), .unset, .unset, .unset] [(.int j3)])) _
        refine XS.ifYes X13.here hx rfl (pc0 := 206) (pc' := 220) rfl (hb hby at_206) rfl ((if0 _ _).trans (teq hc178_9).1) (by decide) (by decide) ?_
        show Steps p.tables e below (T13.setTop (mkF m 220 #[.val (.int p1), .val (.int p2), .val (.int p3), .val (.int p4), .val (.int (131072 : Int32)), .val (.int j1), .val (.int j2), .val (.int j3), .val (.int j5), .val (.int j6), .val (.ref b8), .val (.int j11), .val (.int j14), .unset, .unset, .unset] [])) _
        refine XS.iconst X13.here hx rfl (hb hby at_220) ?_
        exact k
    refine own_go st16 ?_
    show own_Go p.tables e below _ T13 (mkF m 221 #[.val (.int p1), .val (.int p2), .val (.int p3), .val (.int p4), .val (.int (131072 : Int32)), .val (.int j1), .val (.int j2), .val (.int j3), .val (.int j5), .val (.int j6), .val (.ref b8), .val (.int j11), .val (.int j14), .unset, .unset, .unset] [(.int j15)])
    refine own_go (T' := T13) (g' := (mkF m 227 #[.val (.int p1), .val (.int p2), .val (.int p3), .val (.int p4), .val (.int (131072 : Int32)), .val (.int j1), .val (.int j2), .val (.int j3), .val (.int j5), .val (.int j6), .val (.ref b8), .val (.int j11), .val (.int j14), .val (.int j15), .unset, .unset] [(.int j1), (.ref b8)])) (fun t k => ?_) ?_
    · show Steps p.tables e below (T13.setTop (mkF m 221 #[.val (.int p1), .val (.int p2), .val (.int p3), .val (.int p4), .val (.int (131072 : Int32)), .val (.int j1), .val (.int j2), .val (.int j3), .val (.int j5), .val (.int j6), .val (.ref b8), .val (.int j11), .val (.int j14), .unset, .unset, .unset] [(.int j15)])) _
      refine XS.istore X13.here hx rfl (hb hby at_221) rfl (l' := #[.val (.int p1), .val (.int p2), .val (.int p3), .val (.int p4), .val (.int (131072 : Int32)), .val (.int j1), .val (.int j2), .val (.int j3), .val (.int j5), .val (.int j6), .val (.ref b8), .val (.int j11), .val (.int j14), .val (.int j15), .unset, .unset]) rfl ?_
      show Steps p.tables e below (T13.setTop (mkF m 223 #[.val (.int p1), .val (.int p2), .val (.int p3), .val (.int p4), .val (.int (131072 : Int32)), .val (.int j1), .val (.int j2), .val (.int j3), .val (.int j5), .val (.int j6), .val (.ref b8), .val (.int j11), .val (.int j14), .val (.int j15), .unset, .unset] [])) _
      refine XS.aload X13.here hx rfl (hb hby at_223) rfl rfl ?_
      show Steps p.tables e below (T13.setTop (mkF m 225 #[.val (.int p1), .val (.int p2), .val (.int p3), .val (.int p4), .val (.int (131072 : Int32)), .val (.int j1), .val (.int j2), .val (.int j3), .val (.int j5), .val (.int j6), .val (.ref b8), .val (.int j11), .val (.int j14), .val (.int j15), .unset, .unset] [(.ref b8)])) _
      refine XS.iload X13.here hx rfl (hb hby at_225) rfl ?_
      exact k
    obtain ⟨cq17, kq17, q17a, q17b, q17c⟩ := isOf hZ e13 E_b8
    obtain ⟨_, _, ⟨T17, L17, k17, n17⟩, -, X17, ⟨Lc17, hQ17, l17, y17, z17⟩, st17⟩ := X13.virtualBack hx (y := (⟨"com/example/capd/capd/status/Bitstring", "get", "(I)Z"⟩ : MethodName)) (z := (⟨"com/example/capd/capd/status/Bitstring", "get", "(I)Z"⟩ : MethodName)) hown (mvT hZ (hw _ (List.mem_of_getElem? (i := 22) rfl))) (mvT hZ (hw _ (List.mem_of_getElem? (i := 23) rfl))) (notFace_of_selects (args := #[]) (mvT hZ (hw _ (List.mem_of_getElem? (i := 25) rfl)))) (mvT hZ (hw _ (List.mem_of_getElem? (i := 25) rfl))) (mvT hZ (hw _ (List.mem_of_getElem? (i := 24) rfl))) (by decide) (backOf (W := 0) (rm4 l Z a0 hw [] b8 j1 (131072 : Int32) b9_0 k9_1 (u_8_w_words_a1_fn j1 (131072 : Int32) (fun _ => 0) (0 : Int32)) T12.heap n0 Z0 F_b8_size hhhhc1_3_5_173 hhhhc6_3_5_173 F_b8_words V_b9_0 hhhlo17_11_173 hhhhi17_11_173) hZ (hw _ (List.mem_of_getElem? (i := 26) rfl)) (hw _ (List.mem_of_getElem? (i := 4) rfl)) (by decide) (by decide)) q17a q17c (g := (mkF m 227 #[.val (.int p1), .val (.int p2), .val (.int p3), .val (.int p4), .val (.int (131072 : Int32)), .val (.int j1), .val (.int j2), .val (.int j3), .val (.int j5), .val (.int j6), .val (.ref b8), .val (.int j11), .val (.int j14), .val (.int j15), .unset, .unset] [(.int j1), (.ref b8)])) rfl (by rw [hml]; rfl) (Steps.refl _) (argsL := [(.int j1)]) (rest := []) (lenOf pd_2 rfl) rfl (by show 2 * 0 + _ ≤ _; exact Nat.le_of_eq rfl) (hb hby at_227) (fun _ _ => ⟨rfl, e13, (by decide : 2 + 0 ≤ _), (by decide : 2051 + 0 ≤ _)⟩)
    dsimp only [Pt.U, Pt.locs, Pt.cells, Pt.slots] at X17 l17 y17 z17 st17 hQ17
    subst l17 y17 z17
    obtain ⟨rfl, N17q, e17⟩ := hQ17
    have NN := Fr.app NN N17q
    refine own_go (fun t k => st17.trans k) ?_
    show own_Go p.tables e below _ T17 (mkF m 230 #[.val (.int p1), .val (.int p2), .val (.int p3), .val (.int p4), .val (.int (131072 : Int32)), .val (.int j1), .val (.int j2), .val (.int j3), .val (.int j5), .val (.int j6), .val (.ref b8), .val (.int j11), .val (.int j14), .val (.int j15), .unset, .unset] [(.int (r_4 j1 (131072 : Int32) (u_8_w_words_a1_fn j1 (131072 : Int32) (fun _ => 0) (0 : Int32))))])
    refine own_go (T' := T17) (g' := (mkF m 232 #[.val (.int p1), .val (.int p2), .val (.int p3), .val (.int p4), .val (.int (131072 : Int32)), .val (.int j1), .val (.int j2), .val (.int j3), .val (.int j5), .val (.int j6), .val (.ref b8), .val (.int j11), .val (.int j14), .val (.int j15), .val (.int (r_4 j1 (131072 : Int32) (u_8_w_words_a1_fn j1 (131072 : Int32) (fun _ => 0) (0 : Int32)))), .unset] [])) (fun t k => ?_) ?_
    · show Steps p.tables e below (T17.setTop (mkF m 230 #[.val (.int p1), .val (.int p2), .val (.int p3), .val (.int p4), .val (.int (131072 : Int32)), .val (.int j1), .val (.int j2), .val (.int j3), .val (.int j5), .val (.int j6), .val (.ref b8), .val (.int j11), .val (.int j14), .val (.int j15), .unset, .unset] [(.int (r_4 j1 (131072 : Int32) (u_8_w_words_a1_fn j1 (131072 : Int32) (fun _ => 0) (0 : Int32))))])) _
      refine XS.istore X17.here hx rfl (hb hby at_230) rfl (l' := #[.val (.int p1), .val (.int p2), .val (.int p3), .val (.int p4), .val (.int (131072 : Int32)), .val (.int j1), .val (.int j2), .val (.int j3), .val (.int j5), .val (.int j6), .val (.ref b8), .val (.int j11), .val (.int j14), .val (.int j15), .val (.int (r_4 j1 (131072 : Int32) (u_8_w_words_a1_fn j1 (131072 : Int32) (fun _ => 0) (0 : Int32)))), .unset]) rfl ?_
      exact k
    show own_Go p.tables e below _ T17 (mkF m 232 #[.val (.int p1), .val (.int p2), .val (.int p3), .val (.int p4), .val (.int (131072 : Int32)), .val (.int j1), .val (.int j2), .val (.int j3), .val (.int j5), .val (.int j6), .val (.ref b8), .val (.int j11), .val (.int j14), .val (.int j15), .val (.int (r_4 j1 (131072 : Int32) (u_8_w_words_a1_fn j1 (131072 : Int32) (fun _ => 0) (0 : Int32)))), .unset] [])
    obtain ⟨j18, hj18⟩ : ∃ z : Int32, z = (r_4 j1 (131072 : Int32) (u_8_w_words_a1_fn j1 (131072 : Int32) (fun _ => 0) (0 : Int32))) := ⟨_, rfl⟩
    rw [← hj18]
    show own_Go p.tables e below _ T17 (mkF m 232 #[.val (.int p1), .val (.int p2), .val (.int p3), .val (.int p4), .val (.int (131072 : Int32)), .val (.int j1), .val (.int j2), .val (.int j3), .val (.int j5), .val (.int j6), .val (.ref b8), .val (.int j11), .val (.int j14), .val (.int j15), .val (.int j18), .unset] [])
    refine own_go (T' := T17) (g' := (mkF m 234 #[.val (.int p1), .val (.int p2), .val (.int p3), .val (.int p4), .val (.int (131072 : Int32)), .val (.int j1), .val (.int j2), .val (.int j3), .val (.int j5), .val (.int j6), .val (.ref b8), .val (.int j11), .val (.int j14), .val (.int j15), .val (.int j18), .unset] [(.int j3)])) (fun t k => ?_) ?_
    · show Steps p.tables e below (T17.setTop (mkF m 232 #[.val (.int p1), .val (.int p2), .val (.int p3), .val (.int p4), .val (.int (131072 : Int32)), .val (.int j1), .val (.int j2), .val (.int j3), .val (.int j5), .val (.int j6), .val (.ref b8), .val (.int j11), .val (.int j14), .val (.int j15), .val (.int j18), .unset] [])) _
      refine XS.iload X17.here hx rfl (hb hby at_232) rfl ?_
      exact k
    refine own_go (T' := T17) (g' := (mkF m 256 #[.val (.int p1), .val (.int p2), .val (.int p3), .val (.int p4), .val (.int (131072 : Int32)), .val (.int j1), .val (.int j2), .val (.int j3), .val (.int j5), .val (.int j6), .val (.ref b8), .val (.int j11), .val (.int j14), .val (.int j15), .val (.int j18), .val (.int (1 : Int32))] [(.int j11)])) (fun t k => ?_) ?_
    · show Steps p.tables e below (T17.setTop (mkF m 234 #[.val (.int p1), .val (.int p2), .val (.int p3), .val (.int p4), .val (.int (131072 : Int32)), .val (.int j1), .val (.int j2), .val (.int j3), .val (.int j5), .val (.int j6), .val (.ref b8), .val (.int j11), .val (.int j14), .val (.int j15), .val (.int j18), .unset] [(.int j3)])) _
      refine XS.ifYes X17.here hx rfl (pc0 := 234) (pc' := 247) rfl (hb hby at_234) rfl ((if0 _ _).trans (teq hc178_9).1) (by decide) (by decide) ?_
      show Steps p.tables e below (T17.setTop (mkF m 247 #[.val (.int p1), .val (.int p2), .val (.int p3), .val (.int p4), .val (.int (131072 : Int32)), .val (.int j1), .val (.int j2), .val (.int j3), .val (.int j5), .val (.int j6), .val (.ref b8), .val (.int j11), .val (.int j14), .val (.int j15), .val (.int j18), .unset] [])) _
      refine XS.iconst X17.here hx rfl (hb hby at_247) ?_
      show Steps p.tables e below (T17.setTop (mkF m 248 #[.val (.int p1), .val (.int p2), .val (.int p3), .val (.int p4), .val (.int (131072 : Int32)), .val (.int j1), .val (.int j2), .val (.int j3), .val (.int j5), .val (.int j6), .val (.ref b8), .val (.int j11), .val (.int j14), .val (.int j15), .val (.int j18), .unset] [(.int (1 : Int32))])) _
      refine XS.goto X17.here hx rfl (pc0 := 248) (pc' := 252) rfl (hb hby at_248) (by decide) (by decide) ?_
      show Steps p.tables e below (T17.setTop (mkF m 252 #[.val (.int p1), .val (.int p2), .val (.int p3), .val (.int p4), .val (.int (131072 : Int32)), .val (.int j1), .val (.int j2), .val (.int j3), .val (.int j5), .val (.int j6), .val (.ref b8), .val (.int j11), .val (.int j14), .val (.int j15), .val (.int j18), .unset] [(.int (1 : Int32))])) _
      refine XS.istore X17.here hx rfl (hb hby at_252) rfl (l' := #[.val (.int p1), .val (.int p2), .val (.int p3), .val (.int p4), .val (.int (131072 : Int32)), .val (.int j1), .val (.int j2), .val (.int j3), .val (.int j5), .val (.int j6), .val (.ref b8), .val (.int j11), .val (.int j14), .val (.int j15), .val (.int j18), .val (.int (1 : Int32))]) rfl ?_
      show Steps p.tables e below (T17.setTop (mkF m 254 #[.val (.int p1), .val (.int p2), .val (.int p3), .val (.int p4), .val (.int (131072 : Int32)), .val (.int j1), .val (.int j2), .val (.int j3), .val (.int j5), .val (.int j6), .val (.ref b8), .val (.int j11), .val (.int j14), .val (.int j15), .val (.int j18), .val (.int (1 : Int32))] [])) _
      refine XS.iload X17.here hx rfl (hb hby at_254) rfl ?_
      exact k
    obtain ⟨j19, hj19, st20⟩ : ∃ (j19 : Int32), j19 = (if j11 = (0 : Int32) then (if j14 = j15 then (if j18 = (0 : Int32) then (0 : Int32) else (1 : Int32)) else (0 : Int32)) else (0 : Int32)) ∧ ∀ t, Steps p.tables e below (T17.setTop (mkF m 281 #[.val (.int p1), .val (.int p2), .val (.int p3), .val (.int p4), .val (.int (131072 : Int32)), .val (.int j1), .val (.int j2), .val (.int j3), .val (.int j5), .val (.int j6), .val (.ref b8), .val (.int j11), .val (.int j14), .val (.int j15), .val (.int j18), .val (.int (1 : Int32))] [(.int j19)])) t → Steps p.tables e below (T17.setTop (mkF m 256 #[.val (.int p1), .val (.int p2), .val (.int p3), .val (.int p4), .val (.int (131072 : Int32)), .val (.int j1), .val (.int j2), .val (.int j3), .val (.int j5), .val (.int j6), .val (.ref b8), .val (.int j11), .val (.int j14), .val (.int j15), .val (.int j18), .val (.int (1 : Int32))] [(.int j11)])) t := by
      by_cases hc256_11 : j11 = (0 : Int32)
      · skip
        by_cases hc263_12 : j14 = j15
        · skip
          by_cases hc268_13 : j18 = (0 : Int32)
          · skip
            refine ⟨(0 : Int32), (by simp only [if_pos hc256_11, if_pos hc263_12, if_pos hc268_13]), fun t k => ?_⟩
            show Steps p.tables e below (T17.setTop (mkF m 256 #[.val (.int p1), .val (.int p2), .val (.int p3), .val (.int p4), .val (.int (131072 : Int32)), .val (.int j1), .val (.int j2), .val (.int j3), .val (.int j5), .val (.int j6), .val (.ref b8), .val (.int j11), .val (.int j14), .val (.int j15), .val (.int j18), .val (.int (1 : Int32))] [(.int j11)])) _
            refine XS.ifNo X17.here hx rfl (hb hby at_256) rfl ((if0 _ _).trans (teq hc256_11).2) ?_
            show Steps p.tables e below (T17.setTop (mkF m 259 #[.val (.int p1), .val (.int p2), .val (.int p3), .val (.int p4), .val (.int (131072 : Int32)), .val (.int j1), .val (.int j2), .val (.int j3), .val (.int j5), .val (.int j6), .val (.ref b8), .val (.int j11), .val (.int j14), .val (.int j15), .val (.int j18), .val (.int (1 : Int32))] [])) _
            refine XS.iload X17.here hx rfl (hb hby at_259) rfl ?_
            show Steps p.tables e below (T17.setTop (mkF m 261 #[.val (.int p1), .val (.int p2), .val (.int p3), .val (.int p4), .val (.int (131072 : Int32)), .val (.int j1), .val (.int j2), .val (.int j3), .val (.int j5), .val (.int j6), .val (.ref b8), .val (.int j11), .val (.int j14), .val (.int j15), .val (.int j18), .val (.int (1 : Int32))] [(.int j14)])) _
            refine XS.iload X17.here hx rfl (hb hby at_261) rfl ?_
            show Steps p.tables e below (T17.setTop (mkF m 263 #[.val (.int p1), .val (.int p2), .val (.int p3), .val (.int p4), .val (.int (131072 : Int32)), .val (.int j1), .val (.int j2), .val (.int j3), .val (.int j5), .val (.int j6), .val (.ref b8), .val (.int j11), .val (.int j14), .val (.int j15), .val (.int j18), .val (.int (1 : Int32))] [(.int j15), (.int j14)])) _
            refine XS.icmpNo X17.here hx rfl (hb hby at_263) rfl (teq hc263_12).2 ?_
            show Steps p.tables e below (T17.setTop (mkF m 266 #[.val (.int p1), .val (.int p2), .val (.int p3), .val (.int p4), .val (.int (131072 : Int32)), .val (.int j1), .val (.int j2), .val (.int j3), .val (.int j5), .val (.int j6), .val (.ref b8), .val (.int j11), .val (.int j14), .val (.int j15), .val (.int j18), .val (.int (1 : Int32))] [])) _
            refine XS.iload X17.here hx rfl (hb hby at_266) rfl ?_
            show Steps p.tables e below (T17.setTop (mkF m 268 #[.val (.int p1), .val (.int p2), .val (.int p3), .val (.int p4), .val (.int (131072 : Int32)), .val (.int j1), .val (.int j2), .val (.int j3), .val (.int j5), .val (.int j6), .val (.ref b8), .val (.int j11), .val (.int j14), .val (.int j15), .val (.int j18), .val (.int (1 : Int32))] [(.int j18)])) _
            refine XS.ifYes X17.here hx rfl (pc0 := 268) (pc' := 280) rfl (hb hby at_268) rfl ((if0 _ _).trans (teq hc268_13).1) (by decide) (by decide) ?_
            show Steps p.tables e below (T17.setTop (mkF m 280 #[.val (.int p1), .val (.int p2), .val (.int p3), .val (.int p4), .val (.int (131072 : Int32)), .val (.int j1), .val (.int j2), .val (.int j3), .val (.int j5), .val (.int j6), .val (.ref b8), .val (.int j11), .val (.int j14), .val (.int j15), .val (.int j18), .val (.int (1 : Int32))] [])) _
            refine XS.iconst X17.here hx rfl (hb hby at_280) ?_
            exact k
          · skip
            refine ⟨(1 : Int32), (by simp only [if_pos hc256_11, if_pos hc263_12, if_neg hc268_13]), fun t k => ?_⟩
            show Steps p.tables e below (T17.setTop (mkF m 256 #[.val (.int p1), .val (.int p2), .val (.int p3), .val (.int p4), .val (.int (131072 : Int32)), .val (.int j1), .val (.int j2), .val (.int j3), .val (.int j5), .val (.int j6), .val (.ref b8), .val (.int j11), .val (.int j14), .val (.int j15), .val (.int j18), .val (.int (1 : Int32))] [(.int j11)])) _
            refine XS.ifNo X17.here hx rfl (hb hby at_256) rfl ((if0 _ _).trans (teq hc256_11).2) ?_
            show Steps p.tables e below (T17.setTop (mkF m 259 #[.val (.int p1), .val (.int p2), .val (.int p3), .val (.int p4), .val (.int (131072 : Int32)), .val (.int j1), .val (.int j2), .val (.int j3), .val (.int j5), .val (.int j6), .val (.ref b8), .val (.int j11), .val (.int j14), .val (.int j15), .val (.int j18), .val (.int (1 : Int32))] [])) _
            refine XS.iload X17.here hx rfl (hb hby at_259) rfl ?_
            show Steps p.tables e below (T17.setTop (mkF m 261 #[.val (.int p1), .val (.int p2), .val (.int p3), .val (.int p4), .val (.int (131072 : Int32)), .val (.int j1), .val (.int j2), .val (.int j3), .val (.int j5), .val (.int j6), .val (.ref b8), .val (.int j11), .val (.int j14), .val (.int j15), .val (.int j18), .val (.int (1 : Int32))] [(.int j14)])) _
            refine XS.iload X17.here hx rfl (hb hby at_261) rfl ?_
            show Steps p.tables e below (T17.setTop (mkF m 263 #[.val (.int p1), .val (.int p2), .val (.int p3), .val (.int p4), .val (.int (131072 : Int32)), .val (.int j1), .val (.int j2), .val (.int j3), .val (.int j5), .val (.int j6), .val (.ref b8), .val (.int j11), .val (.int j14), .val (.int j15), .val (.int j18), .val (.int (1 : Int32))] [(.int j15), (.int j14)])) _
            refine XS.icmpNo X17.here hx rfl (hb hby at_263) rfl (teq hc263_12).2 ?_
            show Steps p.tables e below (T17.setTop (mkF m 266 #[.val (.int p1), .val (.int p2), .val (.int p3), .val (.int p4), .val (.int (131072 : Int32)), .val (.int j1), .val (.int j2), .val (.int j3), .val (.int j5), .val (.int j6), .val (.ref b8), .val (.int j11), .val (.int j14), .val (.int j15), .val (.int j18), .val (.int (1 : Int32))] [])) _
            refine XS.iload X17.here hx rfl (hb hby at_266) rfl ?_
            show Steps p.tables e below (T17.setTop (mkF m 268 #[.val (.int p1), .val (.int p2), .val (.int p3), .val (.int p4), .val (.int (131072 : Int32)), .val (.int j1), .val (.int j2), .val (.int j3), .val (.int j5), .val (.int j6), .val (.ref b8), .val (.int j11), .val (.int j14), .val (.int j15), .val (.int j18), .val (.int (1 : Int32))] [(.int j18)])) _
            refine XS.ifNo X17.here hx rfl (hb hby at_268) rfl ((if0 _ _).trans (feq hc268_13).1) ?_
            show Steps p.tables e below (T17.setTop (mkF m 271 #[.val (.int p1), .val (.int p2), .val (.int p3), .val (.int p4), .val (.int (131072 : Int32)), .val (.int j1), .val (.int j2), .val (.int j3), .val (.int j5), .val (.int j6), .val (.ref b8), .val (.int j11), .val (.int j14), .val (.int j15), .val (.int j18), .val (.int (1 : Int32))] [])) _
            refine XS.iload X17.here hx rfl (hb hby at_271) rfl ?_
            show Steps p.tables e below (T17.setTop (mkF m 273 #[.val (.int p1), .val (.int p2), .val (.int p3), .val (.int p4), .val (.int (131072 : Int32)), .val (.int j1), .val (.int j2), .val (.int j3), .val (.int j5), .val (.int j6), .val (.ref b8), .val (.int j11), .val (.int j14), .val (.int j15), .val (.int j18), .val (.int (1 : Int32))] [(.int (1 : Int32))])) _
            refine XS.ifNo X17.here hx rfl (hb hby at_273) rfl ((if0 _ _).trans (feq (by decide : ¬ ((1 : Int32) = (0 : Int32)))).1) ?_
            show Steps p.tables e below (T17.setTop (mkF m 276 #[.val (.int p1), .val (.int p2), .val (.int p3), .val (.int p4), .val (.int (131072 : Int32)), .val (.int j1), .val (.int j2), .val (.int j3), .val (.int j5), .val (.int j6), .val (.ref b8), .val (.int j11), .val (.int j14), .val (.int j15), .val (.int j18), .val (.int (1 : Int32))] [])) _
            refine XS.iconst X17.here hx rfl (hb hby at_276) ?_
            show Steps p.tables e below (T17.setTop (mkF m 277 #[.val (.int p1), .val (.int p2), .val (.int p3), .val (.int p4), .val (.int (131072 : Int32)), .val (.int j1), .val (.int j2), .val (.int j3), .val (.int j5), .val (.int j6), .val (.ref b8), .val (.int j11), .val (.int j14), .val (.int j15), .val (.int j18), .val (.int (1 : Int32))] [(.int (1 : Int32))])) _
            refine XS.goto X17.here hx rfl (pc0 := 277) (pc' := 281) rfl (hb hby at_277) (by decide) (by decide) ?_
            exact k
        · skip
          refine ⟨(0 : Int32), (by simp only [if_pos hc256_11, if_neg hc263_12]), fun t k => ?_⟩
          show Steps p.tables e below (T17.setTop (mkF m 256 #[.val (.int p1), .val (.int p2), .val (.int p3), .val (.int p4), .val (.int (131072 : Int32)), .val (.int j1), .val (.int j2), .val (.int j3), .val (.int j5), .val (.int j6), .val (.ref b8), .val (.int j11), .val (.int j14), .val (.int j15), .val (.int j18), .val (.int (1 : Int32))] [(.int j11)])) _
          refine XS.ifNo X17.here hx rfl (hb hby at_256) rfl ((if0 _ _).trans (teq hc256_11).2) ?_
          show Steps p.tables e below (T17.setTop (mkF m 259 #[.val (.int p1), .val (.int p2), .val (.int p3), .val (.int p4), .val (.int (131072 : Int32)), .val (.int j1), .val (.int j2), .val (.int j3), .val (.int j5), .val (.int j6), .val (.ref b8), .val (.int j11), .val (.int j14), .val (.int j15), .val (.int j18), .val (.int (1 : Int32))] [])) _
          refine XS.iload X17.here hx rfl (hb hby at_259) rfl ?_
          show Steps p.tables e below (T17.setTop (mkF m 261 #[.val (.int p1), .val (.int p2), .val (.int p3), .val (.int p4), .val (.int (131072 : Int32)), .val (.int j1), .val (.int j2), .val (.int j3), .val (.int j5), .val (.int j6), .val (.ref b8), .val (.int j11), .val (.int j14), .val (.int j15), .val (.int j18), .val (.int (1 : Int32))] [(.int j14)])) _
          refine XS.iload X17.here hx rfl (hb hby at_261) rfl ?_
          show Steps p.tables e below (T17.setTop (mkF m 263 #[.val (.int p1), .val (.int p2), .val (.int p3), .val (.int p4), .val (.int (131072 : Int32)), .val (.int j1), .val (.int j2), .val (.int j3), .val (.int j5), .val (.int j6), .val (.ref b8), .val (.int j11), .val (.int j14), .val (.int j15), .val (.int j18), .val (.int (1 : Int32))] [(.int j15), (.int j14)])) _
          refine XS.icmpYes X17.here hx rfl (pc0 := 263) (pc' := 280) rfl (hb hby at_263) rfl (feq hc263_12).2 (by decide) (by decide) ?_
          show Steps p.tables e below (T17.setTop (mkF m 280 #[.val (.int p1), .val (.int p2), .val (.int p3), .val (.int p4), .val (.int (131072 : Int32)), .val (.int j1), .val (.int j2), .val (.int j3), .val (.int j5), .val (.int j6), .val (.ref b8), .val (.int j11), .val (.int j14), .val (.int j15), .val (.int j18), .val (.int (1 : Int32))] [])) _
          refine XS.iconst X17.here hx rfl (hb hby at_280) ?_
          exact k
      · skip
        refine ⟨(0 : Int32), (by simp only [if_neg hc256_11]), fun t k => ?_⟩
        show Steps p.tables e below (T17.setTop (mkF m 256 #[.val (.int p1), .val (.int p2), .val (.int p3), .val (.int p4), .val (.int (131072 : Int32)), .val (.int j1), .val (.int j2), .val (.int j3), .val (.int j5), .val (.int j6), .val (.ref b8), .val (.int j11), .val (.int j14), .val (.int j15), .val (.int j18), .val (.int (1 : Int32))] [(.int j11)])) _
        refine XS.ifYes X17.here hx rfl (pc0 := 256) (pc' := 280) rfl (hb hby at_256) rfl ((if0 _ _).trans (feq hc256_11).2) (by decide) (by decide) ?_
        show Steps p.tables e below (T17.setTop (mkF m 280 #[.val (.int p1), .val (.int p2), .val (.int p3), .val (.int p4), .val (.int (131072 : Int32)), .val (.int j1), .val (.int j2), .val (.int j3), .val (.int j5), .val (.int j6), .val (.ref b8), .val (.int j11), .val (.int j14), .val (.int j15), .val (.int j18), .val (.int (1 : Int32))] [])) _
        refine XS.iconst X17.here hx rfl (hb hby at_280) ?_
        exact k
    refine own_go st20 ?_
    show own_Go p.tables e below _ T17 (mkF m 281 #[.val (.int p1), .val (.int p2), .val (.int p3), .val (.int p4), .val (.int (131072 : Int32)), .val (.int j1), .val (.int j2), .val (.int j3), .val (.int j5), .val (.int j6), .val (.ref b8), .val (.int j11), .val (.int j14), .val (.int j15), .val (.int j18), .val (.int (1 : Int32))] [(.int j19)])
    have hv1 : (nar .boolean j19) = 1 := own_yes_t p1 p2 p3 p4 j1 j2 j3 j5 j6 j11 j14 j15 j18 j19 hj1 hj2 hj3 hj5 hj6 hj11 hj14 hj15 hj18 hj19 hhhhc1_3_5_164 hhhhc6_3_5_164 hhlo17_164 hhhi17_164 hhhhc1_3_5_173 hhhhc6_3_5_173 hhhlo17_11_173 hhhhi17_11_173 hc178_9
    obtain ⟨fs, hr, hrun, hended, hW, hsame⟩ := X17.leave (v := some (.int (nar .boolean j19))) (fun h => by rw [Bd.returns] at h; cases h)
    refine ⟨_, _, ?_, hrun, hended, _, _, rfl, ?_, ⟨_, rfl⟩, hW, hsame.mono (by decide) (by decide)⟩
    · exact retN X17 hx (t := .boolean) Bd.returns (by simp) (hb hby at_281) hr
    · show Q0 Z p1 p2 p3 p4 h0 n0 _ _ _
      exact ⟨by rw [hv1], NN⟩
  · skip
    refine own_go (T' := T12) (g' := (mkF m 185 #[.val (.int p1), .val (.int p2), .val (.int p3), .val (.int p4), .val (.int (131072 : Int32)), .val (.int j1), .val (.int j2), .val (.int j3), .val (.int j5), .val (.int j6), .val (.ref b8), .val (.int j11), .unset, .unset, .unset, .unset] [(.int j2), (.ref b8)])) (fun t k => ?_) ?_
    · show Steps p.tables e below (T12.setTop (mkF m 178 #[.val (.int p1), .val (.int p2), .val (.int p3), .val (.int p4), .val (.int (131072 : Int32)), .val (.int j1), .val (.int j2), .val (.int j3), .val (.int j5), .val (.int j6), .val (.ref b8), .val (.int j11), .unset, .unset, .unset, .unset] [(.int j3)])) _
      refine XS.ifNo X12.here hx rfl (hb hby at_178) rfl ((if0 _ _).trans (feq hc178_9).1) ?_
      show Steps p.tables e below (T12.setTop (mkF m 181 #[.val (.int p1), .val (.int p2), .val (.int p3), .val (.int p4), .val (.int (131072 : Int32)), .val (.int j1), .val (.int j2), .val (.int j3), .val (.int j5), .val (.int j6), .val (.ref b8), .val (.int j11), .unset, .unset, .unset, .unset] [])) _
      refine XS.aload X12.here hx rfl (hb hby at_181) rfl rfl ?_
      show Steps p.tables e below (T12.setTop (mkF m 183 #[.val (.int p1), .val (.int p2), .val (.int p3), .val (.int p4), .val (.int (131072 : Int32)), .val (.int j1), .val (.int j2), .val (.int j3), .val (.int j5), .val (.int j6), .val (.ref b8), .val (.int j11), .unset, .unset, .unset, .unset] [(.ref b8)])) _
      refine XS.iload X12.here hx rfl (hb hby at_183) rfl ?_
      exact k
    have hhhhc1_3_5_185 : ¬ (j2 < (0 : Int32)) := own_at_hhhhc1_3_5_185_f p1 p2 p3 p4 j1 j2 j3 j5 j6 hj1 hj2 hj3 hj5 hj6 hhhhc1_3_5_164 hhhhc6_3_5_164 hhlo17_164 hhhi17_164 hhhhc1_3_5_173 hhhhc6_3_5_173 hhhlo17_11_173 hhhhi17_11_173 hc178_9
    have hhhhc6_3_5_185 : j2 < (131072 : Int32) := own_at_hhhhc6_3_5_185_f p1 p2 p3 p4 j1 j2 j3 j5 j6 hj1 hj2 hj3 hj5 hj6 hhhhc1_3_5_164 hhhhc6_3_5_164 hhlo17_164 hhhi17_164 hhhhc1_3_5_173 hhhhc6_3_5_173 hhhlo17_11_173 hhhhi17_11_173 hc178_9 hhhhc1_3_5_185
    have hhhlo17_11_185 : ¬ ((j2 / (64 : Int32)) < (0 : Int32)) := own_at_hhhlo17_11_185_f p1 p2 p3 p4 j1 j2 j3 j5 j6 hj1 hj2 hj3 hj5 hj6 hhhhc1_3_5_164 hhhhc6_3_5_164 hhlo17_164 hhhi17_164 hhhhc1_3_5_173 hhhhc6_3_5_173 hhhlo17_11_173 hhhhi17_11_173 hc178_9 hhhhc1_3_5_185 hhhhc6_3_5_185
    have hhhhi17_11_185 : (j2 / (64 : Int32)) < (2048 : Int32) := own_at_hhhhi17_11_185_f p1 p2 p3 p4 j1 j2 j3 j5 j6 hj1 hj2 hj3 hj5 hj6 hhhhc1_3_5_164 hhhhc6_3_5_164 hhlo17_164 hhhi17_164 hhhhc1_3_5_173 hhhhc6_3_5_173 hhhlo17_11_173 hhhhi17_11_173 hc178_9 hhhhc1_3_5_185 hhhhc6_3_5_185 hhhlo17_11_185
    obtain ⟨cq21, kq21, q21a, q21b, q21c⟩ := isOf hZ rfl E_b8
    obtain ⟨_, _, ⟨T21, L21, k21, n21⟩, -, X21, ⟨Lc21, hQ21, l21, y21, z21⟩, st21⟩ := X12.virtualBack hx (y := (⟨"com/example/capd/capd/status/Bitstring", "set", "(I)V"⟩ : MethodName)) (z := (⟨"com/example/capd/capd/status/Bitstring", "set", "(I)V"⟩ : MethodName)) hown (mvT hZ (hw _ (List.mem_of_getElem? (i := 39) rfl))) (mvT hZ (hw _ (List.mem_of_getElem? (i := 40) rfl))) (notFace_of_selects (args := #[]) (mvT hZ (hw _ (List.mem_of_getElem? (i := 42) rfl)))) (mvT hZ (hw _ (List.mem_of_getElem? (i := 42) rfl))) (mvT hZ (hw _ (List.mem_of_getElem? (i := 41) rfl))) (by decide) (backOf (W := 0) (rm8 l Z a0 hw [] b8 j2 (131072 : Int32) b9_0 k9_1 (u_8_w_words_a1_fn j1 (131072 : Int32) (fun _ => 0) (0 : Int32)) (u_8_a1_count j1 (131072 : Int32) (fun _ => 0) (0 : Int32)) T12.heap n0 Z0 F_b8_size hhhhc1_3_5_185 hhhhc6_3_5_185 hhhhc1_3_5_185 hhhhc6_3_5_185 F_b8_words V_b9_0 hhhlo17_11_185 hhhhi17_11_185 E_b8 hhhlo17_11_185 hhhhi17_11_185 hhhlo17_11_185 hhhhi17_11_185 ne_b8_b9_0 g_b9_0 F_b8_count g_b8) hZ (hw _ (List.mem_of_getElem? (i := 43) rfl)) (hw _ (List.mem_of_getElem? (i := 4) rfl)) (by decide) (by decide)) q21a q21c (g := (mkF m 185 #[.val (.int p1), .val (.int p2), .val (.int p3), .val (.int p4), .val (.int (131072 : Int32)), .val (.int j1), .val (.int j2), .val (.int j3), .val (.int j5), .val (.int j6), .val (.ref b8), .val (.int j11), .unset, .unset, .unset, .unset] [(.int j2), (.ref b8)])) rfl (by rw [hml]; rfl) (Steps.refl _) (argsL := [(.int j2)]) (rest := []) (lenOf pd_6 rfl) rfl (by show 2 * 0 + _ ≤ _; exact Nat.le_of_eq rfl) (hb hby at_185) (fun _ _ => ⟨rfl, rfl, (by decide : 2 + 0 ≤ _), (by decide : 2051 + 0 ≤ _)⟩)
    dsimp only [Pt.U, Pt.locs, Pt.cells, Pt.slots] at X21 l21 y21 z21 st21 hQ21
    subst l21 y21 z21
    obtain ⟨rfl, N21q, K21, Q21_0, Q21_1, Q21_2, Q21_3, Q21_4⟩ := hQ21
    have V_b9_0 := Q21_0
    have E_b8 := Q21_1
    have F_b8_size := Q21_2
    have F_b8_words := Q21_3
    have F_b8_count := Q21_4
    have Z0 := Nat.le_trans Z0 K21.1
    have KK := KK.trans K21 (allS (Or.inr sz_b9_0) (allS (Or.inr sz_b8) all0))
    have NN := Fr.app NN N21q
    refine own_go (fun t k => st21.trans k) ?_
    show own_Go p.tables e below _ T21 (mkF m 188 #[.val (.int p1), .val (.int p2), .val (.int p3), .val (.int p4), .val (.int (131072 : Int32)), .val (.int j1), .val (.int j2), .val (.int j3), .val (.int j5), .val (.int j6), .val (.ref b8), .val (.int j11), .unset, .unset, .unset, .unset] [])
    refine own_go (T' := T21) (g' := (mkF m 192 #[.val (.int p1), .val (.int p2), .val (.int p3), .val (.int p4), .val (.int (131072 : Int32)), .val (.int j1), .val (.int j2), .val (.int j3), .val (.int j5), .val (.int j6), .val (.ref b8), .val (.int j11), .unset, .unset, .unset, .unset] [(.int j6), (.ref b8)])) (fun t k => ?_) ?_
    · show Steps p.tables e below (T21.setTop (mkF m 188 #[.val (.int p1), .val (.int p2), .val (.int p3), .val (.int p4), .val (.int (131072 : Int32)), .val (.int j1), .val (.int j2), .val (.int j3), .val (.int j5), .val (.int j6), .val (.ref b8), .val (.int j11), .unset, .unset, .unset, .unset] [])) _
      refine XS.aload X21.here hx rfl (hb hby at_188) rfl rfl ?_
      show Steps p.tables e below (T21.setTop (mkF m 190 #[.val (.int p1), .val (.int p2), .val (.int p3), .val (.int p4), .val (.int (131072 : Int32)), .val (.int j1), .val (.int j2), .val (.int j3), .val (.int j5), .val (.int j6), .val (.ref b8), .val (.int j11), .unset, .unset, .unset, .unset] [(.ref b8)])) _
      refine XS.iload X21.here hx rfl (hb hby at_190) rfl ?_
      exact k
    obtain ⟨cq22, kq22, q22a, q22b, q22c⟩ := isOf hZ rfl E_b8
    obtain ⟨_, _, ⟨T22, L22, k22, n22⟩, -, X22, ⟨Lc22, hQ22, l22, y22, z22⟩, st22⟩ := X21.virtualBack hx (y := (⟨"com/example/capd/capd/status/Bitstring", "get", "(I)Z"⟩ : MethodName)) (z := (⟨"com/example/capd/capd/status/Bitstring", "get", "(I)Z"⟩ : MethodName)) hown (mvT hZ (hw _ (List.mem_of_getElem? (i := 22) rfl))) (mvT hZ (hw _ (List.mem_of_getElem? (i := 23) rfl))) (notFace_of_selects (args := #[]) (mvT hZ (hw _ (List.mem_of_getElem? (i := 25) rfl)))) (mvT hZ (hw _ (List.mem_of_getElem? (i := 25) rfl))) (mvT hZ (hw _ (List.mem_of_getElem? (i := 24) rfl))) (by decide) (backOf (W := 0) (rm4 l Z a0 hw [] b8 j6 (131072 : Int32) b9_0 k9_1 (u_8_w_words_a1_fn j2 (131072 : Int32) (u_8_w_words_a1_fn j1 (131072 : Int32) (fun _ => 0) (0 : Int32)) (u_8_a1_count j1 (131072 : Int32) (fun _ => 0) (0 : Int32))) T21.heap n0 Z0 F_b8_size hhhhc1_3_5_164 hhhhc6_3_5_164 F_b8_words V_b9_0 hhlo17_164 hhhi17_164) hZ (hw _ (List.mem_of_getElem? (i := 26) rfl)) (hw _ (List.mem_of_getElem? (i := 4) rfl)) (by decide) (by decide)) q22a q22c (g := (mkF m 192 #[.val (.int p1), .val (.int p2), .val (.int p3), .val (.int p4), .val (.int (131072 : Int32)), .val (.int j1), .val (.int j2), .val (.int j3), .val (.int j5), .val (.int j6), .val (.ref b8), .val (.int j11), .unset, .unset, .unset, .unset] [(.int j6), (.ref b8)])) rfl (by rw [hml]; rfl) (Steps.refl _) (argsL := [(.int j6)]) (rest := []) (lenOf pd_2 rfl) rfl (by show 2 * 0 + _ ≤ _; exact Nat.le_of_eq rfl) (hb hby at_192) (fun _ _ => ⟨rfl, rfl, (by decide : 2 + 0 ≤ _), (by decide : 2051 + 0 ≤ _)⟩)
    dsimp only [Pt.U, Pt.locs, Pt.cells, Pt.slots] at X22 l22 y22 z22 st22 hQ22
    subst l22 y22 z22
    obtain ⟨rfl, N22q, e22⟩ := hQ22
    have NN := Fr.app NN N22q
    refine own_go (fun t k => st22.trans k) ?_
    show own_Go p.tables e below _ T22 (mkF m 195 #[.val (.int p1), .val (.int p2), .val (.int p3), .val (.int p4), .val (.int (131072 : Int32)), .val (.int j1), .val (.int j2), .val (.int j3), .val (.int j5), .val (.int j6), .val (.ref b8), .val (.int j11), .unset, .unset, .unset, .unset] [(.int (r_4 j6 (131072 : Int32) (u_8_w_words_a1_fn j2 (131072 : Int32) (u_8_w_words_a1_fn j1 (131072 : Int32) (fun _ => 0) (0 : Int32)) (u_8_a1_count j1 (131072 : Int32) (fun _ => 0) (0 : Int32)))))])
    refine own_go (T' := T22) (g' := (mkF m 197 #[.val (.int p1), .val (.int p2), .val (.int p3), .val (.int p4), .val (.int (131072 : Int32)), .val (.int j1), .val (.int j2), .val (.int j3), .val (.int j5), .val (.int j6), .val (.ref b8), .val (.int j11), .val (.int (r_4 j6 (131072 : Int32) (u_8_w_words_a1_fn j2 (131072 : Int32) (u_8_w_words_a1_fn j1 (131072 : Int32) (fun _ => 0) (0 : Int32)) (u_8_a1_count j1 (131072 : Int32) (fun _ => 0) (0 : Int32))))), .unset, .unset, .unset] [])) (fun t k => ?_) ?_
    · show Steps p.tables e below (T22.setTop (mkF m 195 #[.val (.int p1), .val (.int p2), .val (.int p3), .val (.int p4), .val (.int (131072 : Int32)), .val (.int j1), .val (.int j2), .val (.int j3), .val (.int j5), .val (.int j6), .val (.ref b8), .val (.int j11), .unset, .unset, .unset, .unset] [(.int (r_4 j6 (131072 : Int32) (u_8_w_words_a1_fn j2 (131072 : Int32) (u_8_w_words_a1_fn j1 (131072 : Int32) (fun _ => 0) (0 : Int32)) (u_8_a1_count j1 (131072 : Int32) (fun _ => 0) (0 : Int32)))))])) _
      refine XS.istore X22.here hx rfl (hb hby at_195) rfl (l' := #[.val (.int p1), .val (.int p2), .val (.int p3), .val (.int p4), .val (.int (131072 : Int32)), .val (.int j1), .val (.int j2), .val (.int j3), .val (.int j5), .val (.int j6), .val (.ref b8), .val (.int j11), .val (.int (r_4 j6 (131072 : Int32) (u_8_w_words_a1_fn j2 (131072 : Int32) (u_8_w_words_a1_fn j1 (131072 : Int32) (fun _ => 0) (0 : Int32)) (u_8_a1_count j1 (131072 : Int32) (fun _ => 0) (0 : Int32))))), .unset, .unset, .unset]) rfl ?_
      exact k
    show own_Go p.tables e below _ T22 (mkF m 197 #[.val (.int p1), .val (.int p2), .val (.int p3), .val (.int p4), .val (.int (131072 : Int32)), .val (.int j1), .val (.int j2), .val (.int j3), .val (.int j5), .val (.int j6), .val (.ref b8), .val (.int j11), .val (.int (r_4 j6 (131072 : Int32) (u_8_w_words_a1_fn j2 (131072 : Int32) (u_8_w_words_a1_fn j1 (131072 : Int32) (fun _ => 0) (0 : Int32)) (u_8_a1_count j1 (131072 : Int32) (fun _ => 0) (0 : Int32))))), .unset, .unset, .unset] [])
    obtain ⟨j23, hj23⟩ : ∃ z : Int32, z = (r_4 j6 (131072 : Int32) (u_8_w_words_a1_fn j2 (131072 : Int32) (u_8_w_words_a1_fn j1 (131072 : Int32) (fun _ => 0) (0 : Int32)) (u_8_a1_count j1 (131072 : Int32) (fun _ => 0) (0 : Int32)))) := ⟨_, rfl⟩
    rw [← hj23]
    show own_Go p.tables e below _ T22 (mkF m 197 #[.val (.int p1), .val (.int p2), .val (.int p3), .val (.int p4), .val (.int (131072 : Int32)), .val (.int j1), .val (.int j2), .val (.int j3), .val (.int j5), .val (.int j6), .val (.ref b8), .val (.int j11), .val (.int j23), .unset, .unset, .unset] [])
    refine own_go (T' := T22) (g' := (mkF m 201 #[.val (.int p1), .val (.int p2), .val (.int p3), .val (.int p4), .val (.int (131072 : Int32)), .val (.int j1), .val (.int j2), .val (.int j3), .val (.int j5), .val (.int j6), .val (.ref b8), .val (.int j11), .val (.int j23), .unset, .unset, .unset] [(.int j1), (.int j6)])) (fun t k => ?_) ?_
    · show Steps p.tables e below (T22.setTop (mkF m 197 #[.val (.int p1), .val (.int p2), .val (.int p3), .val (.int p4), .val (.int (131072 : Int32)), .val (.int j1), .val (.int j2), .val (.int j3), .val (.int j5), .val (.int j6), .val (.ref b8), .val (.int j11), .val (.int j23), .unset, .unset, .unset] [])) _
      refine XS.iload X22.here hx rfl (hb hby at_197) rfl ?_
      show Steps p.tables e below (T22.setTop (mkF m 199 #[.val (.int p1), .val (.int p2), .val (.int p3), .val (.int p4), .val (.int (131072 : Int32)), .val (.int j1), .val (.int j2), .val (.int j3), .val (.int j5), .val (.int j6), .val (.ref b8), .val (.int j11), .val (.int j23), .unset, .unset, .unset] [(.int j6)])) _
      refine XS.iload X22.here hx rfl (hb hby at_199) rfl ?_
      exact k
    obtain ⟨j24, hj24, st25⟩ : ∃ (j24 : Int32), j24 = (if j6 = j1 then (1 : Int32) else (if j6 = j2 then (1 : Int32) else (0 : Int32))) ∧ ∀ t, Steps p.tables e below (T22.setTop (mkF m 221 #[.val (.int p1), .val (.int p2), .val (.int p3), .val (.int p4), .val (.int (131072 : Int32)), .val (.int j1), .val (.int j2), .val (.int j3), .val (.int j5), .val (.int j6), .val (.ref b8), .val (.int j11), .val (.int j23), .unset, .unset, .unset] [(.int j24)])) t → Steps p.tables e below (T22.setTop (mkF m 201 #[.val (.int p1), .val (.int p2), .val (.int p3), .val (.int p4), .val (.int (131072 : Int32)), .val (.int j1), .val (.int j2), .val (.int j3), .val (.int j5), .val (.int j6), .val (.ref b8), .val (.int j11), .val (.int j23), .unset, .unset, .unset] [(.int j1), (.int j6)])) t := by
      by_cases hc201_14 : j6 = j1
      · skip
        refine ⟨(1 : Int32), (by simp only [if_pos hc201_14]), fun t k => ?_⟩
        show Steps p.tables e below (T22.setTop (mkF m 201 #[.val (.int p1), .val (.int p2), .val (.int p3), .val (.int p4), .val (.int (131072 : Int32)), .val (.int j1), .val (.int j2), .val (.int j3), .val (.int j5), .val (.int j6), .val (.ref b8), .val (.int j11), .val (.int j23), .unset, .unset, .unset] [(.int j1), (.int j6)])) _
        refine XS.icmpYes X22.here hx rfl (pc0 := 201) (pc' := 216) rfl (hb hby at_201) rfl (teq hc201_14).1 (by decide) (by decide) ?_
        show Steps p.tables e below (T22.setTop (mkF m 216 #[.val (.int p1), .val (.int p2), .val (.int p3), .val (.int p4), .val (.int (131072 : Int32)), .val (.int j1), .val (.int j2), .val (.int j3), .val (.int j5), .val (.int j6), .val (.ref b8), .val (.int j11), .val (.int j23), .unset, .unset, .unset] [])) _
        refine XS.iconst X22.here hx rfl (hb hby at_216) ?_
        show Steps p.tables e below (T22.setTop (mkF m 217 #[.val (.int p1), .val (.int p2), .val (.int p3), .val (.int p4), .val (.int (131072 : Int32)), .val (.int j1), .val (.int j2), .val (.int j3), .val (.int j5), .val (.int j6), .val (.ref b8), .val (.int j11), .val (.int j23), .unset, .unset, .unset] [(.int (1 : Int32))])) _
        refine XS.goto X22.here hx rfl (pc0 := 217) (pc' := 221) rfl (hb hby at_217) (by decide) (by decide) ?_
        exact k
      · skip
        by_cases hc213_15 : j6 = j2
        · skip
          refine ⟨(1 : Int32), (by simp only [if_neg hc201_14, if_pos hc213_15]), fun t k => ?_⟩
          show Steps p.tables e below (T22.setTop (mkF m 201 #[.val (.int p1), .val (.int p2), .val (.int p3), .val (.int p4), .val (.int (131072 : Int32)), .val (.int j1), .val (.int j2), .val (.int j3), .val (.int j5), .val (.int j6), .val (.ref b8), .val (.int j11), .val (.int j23), .unset, .unset, .unset] [(.int j1), (.int j6)])) _
          refine XS.icmpNo X22.here hx rfl (hb hby at_201) rfl (feq hc201_14).1 ?_
          show Steps p.tables e below (T22.setTop (mkF m 204 #[.val (.int p1), .val (.int p2), .val (.int p3), .val (.int p4), .val (.int (131072 : Int32)), .val (.int j1), .val (.int j2), .val (.int j3), .val (.int j5), .val (.int j6), .val (.ref b8), .val (.int j11), .val (.int j23), .unset, .unset, .unset] [])) _
          refine XS.iload X22.here hx rfl (hb hby at_204) rfl ?_
          show Steps p.tables e below (T22.setTop (mkF m 206 #[.val (.int p1), .val (.int p2), .val (.int p3), .val (.int p4), .val (.int (131072 : Int32)), .val (.int j1), .val (.int j2), .val (.int j3), .val (.int j5), .val (.int j6), .val (.ref b8), .val (.int j11), .val (.int j23), .unset, .unset, .unset] [(.int j3)])) _
          refine XS.ifNo X22.here hx rfl (hb hby at_206) rfl ((if0 _ _).trans (feq hc178_9).1) ?_
          show Steps p.tables e below (T22.setTop (mkF m 209 #[.val (.int p1), .val (.int p2), .val (.int p3), .val (.int p4), .val (.int (131072 : Int32)), .val (.int j1), .val (.int j2), .val (.int j3), .val (.int j5), .val (.int j6), .val (.ref b8), .val (.int j11), .val (.int j23), .unset, .unset, .unset] [])) _
          refine XS.iload X22.here hx rfl (hb hby at_209) rfl ?_
          show Steps p.tables e below (T22.setTop (mkF m 211 #[.val (.int p1), .val (.int p2), .val (.int p3), .val (.int p4), .val (.int (131072 : Int32)), .val (.int j1), .val (.int j2), .val (.int j3), .val (.int j5), .val (.int j6), .val (.ref b8), .val (.int j11), .val (.int j23), .unset, .unset, .unset] [(.int j6)])) _
          refine XS.iload X22.here hx rfl (hb hby at_211) rfl ?_
          show Steps p.tables e below (T22.setTop (mkF m 213 #[.val (.int p1), .val (.int p2), .val (.int p3), .val (.int p4), .val (.int (131072 : Int32)), .val (.int j1), .val (.int j2), .val (.int j3), .val (.int j5), .val (.int j6), .val (.ref b8), .val (.int j11), .val (.int j23), .unset, .unset, .unset] [(.int j2), (.int j6)])) _
          refine XS.icmpNo X22.here hx rfl (hb hby at_213) rfl (teq hc213_15).2 ?_
          show Steps p.tables e below (T22.setTop (mkF m 216 #[.val (.int p1), .val (.int p2), .val (.int p3), .val (.int p4), .val (.int (131072 : Int32)), .val (.int j1), .val (.int j2), .val (.int j3), .val (.int j5), .val (.int j6), .val (.ref b8), .val (.int j11), .val (.int j23), .unset, .unset, .unset] [])) _
          refine XS.iconst X22.here hx rfl (hb hby at_216) ?_
          show Steps p.tables e below (T22.setTop (mkF m 217 #[.val (.int p1), .val (.int p2), .val (.int p3), .val (.int p4), .val (.int (131072 : Int32)), .val (.int j1), .val (.int j2), .val (.int j3), .val (.int j5), .val (.int j6), .val (.ref b8), .val (.int j11), .val (.int j23), .unset, .unset, .unset] [(.int (1 : Int32))])) _
          refine XS.goto X22.here hx rfl (pc0 := 217) (pc' := 221) rfl (hb hby at_217) (by decide) (by decide) ?_
          exact k
        · skip
          refine ⟨(0 : Int32), (by simp only [if_neg hc201_14, if_neg hc213_15]), fun t k => ?_⟩
          show Steps p.tables e below (T22.setTop (mkF m 201 #[.val (.int p1), .val (.int p2), .val (.int p3), .val (.int p4), .val (.int (131072 : Int32)), .val (.int j1), .val (.int j2), .val (.int j3), .val (.int j5), .val (.int j6), .val (.ref b8), .val (.int j11), .val (.int j23), .unset, .unset, .unset] [(.int j1), (.int j6)])) _
          refine XS.icmpNo X22.here hx rfl (hb hby at_201) rfl (feq hc201_14).1 ?_
          show Steps p.tables e below (T22.setTop (mkF m 204 #[.val (.int p1), .val (.int p2), .val (.int p3), .val (.int p4), .val (.int (131072 : Int32)), .val (.int j1), .val (.int j2), .val (.int j3), .val (.int j5), .val (.int j6), .val (.ref b8), .val (.int j11), .val (.int j23), .unset, .unset, .unset] [])) _
          refine XS.iload X22.here hx rfl (hb hby at_204) rfl ?_
          show Steps p.tables e below (T22.setTop (mkF m 206 #[.val (.int p1), .val (.int p2), .val (.int p3), .val (.int p4), .val (.int (131072 : Int32)), .val (.int j1), .val (.int j2), .val (.int j3), .val (.int j5), .val (.int j6), .val (.ref b8), .val (.int j11), .val (.int j23), .unset, .unset, .unset] [(.int j3)])) _
          refine XS.ifNo X22.here hx rfl (hb hby at_206) rfl ((if0 _ _).trans (feq hc178_9).1) ?_
          show Steps p.tables e below (T22.setTop (mkF m 209 #[.val (.int p1), .val (.int p2), .val (.int p3), .val (.int p4), .val (.int (131072 : Int32)), .val (.int j1), .val (.int j2), .val (.int j3), .val (.int j5), .val (.int j6), .val (.ref b8), .val (.int j11), .val (.int j23), .unset, .unset, .unset] [])) _
          refine XS.iload X22.here hx rfl (hb hby at_209) rfl ?_
          show Steps p.tables e below (T22.setTop (mkF m 211 #[.val (.int p1), .val (.int p2), .val (.int p3), .val (.int p4), .val (.int (131072 : Int32)), .val (.int j1), .val (.int j2), .val (.int j3), .val (.int j5), .val (.int j6), .val (.ref b8), .val (.int j11), .val (.int j23), .unset, .unset, .unset] [(.int j6)])) _
          refine XS.iload X22.here hx rfl (hb hby at_211) rfl ?_
          show Steps p.tables e below (T22.setTop (mkF m 213 #[.val (.int p1), .val (.int p2), .val (.int p3), .val (.int p4), .val (.int (131072 : Int32)), .val (.int j1), .val (.int j2), .val (.int j3), .val (.int j5), .val (.int j6), .val (.ref b8), .val (.int j11), .val (.int j23), .unset, .unset, .unset] [(.int j2), (.int j6)])) _
          refine XS.icmpYes X22.here hx rfl (pc0 := 213) (pc' := 220) rfl (hb hby at_213) rfl (feq hc213_15).2 (by decide) (by decide) ?_
          show Steps p.tables e below (T22.setTop (mkF m 220 #[.val (.int p1), .val (.int p2), .val (.int p3), .val (.int p4), .val (.int (131072 : Int32)), .val (.int j1), .val (.int j2), .val (.int j3), .val (.int j5), .val (.int j6), .val (.ref b8), .val (.int j11), .val (.int j23), .unset, .unset, .unset] [])) _
          refine XS.iconst X22.here hx rfl (hb hby at_220) ?_
          exact k
    refine own_go st25 ?_
    show own_Go p.tables e below _ T22 (mkF m 221 #[.val (.int p1), .val (.int p2), .val (.int p3), .val (.int p4), .val (.int (131072 : Int32)), .val (.int j1), .val (.int j2), .val (.int j3), .val (.int j5), .val (.int j6), .val (.ref b8), .val (.int j11), .val (.int j23), .unset, .unset, .unset] [(.int j24)])
    refine own_go (T' := T22) (g' := (mkF m 227 #[.val (.int p1), .val (.int p2), .val (.int p3), .val (.int p4), .val (.int (131072 : Int32)), .val (.int j1), .val (.int j2), .val (.int j3), .val (.int j5), .val (.int j6), .val (.ref b8), .val (.int j11), .val (.int j23), .val (.int j24), .unset, .unset] [(.int j1), (.ref b8)])) (fun t k => ?_) ?_
    · show Steps p.tables e below (T22.setTop (mkF m 221 #[.val (.int p1), .val (.int p2), .val (.int p3), .val (.int p4), .val (.int (131072 : Int32)), .val (.int j1), .val (.int j2), .val (.int j3), .val (.int j5), .val (.int j6), .val (.ref b8), .val (.int j11), .val (.int j23), .unset, .unset, .unset] [(.int j24)])) _
      refine XS.istore X22.here hx rfl (hb hby at_221) rfl (l' := #[.val (.int p1), .val (.int p2), .val (.int p3), .val (.int p4), .val (.int (131072 : Int32)), .val (.int j1), .val (.int j2), .val (.int j3), .val (.int j5), .val (.int j6), .val (.ref b8), .val (.int j11), .val (.int j23), .val (.int j24), .unset, .unset]) rfl ?_
      show Steps p.tables e below (T22.setTop (mkF m 223 #[.val (.int p1), .val (.int p2), .val (.int p3), .val (.int p4), .val (.int (131072 : Int32)), .val (.int j1), .val (.int j2), .val (.int j3), .val (.int j5), .val (.int j6), .val (.ref b8), .val (.int j11), .val (.int j23), .val (.int j24), .unset, .unset] [])) _
      refine XS.aload X22.here hx rfl (hb hby at_223) rfl rfl ?_
      show Steps p.tables e below (T22.setTop (mkF m 225 #[.val (.int p1), .val (.int p2), .val (.int p3), .val (.int p4), .val (.int (131072 : Int32)), .val (.int j1), .val (.int j2), .val (.int j3), .val (.int j5), .val (.int j6), .val (.ref b8), .val (.int j11), .val (.int j23), .val (.int j24), .unset, .unset] [(.ref b8)])) _
      refine XS.iload X22.here hx rfl (hb hby at_225) rfl ?_
      exact k
    obtain ⟨cq26, kq26, q26a, q26b, q26c⟩ := isOf hZ e22 E_b8
    obtain ⟨_, _, ⟨T26, L26, k26, n26⟩, -, X26, ⟨Lc26, hQ26, l26, y26, z26⟩, st26⟩ := X22.virtualBack hx (y := (⟨"com/example/capd/capd/status/Bitstring", "get", "(I)Z"⟩ : MethodName)) (z := (⟨"com/example/capd/capd/status/Bitstring", "get", "(I)Z"⟩ : MethodName)) hown (mvT hZ (hw _ (List.mem_of_getElem? (i := 22) rfl))) (mvT hZ (hw _ (List.mem_of_getElem? (i := 23) rfl))) (notFace_of_selects (args := #[]) (mvT hZ (hw _ (List.mem_of_getElem? (i := 25) rfl)))) (mvT hZ (hw _ (List.mem_of_getElem? (i := 25) rfl))) (mvT hZ (hw _ (List.mem_of_getElem? (i := 24) rfl))) (by decide) (backOf (W := 0) (rm4 l Z a0 hw [] b8 j1 (131072 : Int32) b9_0 k9_1 (u_8_w_words_a1_fn j2 (131072 : Int32) (u_8_w_words_a1_fn j1 (131072 : Int32) (fun _ => 0) (0 : Int32)) (u_8_a1_count j1 (131072 : Int32) (fun _ => 0) (0 : Int32))) T21.heap n0 Z0 F_b8_size hhhhc1_3_5_173 hhhhc6_3_5_173 F_b8_words V_b9_0 hhhlo17_11_173 hhhhi17_11_173) hZ (hw _ (List.mem_of_getElem? (i := 26) rfl)) (hw _ (List.mem_of_getElem? (i := 4) rfl)) (by decide) (by decide)) q26a q26c (g := (mkF m 227 #[.val (.int p1), .val (.int p2), .val (.int p3), .val (.int p4), .val (.int (131072 : Int32)), .val (.int j1), .val (.int j2), .val (.int j3), .val (.int j5), .val (.int j6), .val (.ref b8), .val (.int j11), .val (.int j23), .val (.int j24), .unset, .unset] [(.int j1), (.ref b8)])) rfl (by rw [hml]; rfl) (Steps.refl _) (argsL := [(.int j1)]) (rest := []) (lenOf pd_2 rfl) rfl (by show 2 * 0 + _ ≤ _; exact Nat.le_of_eq rfl) (hb hby at_227) (fun _ _ => ⟨rfl, e22, (by decide : 2 + 0 ≤ _), (by decide : 2051 + 0 ≤ _)⟩)
    dsimp only [Pt.U, Pt.locs, Pt.cells, Pt.slots] at X26 l26 y26 z26 st26 hQ26
    subst l26 y26 z26
    obtain ⟨rfl, N26q, e26⟩ := hQ26
    have NN := Fr.app NN N26q
    refine own_go (fun t k => st26.trans k) ?_
    show own_Go p.tables e below _ T26 (mkF m 230 #[.val (.int p1), .val (.int p2), .val (.int p3), .val (.int p4), .val (.int (131072 : Int32)), .val (.int j1), .val (.int j2), .val (.int j3), .val (.int j5), .val (.int j6), .val (.ref b8), .val (.int j11), .val (.int j23), .val (.int j24), .unset, .unset] [(.int (r_4 j1 (131072 : Int32) (u_8_w_words_a1_fn j2 (131072 : Int32) (u_8_w_words_a1_fn j1 (131072 : Int32) (fun _ => 0) (0 : Int32)) (u_8_a1_count j1 (131072 : Int32) (fun _ => 0) (0 : Int32)))))])
    refine own_go (T' := T26) (g' := (mkF m 232 #[.val (.int p1), .val (.int p2), .val (.int p3), .val (.int p4), .val (.int (131072 : Int32)), .val (.int j1), .val (.int j2), .val (.int j3), .val (.int j5), .val (.int j6), .val (.ref b8), .val (.int j11), .val (.int j23), .val (.int j24), .val (.int (r_4 j1 (131072 : Int32) (u_8_w_words_a1_fn j2 (131072 : Int32) (u_8_w_words_a1_fn j1 (131072 : Int32) (fun _ => 0) (0 : Int32)) (u_8_a1_count j1 (131072 : Int32) (fun _ => 0) (0 : Int32))))), .unset] [])) (fun t k => ?_) ?_
    · show Steps p.tables e below (T26.setTop (mkF m 230 #[.val (.int p1), .val (.int p2), .val (.int p3), .val (.int p4), .val (.int (131072 : Int32)), .val (.int j1), .val (.int j2), .val (.int j3), .val (.int j5), .val (.int j6), .val (.ref b8), .val (.int j11), .val (.int j23), .val (.int j24), .unset, .unset] [(.int (r_4 j1 (131072 : Int32) (u_8_w_words_a1_fn j2 (131072 : Int32) (u_8_w_words_a1_fn j1 (131072 : Int32) (fun _ => 0) (0 : Int32)) (u_8_a1_count j1 (131072 : Int32) (fun _ => 0) (0 : Int32)))))])) _
      refine XS.istore X26.here hx rfl (hb hby at_230) rfl (l' := #[.val (.int p1), .val (.int p2), .val (.int p3), .val (.int p4), .val (.int (131072 : Int32)), .val (.int j1), .val (.int j2), .val (.int j3), .val (.int j5), .val (.int j6), .val (.ref b8), .val (.int j11), .val (.int j23), .val (.int j24), .val (.int (r_4 j1 (131072 : Int32) (u_8_w_words_a1_fn j2 (131072 : Int32) (u_8_w_words_a1_fn j1 (131072 : Int32) (fun _ => 0) (0 : Int32)) (u_8_a1_count j1 (131072 : Int32) (fun _ => 0) (0 : Int32))))), .unset]) rfl ?_
      exact k
    show own_Go p.tables e below _ T26 (mkF m 232 #[.val (.int p1), .val (.int p2), .val (.int p3), .val (.int p4), .val (.int (131072 : Int32)), .val (.int j1), .val (.int j2), .val (.int j3), .val (.int j5), .val (.int j6), .val (.ref b8), .val (.int j11), .val (.int j23), .val (.int j24), .val (.int (r_4 j1 (131072 : Int32) (u_8_w_words_a1_fn j2 (131072 : Int32) (u_8_w_words_a1_fn j1 (131072 : Int32) (fun _ => 0) (0 : Int32)) (u_8_a1_count j1 (131072 : Int32) (fun _ => 0) (0 : Int32))))), .unset] [])
    obtain ⟨j27, hj27⟩ : ∃ z : Int32, z = (r_4 j1 (131072 : Int32) (u_8_w_words_a1_fn j2 (131072 : Int32) (u_8_w_words_a1_fn j1 (131072 : Int32) (fun _ => 0) (0 : Int32)) (u_8_a1_count j1 (131072 : Int32) (fun _ => 0) (0 : Int32)))) := ⟨_, rfl⟩
    rw [← hj27]
    show own_Go p.tables e below _ T26 (mkF m 232 #[.val (.int p1), .val (.int p2), .val (.int p3), .val (.int p4), .val (.int (131072 : Int32)), .val (.int j1), .val (.int j2), .val (.int j3), .val (.int j5), .val (.int j6), .val (.ref b8), .val (.int j11), .val (.int j23), .val (.int j24), .val (.int j27), .unset] [])
    refine own_go (T' := T26) (g' := (mkF m 234 #[.val (.int p1), .val (.int p2), .val (.int p3), .val (.int p4), .val (.int (131072 : Int32)), .val (.int j1), .val (.int j2), .val (.int j3), .val (.int j5), .val (.int j6), .val (.ref b8), .val (.int j11), .val (.int j23), .val (.int j24), .val (.int j27), .unset] [(.int j3)])) (fun t k => ?_) ?_
    · show Steps p.tables e below (T26.setTop (mkF m 232 #[.val (.int p1), .val (.int p2), .val (.int p3), .val (.int p4), .val (.int (131072 : Int32)), .val (.int j1), .val (.int j2), .val (.int j3), .val (.int j5), .val (.int j6), .val (.ref b8), .val (.int j11), .val (.int j23), .val (.int j24), .val (.int j27), .unset] [])) _
      refine XS.iload X26.here hx rfl (hb hby at_232) rfl ?_
      exact k
    refine own_go (T' := T26) (g' := (mkF m 241 #[.val (.int p1), .val (.int p2), .val (.int p3), .val (.int p4), .val (.int (131072 : Int32)), .val (.int j1), .val (.int j2), .val (.int j3), .val (.int j5), .val (.int j6), .val (.ref b8), .val (.int j11), .val (.int j23), .val (.int j24), .val (.int j27), .unset] [(.int j2), (.ref b8)])) (fun t k => ?_) ?_
    · show Steps p.tables e below (T26.setTop (mkF m 234 #[.val (.int p1), .val (.int p2), .val (.int p3), .val (.int p4), .val (.int (131072 : Int32)), .val (.int j1), .val (.int j2), .val (.int j3), .val (.int j5), .val (.int j6), .val (.ref b8), .val (.int j11), .val (.int j23), .val (.int j24), .val (.int j27), .unset] [(.int j3)])) _
      refine XS.ifNo X26.here hx rfl (hb hby at_234) rfl ((if0 _ _).trans (feq hc178_9).1) ?_
      show Steps p.tables e below (T26.setTop (mkF m 237 #[.val (.int p1), .val (.int p2), .val (.int p3), .val (.int p4), .val (.int (131072 : Int32)), .val (.int j1), .val (.int j2), .val (.int j3), .val (.int j5), .val (.int j6), .val (.ref b8), .val (.int j11), .val (.int j23), .val (.int j24), .val (.int j27), .unset] [])) _
      refine XS.aload X26.here hx rfl (hb hby at_237) rfl rfl ?_
      show Steps p.tables e below (T26.setTop (mkF m 239 #[.val (.int p1), .val (.int p2), .val (.int p3), .val (.int p4), .val (.int (131072 : Int32)), .val (.int j1), .val (.int j2), .val (.int j3), .val (.int j5), .val (.int j6), .val (.ref b8), .val (.int j11), .val (.int j23), .val (.int j24), .val (.int j27), .unset] [(.ref b8)])) _
      refine XS.iload X26.here hx rfl (hb hby at_239) rfl ?_
      exact k
    obtain ⟨cq28, kq28, q28a, q28b, q28c⟩ := isOf hZ e26 E_b8
    obtain ⟨_, _, ⟨T28, L28, k28, n28⟩, -, X28, ⟨Lc28, hQ28, l28, y28, z28⟩, st28⟩ := X26.virtualBack hx (y := (⟨"com/example/capd/capd/status/Bitstring", "get", "(I)Z"⟩ : MethodName)) (z := (⟨"com/example/capd/capd/status/Bitstring", "get", "(I)Z"⟩ : MethodName)) hown (mvT hZ (hw _ (List.mem_of_getElem? (i := 22) rfl))) (mvT hZ (hw _ (List.mem_of_getElem? (i := 23) rfl))) (notFace_of_selects (args := #[]) (mvT hZ (hw _ (List.mem_of_getElem? (i := 25) rfl)))) (mvT hZ (hw _ (List.mem_of_getElem? (i := 25) rfl))) (mvT hZ (hw _ (List.mem_of_getElem? (i := 24) rfl))) (by decide) (backOf (W := 0) (rm4 l Z a0 hw [] b8 j2 (131072 : Int32) b9_0 k9_1 (u_8_w_words_a1_fn j2 (131072 : Int32) (u_8_w_words_a1_fn j1 (131072 : Int32) (fun _ => 0) (0 : Int32)) (u_8_a1_count j1 (131072 : Int32) (fun _ => 0) (0 : Int32))) T21.heap n0 Z0 F_b8_size hhhhc1_3_5_185 hhhhc6_3_5_185 F_b8_words V_b9_0 hhhlo17_11_185 hhhhi17_11_185) hZ (hw _ (List.mem_of_getElem? (i := 26) rfl)) (hw _ (List.mem_of_getElem? (i := 4) rfl)) (by decide) (by decide)) q28a q28c (g := (mkF m 241 #[.val (.int p1), .val (.int p2), .val (.int p3), .val (.int p4), .val (.int (131072 : Int32)), .val (.int j1), .val (.int j2), .val (.int j3), .val (.int j5), .val (.int j6), .val (.ref b8), .val (.int j11), .val (.int j23), .val (.int j24), .val (.int j27), .unset] [(.int j2), (.ref b8)])) rfl (by rw [hml]; rfl) (Steps.refl _) (argsL := [(.int j2)]) (rest := []) (lenOf pd_2 rfl) rfl (by show 2 * 0 + _ ≤ _; exact Nat.le_of_eq rfl) (hb hby at_241) (fun _ _ => ⟨rfl, e26, (by decide : 2 + 0 ≤ _), (by decide : 2051 + 0 ≤ _)⟩)
    dsimp only [Pt.U, Pt.locs, Pt.cells, Pt.slots] at X28 l28 y28 z28 st28 hQ28
    subst l28 y28 z28
    obtain ⟨rfl, N28q, e28⟩ := hQ28
    have NN := Fr.app NN N28q
    refine own_go (fun t k => st28.trans k) ?_
    show own_Go p.tables e below _ T28 (mkF m 244 #[.val (.int p1), .val (.int p2), .val (.int p3), .val (.int p4), .val (.int (131072 : Int32)), .val (.int j1), .val (.int j2), .val (.int j3), .val (.int j5), .val (.int j6), .val (.ref b8), .val (.int j11), .val (.int j23), .val (.int j24), .val (.int j27), .unset] [(.int (r_4 j2 (131072 : Int32) (u_8_w_words_a1_fn j2 (131072 : Int32) (u_8_w_words_a1_fn j1 (131072 : Int32) (fun _ => 0) (0 : Int32)) (u_8_a1_count j1 (131072 : Int32) (fun _ => 0) (0 : Int32)))))])
    obtain ⟨j29, hj29, st30⟩ : ∃ (j29 : Int32), j29 = (if (r_4 j2 (131072 : Int32) (u_8_w_words_a1_fn j2 (131072 : Int32) (u_8_w_words_a1_fn j1 (131072 : Int32) (fun _ => 0) (0 : Int32)) (u_8_a1_count j1 (131072 : Int32) (fun _ => 0) (0 : Int32)))) = (0 : Int32) then (0 : Int32) else (1 : Int32)) ∧ ∀ t, Steps p.tables e below (T28.setTop (mkF m 252 #[.val (.int p1), .val (.int p2), .val (.int p3), .val (.int p4), .val (.int (131072 : Int32)), .val (.int j1), .val (.int j2), .val (.int j3), .val (.int j5), .val (.int j6), .val (.ref b8), .val (.int j11), .val (.int j23), .val (.int j24), .val (.int j27), .unset] [(.int j29)])) t → Steps p.tables e below (T28.setTop (mkF m 244 #[.val (.int p1), .val (.int p2), .val (.int p3), .val (.int p4), .val (.int (131072 : Int32)), .val (.int j1), .val (.int j2), .val (.int j3), .val (.int j5), .val (.int j6), .val (.ref b8), .val (.int j11), .val (.int j23), .val (.int j24), .val (.int j27), .unset] [(.int (r_4 j2 (131072 : Int32) (u_8_w_words_a1_fn j2 (131072 : Int32) (u_8_w_words_a1_fn j1 (131072 : Int32) (fun _ => 0) (0 : Int32)) (u_8_a1_count j1 (131072 : Int32) (fun _ => 0) (0 : Int32)))))])) t := by
      by_cases hc244_16 : (r_4 j2 (131072 : Int32) (u_8_w_words_a1_fn j2 (131072 : Int32) (u_8_w_words_a1_fn j1 (131072 : Int32) (fun _ => 0) (0 : Int32)) (u_8_a1_count j1 (131072 : Int32) (fun _ => 0) (0 : Int32)))) = (0 : Int32)
      · skip
        refine ⟨(0 : Int32), (by simp only [if_pos hc244_16]), fun t k => ?_⟩
        show Steps p.tables e below (T28.setTop (mkF m 244 #[.val (.int p1), .val (.int p2), .val (.int p3), .val (.int p4), .val (.int (131072 : Int32)), .val (.int j1), .val (.int j2), .val (.int j3), .val (.int j5), .val (.int j6), .val (.ref b8), .val (.int j11), .val (.int j23), .val (.int j24), .val (.int j27), .unset] [(.int (r_4 j2 (131072 : Int32) (u_8_w_words_a1_fn j2 (131072 : Int32) (u_8_w_words_a1_fn j1 (131072 : Int32) (fun _ => 0) (0 : Int32)) (u_8_a1_count j1 (131072 : Int32) (fun _ => 0) (0 : Int32)))))])) _
        refine XS.ifYes X28.here hx rfl (pc0 := 244) (pc' := 251) rfl (hb hby at_244) rfl ((if0 _ _).trans (teq hc244_16).1) (by decide) (by decide) ?_
        show Steps p.tables e below (T28.setTop (mkF m 251 #[.val (.int p1), .val (.int p2), .val (.int p3), .val (.int p4), .val (.int (131072 : Int32)), .val (.int j1), .val (.int j2), .val (.int j3), .val (.int j5), .val (.int j6), .val (.ref b8), .val (.int j11), .val (.int j23), .val (.int j24), .val (.int j27), .unset] [])) _
        refine XS.iconst X28.here hx rfl (hb hby at_251) ?_
        exact k
      · skip
        refine ⟨(1 : Int32), (by simp only [if_neg hc244_16]), fun t k => ?_⟩
        show Steps p.tables e below (T28.setTop (mkF m 244 #[.val (.int p1), .val (.int p2), .val (.int p3), .val (.int p4), .val (.int (131072 : Int32)), .val (.int j1), .val (.int j2), .val (.int j3), .val (.int j5), .val (.int j6), .val (.ref b8), .val (.int j11), .val (.int j23), .val (.int j24), .val (.int j27), .unset] [(.int (r_4 j2 (131072 : Int32) (u_8_w_words_a1_fn j2 (131072 : Int32) (u_8_w_words_a1_fn j1 (131072 : Int32) (fun _ => 0) (0 : Int32)) (u_8_a1_count j1 (131072 : Int32) (fun _ => 0) (0 : Int32)))))])) _
        refine XS.ifNo X28.here hx rfl (hb hby at_244) rfl ((if0 _ _).trans (feq hc244_16).1) ?_
        show Steps p.tables e below (T28.setTop (mkF m 247 #[.val (.int p1), .val (.int p2), .val (.int p3), .val (.int p4), .val (.int (131072 : Int32)), .val (.int j1), .val (.int j2), .val (.int j3), .val (.int j5), .val (.int j6), .val (.ref b8), .val (.int j11), .val (.int j23), .val (.int j24), .val (.int j27), .unset] [])) _
        refine XS.iconst X28.here hx rfl (hb hby at_247) ?_
        show Steps p.tables e below (T28.setTop (mkF m 248 #[.val (.int p1), .val (.int p2), .val (.int p3), .val (.int p4), .val (.int (131072 : Int32)), .val (.int j1), .val (.int j2), .val (.int j3), .val (.int j5), .val (.int j6), .val (.ref b8), .val (.int j11), .val (.int j23), .val (.int j24), .val (.int j27), .unset] [(.int (1 : Int32))])) _
        refine XS.goto X28.here hx rfl (pc0 := 248) (pc' := 252) rfl (hb hby at_248) (by decide) (by decide) ?_
        exact k
    refine own_go st30 ?_
    show own_Go p.tables e below _ T28 (mkF m 252 #[.val (.int p1), .val (.int p2), .val (.int p3), .val (.int p4), .val (.int (131072 : Int32)), .val (.int j1), .val (.int j2), .val (.int j3), .val (.int j5), .val (.int j6), .val (.ref b8), .val (.int j11), .val (.int j23), .val (.int j24), .val (.int j27), .unset] [(.int j29)])
    refine own_go (T' := T28) (g' := (mkF m 256 #[.val (.int p1), .val (.int p2), .val (.int p3), .val (.int p4), .val (.int (131072 : Int32)), .val (.int j1), .val (.int j2), .val (.int j3), .val (.int j5), .val (.int j6), .val (.ref b8), .val (.int j11), .val (.int j23), .val (.int j24), .val (.int j27), .val (.int j29)] [(.int j11)])) (fun t k => ?_) ?_
    · show Steps p.tables e below (T28.setTop (mkF m 252 #[.val (.int p1), .val (.int p2), .val (.int p3), .val (.int p4), .val (.int (131072 : Int32)), .val (.int j1), .val (.int j2), .val (.int j3), .val (.int j5), .val (.int j6), .val (.ref b8), .val (.int j11), .val (.int j23), .val (.int j24), .val (.int j27), .unset] [(.int j29)])) _
      refine XS.istore X28.here hx rfl (hb hby at_252) rfl (l' := #[.val (.int p1), .val (.int p2), .val (.int p3), .val (.int p4), .val (.int (131072 : Int32)), .val (.int j1), .val (.int j2), .val (.int j3), .val (.int j5), .val (.int j6), .val (.ref b8), .val (.int j11), .val (.int j23), .val (.int j24), .val (.int j27), .val (.int j29)]) rfl ?_
      show Steps p.tables e below (T28.setTop (mkF m 254 #[.val (.int p1), .val (.int p2), .val (.int p3), .val (.int p4), .val (.int (131072 : Int32)), .val (.int j1), .val (.int j2), .val (.int j3), .val (.int j5), .val (.int j6), .val (.ref b8), .val (.int j11), .val (.int j23), .val (.int j24), .val (.int j27), .val (.int j29)] [])) _
      refine XS.iload X28.here hx rfl (hb hby at_254) rfl ?_
      exact k
    obtain ⟨j31, hj31, st32⟩ : ∃ (j31 : Int32), j31 = (if j11 = (0 : Int32) then (if j23 = j24 then (if j27 = (0 : Int32) then (0 : Int32) else (if j29 = (0 : Int32) then (0 : Int32) else (1 : Int32))) else (0 : Int32)) else (0 : Int32)) ∧ ∀ t, Steps p.tables e below (T28.setTop (mkF m 281 #[.val (.int p1), .val (.int p2), .val (.int p3), .val (.int p4), .val (.int (131072 : Int32)), .val (.int j1), .val (.int j2), .val (.int j3), .val (.int j5), .val (.int j6), .val (.ref b8), .val (.int j11), .val (.int j23), .val (.int j24), .val (.int j27), .val (.int j29)] [(.int j31)])) t → Steps p.tables e below (T28.setTop (mkF m 256 #[.val (.int p1), .val (.int p2), .val (.int p3), .val (.int p4), .val (.int (131072 : Int32)), .val (.int j1), .val (.int j2), .val (.int j3), .val (.int j5), .val (.int j6), .val (.ref b8), .val (.int j11), .val (.int j23), .val (.int j24), .val (.int j27), .val (.int j29)] [(.int j11)])) t := by
      by_cases hc256_17 : j11 = (0 : Int32)
      · skip
        by_cases hc263_18 : j23 = j24
        · skip
          by_cases hc268_19 : j27 = (0 : Int32)
          · skip
            refine ⟨(0 : Int32), (by simp only [if_pos hc256_17, if_pos hc263_18, if_pos hc268_19]), fun t k => ?_⟩
            show Steps p.tables e below (T28.setTop (mkF m 256 #[.val (.int p1), .val (.int p2), .val (.int p3), .val (.int p4), .val (.int (131072 : Int32)), .val (.int j1), .val (.int j2), .val (.int j3), .val (.int j5), .val (.int j6), .val (.ref b8), .val (.int j11), .val (.int j23), .val (.int j24), .val (.int j27), .val (.int j29)] [(.int j11)])) _
            refine XS.ifNo X28.here hx rfl (hb hby at_256) rfl ((if0 _ _).trans (teq hc256_17).2) ?_
            show Steps p.tables e below (T28.setTop (mkF m 259 #[.val (.int p1), .val (.int p2), .val (.int p3), .val (.int p4), .val (.int (131072 : Int32)), .val (.int j1), .val (.int j2), .val (.int j3), .val (.int j5), .val (.int j6), .val (.ref b8), .val (.int j11), .val (.int j23), .val (.int j24), .val (.int j27), .val (.int j29)] [])) _
            refine XS.iload X28.here hx rfl (hb hby at_259) rfl ?_
            show Steps p.tables e below (T28.setTop (mkF m 261 #[.val (.int p1), .val (.int p2), .val (.int p3), .val (.int p4), .val (.int (131072 : Int32)), .val (.int j1), .val (.int j2), .val (.int j3), .val (.int j5), .val (.int j6), .val (.ref b8), .val (.int j11), .val (.int j23), .val (.int j24), .val (.int j27), .val (.int j29)] [(.int j23)])) _
            refine XS.iload X28.here hx rfl (hb hby at_261) rfl ?_
            show Steps p.tables e below (T28.setTop (mkF m 263 #[.val (.int p1), .val (.int p2), .val (.int p3), .val (.int p4), .val (.int (131072 : Int32)), .val (.int j1), .val (.int j2), .val (.int j3), .val (.int j5), .val (.int j6), .val (.ref b8), .val (.int j11), .val (.int j23), .val (.int j24), .val (.int j27), .val (.int j29)] [(.int j24), (.int j23)])) _
            refine XS.icmpNo X28.here hx rfl (hb hby at_263) rfl (teq hc263_18).2 ?_
            show Steps p.tables e below (T28.setTop (mkF m 266 #[.val (.int p1), .val (.int p2), .val (.int p3), .val (.int p4), .val (.int (131072 : Int32)), .val (.int j1), .val (.int j2), .val (.int j3), .val (.int j5), .val (.int j6), .val (.ref b8), .val (.int j11), .val (.int j23), .val (.int j24), .val (.int j27), .val (.int j29)] [])) _
            refine XS.iload X28.here hx rfl (hb hby at_266) rfl ?_
            show Steps p.tables e below (T28.setTop (mkF m 268 #[.val (.int p1), .val (.int p2), .val (.int p3), .val (.int p4), .val (.int (131072 : Int32)), .val (.int j1), .val (.int j2), .val (.int j3), .val (.int j5), .val (.int j6), .val (.ref b8), .val (.int j11), .val (.int j23), .val (.int j24), .val (.int j27), .val (.int j29)] [(.int j27)])) _
            refine XS.ifYes X28.here hx rfl (pc0 := 268) (pc' := 280) rfl (hb hby at_268) rfl ((if0 _ _).trans (teq hc268_19).1) (by decide) (by decide) ?_
            show Steps p.tables e below (T28.setTop (mkF m 280 #[.val (.int p1), .val (.int p2), .val (.int p3), .val (.int p4), .val (.int (131072 : Int32)), .val (.int j1), .val (.int j2), .val (.int j3), .val (.int j5), .val (.int j6), .val (.ref b8), .val (.int j11), .val (.int j23), .val (.int j24), .val (.int j27), .val (.int j29)] [])) _
            refine XS.iconst X28.here hx rfl (hb hby at_280) ?_
            exact k
          · skip
            by_cases hc273_20 : j29 = (0 : Int32)
            · skip
              refine ⟨(0 : Int32), (by simp only [if_pos hc256_17, if_pos hc263_18, if_neg hc268_19, if_pos hc273_20]), fun t k => ?_⟩
              show Steps p.tables e below (T28.setTop (mkF m 256 #[.val (.int p1), .val (.int p2), .val (.int p3), .val (.int p4), .val (.int (131072 : Int32)), .val (.int j1), .val (.int j2), .val (.int j3), .val (.int j5), .val (.int j6), .val (.ref b8), .val (.int j11), .val (.int j23), .val (.int j24), .val (.int j27), .val (.int j29)] [(.int j11)])) _
              refine XS.ifNo X28.here hx rfl (hb hby at_256) rfl ((if0 _ _).trans (teq hc256_17).2) ?_
              show Steps p.tables e below (T28.setTop (mkF m 259 #[.val (.int p1), .val (.int p2), .val (.int p3), .val (.int p4), .val (.int (131072 : Int32)), .val (.int j1), .val (.int j2), .val (.int j3), .val (.int j5), .val (.int j6), .val (.ref b8), .val (.int j11), .val (.int j23), .val (.int j24), .val (.int j27), .val (.int j29)] [])) _
              refine XS.iload X28.here hx rfl (hb hby at_259) rfl ?_
              show Steps p.tables e below (T28.setTop (mkF m 261 #[.val (.int p1), .val (.int p2), .val (.int p3), .val (.int p4), .val (.int (131072 : Int32)), .val (.int j1), .val (.int j2), .val (.int j3), .val (.int j5), .val (.int j6), .val (.ref b8), .val (.int j11), .val (.int j23), .val (.int j24), .val (.int j27), .val (.int j29)] [(.int j23)])) _
              refine XS.iload X28.here hx rfl (hb hby at_261) rfl ?_
              show Steps p.tables e below (T28.setTop (mkF m 263 #[.val (.int p1), .val (.int p2), .val (.int p3), .val (.int p4), .val (.int (131072 : Int32)), .val (.int j1), .val (.int j2), .val (.int j3), .val (.int j5), .val (.int j6), .val (.ref b8), .val (.int j11), .val (.int j23), .val (.int j24), .val (.int j27), .val (.int j29)] [(.int j24), (.int j23)])) _
              refine XS.icmpNo X28.here hx rfl (hb hby at_263) rfl (teq hc263_18).2 ?_
              show Steps p.tables e below (T28.setTop (mkF m 266 #[.val (.int p1), .val (.int p2), .val (.int p3), .val (.int p4), .val (.int (131072 : Int32)), .val (.int j1), .val (.int j2), .val (.int j3), .val (.int j5), .val (.int j6), .val (.ref b8), .val (.int j11), .val (.int j23), .val (.int j24), .val (.int j27), .val (.int j29)] [])) _
              refine XS.iload X28.here hx rfl (hb hby at_266) rfl ?_
              show Steps p.tables e below (T28.setTop (mkF m 268 #[.val (.int p1), .val (.int p2), .val (.int p3), .val (.int p4), .val (.int (131072 : Int32)), .val (.int j1), .val (.int j2), .val (.int j3), .val (.int j5), .val (.int j6), .val (.ref b8), .val (.int j11), .val (.int j23), .val (.int j24), .val (.int j27), .val (.int j29)] [(.int j27)])) _
              refine XS.ifNo X28.here hx rfl (hb hby at_268) rfl ((if0 _ _).trans (feq hc268_19).1) ?_
              show Steps p.tables e below (T28.setTop (mkF m 271 #[.val (.int p1), .val (.int p2), .val (.int p3), .val (.int p4), .val (.int (131072 : Int32)), .val (.int j1), .val (.int j2), .val (.int j3), .val (.int j5), .val (.int j6), .val (.ref b8), .val (.int j11), .val (.int j23), .val (.int j24), .val (.int j27), .val (.int j29)] [])) _
              refine XS.iload X28.here hx rfl (hb hby at_271) rfl ?_
              show Steps p.tables e below (T28.setTop (mkF m 273 #[.val (.int p1), .val (.int p2), .val (.int p3), .val (.int p4), .val (.int (131072 : Int32)), .val (.int j1), .val (.int j2), .val (.int j3), .val (.int j5), .val (.int j6), .val (.ref b8), .val (.int j11), .val (.int j23), .val (.int j24), .val (.int j27), .val (.int j29)] [(.int j29)])) _
              refine XS.ifYes X28.here hx rfl (pc0 := 273) (pc' := 280) rfl (hb hby at_273) rfl ((if0 _ _).trans (teq hc273_20).1) (by decide) (by decide) ?_
              show Steps p.tables e below (T28.setTop (mkF m 280 #[.val (.int p1), .val (.int p2), .val (.int p3), .val (.int p4), .val (.int (131072 : Int32)), .val (.int j1), .val (.int j2), .val (.int j3), .val (.int j5), .val (.int j6), .val (.ref b8), .val (.int j11), .val (.int j23), .val (.int j24), .val (.int j27), .val (.int j29)] [])) _
              refine XS.iconst X28.here hx rfl (hb hby at_280) ?_
              exact k
            · skip
              refine ⟨(1 : Int32), (by simp only [if_pos hc256_17, if_pos hc263_18, if_neg hc268_19, if_neg hc273_20]), fun t k => ?_⟩
              show Steps p.tables e below (T28.setTop (mkF m 256 #[.val (.int p1), .val (.int p2), .val (.int p3), .val (.int p4), .val (.int (131072 : Int32)), .val (.int j1), .val (.int j2), .val (.int j3), .val (.int j5), .val (.int j6), .val (.ref b8), .val (.int j11), .val (.int j23), .val (.int j24), .val (.int j27), .val (.int j29)] [(.int j11)])) _
              refine XS.ifNo X28.here hx rfl (hb hby at_256) rfl ((if0 _ _).trans (teq hc256_17).2) ?_
              show Steps p.tables e below (T28.setTop (mkF m 259 #[.val (.int p1), .val (.int p2), .val (.int p3), .val (.int p4), .val (.int (131072 : Int32)), .val (.int j1), .val (.int j2), .val (.int j3), .val (.int j5), .val (.int j6), .val (.ref b8), .val (.int j11), .val (.int j23), .val (.int j24), .val (.int j27), .val (.int j29)] [])) _
              refine XS.iload X28.here hx rfl (hb hby at_259) rfl ?_
              show Steps p.tables e below (T28.setTop (mkF m 261 #[.val (.int p1), .val (.int p2), .val (.int p3), .val (.int p4), .val (.int (131072 : Int32)), .val (.int j1), .val (.int j2), .val (.int j3), .val (.int j5), .val (.int j6), .val (.ref b8), .val (.int j11), .val (.int j23), .val (.int j24), .val (.int j27), .val (.int j29)] [(.int j23)])) _
              refine XS.iload X28.here hx rfl (hb hby at_261) rfl ?_
              show Steps p.tables e below (T28.setTop (mkF m 263 #[.val (.int p1), .val (.int p2), .val (.int p3), .val (.int p4), .val (.int (131072 : Int32)), .val (.int j1), .val (.int j2), .val (.int j3), .val (.int j5), .val (.int j6), .val (.ref b8), .val (.int j11), .val (.int j23), .val (.int j24), .val (.int j27), .val (.int j29)] [(.int j24), (.int j23)])) _
              refine XS.icmpNo X28.here hx rfl (hb hby at_263) rfl (teq hc263_18).2 ?_
              show Steps p.tables e below (T28.setTop (mkF m 266 #[.val (.int p1), .val (.int p2), .val (.int p3), .val (.int p4), .val (.int (131072 : Int32)), .val (.int j1), .val (.int j2), .val (.int j3), .val (.int j5), .val (.int j6), .val (.ref b8), .val (.int j11), .val (.int j23), .val (.int j24), .val (.int j27), .val (.int j29)] [])) _
              refine XS.iload X28.here hx rfl (hb hby at_266) rfl ?_
              show Steps p.tables e below (T28.setTop (mkF m 268 #[.val (.int p1), .val (.int p2), .val (.int p3), .val (.int p4), .val (.int (131072 : Int32)), .val (.int j1), .val (.int j2), .val (.int j3), .val (.int j5), .val (.int j6), .val (.ref b8), .val (.int j11), .val (.int j23), .val (.int j24), .val (.int j27), .val (.int j29)] [(.int j27)])) _
              refine XS.ifNo X28.here hx rfl (hb hby at_268) rfl ((if0 _ _).trans (feq hc268_19).1) ?_
              show Steps p.tables e below (T28.setTop (mkF m 271 #[.val (.int p1), .val (.int p2), .val (.int p3), .val (.int p4), .val (.int (131072 : Int32)), .val (.int j1), .val (.int j2), .val (.int j3), .val (.int j5), .val (.int j6), .val (.ref b8), .val (.int j11), .val (.int j23), .val (.int j24), .val (.int j27), .val (.int j29)] [])) _
              refine XS.iload X28.here hx rfl (hb hby at_271) rfl ?_
              show Steps p.tables e below (T28.setTop (mkF m 273 #[.val (.int p1), .val (.int p2), .val (.int p3), .val (.int p4), .val (.int (131072 : Int32)), .val (.int j1), .val (.int j2), .val (.int j3), .val (.int j5), .val (.int j6), .val (.ref b8), .val (.int j11), .val (.int j23), .val (.int j24), .val (.int j27), .val (.int j29)] [(.int j29)])) _
              refine XS.ifNo X28.here hx rfl (hb hby at_273) rfl ((if0 _ _).trans (feq hc273_20).1) ?_
              show Steps p.tables e below (T28.setTop (mkF m 276 #[.val (.int p1), .val (.int p2), .val (.int p3), .val (.int p4), .val (.int (131072 : Int32)), .val (.int j1), .val (.int j2), .val (.int j3), .val (.int j5), .val (.int j6), .val (.ref b8), .val (.int j11), .val (.int j23), .val (.int j24), .val (.int j27), .val (.int j29)] [])) _
              refine XS.iconst X28.here hx rfl (hb hby at_276) ?_
              show Steps p.tables e below (T28.setTop (mkF m 277 #[.val (.int p1), .val (.int p2), .val (.int p3), .val (.int p4), .val (.int (131072 : Int32)), .val (.int j1), .val (.int j2), .val (.int j3), .val (.int j5), .val (.int j6), .val (.ref b8), .val (.int j11), .val (.int j23), .val (.int j24), .val (.int j27), .val (.int j29)] [(.int (1 : Int32))])) _
              refine XS.goto X28.here hx rfl (pc0 := 277) (pc' := 281) rfl (hb hby at_277) (by decide) (by decide) ?_
              exact k
        · skip
          refine ⟨(0 : Int32), (by simp only [if_pos hc256_17, if_neg hc263_18]), fun t k => ?_⟩
          show Steps p.tables e below (T28.setTop (mkF m 256 #[.val (.int p1), .val (.int p2), .val (.int p3), .val (.int p4), .val (.int (131072 : Int32)), .val (.int j1), .val (.int j2), .val (.int j3), .val (.int j5), .val (.int j6), .val (.ref b8), .val (.int j11), .val (.int j23), .val (.int j24), .val (.int j27), .val (.int j29)] [(.int j11)])) _
          refine XS.ifNo X28.here hx rfl (hb hby at_256) rfl ((if0 _ _).trans (teq hc256_17).2) ?_
          show Steps p.tables e below (T28.setTop (mkF m 259 #[.val (.int p1), .val (.int p2), .val (.int p3), .val (.int p4), .val (.int (131072 : Int32)), .val (.int j1), .val (.int j2), .val (.int j3), .val (.int j5), .val (.int j6), .val (.ref b8), .val (.int j11), .val (.int j23), .val (.int j24), .val (.int j27), .val (.int j29)] [])) _
          refine XS.iload X28.here hx rfl (hb hby at_259) rfl ?_
          show Steps p.tables e below (T28.setTop (mkF m 261 #[.val (.int p1), .val (.int p2), .val (.int p3), .val (.int p4), .val (.int (131072 : Int32)), .val (.int j1), .val (.int j2), .val (.int j3), .val (.int j5), .val (.int j6), .val (.ref b8), .val (.int j11), .val (.int j23), .val (.int j24), .val (.int j27), .val (.int j29)] [(.int j23)])) _
          refine XS.iload X28.here hx rfl (hb hby at_261) rfl ?_
          show Steps p.tables e below (T28.setTop (mkF m 263 #[.val (.int p1), .val (.int p2), .val (.int p3), .val (.int p4), .val (.int (131072 : Int32)), .val (.int j1), .val (.int j2), .val (.int j3), .val (.int j5), .val (.int j6), .val (.ref b8), .val (.int j11), .val (.int j23), .val (.int j24), .val (.int j27), .val (.int j29)] [(.int j24), (.int j23)])) _
          refine XS.icmpYes X28.here hx rfl (pc0 := 263) (pc' := 280) rfl (hb hby at_263) rfl (feq hc263_18).2 (by decide) (by decide) ?_
          show Steps p.tables e below (T28.setTop (mkF m 280 #[.val (.int p1), .val (.int p2), .val (.int p3), .val (.int p4), .val (.int (131072 : Int32)), .val (.int j1), .val (.int j2), .val (.int j3), .val (.int j5), .val (.int j6), .val (.ref b8), .val (.int j11), .val (.int j23), .val (.int j24), .val (.int j27), .val (.int j29)] [])) _
          refine XS.iconst X28.here hx rfl (hb hby at_280) ?_
          exact k
      · skip
        refine ⟨(0 : Int32), (by simp only [if_neg hc256_17]), fun t k => ?_⟩
        show Steps p.tables e below (T28.setTop (mkF m 256 #[.val (.int p1), .val (.int p2), .val (.int p3), .val (.int p4), .val (.int (131072 : Int32)), .val (.int j1), .val (.int j2), .val (.int j3), .val (.int j5), .val (.int j6), .val (.ref b8), .val (.int j11), .val (.int j23), .val (.int j24), .val (.int j27), .val (.int j29)] [(.int j11)])) _
        refine XS.ifYes X28.here hx rfl (pc0 := 256) (pc' := 280) rfl (hb hby at_256) rfl ((if0 _ _).trans (feq hc256_17).2) (by decide) (by decide) ?_
        show Steps p.tables e below (T28.setTop (mkF m 280 #[.val (.int p1), .val (.int p2), .val (.int p3), .val (.int p4), .val (.int (131072 : Int32)), .val (.int j1), .val (.int j2), .val (.int j3), .val (.int j5), .val (.int j6), .val (.ref b8), .val (.int j11), .val (.int j23), .val (.int j24), .val (.int j27), .val (.int j29)] [])) _
        refine XS.iconst X28.here hx rfl (hb hby at_280) ?_
        exact k
    refine own_go st32 ?_
    show own_Go p.tables e below _ T28 (mkF m 281 #[.val (.int p1), .val (.int p2), .val (.int p3), .val (.int p4), .val (.int (131072 : Int32)), .val (.int j1), .val (.int j2), .val (.int j3), .val (.int j5), .val (.int j6), .val (.ref b8), .val (.int j11), .val (.int j23), .val (.int j24), .val (.int j27), .val (.int j29)] [(.int j31)])
    have hv1 : (nar .boolean j31) = 1 := own_yes_f p1 p2 p3 p4 j1 j2 j3 j5 j6 j11 j23 j24 j27 j29 j31 hj1 hj2 hj3 hj5 hj6 hj11 hj23 hj24 hj27 hj29 hj31 hhhhc1_3_5_164 hhhhc6_3_5_164 hhlo17_164 hhhi17_164 hhhhc1_3_5_173 hhhhc6_3_5_173 hhhlo17_11_173 hhhhi17_11_173 hc178_9 hhhhc1_3_5_185 hhhhc6_3_5_185 hhhlo17_11_185 hhhhi17_11_185
    obtain ⟨fs, hr, hrun, hended, hW, hsame⟩ := X28.leave (v := some (.int (nar .boolean j31))) (fun h => by rw [Bd.returns] at h; cases h)
    refine ⟨_, _, ?_, hrun, hended, _, _, rfl, ?_, ⟨_, rfl⟩, hW, hsame.mono (by decide) (by decide)⟩
    · exact retN X28 hx (t := .boolean) Bd.returns (by simp) (hb hby at_281) hr
    · show Q0 Z p1 p2 p3 p4 h0 n0 _ _ _
      exact ⟨by rw [hv1], NN⟩
set_option maxRecDepth 65536 in
set_option maxHeartbeats 40000000 in
theorem comes_1 {Post : Tables → Env → Array Value → State → Outcome → State → Prop} (hpost : ∀ tb e args s v u, (limb_1_1.after args s (.returned v) u = true ∧ limb_1_2.after args s (.returned v) u = true ∧ True) → FrameEnd s (.returned v) u (Jvm.fieldLocs frame_1_writes args s ++ Jvm.arrayLocs frame_1_arrays args s ++ Jvm.staticLocs frame_1_statics s) 16 4224 → Post tb e args s (.returned v) u) :
    ArmFor flags0 classFile x code maxLocals ret World_1 tables_1 room_1 Calls_1 rest_1 Pre_1 Post := by
  intro l hfl _ _ p e ha hc hk s m args below hf hA hF happ hP
  obtain ⟨hcalls, hrest, hpre⟩ := hP
  obtain ⟨-, -, -, hnamed, -, -, -, hat⟩ := (Spec.applies_iff hf).mp happ
  obtain ⟨hg, hn⟩ := and_e (Cond.before_iff.mp (show (Jvm.Cond.and given_1 narrow_1).before args s = true from hpre))
  obtain ⟨hcount, hg0⟩ := and_e hg
  obtain ⟨ha0, hg1⟩ := and_e hg0
  obtain ⟨ha1, hg2⟩ := and_e hg1
  obtain ⟨ha2, hg3⟩ := and_e hg2
  have ha3 := hg3
  obtain ⟨w0, w1, w2, w3, rfl⟩ : ∃ w0 w1 w2 w3 : Value, args = #[w0, w1, w2, w3] := by
    have hs : args.size = 4 := by simpa [Cond.value, given_1] using hcount
    obtain ⟨L⟩ := args
    match L, hs with
    | [w0, w1, w2, w3], _ => exact ⟨w0, w1, w2, w3, rfl⟩
  have hw := fun d (hd : d ∈ tables_1) => atoms_spec (ws := Jvm.Cond.code x code maxLocals ret :: tables_1) hat d (List.mem_cons_of_mem _ hd)
  obtain ⟨i0, ei0⟩ := is_v ha0
  obtain rfl : w0 = (.int i0) := Option.some.inj ei0
  obtain ⟨i1, ei1⟩ := is_v ha1
  obtain rfl : w1 = (.int i1) := Option.some.inj ei1
  obtain ⟨i2, ei2⟩ := is_v ha2
  obtain rfl : w2 = (.int i2) := Option.some.inj ei2
  obtain ⟨i3, ei3⟩ := is_v ha3
  obtain rfl : w3 = (.int i3) := Option.some.inj ei3
  obtain ⟨n, o, h1, h2, h3, _, L, rfl, ⟨rfl, N⟩, hq⟩ := rm0 l s _ hw tables_1 i0 i1 i2 i3 s.heap s.heap.size (Nat.le_refl _) p e ha hc hk s m _ below hf ((Spec.applies_iff_loose hf).mp happ).1 ⟨rfl, State.Warmed39.refl s, rfl⟩ trivial
  refine ⟨n, _, h1, h2, h3, hpost _ _ _ _ _ _ ⟨Cond.after_iff.mpr rfl, Cond.after_iff.mpr (eq_i res_at (Term.int_eval (1)) rfl), trivial⟩ ⟨hq.1, hq.2.1, (hq.2.2.sift fun y hy => Or.inr (N y hy)).mono (by decide) (by decide)⟩⟩
theorem main_1_1 : Claimed_1_1 := comes_1 fun _ _ _ _ _ _ h hF => ⟨h.1, hF⟩
theorem main_1_2 : Claimed_1_2 := comes_1 fun _ _ _ _ _ _ h hF => ⟨h.2.1, hF⟩
end Jvm.Pilot.@@N@@
namespace Jvm.Pilot.@@N@@
open Jvm Jvm.ClassFile Sem Op Lib Jvm.Free Jvm.Stand Jvm.Pilot.@@N@@.Jvm.D
/-! MADE BY PROGRAM (witnessworld.py) out of the Statement's table words and the real class files: 13 classes; the members and pool entries that the words name. The judged class is class 1, her method 1. -/
namespace start1
open Jvm.ClassFile
def u (s : String) : CpInfo := .utf8 (stringToUtf16 s)
/-- a pool by its gaps: so many unusable entries, then the entry; so many at the end -/
def gap : Nat → List CpInfo → List CpInfo
  | 0, r => r
  | n + 1, r => .unusable :: gap n r
def poolList (es : List (Nat × CpInfo)) (last : Nat) : List CpInfo := es.foldr (fun e r => gap e.1 (e.2 :: r)) (gap last [])
def pool (es : List (Nat × CpInfo)) (last : Nat) : Array CpInfo := ⟨poolList es last⟩
def fileOf (pool : Array CpInfo) (this : Nat) (attrs : Array Attribute := #[]) (ms : Array MethodInfo := #[]) (fl : Nat := 33) (sup : Nat := 0) (ifs : Array Nat := #[]) (fds : Array FieldInfo := #[]) : ClassFile where
  minorVersion := 0
  majorVersion := 65
  constantPool := pool
  accessFlags := fl
  thisClass := this
  superClass := sup
  interfaces := ifs
  fields := fds
  methods := ms
  attributes := attrs
def plain (name : String) (sup : Option ClassId) : Class where
  name := name
  kind := .ordinary
  loader := none
  accessFlags := 33
  super := sup
  interfaces := #[]
  cf := none
  fields := #[]
  methods := #[]
  instanceTypes := #[]
  staticTypes := #[]
  resolved := #[]
  callSites := []
  init := .initialized
  statics := none
  mirror := none

def pool0 : Array CpInfo := pool [(5, u "<init>"), (0, u "()V"), (1, .class_ 10), (1, u "java/lang/Object")] 113

def k0c0 : Code := { maxStack := 0, maxLocals := 1, code := object_method_1_code, exceptionTable := #[], attributes := #[] }
def k0m0 : Method := { name := "<init>", desc := "()V", sig := { parameters := [], returnType := none }, accessFlags := 1, code := some k0c0 }
/-- java/lang/Object -/
def k0 : Class := { plain "java/lang/Object" none with
  accessFlags := 33
  interfaces := #[]
  cf := some (fileOf pool0 8 #[] #[{ accessFlags := 1, nameIndex := 5, descriptorIndex := 6, attributes := #[] }] 33 0 #[] #[])
  fields := #[]
  methods := #[k0m0]
  instanceTypes := #[]
  staticTypes := #[]
  resolved := Array.replicate 124 none
  statics := none }

def pool1 : Array CpInfo := pool [(2, .class_ 4), (0, .nameAndType 5 6), (0, u "java/lang/Object"), (0, u "<init>"), (0, u "()V"), (0, .class_ 8), (0, u "com/example/capd/capd/status/Bitstring"), (0, .integer 131072), (0, .integer 2147483647), (0, .methodref 7 3), (0, .methodref 7 13), (0, .nameAndType 14 15), (0, u "get"), (0, u "(I)Z"), (0, .methodref 7 17), (0, .nameAndType 18 19), (0, u "set"), (0, u "(I)V"), (0, .class_ 21), (0, u "com/example/capd/capd/status/BitstringGetPinLaw"), (2, u "law"), (0, u "(IIII)Z")] 3

def k1m0 : Method := { name := "<init>", desc := "()V", sig := { parameters := [], returnType := none }, accessFlags := 1, code := none }
def k1c1 : Code := { maxStack := 2, maxLocals := 16, code := code, exceptionTable := #[], attributes := #[] }
def k1m1 : Method := { name := "law", desc := "(IIII)Z", sig := { parameters := [.int, .int, .int, .int], returnType := some .boolean }, accessFlags := 9, code := some k1c1 }
/-- com/example/capd/capd/status/BitstringGetPinLaw -/
def k1 : Class := { plain "com/example/capd/capd/status/BitstringGetPinLaw" (some 0) with
  accessFlags := 49
  interfaces := #[]
  cf := some (fileOf pool1 20 #[] #[{ accessFlags := 1, nameIndex := 5, descriptorIndex := 6, attributes := #[] }, { accessFlags := 9, nameIndex := 24, descriptorIndex := 25, attributes := #[] }] 49 2 #[] #[])
  fields := #[]
  methods := #[k1m0, k1m1]
  instanceTypes := #[]
  staticTypes := #[]
  resolved := Array.replicate 29 none
  statics := none }

def pool2 : Array CpInfo := pool [(1, .class_ 2), (0, u "com/example/capd/capd/status/Bitstring"), (2, .integer 131072), (0, .methodref 1 7), (0, .nameAndType 8 9), (0, u "<init>"), (0, u "([JII)V"), (0, .methodref 11 12), (0, .class_ 13), (0, .nameAndType 8 14), (0, u "java/lang/Object"), (0, u "()V"), (0, .fieldref 1 16), (0, .nameAndType 17 18), (0, u "words"), (0, u "[J"), (0, .fieldref 1 20), (0, .nameAndType 21 22), (0, u "size"), (0, u "I"), (0, .fieldref 1 24), (0, .nameAndType 25 22), (0, u "count"), (95, u "get"), (5, .methodref 128 129), (0, .class_ 130), (0, .nameAndType 131 132), (0, u "java/util/Objects"), (0, u "checkIndex"), (0, u "(II)I"), (0, .methodref 1 134), (0, .nameAndType 135 136), (0, u "mask"), (0, u "(I)J"), (0, .methodref 1 138), (0, .nameAndType 121 139), (0, u "(I)Z"), (0, .long 9223372036854775808), (21, .class_ 163), (0, u "com/example/capd/capd/status/Bitstring$SmallestGzip"), (39, u "SIZE"), (1, u "MAX_SIZE"), (1, u "WORD_BITS"), (8, u "set"), (0, u "(I)V")] 27

def k2c0 : Code := { maxStack := 4, maxLocals := 1, code := prog_3_method_1_code, exceptionTable := #[], attributes := #[] }
def k2m0 : Method := { name := "<init>", desc := "()V", sig := { parameters := [], returnType := none }, accessFlags := 1, code := some k2c0 }
def k2c1 : Code := { maxStack := 2, maxLocals := 4, code := prog_3_method_2_code, exceptionTable := #[], attributes := #[] }
def k2m1 : Method := { name := "<init>", desc := "([JII)V", sig := { parameters := [(.array .long), .int, .int], returnType := none }, accessFlags := 2, code := some k2c1 }
def k2c2 : Code := { maxStack := 4, maxLocals := 2, code := prog_3_method_6_code, exceptionTable := #[], attributes := #[] }
def k2m2 : Method := { name := "get", desc := "(I)Z", sig := { parameters := [.int], returnType := some .boolean }, accessFlags := 1, code := some k2c2 }
def k2c3 : Code := { maxStack := 6, maxLocals := 2, code := prog_3_method_7_code, exceptionTable := #[], attributes := #[] }
def k2m3 : Method := { name := "set", desc := "(I)V", sig := { parameters := [.int], returnType := none }, accessFlags := 1, code := some k2c3 }
def k2c4 : Code := { maxStack := 4, maxLocals := 1, code := prog_3_method_8_code, exceptionTable := #[], attributes := #[] }
def k2m4 : Method := { name := "mask", desc := "(I)J", sig := { parameters := [.int], returnType := some .long }, accessFlags := 10, code := some k2c4 }
/-- com/example/capd/capd/status/Bitstring -/
def k2 : Class := { plain "com/example/capd/capd/status/Bitstring" (some 0) with
  accessFlags := 49
  interfaces := #[]
  cf := some (fileOf pool2 1 #[.nestMembers #[162]] #[{ accessFlags := 1, nameIndex := 8, descriptorIndex := 14, attributes := #[] }, { accessFlags := 2, nameIndex := 8, descriptorIndex := 9, attributes := #[] }, { accessFlags := 1, nameIndex := 121, descriptorIndex := 139, attributes := #[] }, { accessFlags := 1, nameIndex := 216, descriptorIndex := 217, attributes := #[] }, { accessFlags := 10, nameIndex := 135, descriptorIndex := 136, attributes := #[] }] 49 11 #[] #[{ accessFlags := 25, nameIndex := 203, descriptorIndex := 22, attributes := #[] }, { accessFlags := 25, nameIndex := 205, descriptorIndex := 22, attributes := #[] }, { accessFlags := 26, nameIndex := 207, descriptorIndex := 22, attributes := #[] }, { accessFlags := 18, nameIndex := 17, descriptorIndex := 18, attributes := #[] }, { accessFlags := 18, nameIndex := 21, descriptorIndex := 22, attributes := #[] }, { accessFlags := 2, nameIndex := 25, descriptorIndex := 22, attributes := #[] }])
  fields := #[{ name := "SIZE", type := .int, accessFlags := 25, slot := 0, constantValue := 0 }, { name := "MAX_SIZE", type := .int, accessFlags := 25, slot := 1, constantValue := 0 }, { name := "WORD_BITS", type := .int, accessFlags := 26, slot := 2, constantValue := 0 }, { name := "words", type := (.array .long), accessFlags := 18, slot := 0, constantValue := 0 }, { name := "size", type := .int, accessFlags := 18, slot := 1, constantValue := 0 }, { name := "count", type := .int, accessFlags := 2, slot := 2, constantValue := 0 }]
  methods := #[k2m0, k2m1, k2m2, k2m3, k2m4]
  instanceTypes := #[(.array .long), .int, .int]
  staticTypes := #[.int, .int, .int]
  resolved := Array.replicate 245 none
  statics := none }

def pool3 : Array CpInfo := pool [(2, .class_ 4), (1, u "java/lang/Object"), (0, u "<init>"), (0, u "()V"), (35, .class_ 44), (1, u "java/util/Objects"), (60, .methodref 106 107), (0, .class_ 108), (0, .nameAndType 109 110), (0, u "jdk/internal/util/Preconditions"), (0, u "checkIndex"), (0, u "(IILjava/util/function/BiFunction;)I"), (60, u "(II)I")] 12

def k3m0 : Method := { name := "<init>", desc := "()V", sig := { parameters := [], returnType := none }, accessFlags := 2, code := none }
def k3c1 : Code := { maxStack := 3, maxLocals := 2, code := jdk_31_method_17_code, exceptionTable := #[], attributes := #[] }
def k3m1 : Method := { name := "checkIndex", desc := "(II)I", sig := { parameters := [.int, .int], returnType := some .int }, accessFlags := 9, code := some k3c1 }
/-- java/util/Objects -/
def k3 : Class := { plain "java/util/Objects" (some 0) with
  accessFlags := 49
  interfaces := #[]
  cf := some (fileOf pool3 42 #[] #[{ accessFlags := 2, nameIndex := 5, descriptorIndex := 6, attributes := #[] }, { accessFlags := 9, nameIndex := 109, descriptorIndex := 171, attributes := #[] }] 49 2 #[] #[])
  fields := #[]
  methods := #[k3m0, k3m1]
  instanceTypes := #[]
  staticTypes := #[]
  resolved := Array.replicate 184 none
  statics := none }

def pool4 : Array CpInfo := pool [(2, .class_ 4), (1, u "java/lang/Object"), (0, u "<init>"), (0, u "()V"), (17, .class_ 26), (1, u "jdk/internal/util/Preconditions"), (6, u "checkIndex"), (21, .class_ 56), (0, u "jdk/internal/util/Preconditions$4"), (57, .class_ 115), (0, u "jdk/internal/util/Preconditions$1"), (7, u "SIOOBE_FORMATTER"), (0, u "Ljava/util/function/BiFunction;"), (0, .class_ 126), (0, u "jdk/internal/util/Preconditions$2"), (3, u "AIOOBE_FORMATTER"), (0, .class_ 132), (0, u "jdk/internal/util/Preconditions$3"), (3, u "IOOBE_FORMATTER"), (41, u "(IILjava/util/function/BiFunction;)I")] 15

def k4m0 : Method := { name := "<init>", desc := "()V", sig := { parameters := [], returnType := none }, accessFlags := 1, code := none }
def k4c1 : Code := { maxStack := 3, maxLocals := 3, code := jdk_41_method_11_code, exceptionTable := #[], attributes := #[] }
def k4m1 : Method := { name := "checkIndex", desc := "(IILjava/util/function/BiFunction;)I", sig := { parameters := [.int, .int, (.object "java/util/function/BiFunction")], returnType := some .int }, accessFlags := 9, code := some k4c1 }
/-- jdk/internal/util/Preconditions -/
def k4 : Class := { plain "jdk/internal/util/Preconditions" (some 0) with
  accessFlags := 33
  interfaces := #[]
  cf := some (fileOf pool4 24 #[.nestMembers #[55, 131, 125, 114]] #[{ accessFlags := 1, nameIndex := 5, descriptorIndex := 6, attributes := #[] }, { accessFlags := 9, nameIndex := 33, descriptorIndex := 178, attributes := #[] }] 33 2 #[] #[{ accessFlags := 25, nameIndex := 123, descriptorIndex := 124, attributes := #[] }, { accessFlags := 25, nameIndex := 130, descriptorIndex := 124, attributes := #[] }, { accessFlags := 25, nameIndex := 136, descriptorIndex := 124, attributes := #[] }])
  fields := #[{ name := "SIOOBE_FORMATTER", type := (.object "java/util/function/BiFunction"), accessFlags := 25, slot := 0, constantValue := 0 }, { name := "AIOOBE_FORMATTER", type := (.object "java/util/function/BiFunction"), accessFlags := 25, slot := 1, constantValue := 0 }, { name := "IOOBE_FORMATTER", type := (.object "java/util/function/BiFunction"), accessFlags := 25, slot := 2, constantValue := 0 }]
  methods := #[k4m0, k4m1]
  instanceTypes := #[]
  staticTypes := #[(.object "java/util/function/BiFunction"), (.object "java/util/function/BiFunction"), (.object "java/util/function/BiFunction")]
  resolved := Array.replicate 194 none
  statics := none }

def pool5 : Array CpInfo := pool [(1, u "java/lang/Cloneable"), (0, .class_ 1), (0, u "java/lang/Object"), (0, .class_ 3)] 3

/-- java/lang/Cloneable -/
def k5 : Class := { plain "java/lang/Cloneable" (some 0) with
  accessFlags := 1537
  interfaces := #[]
  cf := some (fileOf pool5 2 #[] #[] 1537 4 #[] #[])
  fields := #[]
  methods := #[]
  instanceTypes := #[]
  staticTypes := #[]
  resolved := Array.replicate 8 none
  statics := none }

def pool6 : Array CpInfo := pool [(1, u "java/io/Serializable"), (0, .class_ 1), (0, u "java/lang/Object"), (0, .class_ 3)] 3

/-- java/io/Serializable -/
def k6 : Class := { plain "java/io/Serializable" (some 0) with
  accessFlags := 1537
  interfaces := #[]
  cf := some (fileOf pool6 2 #[] #[] 1537 4 #[] #[])
  fields := #[]
  methods := #[]
  instanceTypes := #[]
  staticTypes := #[]
  resolved := Array.replicate 8 none
  statics := none }

/-- the primitive byte -/
def k7 : Class := { plain "byte" none with kind := .primitive 'B', accessFlags := 0x411 }
/-- [B -/
def k8 : Class := { plain "[B" (some 0) with kind := .array 7 .byte, interfaces := #[5, 6], accessFlags := 1041 }

/-- the primitive int -/
def k9 : Class := { plain "int" none with kind := .primitive 'I', accessFlags := 0x411 }
/-- [I -/
def k10 : Class := { plain "[I" (some 0) with kind := .array 9 .int, interfaces := #[5, 6], accessFlags := 1041 }

/-- the primitive long -/
def k11 : Class := { plain "long" none with kind := .primitive 'J', accessFlags := 0x411 }
/-- [J -/
def k12 : Class := { plain "[J" (some 0) with kind := .array 11 .long, interfaces := #[5, 6], accessFlags := 1041 }

def heap : Heap := #[]
def classes : Array Class := #[k0, k1, k2, k3, k4, k5, k6, k7, k8, k9, k10, k11, k12]
def interned : List (Array UInt16 × Addr) := []
def slotsUsed : Nat := 0
def theMethod : MethodId := ⟨1, 1⟩
def args0 : Array Value := #[.int 5, .int 6, .int 7, .int 8]
def aboutOver (below : List Frame) : State where
  vm := { classes := classes, interned := interned.toArray }
  heap := heap
  slotsUsed := slotsUsed
  threads := #[{ frames := .invoking theMethod args0 :: below }]
def below0 : List Frame := [.native { method := ⟨0, 0⟩, args := #[] }]
def about1 : State := aboutOver below0
def p0 : Program := .bare "" "" ""
def e0 : Env := launch0.env 0 0 0
theorem w_frames : about1.frames = Frame.invoking theMethod args0 :: below0 := rfl
set_option maxRecDepth 65536 in
theorem w_args : argsFit about1.vm theMethod args0 = true := by decide +kernel
set_option maxRecDepth 65536 in
theorem w_heap : heapFits about1 = true := by decide +kernel
set_option maxRecDepth 65536 in
theorem w_runnable : about1.curStatus? = some .runnable := by decide +kernel
set_option maxRecDepth 65536 in
theorem w_alone : about1.alone = true := by decide +kernel
set_option maxRecDepth 65536 in
theorem w_named : about1.methodNamed? x = some theMethod := by decide +kernel
set_option maxRecDepth 65536 in
theorem w_hears : about1.hears theMethod below0 = true := by decide +kernel
set_option maxRecDepth 65536 in
theorem w_ripe : about1.ripe theMethod args0 below0 = true := by decide +kernel
theorem w_running : about1.status = .running := rfl
set_option maxRecDepth 65536 in
theorem w_room : about1.hasRoom e0.platform room_1 = true :=
  launch0.hasRoom_least _ room_1 (by decide +kernel) (by decide +kernel) (by decide +kernel) (by decide +kernel) (by decide +kernel) (by decide +kernel)
theorem allAtoms_all (ts : List Jvm.Cond) (a : Array Jvm.Value) (st : Jvm.State) : (allAtoms ts).before a st = ts.all (fun c => c.before a st) := by
  induction ts with
  | nil => rfl
  | cons c t ih =>
    show (Jvm.Cond.and c (allAtoms t)).before a st = _
    rw [Jvm.Cond.before_and, ih, List.all_cons]
def words1 : List Jvm.Cond := Jvm.Cond.code x code maxLocals ret :: tables_1
/-- a 'code' word, met by the world's own term for the bytes: nothing is compared byte by byte -/
theorem code_word {y : MethodName} {bytes : ByteArray} {mx : Nat} {rt : Option FieldType} {a : Array Value} {s : State} {m : MethodId} {meth : Method} {c : Code} (h1 : s.methodNamed? y = some m) (h2 : s.vm.method? m = some meth) (h3 : meth.code = some c) (h4 : c.code = bytes)
    (h5 : (c.maxLocals == mx && c.exceptionTable.isEmpty && decide (c.maxStack ≤ mostOperands) && decide (meth.sig.returnType = rt) && !meth.locks && decide (parseMethodDescriptor y.desc = some meth.sig)) = true) : (Jvm.Cond.code y bytes mx rt).before a s = true := by
  simp only [Bool.and_eq_true, beq_iff_eq, Bool.not_eq_true', decide_eq_true_eq] at h5
  obtain ⟨⟨⟨⟨⟨g1, g2⟩, g3⟩, g4⟩, g5⟩, g6⟩ := h5
  simp [Cond.before, Cond.holds, Cond.value, h1, h2, h3, h4, g1, g2, g3, g4, g5, g6]
def isCode : Jvm.Cond → Bool
  | .code _ _ _ _ => true
  | _ => false
theorem all_split {L : List Jvm.Cond} {P : Jvm.Cond → Bool} (h1 : L.all (fun c => isCode c || P c) = true) (h2 : ∀ c ∈ L.filter isCode, P c = true) : L.all P = true := by
  refine List.all_eq_true.mpr fun c hc => ?_
  have h := List.all_eq_true.mp h1 c hc
  rcases Bool.eq_false_or_eq_true (isCode c) with hi | hi
  · exact h2 c (List.mem_filter.mpr ⟨hc, hi⟩)
  · simpa [hi] using h
set_option maxRecDepth 65536 in
theorem w_c0 : (Jvm.Cond.code x code maxLocals ret).before args0 about1 = true := code_word (m := ⟨1, 1⟩) (meth := k1m1) (c := k1c1) (by decide +kernel) rfl rfl rfl (by decide +kernel)
set_option maxRecDepth 65536 in
theorem w_c1 : (Jvm.Cond.code ({ cls := "com/example/capd/capd/status/Bitstring", name := "<init>", desc := "()V" } : Jvm.MethodName) prog_3_method_1_code (1 : Nat) (Option.none : Option Jvm.ClassFile.FieldType)).before args0 about1 = true := code_word (m := ⟨2, 0⟩) (meth := k2m0) (c := k2c0) (by decide +kernel) rfl rfl rfl (by decide +kernel)
set_option maxRecDepth 65536 in
theorem w_c2 : (Jvm.Cond.code ({ cls := "com/example/capd/capd/status/Bitstring", name := "<init>", desc := "([JII)V" } : Jvm.MethodName) prog_3_method_2_code (4 : Nat) (Option.none : Option Jvm.ClassFile.FieldType)).before args0 about1 = true := code_word (m := ⟨2, 1⟩) (meth := k2m1) (c := k2c1) (by decide +kernel) rfl rfl rfl (by decide +kernel)
set_option maxRecDepth 65536 in
theorem w_c3 : (Jvm.Cond.code ({ cls := "java/lang/Object", name := "<init>", desc := "()V" } : Jvm.MethodName) object_method_1_code (1 : Nat) (Option.none : Option Jvm.ClassFile.FieldType)).before args0 about1 = true := code_word (m := ⟨0, 0⟩) (meth := k0m0) (c := k0c0) (by decide +kernel) rfl rfl rfl (by decide +kernel)
set_option maxRecDepth 65536 in
theorem w_c4 : (Jvm.Cond.code ({ cls := "com/example/capd/capd/status/Bitstring", name := "get", desc := "(I)Z" } : Jvm.MethodName) prog_3_method_6_code (2 : Nat) (Option.some Jvm.ClassFile.FieldType.boolean)).before args0 about1 = true := code_word (m := ⟨2, 2⟩) (meth := k2m2) (c := k2c2) (by decide +kernel) rfl rfl rfl (by decide +kernel)
set_option maxRecDepth 65536 in
theorem w_c5 : (Jvm.Cond.code ({ cls := "java/util/Objects", name := "checkIndex", desc := "(II)I" } : Jvm.MethodName) jdk_31_method_17_code (2 : Nat) (Option.some Jvm.ClassFile.FieldType.int)).before args0 about1 = true := code_word (m := ⟨3, 1⟩) (meth := k3m1) (c := k3c1) (by decide +kernel) rfl rfl rfl (by decide +kernel)
set_option maxRecDepth 65536 in
theorem w_c6 : (Jvm.Cond.code ({ cls := "jdk/internal/util/Preconditions", name := "checkIndex", desc := "(IILjava/util/function/BiFunction;)I" } : Jvm.MethodName) jdk_41_method_11_code (3 : Nat) (Option.some Jvm.ClassFile.FieldType.int)).before args0 about1 = true := code_word (m := ⟨4, 1⟩) (meth := k4m1) (c := k4c1) (by decide +kernel) rfl rfl rfl (by decide +kernel)
set_option maxRecDepth 65536 in
theorem w_c7 : (Jvm.Cond.code ({ cls := "com/example/capd/capd/status/Bitstring", name := "mask", desc := "(I)J" } : Jvm.MethodName) prog_3_method_8_code (1 : Nat) (Option.some Jvm.ClassFile.FieldType.long)).before args0 about1 = true := code_word (m := ⟨2, 4⟩) (meth := k2m4) (c := k2c4) (by decide +kernel) rfl rfl rfl (by decide +kernel)
set_option maxRecDepth 65536 in
theorem w_c8 : (Jvm.Cond.code ({ cls := "com/example/capd/capd/status/Bitstring", name := "set", desc := "(I)V" } : Jvm.MethodName) prog_3_method_7_code (2 : Nat) (Option.none : Option Jvm.ClassFile.FieldType)).before args0 about1 = true := code_word (m := ⟨2, 3⟩) (meth := k2m3) (c := k2c3) (by decide +kernel) rfl rfl rfl (by decide +kernel)
def codes1 : List Jvm.Cond := [Jvm.Cond.code x code maxLocals ret, Jvm.Cond.code ({ cls := "com/example/capd/capd/status/Bitstring", name := "<init>", desc := "()V" } : Jvm.MethodName) prog_3_method_1_code (1 : Nat) (Option.none : Option Jvm.ClassFile.FieldType), Jvm.Cond.code ({ cls := "com/example/capd/capd/status/Bitstring", name := "<init>", desc := "([JII)V" } : Jvm.MethodName) prog_3_method_2_code (4 : Nat) (Option.none : Option Jvm.ClassFile.FieldType), Jvm.Cond.code ({ cls := "java/lang/Object", name := "<init>", desc := "()V" } : Jvm.MethodName) object_method_1_code (1 : Nat) (Option.none : Option Jvm.ClassFile.FieldType), Jvm.Cond.code ({ cls := "com/example/capd/capd/status/Bitstring", name := "get", desc := "(I)Z" } : Jvm.MethodName) prog_3_method_6_code (2 : Nat) (Option.some Jvm.ClassFile.FieldType.boolean), Jvm.Cond.code ({ cls := "java/util/Objects", name := "checkIndex", desc := "(II)I" } : Jvm.MethodName) jdk_31_method_17_code (2 : Nat) (Option.some Jvm.ClassFile.FieldType.int), Jvm.Cond.code ({ cls := "jdk/internal/util/Preconditions", name := "checkIndex", desc := "(IILjava/util/function/BiFunction;)I" } : Jvm.MethodName) jdk_41_method_11_code (3 : Nat) (Option.some Jvm.ClassFile.FieldType.int), Jvm.Cond.code ({ cls := "com/example/capd/capd/status/Bitstring", name := "mask", desc := "(I)J" } : Jvm.MethodName) prog_3_method_8_code (1 : Nat) (Option.some Jvm.ClassFile.FieldType.long), Jvm.Cond.code ({ cls := "com/example/capd/capd/status/Bitstring", name := "set", desc := "(I)V" } : Jvm.MethodName) prog_3_method_7_code (2 : Nat) (Option.none : Option Jvm.ClassFile.FieldType)]
set_option maxRecDepth 65536 in
theorem codes_eq : words1.filter isCode = codes1 := rfl
theorem w_codes : ∀ c ∈ words1.filter isCode, c.before args0 about1 = true := by
  rw [codes_eq]
  intro c hc
  simp only [codes1, List.mem_cons, List.not_mem_nil, or_false] at hc
  rcases hc with rfl | rfl | rfl | rfl | rfl | rfl | rfl | rfl | rfl
  · exact w_c0
  · exact w_c1
  · exact w_c2
  · exact w_c3
  · exact w_c4
  · exact w_c5
  · exact w_c6
  · exact w_c7
  · exact w_c8
set_option maxRecDepth 65536 in
theorem w_t1 : (words1.take 24).all (fun c => isCode c || c.before args0 about1) = true := by decide +kernel
set_option maxRecDepth 65536 in
theorem w_t2 : (words1.drop 24).all (fun c => isCode c || c.before args0 about1) = true := by decide +kernel
theorem w_tables : (allAtoms (Jvm.Cond.code x code maxLocals ret :: tables_1)).before args0 about1 = true := by
  rw [allAtoms_all]
  show words1.all (fun c => c.before args0 about1) = true
  refine all_split ?_ w_codes
  rw [← List.take_append_drop 24 words1, List.all_append, w_t1, w_t2]
  rfl
set_option maxRecDepth 65536 in
theorem w_case : (Jvm.Cond.and given_1 narrow_1).before args0 about1 = true := by decide +kernel
theorem w_applies : (headSpec (Jvm.Cond.code x code maxLocals ret :: tables_1) room_1).applies x e0.platform about1 = true :=
  (Spec.applies_iff w_frames).mpr ⟨w_running, w_runnable, w_alone, w_named, w_hears, w_ripe, w_room, w_tables⟩
theorem atStart : AtStart classFile x code maxLocals ret World_1 tables_1 room_1 Calls_1 rest_1 Pre_1 launch0 p0 e0 about1 theMethod args0 below0 :=
  ⟨lists_1, trivial, launch0.admits_env _ _ _, launch0.least_env, fairChoices_fair.cas, fairChoices_fair.clock, w_frames, w_args, w_heap, w_applies, trivial, trivial, w_case⟩
end start1
theorem witness_1 : WitnessClaimed_1 := ⟨start1.p0, start1.e0, start1.about1, start1.theMethod, start1.args0, start1.below0, start1.atStart⟩
end Jvm.Pilot.@@N@@

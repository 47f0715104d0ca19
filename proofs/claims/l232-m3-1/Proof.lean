import JvmDerived
import JvmDerived.Pilot.@@N@@Statement
import JvmDerived.Pilot.@@N@@Code
set_option linter.unusedVariables false
set_option linter.unusedSimpArgs false
namespace Jvm.RoadKit
open Sem ClassFile Op Lib Jvm.Stand Jvm.Free Jvm.LawKit
section New
variable {p : Program} {l : Launch} {e : Env} {R : Room} {s : State} {m : MethodId} {args : Array Value} {below : List Frame} {meth : Method} {c : Code} {T : State} {locs : List Loc} {cells slots : Nat}
theorem retI (X : Stand p l e R s m args below meth c T locs cells slots) (hx : p.tables.exec = Jvm.exec) {pc : Nat} {Ls : Array Slot} {z : Int32} {rest : List Value} (hret : meth.sig.returnType = some .int) (hd : decode c.code pc = .ok (.ireturn, 1)) {fs : List Frame}
    (hl : ∀ (f : JFrame) (acts : List Action), f.method = m → f.locked = none → f.entered = [] → (doReturn e (T.setTop f) acts (some (.int z))).1 = T.setFrames fs) : Steps p.tables e below (T.setTop (mkF m pc Ls (.int z :: rest))) (T.setFrames fs) := by
  have hm' : T.vm.method? m = some meth := X.method'
  have hn : narrow .int (.int z) = .int z := rfl
  show Steps p.tables e below (T.setTop { method := m, pc := pc, locals := Ls, stack := _ :: rest, locked := none }) _
  jvm_step X.here [X.here.top, hx, hd, hm', hret, hn]
  first | (intro acts; rw [hl _ acts rfl rfl rfl]) | rw [hl _ _ rfl rfl rfl]
  exact Steps.refl _
theorem own_retJ (X : Stand p l e R s m args below meth c T locs cells slots) (hx : p.tables.exec = Jvm.exec) {pc : Nat} {Ls : Array Slot} {z : Int64} {rest : List Value} (hret : meth.sig.returnType = some .long) (hd : decode c.code pc = .ok (.lreturn, 1)) {fs : List Frame}
    (hl : ∀ (f : JFrame) (acts : List Action), f.method = m → f.locked = none → f.entered = [] → (doReturn e (T.setTop f) acts (some (.long z))).1 = T.setFrames fs) : Steps p.tables e below (T.setTop (mkF m pc Ls (.long z :: rest))) (T.setFrames fs) :=
  retOut X hx (t := .long) (i := .lreturn) hret rfl (Or.inr (Or.inl ⟨rfl, rfl, z, rfl⟩)) hd hl
theorem own_retR (X : Stand p l e R s m args below meth c T locs cells slots) (hx : p.tables.exec = Jvm.exec) {pc : Nat} {Ls : Array Slot} {w : Value} {t : FieldType} {rest : List Value} (hret : meth.sig.returnType = some t) (ht : t.isReference = true) (hw : w.isRef = true) (hd : decode c.code pc = .ok (.areturn, 1)) {fs : List Frame}
    (hl : ∀ (f : JFrame) (acts : List Action), f.method = m → f.locked = none → f.entered = [] → (doReturn e (T.setTop f) acts (some w)).1 = T.setFrames fs) : Steps p.tables e below (T.setTop (mkF m pc Ls (w :: rest))) (T.setFrames fs) :=
  retOut X hx (i := .areturn) hret (by cases t <;> simp_all [FieldType.isReference, narrow]) (Or.inr (Or.inr (Or.inr (Or.inr ⟨rfl, ht, hw⟩)))) hd hl
theorem own_narZ (x : Int32) : nar .boolean x = x &&& 1 := rfl
theorem own_narC (x : Int32) : nar .char x = x.toUInt32.toUInt16.toUInt32.toInt32 := rfl
theorem own_narB (x : Int32) : nar .byte x = x.toInt8.toInt32 := rfl
/-- where the run stands, and how it ends -/
abbrev own_Go (tb : Tables) (e : Env) (below : List Frame) (P : State → Outcome → Prop) (T : State) (g : JFrame) : Prop := ∃ s₂ o, Steps tb e below (T.setTop g) s₂ ∧ s₂.status = .running ∧ Ended s₂ below o ∧ P s₂ o
theorem own_go {tb : Tables} {P : State → Outcome → Prop} {T' : State} {g g' : JFrame} (st : ∀ t, Steps tb e below (T'.setTop g') t → Steps tb e below (T.setTop g) t) (k : own_Go tb e below P T' g') : own_Go tb e below P T g := by
  obtain ⟨s₂, o, h1, h2⟩ := k
  exact ⟨s₂, o, st _ h1, h2⟩
theorem own_start {tb : Tables} {P : State → Outcome → Prop} {g g' : JFrame} (q : g = g') (k : own_Go tb e below P T g') : own_Go tb e below P T g := q ▸ k
theorem own_selPriv {z y : MethodName} (hz : z.cls = y.cls) (hs : (Cond.selects y.cls z z).before args s = true) (hp : s.PrivateAt y) (hi : (Cond.instanceMethod y).before args s = true) (hy : y.cls ≠ "java/lang/invoke/MethodHandle" ∧ y.cls ≠ "java/lang/invoke/VarHandle") : (Cond.selects y.cls y y).before args s = true := by
  obtain ⟨c, r, m, h1, -, h3, -, k, h5, h6⟩ := Cond.selects_spec hs
  exact selects_self_of_private (hz ▸ findClass_of_methodNamed h3) h5 h6 hp hi hy
end New
end Jvm.RoadKit
namespace Jvm.Pilot.@@N@@
open Jvm Jvm.ClassFile Sem Op Lib Jvm.Free Jvm.Stand Jvm.LawKit Jvm.RoadKit Bundle Jvm.Pilot.@@N@@.Jvm.D
def own_ls (w : Nat → Int64) : List Value := (List.range 2048).map (fun i => Value.long (w i))
def own_up (w : Nat → Int64) (i : Nat) (x : Int64) : Nat → Int64 := fun k => if k = i then x else w k
theorem own_ls_len (w : Nat → Int64) : (own_ls w).length = 2048 := by simp only [own_ls, List.length_map, List.length_range]
theorem own_ls_get (w : Nat → Int64) (i : Nat) (h : i < 2048) : (own_ls w)[i]? = some (Value.long (w i)) := by
  simp only [own_ls, List.getElem?_map, List.getElem?_range h, Option.map_some]
theorem own_ls_pad : ∀ i, (own_ls (fun _ => 0)).getD i (Value.long (0 : Int64)) = ([] : List Value).getD i (Value.long (0 : Int64)) := by
  intro i
  rw [List.getD_eq_getElem?_getD]
  by_cases h : i < 2048
  · rw [own_ls_get _ _ h]; rfl
  · rw [List.getElem?_eq_none (by rw [own_ls_len]; omega)]; rfl
theorem own_ls_nat {j : Int32} (h0 : ¬ (j < (0 : Int32))) (h1 : j < (2048 : Int32)) : j.toNatClampNeg < 2048 := by
  rw [Int32.lt_iff_toInt_lt] at h0 h1
  have k0 : (0 : Int32).toInt = 0 := rfl
  have k1 : (2048 : Int32).toInt = 2048 := rfl
  show j.toInt.toNat < 2048
  omega
theorem own_ls_at (w : Nat → Int64) {j : Int32} (h0 : ¬ (j < (0 : Int32))) (h1 : j < (2048 : Int32)) (dv : Value) : (own_ls w).getD j.toNatClampNeg dv = Value.long (w j.toNatClampNeg) := by
  rw [List.getD_eq_getElem?_getD, own_ls_get _ _ (own_ls_nat h0 h1)]; rfl
theorem own_ls_upd (w : Nat → Int64) (i : Nat) (x : Int64) : (own_ls w).set i (Value.long x) = own_ls (own_up w i x) := by
  apply List.ext_getElem?
  intro k
  by_cases h : k < 2048
  · rw [own_ls_get _ _ h, List.getElem?_set, own_ls_len]
    by_cases e : i = k
    · rw [if_pos e, if_pos (e ▸ h)]; simp only [own_up, if_pos e.symm]
    · rw [if_neg e, own_ls_get _ _ h]; simp only [own_up, if_neg (fun q : k = i => e q.symm)]
  · rw [List.getElem?_eq_none (by rw [List.length_set, own_ls_len]; omega), List.getElem?_eq_none (by rw [own_ls_len]; omega)]
theorem own_ls_set {Z : State} {h h' : Heap} {a : Addr} {k : ClassId} {c : Cell} {w : Nat → Int64} {x : Int64} {j : Int32} {dv : Value} (A : Arr Z h a c .long) (q1 : c.cls = k) (S : c.slots.size = (2048 : Int32).toNatClampNeg) (q3 : ¬ (2048 : Int32) < 0) (H : Has c (own_ls w) dv) (G : ∀ i, i < c.slots.size → fits .long ((own_ls w).getD i dv) = true) (W : Wr h h' a j.toNatClampNeg (.long x)) (h0 : ¬ (j < (0 : Int32))) (h1 : j < (2048 : Int32)) : Arv Z h' a k .long (2048 : Int32) (own_ls (own_up w j.toNatClampNeg x)) dv := by
  have q := Arv.set A q1 S q3 H G rfl W j.toNatClampNeg rfl (by rw [own_ls_len]; exact own_ls_nat h0 h1)
  rw [own_ls_upd] at q
  exact q
theorem d10_0 : decode prog_3_method_8_code 0 = .ok (.ldc2_w 140, 3) := by decide +kernel
theorem d10_3 : decode prog_3_method_8_code 3 = .ok (.iload_n 0, 1) := by decide +kernel
theorem d10_4 : decode prog_3_method_8_code 4 = .ok (.bipush 64, 2) := by decide +kernel
theorem d10_6 : decode prog_3_method_8_code 6 = .ok (.irem, 1) := by decide +kernel
theorem d10_7 : decode prog_3_method_8_code 7 = .ok (.lushr, 1) := by decide +kernel
theorem d10_8 : decode prog_3_method_8_code 8 = .ok (.lreturn, 1) := by decide +kernel
theorem pn_0 : plainName "com/example/capd/capd/status/Bitstring" = true := by first | (simp [plainName, overriddenIn]; done) | decide +kernel
theorem ef_10 (m : MethodId) (p1 : Int32) : entryFrame m #[(.int p1)] 1 = mkF m 0 #[.val (.int p1)] [] := by first | (simp [entryFrame, mkF, argsToLocals, Value.category]; done) | rfl
def r_10 (p1 : Int32) : Int64 := (((-9223372036854775808 : Int64).toUInt64 >>> ((p1 % (64 : Int32)) &&& 0x3f).toInt64.toUInt64).toInt64)
def Q10 (Z : State) (p1 : Int32) (h0 : Heap) (n0 : Nat) (v : Option Value) (h : Heap) (L : List Loc) : Prop := v = some (.long (r_10 p1)) ∧ Fr n0 L ∧ h = h0
set_option maxRecDepth 65536 in
set_option maxHeartbeats 40000000 in
theorem rm10 (l : Launch) (Z : State) (a0 : Array Value) (hw : ∀ d ∈ tables_1, d.before a0 Z = true) (ws : List Jvm.Cond) (p1 : Int32) (h0 : Heap) (n0 : Nat) (Z0 : n0 ≤ h0.size) :
    MetFree l (⟨"com/example/capd/capd/status/Bitstring", "mask", "(I)J"⟩ : MethodName) (head1 (Jvm.Cond.code (⟨"com/example/capd/capd/status/Bitstring", "mask", "(I)J"⟩ : MethodName) prog_3_method_8_code 1 (some .long) :: ws) ({ frames := 0, cells := 0, slots := 0, locals := 0 } : Room)) (fun a U => a = #[(.int p1)] ∧ Z.Warmed39 U.vm ∧ U.heap = h0) (fun _ _ _ _ _ => True) (fun _ U o U' => ∃ v L, o = .returned v ∧ Q10 Z p1 h0 n0 v U'.heap L ∧ FrameEnd U o U' L ({ frames := 0, cells := 0, slots := 0, locals := 0 } : Room).cells ({ frames := 0, cells := 0, slots := 0, locals := 0 } : Room).slots) := by
  refine MetFree.of_bodySF (plainFor_of_name pn_0) hisR ?_
  intro p e s m args below meth c s₁ Bd hml0 hP hK
  obtain ⟨rfl, hZ, hh⟩ := hP
  have hx := Bd.exec
  have hby := Bd.bytes
  have hml : c.maxLocals = 1 := hml0
  have hown : s.vm.findClass "com/example/capd/capd/status/Bitstring" = some m.cls := findClass_of_methodNamed Bd.named
  have hnm := (name_of_methodNamed Bd.named Bd.method).1
  have X0 : Stand p l e ({ frames := 0, cells := 0, slots := 0, locals := 0 } : Room) s m #[(.int p1)] below meth c s₁ [] 0 0 := Stand.of_body Bd
  have e0 : s₁.heap = h0 := by rw [← hh, Bd.state]; rfl
  have NN := Fr.nil n0
  have KK : Keep h0 h0 [] := Keep.refl h0 []
  refine own_start (ef_10 m p1) ?_
  refine own_go (T' := s₁) (g' := (mkF m 8 #[.val (.int p1)] [(.long (((-9223372036854775808 : Int64).toUInt64 >>> ((p1 % (64 : Int32)) &&& 0x3f).toInt64.toUInt64).toInt64))])) (fun t k => ?_) ?_
  · show Steps p.tables e below (s₁.setTop (mkF m 0 #[.val (.int p1)] [])) _
    refine X0.ldc2Long hx hown (mvT hZ (hw _ (List.mem_of_getElem? (i := 63) rfl))) (g := (mkF m 0 #[.val (.int p1)] [])) rfl (hb hby d10_0) _ ?_
    show Steps p.tables e below (s₁.setTop (mkF m 3 #[.val (.int p1)] [(.long (-9223372036854775808 : Int64))])) _
    refine XS.iloadN X0.here hx rfl (hb hby d10_3) rfl ?_
    show Steps p.tables e below (s₁.setTop (mkF m 4 #[.val (.int p1)] [(.int p1), (.long (-9223372036854775808 : Int64))])) _
    refine XS.bipush X0.here hx rfl (hb hby d10_4) ?_
    show Steps p.tables e below (s₁.setTop (mkF m 6 #[.val (.int p1)] [(.int (64 : Int32)), (.int p1), (.long (-9223372036854775808 : Int64))])) _
    refine iremM X0 hx rfl (hb hby d10_6) rfl (by decide) ?_
    show Steps p.tables e below (s₁.setTop (mkF m 7 #[.val (.int p1)] [(.int (p1 % (64 : Int32))), (.long (-9223372036854775808 : Int64))])) _
    refine XS.lushr X0.here hx rfl (hb hby d10_7) rfl ?_
    exact k
  obtain ⟨fs, hr, hrun, hended, hW, hsame⟩ := X0.leave (v := some (.long (((-9223372036854775808 : Int64).toUInt64 >>> ((p1 % (64 : Int32)) &&& 0x3f).toInt64.toUInt64).toInt64))) (fun h => by rw [Bd.returns] at h; cases h)
  refine ⟨_, _, ?_, hrun, hended, _, _, rfl, ?_, ⟨_, rfl⟩, hW, hsame.mono (by decide) (by decide)⟩
  · exact own_retJ X0 hx Bd.returns (hb hby d10_8) hr
  · show Q10 Z p1 h0 n0 _ s₁.heap _
    rw [e0]
    exact ⟨rfl, NN, rfl⟩
theorem d9_0 : decode jdk_41_method_11_code 0 = .ok (.iload_n 0, 1) := by decide +kernel
theorem d9_1 : decode jdk_41_method_11_code 1 = .ok (.ifCond .lt 8, 3) := by decide +kernel
theorem d9_4 : decode jdk_41_method_11_code 4 = .ok (.iload_n 0, 1) := by decide +kernel
theorem d9_5 : decode jdk_41_method_11_code 5 = .ok (.iload_n 1, 1) := by decide +kernel
theorem d9_6 : decode jdk_41_method_11_code 6 = .ok (.if_icmp .lt 10, 3) := by decide +kernel
theorem d9_16 : decode jdk_41_method_11_code 16 = .ok (.iload_n 0, 1) := by decide +kernel
theorem d9_17 : decode jdk_41_method_11_code 17 = .ok (.ireturn, 1) := by decide +kernel
theorem pn_1 : plainName "jdk/internal/util/Preconditions" = true := by first | (simp [plainName, overriddenIn]; done) | decide +kernel
theorem ef_9 (m : MethodId) (p1 : Int32) (p2 : Int32) : entryFrame m #[(.int p1), (.int p2), .null] 3 = mkF m 0 #[.val (.int p1), .val (.int p2), .val .null] [] := by first | (simp [entryFrame, mkF, argsToLocals, Value.category]; done) | rfl
def r_9 (p1 : Int32) (p2 : Int32) : Int32 := p1
def Q9 (Z : State) (p1 : Int32) (p2 : Int32) (h0 : Heap) (n0 : Nat) (v : Option Value) (h : Heap) (L : List Loc) : Prop := v = some (.int (r_9 p1 p2)) ∧ Fr n0 L ∧ h = h0
set_option maxRecDepth 65536 in
set_option maxHeartbeats 40000000 in
theorem rm9 (l : Launch) (Z : State) (a0 : Array Value) (hw : ∀ d ∈ tables_1, d.before a0 Z = true) (ws : List Jvm.Cond) (p1 : Int32) (p2 : Int32) (h0 : Heap) (n0 : Nat) (Z0 : n0 ≤ h0.size) (hc1 : ¬ (p1 < (0 : Int32))) (hc6 : p1 < p2) :
    MetFree l (⟨"jdk/internal/util/Preconditions", "checkIndex", "(IILjava/util/function/BiFunction;)I"⟩ : MethodName) (head1 (Jvm.Cond.code (⟨"jdk/internal/util/Preconditions", "checkIndex", "(IILjava/util/function/BiFunction;)I"⟩ : MethodName) jdk_41_method_11_code 3 (some .int) :: ws) ({ frames := 0, cells := 0, slots := 0, locals := 0 } : Room)) (fun a U => a = #[(.int p1), (.int p2), .null] ∧ Z.Warmed39 U.vm ∧ U.heap = h0) (fun _ _ _ _ _ => True) (fun _ U o U' => ∃ v L, o = .returned v ∧ Q9 Z p1 p2 h0 n0 v U'.heap L ∧ FrameEnd U o U' L ({ frames := 0, cells := 0, slots := 0, locals := 0 } : Room).cells ({ frames := 0, cells := 0, slots := 0, locals := 0 } : Room).slots) := by
  refine MetFree.of_bodySF (plainFor_of_name pn_1) hisR ?_
  intro p e s m args below meth c s₁ Bd hml0 hP hK
  obtain ⟨rfl, hZ, hh⟩ := hP
  have hx := Bd.exec
  have hby := Bd.bytes
  have hml : c.maxLocals = 3 := hml0
  have hown : s.vm.findClass "jdk/internal/util/Preconditions" = some m.cls := findClass_of_methodNamed Bd.named
  have hnm := (name_of_methodNamed Bd.named Bd.method).1
  have X0 : Stand p l e ({ frames := 0, cells := 0, slots := 0, locals := 0 } : Room) s m #[(.int p1), (.int p2), .null] below meth c s₁ [] 0 0 := Stand.of_body Bd
  have e0 : s₁.heap = h0 := by rw [← hh, Bd.state]; rfl
  have NN := Fr.nil n0
  have KK : Keep h0 h0 [] := Keep.refl h0 []
  refine own_start (ef_9 m p1 p2) ?_
  refine own_go (T' := s₁) (g' := (mkF m 1 #[.val (.int p1), .val (.int p2), .val .null] [(.int p1)])) (fun t k => ?_) ?_
  · show Steps p.tables e below (s₁.setTop (mkF m 0 #[.val (.int p1), .val (.int p2), .val .null] [])) _
    refine XS.iloadN X0.here hx rfl (hb hby d9_0) rfl ?_
    exact k
  refine own_go (T' := s₁) (g' := (mkF m 6 #[.val (.int p1), .val (.int p2), .val .null] [(.int p2), (.int p1)])) (fun t k => ?_) ?_
  · show Steps p.tables e below (s₁.setTop (mkF m 1 #[.val (.int p1), .val (.int p2), .val .null] [(.int p1)])) _
    refine XS.ifNo X0.here hx rfl (hb hby d9_1) rfl ((if0 _ _).trans (flt hc1).1) ?_
    show Steps p.tables e below (s₁.setTop (mkF m 4 #[.val (.int p1), .val (.int p2), .val .null] [])) _
    refine XS.iloadN X0.here hx rfl (hb hby d9_4) rfl ?_
    show Steps p.tables e below (s₁.setTop (mkF m 5 #[.val (.int p1), .val (.int p2), .val .null] [(.int p1)])) _
    refine XS.iloadN X0.here hx rfl (hb hby d9_5) rfl ?_
    exact k
  refine own_go (T' := s₁) (g' := (mkF m 17 #[.val (.int p1), .val (.int p2), .val .null] [(.int p1)])) (fun t k => ?_) ?_
  · show Steps p.tables e below (s₁.setTop (mkF m 6 #[.val (.int p1), .val (.int p2), .val .null] [(.int p2), (.int p1)])) _
    refine XS.icmpYes X0.here hx rfl (pc0 := 6) (pc' := 16) rfl (hb hby d9_6) rfl (tlt hc6).1 (by decide) (by decide) ?_
    show Steps p.tables e below (s₁.setTop (mkF m 16 #[.val (.int p1), .val (.int p2), .val .null] [])) _
    refine XS.iloadN X0.here hx rfl (hb hby d9_16) rfl ?_
    exact k
  obtain ⟨fs, hr, hrun, hended, hW, hsame⟩ := X0.leave (v := some (.int p1)) (fun h => by rw [Bd.returns] at h; cases h)
  refine ⟨_, _, ?_, hrun, hended, _, _, rfl, ?_, ⟨_, rfl⟩, hW, hsame.mono (by decide) (by decide)⟩
  · exact retI X0 hx Bd.returns (hb hby d9_17) hr
  · show Q9 Z p1 p2 h0 n0 _ s₁.heap _
    rw [e0]
    exact ⟨rfl, NN, rfl⟩
theorem d8_0 : decode jdk_31_method_17_code 0 = .ok (.iload_n 0, 1) := by decide +kernel
theorem d8_1 : decode jdk_31_method_17_code 1 = .ok (.iload_n 1, 1) := by decide +kernel
theorem d8_2 : decode jdk_31_method_17_code 2 = .ok (.aconst_null, 1) := by decide +kernel
theorem d8_3 : decode jdk_31_method_17_code 3 = .ok (.invokestatic 105, 3) := by decide +kernel
theorem d8_6 : decode jdk_31_method_17_code 6 = .ok (.ireturn, 1) := by decide +kernel
theorem pn_2 : plainName "java/util/Objects" = true := by first | (simp [plainName, overriddenIn]; done) | decide +kernel
theorem pd_7 : parseMethodDescriptor "(IILjava/util/function/BiFunction;)I" = some ⟨[.int, .int, (.object "java/util/function/BiFunction")], some .int⟩ := by decide +kernel
theorem ef_8 (m : MethodId) (p1 : Int32) (p2 : Int32) : entryFrame m #[(.int p1), (.int p2)] 2 = mkF m 0 #[.val (.int p1), .val (.int p2)] [] := by first | (simp [entryFrame, mkF, argsToLocals, Value.category]; done) | rfl
def r_8 (p1 : Int32) (p2 : Int32) : Int32 := (r_9 p1 p2)
def Q8 (Z : State) (p1 : Int32) (p2 : Int32) (h0 : Heap) (n0 : Nat) (v : Option Value) (h : Heap) (L : List Loc) : Prop := v = some (.int (r_8 p1 p2)) ∧ Fr n0 L ∧ h = h0
set_option maxRecDepth 65536 in
set_option maxHeartbeats 40000000 in
theorem rm8 (l : Launch) (Z : State) (a0 : Array Value) (hw : ∀ d ∈ tables_1, d.before a0 Z = true) (ws : List Jvm.Cond) (p1 : Int32) (p2 : Int32) (h0 : Heap) (n0 : Nat) (Z0 : n0 ≤ h0.size) (hhc1_3 : ¬ (p1 < (0 : Int32))) (hhc6_3 : p1 < p2) :
    MetFree l (⟨"java/util/Objects", "checkIndex", "(II)I"⟩ : MethodName) (head1 (Jvm.Cond.code (⟨"java/util/Objects", "checkIndex", "(II)I"⟩ : MethodName) jdk_31_method_17_code 2 (some .int) :: ws) ({ frames := 1, cells := 0, slots := 0, locals := 14 } : Room)) (fun a U => a = #[(.int p1), (.int p2)] ∧ Z.Warmed39 U.vm ∧ U.heap = h0) (fun _ _ _ _ _ => True) (fun _ U o U' => ∃ v L, o = .returned v ∧ Q8 Z p1 p2 h0 n0 v U'.heap L ∧ FrameEnd U o U' L ({ frames := 1, cells := 0, slots := 0, locals := 14 } : Room).cells ({ frames := 1, cells := 0, slots := 0, locals := 14 } : Room).slots) := by
  refine MetFree.of_bodySF (plainFor_of_name pn_2) hisR ?_
  intro p e s m args below meth c s₁ Bd hml0 hP hK
  obtain ⟨rfl, hZ, hh⟩ := hP
  have hx := Bd.exec
  have hby := Bd.bytes
  have hml : c.maxLocals = 2 := hml0
  have hown : s.vm.findClass "java/util/Objects" = some m.cls := findClass_of_methodNamed Bd.named
  have hnm := (name_of_methodNamed Bd.named Bd.method).1
  have X0 : Stand p l e ({ frames := 1, cells := 0, slots := 0, locals := 14 } : Room) s m #[(.int p1), (.int p2)] below meth c s₁ [] 0 0 := Stand.of_body Bd
  have e0 : s₁.heap = h0 := by rw [← hh, Bd.state]; rfl
  have NN := Fr.nil n0
  have KK : Keep h0 h0 [] := Keep.refl h0 []
  refine own_start (ef_8 m p1 p2) ?_
  refine own_go (T' := s₁) (g' := (mkF m 3 #[.val (.int p1), .val (.int p2)] [.null, (.int p2), (.int p1)])) (fun t k => ?_) ?_
  · show Steps p.tables e below (s₁.setTop (mkF m 0 #[.val (.int p1), .val (.int p2)] [])) _
    refine XS.iloadN X0.here hx rfl (hb hby d8_0) rfl ?_
    show Steps p.tables e below (s₁.setTop (mkF m 1 #[.val (.int p1), .val (.int p2)] [(.int p1)])) _
    refine XS.iloadN X0.here hx rfl (hb hby d8_1) rfl ?_
    show Steps p.tables e below (s₁.setTop (mkF m 2 #[.val (.int p1), .val (.int p2)] [(.int p2), (.int p1)])) _
    refine XS.aconstNull X0.here hx rfl (hb hby d8_2) ?_
    exact k
  obtain ⟨_, _, ⟨T1, L1, k1, n1⟩, -, X1, ⟨Lc1, hQ1, l1, y1, z1⟩, st1⟩ := Jvm.LawKit.callS X0 hx (y := (⟨"jdk/internal/util/Preconditions", "checkIndex", "(IILjava/util/function/BiFunction;)I"⟩ : MethodName)) hown (mvT hZ (hw _ (List.mem_of_getElem? (i := 56) rfl))) (mvT hZ (hw _ (List.mem_of_getElem? (i := 57) rfl))) (mvT hZ (hw _ (List.mem_of_getElem? (i := 58) rfl))) (mvT hZ (hw _ (List.mem_of_getElem? (i := 59) rfl))) (by decide) (backOf (W := 0) (rm9 l Z a0 hw [] p1 p2 h0 n0 Z0 hhc1_3 hhc6_3) hZ (hw _ (List.mem_of_getElem? (i := 59) rfl)) (hw _ (List.mem_of_getElem? (i := 58) rfl)) (by decide) (by decide)) (g := (mkF m 3 #[.val (.int p1), .val (.int p2)] [.null, (.int p2), (.int p1)])) rfl (by rw [hml]; rfl) (argsL := [(.int p1), (.int p2), .null]) (rest := []) (lenOf pd_7 rfl) rfl (by show 2 * 0 + _ ≤ _; exact Nat.le_of_eq rfl) (hb hby d8_3) (fun _ _ => ⟨rfl, e0, (by decide : 0 + 0 ≤ _), (by decide : 0 + 0 ≤ _)⟩)
  dsimp only [Pt.U, Pt.locs, Pt.cells, Pt.slots] at X1 l1 y1 z1 st1 hQ1
  subst l1 y1 z1
  obtain ⟨rfl, N1q, e1⟩ := hQ1
  have NN := Fr.app NN N1q
  refine own_go st1 ?_
  show own_Go p.tables e below _ T1 (mkF m 6 #[.val (.int p1), .val (.int p2)] [(.int (r_9 p1 p2))])
  obtain ⟨fs, hr, hrun, hended, hW, hsame⟩ := X1.leave (v := some (.int (r_9 p1 p2))) (fun h => by rw [Bd.returns] at h; cases h)
  refine ⟨_, _, ?_, hrun, hended, _, _, rfl, ?_, ⟨_, rfl⟩, hW, hsame.mono (by decide) (by decide)⟩
  · exact retI X1 hx Bd.returns (hb hby d8_6) hr
  · show Q8 Z p1 p2 h0 n0 _ T1.heap _
    rw [e1]
    exact ⟨rfl, NN, rfl⟩
theorem d7_0 : decode prog_3_method_6_code 0 = .ok (.iload_n 1, 1) := by decide +kernel
theorem d7_1 : decode prog_3_method_6_code 1 = .ok (.aload_n 0, 1) := by decide +kernel
theorem d7_2 : decode prog_3_method_6_code 2 = .ok (.getfield 19, 3) := by decide +kernel
theorem d7_5 : decode prog_3_method_6_code 5 = .ok (.invokestatic 127, 3) := by decide +kernel
theorem d7_8 : decode prog_3_method_6_code 8 = .ok (.pop, 1) := by decide +kernel
theorem d7_9 : decode prog_3_method_6_code 9 = .ok (.aload_n 0, 1) := by decide +kernel
theorem d7_10 : decode prog_3_method_6_code 10 = .ok (.getfield 15, 3) := by decide +kernel
theorem d7_13 : decode prog_3_method_6_code 13 = .ok (.iload_n 1, 1) := by decide +kernel
theorem d7_14 : decode prog_3_method_6_code 14 = .ok (.bipush 64, 2) := by decide +kernel
theorem d7_16 : decode prog_3_method_6_code 16 = .ok (.idiv, 1) := by decide +kernel
theorem d7_17 : decode prog_3_method_6_code 17 = .ok (.laload, 1) := by decide +kernel
theorem d7_18 : decode prog_3_method_6_code 18 = .ok (.iload_n 1, 1) := by decide +kernel
theorem d7_19 : decode prog_3_method_6_code 19 = .ok (.invokestatic 133, 3) := by decide +kernel
theorem d7_22 : decode prog_3_method_6_code 22 = .ok (.land, 1) := by decide +kernel
theorem d7_23 : decode prog_3_method_6_code 23 = .ok (.lconst 0, 1) := by decide +kernel
theorem d7_24 : decode prog_3_method_6_code 24 = .ok (.lcmp, 1) := by decide +kernel
theorem d7_25 : decode prog_3_method_6_code 25 = .ok (.ifCond .eq 7, 3) := by decide +kernel
theorem d7_28 : decode prog_3_method_6_code 28 = .ok (.iconst 1, 1) := by decide +kernel
theorem d7_29 : decode prog_3_method_6_code 29 = .ok (.goto 4, 3) := by decide +kernel
theorem d7_32 : decode prog_3_method_6_code 32 = .ok (.iconst 0, 1) := by decide +kernel
theorem d7_33 : decode prog_3_method_6_code 33 = .ok (.ireturn, 1) := by decide +kernel
theorem pd_6 : parseMethodDescriptor "(II)I" = some ⟨[.int, .int], some .int⟩ := by decide +kernel
theorem pd_8 : parseMethodDescriptor "(I)J" = some ⟨[.int], some .long⟩ := by decide +kernel
theorem ef_7 (m : MethodId) (a1 : Addr) (p2 : Int32) : entryFrame m #[(.ref a1), (.int p2)] 2 = mkF m 0 #[.val (.ref a1), .val (.int p2)] [] := by first | (simp [entryFrame, mkF, argsToLocals, Value.category]; done) | rfl
def r_7 (p2 : Int32) (w_size_a1 : Int32) (f_w_words_a1 : Nat → Int64) : Int32 := (((if ((f_w_words_a1 ((p2 / (64 : Int32))).toNatClampNeg) &&& (r_10 p2)) = (0 : Int64) then (0 : Int32) else (1 : Int32))) &&& 1)
def Q7 (Z : State) (a1 : Addr) (p2 : Int32) (w_size_a1 : Int32) (w_words_a1 : Addr) (k_w_words_a1 : ClassId) (f_w_words_a1 : Nat → Int64) (h0 : Heap) (n0 : Nat) (v : Option Value) (h : Heap) (L : List Loc) : Prop := v = some (.int (r_7 p2 w_size_a1 f_w_words_a1)) ∧ Fr n0 L ∧ h = h0
set_option maxRecDepth 65536 in
set_option maxHeartbeats 40000000 in
theorem rm7 (l : Launch) (Z : State) (a0 : Array Value) (hw : ∀ d ∈ tables_1, d.before a0 Z = true) (ws : List Jvm.Cond) (a1 : Addr) (p2 : Int32) (w_size_a1 : Int32) (w_words_a1 : Addr) (k_w_words_a1 : ClassId) (f_w_words_a1 : Nat → Int64) (h0 : Heap) (n0 : Nat) (Z0 : n0 ≤ h0.size) (F_a1_size : Fld Z h0 a1 "com/example/capd/capd/status/Bitstring" "size" "I" (.int w_size_a1)) (hhhc1_3_5 : ¬ (p2 < (0 : Int32))) (hhhc6_3_5 : p2 < w_size_a1) (F_a1_words : Fld Z h0 a1 "com/example/capd/capd/status/Bitstring" "words" "[J" (.ref w_words_a1)) (V_w_words_a1 : Arv Z h0 w_words_a1 k_w_words_a1 .long (2048 : Int32) (own_ls f_w_words_a1) (.long (0 : Int64))) (hlo17 : ¬ ((p2 / (64 : Int32)) < (0 : Int32))) (hhi17 : (p2 / (64 : Int32)) < (2048 : Int32)) :
    MetFree l (⟨"com/example/capd/capd/status/Bitstring", "get", "(I)Z"⟩ : MethodName) (head1 (Jvm.Cond.code (⟨"com/example/capd/capd/status/Bitstring", "get", "(I)Z"⟩ : MethodName) prog_3_method_6_code 2 (some .boolean) :: ws) ({ frames := 2, cells := 0, slots := 0, locals := 27 } : Room)) (fun a U => a = #[(.ref a1), (.int p2)] ∧ Z.Warmed39 U.vm ∧ U.heap = h0) (fun _ _ _ _ _ => True) (fun _ U o U' => ∃ v L, o = .returned v ∧ Q7 Z a1 p2 w_size_a1 w_words_a1 k_w_words_a1 f_w_words_a1 h0 n0 v U'.heap L ∧ FrameEnd U o U' L ({ frames := 2, cells := 0, slots := 0, locals := 27 } : Room).cells ({ frames := 2, cells := 0, slots := 0, locals := 27 } : Room).slots) := by
  refine MetFree.of_bodySF (plainFor_of_name pn_0) hisR ?_
  intro p e s m args below meth c s₁ Bd hml0 hP hK
  obtain ⟨rfl, hZ, hh⟩ := hP
  have hx := Bd.exec
  have hby := Bd.bytes
  have hml : c.maxLocals = 2 := hml0
  have hown : s.vm.findClass "com/example/capd/capd/status/Bitstring" = some m.cls := findClass_of_methodNamed Bd.named
  have hnm := (name_of_methodNamed Bd.named Bd.method).1
  have X0 : Stand p l e ({ frames := 2, cells := 0, slots := 0, locals := 27 } : Room) s m #[(.ref a1), (.int p2)] below meth c s₁ [] 0 0 := Stand.of_body Bd
  have e0 : s₁.heap = h0 := by rw [← hh, Bd.state]; rfl
  have NN := Fr.nil n0
  have KK : Keep h0 h0 [] := Keep.refl h0 []
  refine own_start (ef_7 m a1 p2) ?_
  refine own_go (T' := s₁) (g' := (mkF m 2 #[.val (.ref a1), .val (.int p2)] [(.ref a1), (.int p2)])) (fun t k => ?_) ?_
  · show Steps p.tables e below (s₁.setTop (mkF m 0 #[.val (.ref a1), .val (.int p2)] [])) _
    refine XS.iloadN X0.here hx rfl (hb hby d7_0) rfl ?_
    show Steps p.tables e below (s₁.setTop (mkF m 1 #[.val (.ref a1), .val (.int p2)] [(.int p2)])) _
    refine XS.aloadN X0.here hx rfl (hb hby d7_1) rfl rfl ?_
    exact k
  obtain ⟨T1, X1, e1, st1⟩ := getF X0 hx hZ hown (host := "") (Or.inl (hw _ (List.mem_of_getElem? (i := 17) rfl))) Via.refl e0 F_a1_size (g := (mkF m 2 #[.val (.ref a1), .val (.int p2)] [(.ref a1), (.int p2)])) rfl rfl (hb hby d7_2)
  refine own_go st1 ?_
  show own_Go p.tables e below _ T1 (mkF m 5 #[.val (.ref a1), .val (.int p2)] [(.int w_size_a1), (.int p2)])
  obtain ⟨_, _, ⟨T2, L2, k2, n2⟩, -, X2, ⟨Lc2, hQ2, l2, y2, z2⟩, st2⟩ := Jvm.LawKit.callS X1 hx (y := (⟨"java/util/Objects", "checkIndex", "(II)I"⟩ : MethodName)) hown (mvT hZ (hw _ (List.mem_of_getElem? (i := 52) rfl))) (mvT hZ (hw _ (List.mem_of_getElem? (i := 53) rfl))) (mvT hZ (hw _ (List.mem_of_getElem? (i := 54) rfl))) (mvT hZ (hw _ (List.mem_of_getElem? (i := 55) rfl))) (by decide) (backOf (W := 0) (rm8 l Z a0 hw [] p2 w_size_a1 h0 n0 Z0 hhhc1_3_5 hhhc6_3_5) hZ (hw _ (List.mem_of_getElem? (i := 55) rfl)) (hw _ (List.mem_of_getElem? (i := 54) rfl)) (by decide) (by decide)) (g := (mkF m 5 #[.val (.ref a1), .val (.int p2)] [(.int w_size_a1), (.int p2)])) rfl (by rw [hml]; rfl) (argsL := [(.int p2), (.int w_size_a1)]) (rest := []) (lenOf pd_6 rfl) rfl (by show 2 * 0 + _ ≤ _; exact Nat.le_of_eq rfl) (hb hby d7_5) (fun _ _ => ⟨rfl, e1, (by decide : 0 + 0 ≤ _), (by decide : 0 + 0 ≤ _)⟩)
  dsimp only [Pt.U, Pt.locs, Pt.cells, Pt.slots] at X2 l2 y2 z2 st2 hQ2
  subst l2 y2 z2
  obtain ⟨rfl, N2q, e2⟩ := hQ2
  have NN := Fr.app NN N2q
  refine own_go st2 ?_
  show own_Go p.tables e below _ T2 (mkF m 8 #[.val (.ref a1), .val (.int p2)] [(.int (r_8 p2 w_size_a1))])
  refine own_go (T' := T2) (g' := (mkF m 10 #[.val (.ref a1), .val (.int p2)] [(.ref a1)])) (fun t k => ?_) ?_
  · show Steps p.tables e below (T2.setTop (mkF m 8 #[.val (.ref a1), .val (.int p2)] [(.int (r_8 p2 w_size_a1))])) _
    refine XS.pop X2.here hx rfl (hb hby d7_8) rfl rfl ?_
    show Steps p.tables e below (T2.setTop (mkF m 9 #[.val (.ref a1), .val (.int p2)] [])) _
    refine XS.aloadN X2.here hx rfl (hb hby d7_9) rfl rfl ?_
    exact k
  obtain ⟨T3, X3, e3, st3⟩ := getF X2 hx hZ hown (host := "") (Or.inl (hw _ (List.mem_of_getElem? (i := 15) rfl))) Via.refl e2 F_a1_words (g := (mkF m 10 #[.val (.ref a1), .val (.int p2)] [(.ref a1)])) rfl rfl (hb hby d7_10)
  refine own_go st3 ?_
  show own_Go p.tables e below _ T3 (mkF m 13 #[.val (.ref a1), .val (.int p2)] [(.ref w_words_a1)])
  refine own_go (T' := T3) (g' := (mkF m 17 #[.val (.ref a1), .val (.int p2)] [(.int (p2 / (64 : Int32))), (.ref w_words_a1)])) (fun t k => ?_) ?_
  · show Steps p.tables e below (T3.setTop (mkF m 13 #[.val (.ref a1), .val (.int p2)] [(.ref w_words_a1)])) _
    refine XS.iloadN X3.here hx rfl (hb hby d7_13) rfl ?_
    show Steps p.tables e below (T3.setTop (mkF m 14 #[.val (.ref a1), .val (.int p2)] [(.int p2), (.ref w_words_a1)])) _
    refine XS.bipush X3.here hx rfl (hb hby d7_14) ?_
    show Steps p.tables e below (T3.setTop (mkF m 16 #[.val (.ref a1), .val (.int p2)] [(.int (64 : Int32)), (.int p2), (.ref w_words_a1)])) _
    refine XS.idiv X3.here hx rfl (hb hby d7_16) rfl (by decide) ?_
    exact k
  have Vq := V_w_words_a1
  obtain ⟨cl4, Ar4, q4, Sz4, Ng4, Hs4, Gs4⟩ := Vq
  have hin4 : ¬ ((p2 / (64 : Int32)) < 0 ∨ cl4.slots.size ≤ ((p2 / (64 : Int32))).toNatClampNeg) := inb_of Sz4 ⟨hlo17, hhi17⟩
  have hat4 : cl4.slots[((p2 / (64 : Int32))).toNatClampNeg]? = some (.long (f_w_words_a1 ((p2 / (64 : Int32))).toNatClampNeg)) := Hs4.at hin4 (own_ls_at f_w_words_a1 hlo17 hhi17 _)
  refine own_go (fun t k => X3.laload hx (j := (p2 / (64 : Int32))) (v := (.long (f_w_words_a1 ((p2 / (64 : Int32))).toNatClampNeg))) (by rw [e3]; exact Ar4.1) (State.isArrayOf_alike hZ.alike Ar4.2.1) Ar4.2.2 hin4 hat4 (g := (mkF m 17 #[.val (.ref a1), .val (.int p2)] [(.int (p2 / (64 : Int32))), (.ref w_words_a1)])) rfl rfl (hb hby d7_17) t k) ?_
  show own_Go p.tables e below _ T3 (mkF m 18 #[.val (.ref a1), .val (.int p2)] [(.long (f_w_words_a1 ((p2 / (64 : Int32))).toNatClampNeg))])
  refine own_go (T' := T3) (g' := (mkF m 19 #[.val (.ref a1), .val (.int p2)] [(.int p2), (.long (f_w_words_a1 ((p2 / (64 : Int32))).toNatClampNeg))])) (fun t k => ?_) ?_
  · show Steps p.tables e below (T3.setTop (mkF m 18 #[.val (.ref a1), .val (.int p2)] [(.long (f_w_words_a1 ((p2 / (64 : Int32))).toNatClampNeg))])) _
    refine XS.iloadN X3.here hx rfl (hb hby d7_18) rfl ?_
    exact k
  obtain ⟨_, _, ⟨T5, L5, k5, n5⟩, -, X5, ⟨Lc5, hQ5, l5, y5, z5⟩, st5⟩ := Jvm.LawKit.callS X3 hx (y := (⟨"com/example/capd/capd/status/Bitstring", "mask", "(I)J"⟩ : MethodName)) hown (mvT hZ (hw _ (List.mem_of_getElem? (i := 60) rfl))) (mvT hZ (hw _ (List.mem_of_getElem? (i := 61) rfl))) (mvT hZ (hw _ (List.mem_of_getElem? (i := 3) rfl))) (mvT hZ (hw _ (List.mem_of_getElem? (i := 62) rfl))) (by decide) (backOf (W := 2) (rm10 l Z a0 hw [] p2 h0 n0 Z0 ) hZ (hw _ (List.mem_of_getElem? (i := 62) rfl)) (hw _ (List.mem_of_getElem? (i := 3) rfl)) (by decide) (by decide)) (g := (mkF m 19 #[.val (.ref a1), .val (.int p2)] [(.int p2), (.long (f_w_words_a1 ((p2 / (64 : Int32))).toNatClampNeg))])) rfl (by rw [hml]; rfl) (argsL := [(.int p2)]) (rest := [(.long (f_w_words_a1 ((p2 / (64 : Int32))).toNatClampNeg))]) (lenOf pd_8 rfl) rfl (by show 2 * 0 + _ ≤ _; exact Nat.le_of_eq rfl) (hb hby d7_19) (fun _ _ => ⟨rfl, e3, (by decide : 0 + 0 ≤ _), (by decide : 0 + 0 ≤ _)⟩)
  dsimp only [Pt.U, Pt.locs, Pt.cells, Pt.slots] at X5 l5 y5 z5 st5 hQ5
  subst l5 y5 z5
  obtain ⟨rfl, N5q, e5⟩ := hQ5
  have NN := Fr.app NN N5q
  refine own_go st5 ?_
  show own_Go p.tables e below _ T5 (mkF m 22 #[.val (.ref a1), .val (.int p2)] [(.long (r_10 p2)), (.long (f_w_words_a1 ((p2 / (64 : Int32))).toNatClampNeg))])
  refine own_go (T' := T5) (g' := (mkF m 25 #[.val (.ref a1), .val (.int p2)] [(.int (lcmpW ((f_w_words_a1 ((p2 / (64 : Int32))).toNatClampNeg) &&& (r_10 p2)) (0 : Int64)))])) (fun t k => ?_) ?_
  · show Steps p.tables e below (T5.setTop (mkF m 22 #[.val (.ref a1), .val (.int p2)] [(.long (r_10 p2)), (.long (f_w_words_a1 ((p2 / (64 : Int32))).toNatClampNeg))])) _
    refine XS.land X5.here hx rfl (hb hby d7_22) rfl ?_
    show Steps p.tables e below (T5.setTop (mkF m 23 #[.val (.ref a1), .val (.int p2)] [(.long ((f_w_words_a1 ((p2 / (64 : Int32))).toNatClampNeg) &&& (r_10 p2)))])) _
    refine XS.lconst X5.here hx rfl (hb hby d7_23) ?_
    show Steps p.tables e below (T5.setTop (mkF m 24 #[.val (.ref a1), .val (.int p2)] [(.long (0 : Int64)), (.long ((f_w_words_a1 ((p2 / (64 : Int32))).toNatClampNeg) &&& (r_10 p2)))])) _
    refine XS.lcmp X5.here hx rfl (hb hby d7_24) rfl ?_
    exact k
  obtain ⟨j6, hj6, st7⟩ : ∃ (j6 : Int32), j6 = (if ((f_w_words_a1 ((p2 / (64 : Int32))).toNatClampNeg) &&& (r_10 p2)) = (0 : Int64) then (0 : Int32) else (1 : Int32)) ∧ ∀ t, Steps p.tables e below (T5.setTop (mkF m 33 #[.val (.ref a1), .val (.int p2)] [(.int j6)])) t → Steps p.tables e below (T5.setTop (mkF m 25 #[.val (.ref a1), .val (.int p2)] [(.int (lcmpW ((f_w_words_a1 ((p2 / (64 : Int32))).toNatClampNeg) &&& (r_10 p2)) (0 : Int64)))])) t := by
    by_cases hc25_1 : ((f_w_words_a1 ((p2 / (64 : Int32))).toNatClampNeg) &&& (r_10 p2)) = (0 : Int64)
    · skip
      refine ⟨(0 : Int32), (by simp only [if_pos hc25_1]), fun t k => ?_⟩
      show Steps p.tables e below (T5.setTop (mkF m 25 #[.val (.ref a1), .val (.int p2)] [(.int (lcmpW ((f_w_words_a1 ((p2 / (64 : Int32))).toNatClampNeg) &&& (r_10 p2)) (0 : Int64)))])) _
      refine XS.ifYes X5.here hx rfl (pc0 := 25) (pc' := 32) rfl (hb hby d7_25) rfl ((if0 _ _).trans (teq ((lw_eq ((f_w_words_a1 ((p2 / (64 : Int32))).toNatClampNeg) &&& (r_10 p2)) (0 : Int64)).mpr hc25_1)).1) (by decide) (by decide) ?_
      show Steps p.tables e below (T5.setTop (mkF m 32 #[.val (.ref a1), .val (.int p2)] [])) _
      refine XS.iconst X5.here hx rfl (hb hby d7_32) ?_
      exact k
    · skip
      refine ⟨(1 : Int32), (by simp only [if_neg hc25_1]), fun t k => ?_⟩
      show Steps p.tables e below (T5.setTop (mkF m 25 #[.val (.ref a1), .val (.int p2)] [(.int (lcmpW ((f_w_words_a1 ((p2 / (64 : Int32))).toNatClampNeg) &&& (r_10 p2)) (0 : Int64)))])) _
      refine XS.ifNo X5.here hx rfl (hb hby d7_25) rfl ((if0 _ _).trans (feq (fun q => hc25_1 ((lw_eq ((f_w_words_a1 ((p2 / (64 : Int32))).toNatClampNeg) &&& (r_10 p2)) (0 : Int64)).mp q))).1) ?_
      show Steps p.tables e below (T5.setTop (mkF m 28 #[.val (.ref a1), .val (.int p2)] [])) _
      refine XS.iconst X5.here hx rfl (hb hby d7_28) ?_
      show Steps p.tables e below (T5.setTop (mkF m 29 #[.val (.ref a1), .val (.int p2)] [(.int (1 : Int32))])) _
      refine XS.goto X5.here hx rfl (pc0 := 29) (pc' := 33) rfl (hb hby d7_29) (by decide) (by decide) ?_
      exact k
  refine own_go st7 ?_
  show own_Go p.tables e below _ T5 (mkF m 33 #[.val (.ref a1), .val (.int p2)] [(.int j6)])
  obtain ⟨fs, hr, hrun, hended, hW, hsame⟩ := X5.leave (v := some (.int (nar .boolean j6))) (fun h => by rw [Bd.returns] at h; cases h)
  refine ⟨_, _, ?_, hrun, hended, _, _, rfl, ?_, ⟨_, rfl⟩, hW, hsame.mono (by decide) (by decide)⟩
  · exact retN X5 hx (t := .boolean) Bd.returns (by simp) (hb hby d7_33) hr
  · show Q7 Z a1 p2 w_size_a1 w_words_a1 k_w_words_a1 f_w_words_a1 h0 n0 _ T5.heap _
    rw [e5]
    exact ⟨(by first | (simp only [hj6, r_7, own_narZ, own_narC, own_narB]; done) | (subst hj6; first | (simp only [r_7, own_narZ, own_narC, own_narB]; done) | rfl)), NN, rfl⟩
theorem d11_0 : decode prog_3_method_7_code 0 = .ok (.iload_n 1, 1) := by decide +kernel
theorem d11_1 : decode prog_3_method_7_code 1 = .ok (.aload_n 0, 1) := by decide +kernel
theorem d11_2 : decode prog_3_method_7_code 2 = .ok (.getfield 19, 3) := by decide +kernel
theorem d11_5 : decode prog_3_method_7_code 5 = .ok (.invokestatic 127, 3) := by decide +kernel
theorem d11_8 : decode prog_3_method_7_code 8 = .ok (.pop, 1) := by decide +kernel
theorem d11_9 : decode prog_3_method_7_code 9 = .ok (.aload_n 0, 1) := by decide +kernel
theorem d11_10 : decode prog_3_method_7_code 10 = .ok (.iload_n 1, 1) := by decide +kernel
theorem d11_11 : decode prog_3_method_7_code 11 = .ok (.invokevirtual 137, 3) := by decide +kernel
theorem d11_14 : decode prog_3_method_7_code 14 = .ok (.ifCond .ne 29, 3) := by decide +kernel
theorem d11_17 : decode prog_3_method_7_code 17 = .ok (.aload_n 0, 1) := by decide +kernel
theorem d11_18 : decode prog_3_method_7_code 18 = .ok (.getfield 15, 3) := by decide +kernel
theorem d11_21 : decode prog_3_method_7_code 21 = .ok (.iload_n 1, 1) := by decide +kernel
theorem d11_22 : decode prog_3_method_7_code 22 = .ok (.bipush 64, 2) := by decide +kernel
theorem d11_24 : decode prog_3_method_7_code 24 = .ok (.idiv, 1) := by decide +kernel
theorem d11_25 : decode prog_3_method_7_code 25 = .ok (.dup2, 1) := by decide +kernel
theorem d11_26 : decode prog_3_method_7_code 26 = .ok (.laload, 1) := by decide +kernel
theorem d11_27 : decode prog_3_method_7_code 27 = .ok (.iload_n 1, 1) := by decide +kernel
theorem d11_28 : decode prog_3_method_7_code 28 = .ok (.invokestatic 133, 3) := by decide +kernel
theorem d11_31 : decode prog_3_method_7_code 31 = .ok (.lor, 1) := by decide +kernel
theorem d11_32 : decode prog_3_method_7_code 32 = .ok (.lastore, 1) := by decide +kernel
theorem d11_33 : decode prog_3_method_7_code 33 = .ok (.aload_n 0, 1) := by decide +kernel
theorem d11_34 : decode prog_3_method_7_code 34 = .ok (.dup, 1) := by decide +kernel
theorem d11_35 : decode prog_3_method_7_code 35 = .ok (.getfield 23, 3) := by decide +kernel
theorem d11_38 : decode prog_3_method_7_code 38 = .ok (.iconst 1, 1) := by decide +kernel
theorem d11_39 : decode prog_3_method_7_code 39 = .ok (.iadd, 1) := by decide +kernel
theorem d11_40 : decode prog_3_method_7_code 40 = .ok (.putfield 23, 3) := by decide +kernel
theorem d11_43 : decode prog_3_method_7_code 43 = .ok (.return_, 1) := by decide +kernel
theorem pd_5 : parseMethodDescriptor "(I)Z" = some ⟨[.int], some .boolean⟩ := by decide +kernel
theorem ef_11 (m : MethodId) (a1 : Addr) (p2 : Int32) : entryFrame m #[(.ref a1), (.int p2)] 2 = mkF m 0 #[.val (.ref a1), .val (.int p2)] [] := by first | (simp [entryFrame, mkF, argsToLocals, Value.category]; done) | rfl
def u_11_w_words_a1_fn (p2 : Int32) (w_size_a1 : Int32) (f_w_words_a1 : Nat → Int64) (w_count_a1 : Int32) : Nat → Int64 := (if (r_7 p2 w_size_a1 f_w_words_a1) = (0 : Int32) then (own_up f_w_words_a1 ((p2 / (64 : Int32))).toNatClampNeg ((f_w_words_a1 ((p2 / (64 : Int32))).toNatClampNeg) ||| (r_10 p2))) else f_w_words_a1)
def u_11_a1_count (p2 : Int32) (w_size_a1 : Int32) (f_w_words_a1 : Nat → Int64) (w_count_a1 : Int32) : Int32 := (if (r_7 p2 w_size_a1 f_w_words_a1) = (0 : Int32) then (w_count_a1 + (1 : Int32)) else w_count_a1)
def Q11 (Z : State) (a1 : Addr) (p2 : Int32) (w_size_a1 : Int32) (w_words_a1 : Addr) (k_w_words_a1 : ClassId) (f_w_words_a1 : Nat → Int64) (w_count_a1 : Int32) (h0 : Heap) (n0 : Nat) (v : Option Value) (h : Heap) (L : List Loc) : Prop := v = none ∧ Fr n0 L ∧ Keep h0 h [w_words_a1, a1] ∧ Arv Z h w_words_a1 k_w_words_a1 .long (2048 : Int32) (own_ls (u_11_w_words_a1_fn p2 w_size_a1 f_w_words_a1 w_count_a1)) (.long (0 : Int64)) ∧ Exa Z h a1 "com/example/capd/capd/status/Bitstring" ∧ Fld Z h a1 "com/example/capd/capd/status/Bitstring" "size" "I" (.int w_size_a1) ∧ Fld Z h a1 "com/example/capd/capd/status/Bitstring" "words" "[J" (.ref w_words_a1) ∧ Fld Z h a1 "com/example/capd/capd/status/Bitstring" "count" "I" (.int (u_11_a1_count p2 w_size_a1 f_w_words_a1 w_count_a1))
set_option maxRecDepth 65536 in
set_option maxHeartbeats 40000000 in
theorem rm11 (l : Launch) (Z : State) (a0 : Array Value) (hw : ∀ d ∈ tables_1, d.before a0 Z = true) (ws : List Jvm.Cond) (a1 : Addr) (p2 : Int32) (w_size_a1 : Int32) (w_words_a1 : Addr) (k_w_words_a1 : ClassId) (f_w_words_a1 : Nat → Int64) (w_count_a1 : Int32) (h0 : Heap) (n0 : Nat) (Z0 : n0 ≤ h0.size) (F_a1_size : Fld Z h0 a1 "com/example/capd/capd/status/Bitstring" "size" "I" (.int w_size_a1)) (hhhc1_3_5 : ¬ (p2 < (0 : Int32))) (hhhc6_3_5 : p2 < w_size_a1) (hhhhc1_3_5_11 : ¬ (p2 < (0 : Int32))) (hhhhc6_3_5_11 : p2 < w_size_a1) (F_a1_words : Fld Z h0 a1 "com/example/capd/capd/status/Bitstring" "words" "[J" (.ref w_words_a1)) (V_w_words_a1 : Arv Z h0 w_words_a1 k_w_words_a1 .long (2048 : Int32) (own_ls f_w_words_a1) (.long (0 : Int64))) (hhlo17_11 : ¬ ((p2 / (64 : Int32)) < (0 : Int32))) (hhhi17_11 : (p2 / (64 : Int32)) < (2048 : Int32)) (E_a1 : Exa Z h0 a1 "com/example/capd/capd/status/Bitstring") (hlo26 : ¬ ((p2 / (64 : Int32)) < (0 : Int32))) (hhi26 : (p2 / (64 : Int32)) < (2048 : Int32)) (hlo32 : ¬ ((p2 / (64 : Int32)) < (0 : Int32))) (hhi32 : (p2 / (64 : Int32)) < (2048 : Int32)) (ne_a1_w_words_a1 : a1 ≠ w_words_a1) (g_w_words_a1 : n0 ≤ w_words_a1) (F_a1_count : Fld Z h0 a1 "com/example/capd/capd/status/Bitstring" "count" "I" (.int w_count_a1)) (g_a1 : n0 ≤ a1) :
    MetFree l (⟨"com/example/capd/capd/status/Bitstring", "set", "(I)V"⟩ : MethodName) (head1 (Jvm.Cond.code (⟨"com/example/capd/capd/status/Bitstring", "set", "(I)V"⟩ : MethodName) prog_3_method_7_code 2 none :: ws) ({ frames := 3, cells := 0, slots := 0, locals := 40 } : Room)) (fun a U => a = #[(.ref a1), (.int p2)] ∧ Z.Warmed39 U.vm ∧ U.heap = h0) (fun _ _ _ _ _ => True) (fun _ U o U' => ∃ v L, o = .returned v ∧ Q11 Z a1 p2 w_size_a1 w_words_a1 k_w_words_a1 f_w_words_a1 w_count_a1 h0 n0 v U'.heap L ∧ FrameEnd U o U' L ({ frames := 3, cells := 0, slots := 0, locals := 40 } : Room).cells ({ frames := 3, cells := 0, slots := 0, locals := 40 } : Room).slots) := by
  refine MetFree.of_bodySF (plainFor_of_name pn_0) hisR ?_
  intro p e s m args below meth c s₁ Bd hml0 hP hK
  obtain ⟨rfl, hZ, hh⟩ := hP
  have hx := Bd.exec
  have hby := Bd.bytes
  have hml : c.maxLocals = 2 := hml0
  have hown : s.vm.findClass "com/example/capd/capd/status/Bitstring" = some m.cls := findClass_of_methodNamed Bd.named
  have hnm := (name_of_methodNamed Bd.named Bd.method).1
  have X0 : Stand p l e ({ frames := 3, cells := 0, slots := 0, locals := 40 } : Room) s m #[(.ref a1), (.int p2)] below meth c s₁ [] 0 0 := Stand.of_body Bd
  have e0 : s₁.heap = h0 := by rw [← hh, Bd.state]; rfl
  have NN := Fr.nil n0
  have KK : Keep h0 h0 [w_words_a1, a1] := Keep.refl h0 [w_words_a1, a1]
  refine own_start (ef_11 m a1 p2) ?_
  refine own_go (T' := s₁) (g' := (mkF m 2 #[.val (.ref a1), .val (.int p2)] [(.ref a1), (.int p2)])) (fun t k => ?_) ?_
  · show Steps p.tables e below (s₁.setTop (mkF m 0 #[.val (.ref a1), .val (.int p2)] [])) _
    refine XS.iloadN X0.here hx rfl (hb hby d11_0) rfl ?_
    show Steps p.tables e below (s₁.setTop (mkF m 1 #[.val (.ref a1), .val (.int p2)] [(.int p2)])) _
    refine XS.aloadN X0.here hx rfl (hb hby d11_1) rfl rfl ?_
    exact k
  obtain ⟨T1, X1, e1, st1⟩ := getF X0 hx hZ hown (host := "") (Or.inl (hw _ (List.mem_of_getElem? (i := 17) rfl))) Via.refl e0 F_a1_size (g := (mkF m 2 #[.val (.ref a1), .val (.int p2)] [(.ref a1), (.int p2)])) rfl rfl (hb hby d11_2)
  refine own_go st1 ?_
  show own_Go p.tables e below _ T1 (mkF m 5 #[.val (.ref a1), .val (.int p2)] [(.int w_size_a1), (.int p2)])
  obtain ⟨_, _, ⟨T2, L2, k2, n2⟩, -, X2, ⟨Lc2, hQ2, l2, y2, z2⟩, st2⟩ := Jvm.LawKit.callS X1 hx (y := (⟨"java/util/Objects", "checkIndex", "(II)I"⟩ : MethodName)) hown (mvT hZ (hw _ (List.mem_of_getElem? (i := 52) rfl))) (mvT hZ (hw _ (List.mem_of_getElem? (i := 53) rfl))) (mvT hZ (hw _ (List.mem_of_getElem? (i := 54) rfl))) (mvT hZ (hw _ (List.mem_of_getElem? (i := 55) rfl))) (by decide) (backOf (W := 0) (rm8 l Z a0 hw [] p2 w_size_a1 h0 n0 Z0 hhhc1_3_5 hhhc6_3_5) hZ (hw _ (List.mem_of_getElem? (i := 55) rfl)) (hw _ (List.mem_of_getElem? (i := 54) rfl)) (by decide) (by decide)) (g := (mkF m 5 #[.val (.ref a1), .val (.int p2)] [(.int w_size_a1), (.int p2)])) rfl (by rw [hml]; rfl) (argsL := [(.int p2), (.int w_size_a1)]) (rest := []) (lenOf pd_6 rfl) rfl (by show 2 * 0 + _ ≤ _; exact Nat.le_of_eq rfl) (hb hby d11_5) (fun _ _ => ⟨rfl, e1, (by decide : 0 + 0 ≤ _), (by decide : 0 + 0 ≤ _)⟩)
  dsimp only [Pt.U, Pt.locs, Pt.cells, Pt.slots] at X2 l2 y2 z2 st2 hQ2
  subst l2 y2 z2
  obtain ⟨rfl, N2q, e2⟩ := hQ2
  have NN := Fr.app NN N2q
  refine own_go st2 ?_
  show own_Go p.tables e below _ T2 (mkF m 8 #[.val (.ref a1), .val (.int p2)] [(.int (r_8 p2 w_size_a1))])
  refine own_go (T' := T2) (g' := (mkF m 11 #[.val (.ref a1), .val (.int p2)] [(.int p2), (.ref a1)])) (fun t k => ?_) ?_
  · show Steps p.tables e below (T2.setTop (mkF m 8 #[.val (.ref a1), .val (.int p2)] [(.int (r_8 p2 w_size_a1))])) _
    refine XS.pop X2.here hx rfl (hb hby d11_8) rfl rfl ?_
    show Steps p.tables e below (T2.setTop (mkF m 9 #[.val (.ref a1), .val (.int p2)] [])) _
    refine XS.aloadN X2.here hx rfl (hb hby d11_9) rfl rfl ?_
    show Steps p.tables e below (T2.setTop (mkF m 10 #[.val (.ref a1), .val (.int p2)] [(.ref a1)])) _
    refine XS.iloadN X2.here hx rfl (hb hby d11_10) rfl ?_
    exact k
  obtain ⟨cq3, kq3, q3a, q3b, q3c⟩ := isOf hZ e2 E_a1
  obtain ⟨_, _, ⟨T3, L3, k3, n3⟩, -, X3, ⟨Lc3, hQ3, l3, y3, z3⟩, st3⟩ := X2.virtualBack hx (y := (⟨"com/example/capd/capd/status/Bitstring", "get", "(I)Z"⟩ : MethodName)) (z := (⟨"com/example/capd/capd/status/Bitstring", "get", "(I)Z"⟩ : MethodName)) hown (mvT hZ (hw _ (List.mem_of_getElem? (i := 69) rfl))) (mvT hZ (hw _ (List.mem_of_getElem? (i := 48) rfl))) (notFace_of_selects (args := #[]) (mvT hZ (hw _ (List.mem_of_getElem? (i := 50) rfl)))) (mvT hZ (hw _ (List.mem_of_getElem? (i := 50) rfl))) (mvT hZ (hw _ (List.mem_of_getElem? (i := 49) rfl))) (by decide) (backOf (W := 0) (rm7 l Z a0 hw [] a1 p2 w_size_a1 w_words_a1 k_w_words_a1 f_w_words_a1 h0 n0 Z0 F_a1_size hhhc1_3_5 hhhc6_3_5 F_a1_words V_w_words_a1 hhlo17_11 hhhi17_11) hZ (hw _ (List.mem_of_getElem? (i := 51) rfl)) (hw _ (List.mem_of_getElem? (i := 3) rfl)) (by decide) (by decide)) q3a q3c (g := (mkF m 11 #[.val (.ref a1), .val (.int p2)] [(.int p2), (.ref a1)])) rfl (by rw [hml]; rfl) (Steps.refl _) (argsL := [(.int p2)]) (rest := []) (lenOf pd_5 rfl) rfl (by show 2 * 0 + _ ≤ _; exact Nat.le_of_eq rfl) (hb hby d11_11) (fun _ _ => ⟨rfl, e2, (by decide : 0 + 0 ≤ _), (by decide : 0 + 0 ≤ _)⟩)
  dsimp only [Pt.U, Pt.locs, Pt.cells, Pt.slots] at X3 l3 y3 z3 st3 hQ3
  subst l3 y3 z3
  obtain ⟨rfl, N3q, e3⟩ := hQ3
  have NN := Fr.app NN N3q
  refine own_go (fun t k => st3.trans k) ?_
  show own_Go p.tables e below _ T3 (mkF m 14 #[.val (.ref a1), .val (.int p2)] [(.int (r_7 p2 w_size_a1 f_w_words_a1))])
  by_cases hc14_1 : (r_7 p2 w_size_a1 f_w_words_a1) = (0 : Int32)
  · skip
    refine own_go (T' := T3) (g' := (mkF m 18 #[.val (.ref a1), .val (.int p2)] [(.ref a1)])) (fun t k => ?_) ?_
    · show Steps p.tables e below (T3.setTop (mkF m 14 #[.val (.ref a1), .val (.int p2)] [(.int (r_7 p2 w_size_a1 f_w_words_a1))])) _
      refine XS.ifNo X3.here hx rfl (hb hby d11_14) rfl ((if0 _ _).trans (teq hc14_1).2) ?_
      show Steps p.tables e below (T3.setTop (mkF m 17 #[.val (.ref a1), .val (.int p2)] [])) _
      refine XS.aloadN X3.here hx rfl (hb hby d11_17) rfl rfl ?_
      exact k
    obtain ⟨T4, X4, e4, st4⟩ := getF X3 hx hZ hown (host := "") (Or.inl (hw _ (List.mem_of_getElem? (i := 15) rfl))) Via.refl e3 F_a1_words (g := (mkF m 18 #[.val (.ref a1), .val (.int p2)] [(.ref a1)])) rfl rfl (hb hby d11_18)
    refine own_go st4 ?_
    show own_Go p.tables e below _ T4 (mkF m 21 #[.val (.ref a1), .val (.int p2)] [(.ref w_words_a1)])
    refine own_go (T' := T4) (g' := (mkF m 26 #[.val (.ref a1), .val (.int p2)] [(.int (p2 / (64 : Int32))), (.ref w_words_a1), (.int (p2 / (64 : Int32))), (.ref w_words_a1)])) (fun t k => ?_) ?_
    · show Steps p.tables e below (T4.setTop (mkF m 21 #[.val (.ref a1), .val (.int p2)] [(.ref w_words_a1)])) _
      refine XS.iloadN X4.here hx rfl (hb hby d11_21) rfl ?_
      show Steps p.tables e below (T4.setTop (mkF m 22 #[.val (.ref a1), .val (.int p2)] [(.int p2), (.ref w_words_a1)])) _
      refine XS.bipush X4.here hx rfl (hb hby d11_22) ?_
      show Steps p.tables e below (T4.setTop (mkF m 24 #[.val (.ref a1), .val (.int p2)] [(.int (64 : Int32)), (.int p2), (.ref w_words_a1)])) _
      refine XS.idiv X4.here hx rfl (hb hby d11_24) rfl (by decide) ?_
      show Steps p.tables e below (T4.setTop (mkF m 25 #[.val (.ref a1), .val (.int p2)] [(.int (p2 / (64 : Int32))), (.ref w_words_a1)])) _
      refine XT.dup2 X4.here hx rfl (hb hby d11_25) rfl rfl rfl ?_
      exact k
    have Vq := V_w_words_a1
    obtain ⟨cl5, Ar5, q5, Sz5, Ng5, Hs5, Gs5⟩ := Vq
    have hin5 : ¬ ((p2 / (64 : Int32)) < 0 ∨ cl5.slots.size ≤ ((p2 / (64 : Int32))).toNatClampNeg) := inb_of Sz5 ⟨hhlo17_11, hhhi17_11⟩
    have hat5 : cl5.slots[((p2 / (64 : Int32))).toNatClampNeg]? = some (.long (f_w_words_a1 ((p2 / (64 : Int32))).toNatClampNeg)) := Hs5.at hin5 (own_ls_at f_w_words_a1 hhlo17_11 hhhi17_11 _)
    refine own_go (fun t k => X4.laload hx (j := (p2 / (64 : Int32))) (v := (.long (f_w_words_a1 ((p2 / (64 : Int32))).toNatClampNeg))) (by rw [e4]; exact Ar5.1) (State.isArrayOf_alike hZ.alike Ar5.2.1) Ar5.2.2 hin5 hat5 (g := (mkF m 26 #[.val (.ref a1), .val (.int p2)] [(.int (p2 / (64 : Int32))), (.ref w_words_a1), (.int (p2 / (64 : Int32))), (.ref w_words_a1)])) rfl rfl (hb hby d11_26) t k) ?_
    show own_Go p.tables e below _ T4 (mkF m 27 #[.val (.ref a1), .val (.int p2)] [(.long (f_w_words_a1 ((p2 / (64 : Int32))).toNatClampNeg)), (.int (p2 / (64 : Int32))), (.ref w_words_a1)])
    refine own_go (T' := T4) (g' := (mkF m 28 #[.val (.ref a1), .val (.int p2)] [(.int p2), (.long (f_w_words_a1 ((p2 / (64 : Int32))).toNatClampNeg)), (.int (p2 / (64 : Int32))), (.ref w_words_a1)])) (fun t k => ?_) ?_
    · show Steps p.tables e below (T4.setTop (mkF m 27 #[.val (.ref a1), .val (.int p2)] [(.long (f_w_words_a1 ((p2 / (64 : Int32))).toNatClampNeg)), (.int (p2 / (64 : Int32))), (.ref w_words_a1)])) _
      refine XS.iloadN X4.here hx rfl (hb hby d11_27) rfl ?_
      exact k
    obtain ⟨_, _, ⟨T6, L6, k6, n6⟩, -, X6, ⟨Lc6, hQ6, l6, y6, z6⟩, st6⟩ := Jvm.LawKit.callS X4 hx (y := (⟨"com/example/capd/capd/status/Bitstring", "mask", "(I)J"⟩ : MethodName)) hown (mvT hZ (hw _ (List.mem_of_getElem? (i := 60) rfl))) (mvT hZ (hw _ (List.mem_of_getElem? (i := 61) rfl))) (mvT hZ (hw _ (List.mem_of_getElem? (i := 3) rfl))) (mvT hZ (hw _ (List.mem_of_getElem? (i := 62) rfl))) (by decide) (backOf (W := 4) (rm10 l Z a0 hw [] p2 h0 n0 Z0 ) hZ (hw _ (List.mem_of_getElem? (i := 62) rfl)) (hw _ (List.mem_of_getElem? (i := 3) rfl)) (by decide) (by decide)) (g := (mkF m 28 #[.val (.ref a1), .val (.int p2)] [(.int p2), (.long (f_w_words_a1 ((p2 / (64 : Int32))).toNatClampNeg)), (.int (p2 / (64 : Int32))), (.ref w_words_a1)])) rfl (by rw [hml]; rfl) (argsL := [(.int p2)]) (rest := [(.long (f_w_words_a1 ((p2 / (64 : Int32))).toNatClampNeg)), (.int (p2 / (64 : Int32))), (.ref w_words_a1)]) (lenOf pd_8 rfl) rfl (by show 2 * 0 + _ ≤ _; exact Nat.le_of_eq rfl) (hb hby d11_28) (fun _ _ => ⟨rfl, e4, (by decide : 0 + 0 ≤ _), (by decide : 0 + 0 ≤ _)⟩)
    dsimp only [Pt.U, Pt.locs, Pt.cells, Pt.slots] at X6 l6 y6 z6 st6 hQ6
    subst l6 y6 z6
    obtain ⟨rfl, N6q, e6⟩ := hQ6
    have NN := Fr.app NN N6q
    refine own_go st6 ?_
    show own_Go p.tables e below _ T6 (mkF m 31 #[.val (.ref a1), .val (.int p2)] [(.long (r_10 p2)), (.long (f_w_words_a1 ((p2 / (64 : Int32))).toNatClampNeg)), (.int (p2 / (64 : Int32))), (.ref w_words_a1)])
    refine own_go (T' := T6) (g' := (mkF m 32 #[.val (.ref a1), .val (.int p2)] [(.long ((f_w_words_a1 ((p2 / (64 : Int32))).toNatClampNeg) ||| (r_10 p2))), (.int (p2 / (64 : Int32))), (.ref w_words_a1)])) (fun t k => ?_) ?_
    · show Steps p.tables e below (T6.setTop (mkF m 31 #[.val (.ref a1), .val (.int p2)] [(.long (r_10 p2)), (.long (f_w_words_a1 ((p2 / (64 : Int32))).toNatClampNeg)), (.int (p2 / (64 : Int32))), (.ref w_words_a1)])) _
      refine XS.lor X6.here hx rfl (hb hby d11_31) rfl ?_
      exact k
    have Vq := V_w_words_a1
    obtain ⟨cl7, Ar7, q7, Sz7, Ng7, Hs7, Gs7⟩ := Vq
    have hin7 : ¬ ((p2 / (64 : Int32)) < 0 ∨ cl7.slots.size ≤ ((p2 / (64 : Int32))).toNatClampNeg) := inb_of Sz7 ⟨hhlo17_11, hhhi17_11⟩
    obtain ⟨T8, h8, X8, e8, W8, st8⟩ := stJ X6 hx hZ e6 Ar7 (j := (p2 / (64 : Int32))) hin7 (g := (mkF m 32 #[.val (.ref a1), .val (.int p2)] [(.long ((f_w_words_a1 ((p2 / (64 : Int32))).toNatClampNeg) ||| (r_10 p2))), (.int (p2 / (64 : Int32))), (.ref w_words_a1)])) rfl rfl (hb hby d11_32)
    refine own_go st8 ?_
    have F_a1_size := F_a1_size.other W8 (Or.inl ne_a1_w_words_a1)
    have F_a1_words := F_a1_words.other W8 (Or.inl ne_a1_w_words_a1)
    have E_a1 := E_a1.wr W8
    have F_a1_count := F_a1_count.other W8 (Or.inl ne_a1_w_words_a1)
    have Z0 := Nat.le_trans Z0 (Keep.of_wr W8).1
    have KK := KK.wr W8 (Or.inl (List.mem_of_getElem? (i := 0) rfl))
    have NN := Fr.snoc X8 NN g_w_words_a1
    have V_w_words_a1 : Arv Z h8 w_words_a1 k_w_words_a1 .long (2048 : Int32) (own_ls (own_up f_w_words_a1 ((p2 / (64 : Int32))).toNatClampNeg ((f_w_words_a1 ((p2 / (64 : Int32))).toNatClampNeg) ||| (r_10 p2)))) (.long (0 : Int64)) := own_ls_set Ar7 q7 Sz7 Ng7 Hs7 Gs7 W8 hhlo17_11 hhhi17_11
    show own_Go p.tables e below _ T8 (mkF m 33 #[.val (.ref a1), .val (.int p2)] [])
    refine own_go (T' := T8) (g' := (mkF m 35 #[.val (.ref a1), .val (.int p2)] [(.ref a1), (.ref a1)])) (fun t k => ?_) ?_
    · show Steps p.tables e below (T8.setTop (mkF m 33 #[.val (.ref a1), .val (.int p2)] [])) _
      refine XS.aloadN X8.here hx rfl (hb hby d11_33) rfl rfl ?_
      show Steps p.tables e below (T8.setTop (mkF m 34 #[.val (.ref a1), .val (.int p2)] [(.ref a1)])) _
      refine XS.dup X8.here hx rfl (hb hby d11_34) rfl rfl ?_
      exact k
    obtain ⟨T9, X9, e9, st9⟩ := getF X8 hx hZ hown (host := "") (Or.inl (hw _ (List.mem_of_getElem? (i := 19) rfl))) Via.refl e8 F_a1_count (g := (mkF m 35 #[.val (.ref a1), .val (.int p2)] [(.ref a1), (.ref a1)])) rfl rfl (hb hby d11_35)
    refine own_go st9 ?_
    show own_Go p.tables e below _ T9 (mkF m 38 #[.val (.ref a1), .val (.int p2)] [(.int w_count_a1), (.ref a1)])
    refine own_go (T' := T9) (g' := (mkF m 40 #[.val (.ref a1), .val (.int p2)] [(.int (w_count_a1 + (1 : Int32))), (.ref a1)])) (fun t k => ?_) ?_
    · show Steps p.tables e below (T9.setTop (mkF m 38 #[.val (.ref a1), .val (.int p2)] [(.int w_count_a1), (.ref a1)])) _
      refine XS.iconst X9.here hx rfl (hb hby d11_38) ?_
      show Steps p.tables e below (T9.setTop (mkF m 39 #[.val (.ref a1), .val (.int p2)] [(.int (1 : Int32)), (.int w_count_a1), (.ref a1)])) _
      refine XS.iadd X9.here hx rfl (hb hby d11_39) rfl ?_
      exact k
    obtain ⟨T10, h10, X10, e10, W10, st10⟩ := putF X9 hx hZ hown (host := "") (Or.inl (hw _ (List.mem_of_getElem? (i := 19) rfl))) Via.refl e9 F_a1_count E_a1 (Or.inl (hw _ (List.mem_of_getElem? (i := 20) rfl))) (hw _ (List.mem_of_getElem? (i := 2) rfl)) (ty := .int) (by decide) rfl rfl (g := (mkF m 40 #[.val (.ref a1), .val (.int p2)] [(.int (w_count_a1 + (1 : Int32))), (.ref a1)])) rfl rfl (hb hby d11_40)
    refine own_go st10 ?_
    have F_a1_size := F_a1_size.other W10 (Or.inr (slot_ne (Or.inr (hw _ (List.mem_of_getElem? (i := 18) rfl))) (Or.inl (hw _ (List.mem_of_getElem? (i := 20) rfl))) (by decide) (t := .int) (t' := .int) (by decide) (by decide)))
    have F_a1_words := F_a1_words.other W10 (Or.inr (slot_ne (Or.inr (hw _ (List.mem_of_getElem? (i := 16) rfl))) (Or.inl (hw _ (List.mem_of_getElem? (i := 20) rfl))) (by decide) (t := (.array .long)) (t' := .int) (by decide) (by decide)))
    have V_w_words_a1 := V_w_words_a1.other W10 (Ne.symm ne_a1_w_words_a1)
    have E_a1 := E_a1.wr W10
    have F_a1_count := F_a1_count.same W10
    have Z0 := Nat.le_trans Z0 (Keep.of_wr W10).1
    have KK := KK.wr W10 (Or.inl (List.mem_of_getElem? (i := 1) rfl))
    have NN := Fr.snoc X10 NN g_a1
    show own_Go p.tables e below _ T10 (mkF m 43 #[.val (.ref a1), .val (.int p2)] [])
    obtain ⟨fs, hr, hrun, hended, hW, hsame⟩ := X10.leave (v := none) (fun _ => rfl)
    refine ⟨_, _, ?_, hrun, hended, _, _, rfl, ?_, ⟨_, rfl⟩, hW, hsame.mono (by decide) (by decide)⟩
    · exact X10.returnOut hx Bd.returns (hb hby d11_43) hr
    · show Q11 Z a1 p2 w_size_a1 w_words_a1 k_w_words_a1 f_w_words_a1 w_count_a1 h0 n0 _ T10.heap _
      rw [e10]
      exact ⟨rfl, NN, KK, (by rw [← ((by first | (simp only [u_11_w_words_a1_fn, if_pos hc14_1]; done) | (simp only [u_11_w_words_a1_fn, if_pos hc14_1])) : (own_up f_w_words_a1 ((p2 / (64 : Int32))).toNatClampNeg ((f_w_words_a1 ((p2 / (64 : Int32))).toNatClampNeg) ||| (r_10 p2))) = u_11_w_words_a1_fn p2 w_size_a1 f_w_words_a1 w_count_a1)]; exact V_w_words_a1), E_a1, F_a1_size, F_a1_words, (by rw [← ((by first | (simp only [u_11_a1_count, if_pos hc14_1]; done) | (simp only [u_11_a1_count, if_pos hc14_1])) : (w_count_a1 + (1 : Int32)) = u_11_a1_count p2 w_size_a1 f_w_words_a1 w_count_a1)]; exact F_a1_count)⟩
  · skip
    refine own_go (T' := T3) (g' := (mkF m 43 #[.val (.ref a1), .val (.int p2)] [])) (fun t k => ?_) ?_
    · show Steps p.tables e below (T3.setTop (mkF m 14 #[.val (.ref a1), .val (.int p2)] [(.int (r_7 p2 w_size_a1 f_w_words_a1))])) _
      refine XS.ifYes X3.here hx rfl (pc0 := 14) (pc' := 43) rfl (hb hby d11_14) rfl ((if0 _ _).trans (feq hc14_1).2) (by decide) (by decide) ?_
      exact k
    obtain ⟨fs, hr, hrun, hended, hW, hsame⟩ := X3.leave (v := none) (fun _ => rfl)
    refine ⟨_, _, ?_, hrun, hended, _, _, rfl, ?_, ⟨_, rfl⟩, hW, hsame.mono (by decide) (by decide)⟩
    · exact X3.returnOut hx Bd.returns (hb hby d11_43) hr
    · show Q11 Z a1 p2 w_size_a1 w_words_a1 k_w_words_a1 f_w_words_a1 w_count_a1 h0 n0 _ T3.heap _
      rw [e3]
      exact ⟨rfl, NN, KK, (by rw [← ((by first | (simp only [u_11_w_words_a1_fn, if_neg hc14_1]; done) | (simp only [u_11_w_words_a1_fn, if_neg hc14_1])) : f_w_words_a1 = u_11_w_words_a1_fn p2 w_size_a1 f_w_words_a1 w_count_a1)]; exact V_w_words_a1), E_a1, F_a1_size, F_a1_words, (by rw [← ((by first | (simp only [u_11_a1_count, if_neg hc14_1]; done) | (simp only [u_11_a1_count, if_neg hc14_1])) : w_count_a1 = u_11_a1_count p2 w_size_a1 f_w_words_a1 w_count_a1)]; exact F_a1_count)⟩
theorem d2_0 : decode prog_3_method_2_code 0 = .ok (.aload_n 0, 1) := by decide +kernel
theorem d2_1 : decode prog_3_method_2_code 1 = .ok (.invokespecial 10, 3) := by decide +kernel
theorem d2_4 : decode prog_3_method_2_code 4 = .ok (.aload_n 0, 1) := by decide +kernel
theorem d2_5 : decode prog_3_method_2_code 5 = .ok (.aload_n 1, 1) := by decide +kernel
theorem d2_6 : decode prog_3_method_2_code 6 = .ok (.putfield 15, 3) := by decide +kernel
theorem d2_9 : decode prog_3_method_2_code 9 = .ok (.aload_n 0, 1) := by decide +kernel
theorem d2_10 : decode prog_3_method_2_code 10 = .ok (.iload_n 2, 1) := by decide +kernel
theorem d2_11 : decode prog_3_method_2_code 11 = .ok (.putfield 19, 3) := by decide +kernel
theorem d2_14 : decode prog_3_method_2_code 14 = .ok (.aload_n 0, 1) := by decide +kernel
theorem d2_15 : decode prog_3_method_2_code 15 = .ok (.iload_n 3, 1) := by decide +kernel
theorem d2_16 : decode prog_3_method_2_code 16 = .ok (.putfield 23, 3) := by decide +kernel
theorem d2_19 : decode prog_3_method_2_code 19 = .ok (.return_, 1) := by decide +kernel
theorem ef_2 (m : MethodId) (a1 : Addr) (a2 : Addr) (p3 : Int32) (p4 : Int32) : entryFrame m #[(.ref a1), (.ref a2), (.int p3), (.int p4)] 4 = mkF m 0 #[.val (.ref a1), .val (.ref a2), .val (.int p3), .val (.int p4)] [] := by first | (simp [entryFrame, mkF, argsToLocals, Value.category]; done) | rfl
def Q2 (Z : State) (a1 : Addr) (a2 : Addr) (p3 : Int32) (p4 : Int32) (u_words_a1 : Value) (u_size_a1 : Value) (u_count_a1 : Value) (h0 : Heap) (n0 : Nat) (v : Option Value) (h : Heap) (L : List Loc) : Prop := v = none ∧ Fr n0 L ∧ Keep h0 h [a1] ∧ Exa Z h a1 "com/example/capd/capd/status/Bitstring" ∧ Fld Z h a1 "com/example/capd/capd/status/Bitstring" "words" "[J" (.ref a2) ∧ Fld Z h a1 "com/example/capd/capd/status/Bitstring" "size" "I" (.int p3) ∧ Fld Z h a1 "com/example/capd/capd/status/Bitstring" "count" "I" (.int p4)
set_option maxRecDepth 65536 in
set_option maxHeartbeats 40000000 in
theorem rm2 (l : Launch) (Z : State) (a0 : Array Value) (hw : ∀ d ∈ tables_1, d.before a0 Z = true) (ws : List Jvm.Cond) (a1 : Addr) (a2 : Addr) (p3 : Int32) (p4 : Int32) (u_words_a1 : Value) (u_size_a1 : Value) (u_count_a1 : Value) (h0 : Heap) (n0 : Nat) (Z0 : n0 ≤ h0.size) (E_a1 : Exa Z h0 a1 "com/example/capd/capd/status/Bitstring") (F_a1_words : Fld Z h0 a1 "com/example/capd/capd/status/Bitstring" "words" "[J" u_words_a1) (g_a1 : n0 ≤ a1) (F_a1_size : Fld Z h0 a1 "com/example/capd/capd/status/Bitstring" "size" "I" u_size_a1) (F_a1_count : Fld Z h0 a1 "com/example/capd/capd/status/Bitstring" "count" "I" u_count_a1) :
    MetFree l (⟨"com/example/capd/capd/status/Bitstring", "<init>", "([JII)V"⟩ : MethodName) (head1 (Jvm.Cond.code (⟨"com/example/capd/capd/status/Bitstring", "<init>", "([JII)V"⟩ : MethodName) prog_3_method_2_code 4 none :: ws) ({ frames := 1, cells := 0, slots := 0, locals := 12 } : Room)) (fun a U => a = #[(.ref a1), (.ref a2), (.int p3), (.int p4)] ∧ Z.Warmed39 U.vm ∧ U.heap = h0) (fun _ _ _ _ _ => True) (fun _ U o U' => ∃ v L, o = .returned v ∧ Q2 Z a1 a2 p3 p4 u_words_a1 u_size_a1 u_count_a1 h0 n0 v U'.heap L ∧ FrameEnd U o U' L ({ frames := 1, cells := 0, slots := 0, locals := 12 } : Room).cells ({ frames := 1, cells := 0, slots := 0, locals := 12 } : Room).slots) := by
  refine MetFree.of_bodySF (plainFor_of_name pn_0) hisR ?_
  intro p e s m args below meth c s₁ Bd hml0 hP hK
  obtain ⟨rfl, hZ, hh⟩ := hP
  have hx := Bd.exec
  have hby := Bd.bytes
  have hml : c.maxLocals = 4 := hml0
  have hown : s.vm.findClass "com/example/capd/capd/status/Bitstring" = some m.cls := findClass_of_methodNamed Bd.named
  have hnm := (name_of_methodNamed Bd.named Bd.method).1
  have X0 : Stand p l e ({ frames := 1, cells := 0, slots := 0, locals := 12 } : Room) s m #[(.ref a1), (.ref a2), (.int p3), (.int p4)] below meth c s₁ [] 0 0 := Stand.of_body Bd
  have e0 : s₁.heap = h0 := by rw [← hh, Bd.state]; rfl
  have NN := Fr.nil n0
  have KK : Keep h0 h0 [a1] := Keep.refl h0 [a1]
  refine own_start (ef_2 m a1 a2 p3 p4) ?_
  refine own_go (T' := s₁) (g' := (mkF m 1 #[.val (.ref a1), .val (.ref a2), .val (.int p3), .val (.int p4)] [(.ref a1)])) (fun t k => ?_) ?_
  · show Steps p.tables e below (s₁.setTop (mkF m 0 #[.val (.ref a1), .val (.ref a2), .val (.int p3), .val (.int p4)] [])) _
    refine XS.aloadN X0.here hx rfl (hb hby d2_0) rfl rfl ?_
    exact k
  obtain ⟨T1, X1, e1, st1⟩ := initO X0 hx hZ hown (hw _ (List.mem_of_getElem? (i := 12) rfl)) (hw _ (List.mem_of_getElem? (i := 13) rfl)) (hw _ (List.mem_of_getElem? (i := 14) rfl)) e0 (g := (mkF m 1 #[.val (.ref a1), .val (.ref a2), .val (.int p3), .val (.int p4)] [(.ref a1)])) rfl (by rw [hml]; rfl) rfl (hb hby d2_1) (by decide) (W := 0) (by show 2 * 0 + _ ≤ _; exact Nat.le_of_eq rfl) (by decide)
  refine own_go st1 ?_
  show own_Go p.tables e below _ T1 (mkF m 4 #[.val (.ref a1), .val (.ref a2), .val (.int p3), .val (.int p4)] [])
  refine own_go (T' := T1) (g' := (mkF m 6 #[.val (.ref a1), .val (.ref a2), .val (.int p3), .val (.int p4)] [(.ref a2), (.ref a1)])) (fun t k => ?_) ?_
  · show Steps p.tables e below (T1.setTop (mkF m 4 #[.val (.ref a1), .val (.ref a2), .val (.int p3), .val (.int p4)] [])) _
    refine XS.aloadN X1.here hx rfl (hb hby d2_4) rfl rfl ?_
    show Steps p.tables e below (T1.setTop (mkF m 5 #[.val (.ref a1), .val (.ref a2), .val (.int p3), .val (.int p4)] [(.ref a1)])) _
    refine XS.aloadN X1.here hx rfl (hb hby d2_5) rfl rfl ?_
    exact k
  obtain ⟨T2, h2, X2, e2, W2, st2⟩ := putF X1 hx hZ hown (host := "") (Or.inl (hw _ (List.mem_of_getElem? (i := 15) rfl))) Via.refl e1 F_a1_words E_a1 (Or.inr ⟨(hw _ (List.mem_of_getElem? (i := 16) rfl)), rfl, hnm⟩) (hw _ (List.mem_of_getElem? (i := 2) rfl)) (ty := (.array .long)) (by decide) rfl rfl (g := (mkF m 6 #[.val (.ref a1), .val (.ref a2), .val (.int p3), .val (.int p4)] [(.ref a2), (.ref a1)])) rfl rfl (hb hby d2_6)
  refine own_go st2 ?_
  have E_a1 := E_a1.wr W2
  have F_a1_words := F_a1_words.same W2
  have F_a1_size := F_a1_size.other W2 (Or.inr (slot_ne (Or.inr (hw _ (List.mem_of_getElem? (i := 18) rfl))) (Or.inr (hw _ (List.mem_of_getElem? (i := 16) rfl))) (by decide) (t := .int) (t' := (.array .long)) (by decide) (by decide)))
  have F_a1_count := F_a1_count.other W2 (Or.inr (slot_ne (Or.inl (hw _ (List.mem_of_getElem? (i := 20) rfl))) (Or.inr (hw _ (List.mem_of_getElem? (i := 16) rfl))) (by decide) (t := .int) (t' := (.array .long)) (by decide) (by decide)))
  have Z0 := Nat.le_trans Z0 (Keep.of_wr W2).1
  have KK := KK.wr W2 (Or.inl (List.mem_of_getElem? (i := 0) rfl))
  have NN := Fr.snoc X2 NN g_a1
  show own_Go p.tables e below _ T2 (mkF m 9 #[.val (.ref a1), .val (.ref a2), .val (.int p3), .val (.int p4)] [])
  refine own_go (T' := T2) (g' := (mkF m 11 #[.val (.ref a1), .val (.ref a2), .val (.int p3), .val (.int p4)] [(.int p3), (.ref a1)])) (fun t k => ?_) ?_
  · show Steps p.tables e below (T2.setTop (mkF m 9 #[.val (.ref a1), .val (.ref a2), .val (.int p3), .val (.int p4)] [])) _
    refine XS.aloadN X2.here hx rfl (hb hby d2_9) rfl rfl ?_
    show Steps p.tables e below (T2.setTop (mkF m 10 #[.val (.ref a1), .val (.ref a2), .val (.int p3), .val (.int p4)] [(.ref a1)])) _
    refine XS.iloadN X2.here hx rfl (hb hby d2_10) rfl ?_
    exact k
  obtain ⟨T3, h3, X3, e3, W3, st3⟩ := putF X2 hx hZ hown (host := "") (Or.inl (hw _ (List.mem_of_getElem? (i := 17) rfl))) Via.refl e2 F_a1_size E_a1 (Or.inr ⟨(hw _ (List.mem_of_getElem? (i := 18) rfl)), rfl, hnm⟩) (hw _ (List.mem_of_getElem? (i := 2) rfl)) (ty := .int) (by decide) rfl rfl (g := (mkF m 11 #[.val (.ref a1), .val (.ref a2), .val (.int p3), .val (.int p4)] [(.int p3), (.ref a1)])) rfl rfl (hb hby d2_11)
  refine own_go st3 ?_
  have E_a1 := E_a1.wr W3
  have F_a1_words := F_a1_words.other W3 (Or.inr (slot_ne (Or.inr (hw _ (List.mem_of_getElem? (i := 16) rfl))) (Or.inr (hw _ (List.mem_of_getElem? (i := 18) rfl))) (by decide) (t := (.array .long)) (t' := .int) (by decide) (by decide)))
  have F_a1_size := F_a1_size.same W3
  have F_a1_count := F_a1_count.other W3 (Or.inr (slot_ne (Or.inl (hw _ (List.mem_of_getElem? (i := 20) rfl))) (Or.inr (hw _ (List.mem_of_getElem? (i := 18) rfl))) (by decide) (t := .int) (t' := .int) (by decide) (by decide)))
  have Z0 := Nat.le_trans Z0 (Keep.of_wr W3).1
  have KK := KK.wr W3 (Or.inl (List.mem_of_getElem? (i := 0) rfl))
  have NN := Fr.snoc X3 NN g_a1
  show own_Go p.tables e below _ T3 (mkF m 14 #[.val (.ref a1), .val (.ref a2), .val (.int p3), .val (.int p4)] [])
  refine own_go (T' := T3) (g' := (mkF m 16 #[.val (.ref a1), .val (.ref a2), .val (.int p3), .val (.int p4)] [(.int p4), (.ref a1)])) (fun t k => ?_) ?_
  · show Steps p.tables e below (T3.setTop (mkF m 14 #[.val (.ref a1), .val (.ref a2), .val (.int p3), .val (.int p4)] [])) _
    refine XS.aloadN X3.here hx rfl (hb hby d2_14) rfl rfl ?_
    show Steps p.tables e below (T3.setTop (mkF m 15 #[.val (.ref a1), .val (.ref a2), .val (.int p3), .val (.int p4)] [(.ref a1)])) _
    refine XS.iloadN X3.here hx rfl (hb hby d2_15) rfl ?_
    exact k
  obtain ⟨T4, h4, X4, e4, W4, st4⟩ := putF X3 hx hZ hown (host := "") (Or.inl (hw _ (List.mem_of_getElem? (i := 19) rfl))) Via.refl e3 F_a1_count E_a1 (Or.inl (hw _ (List.mem_of_getElem? (i := 20) rfl))) (hw _ (List.mem_of_getElem? (i := 2) rfl)) (ty := .int) (by decide) rfl rfl (g := (mkF m 16 #[.val (.ref a1), .val (.ref a2), .val (.int p3), .val (.int p4)] [(.int p4), (.ref a1)])) rfl rfl (hb hby d2_16)
  refine own_go st4 ?_
  have E_a1 := E_a1.wr W4
  have F_a1_words := F_a1_words.other W4 (Or.inr (slot_ne (Or.inr (hw _ (List.mem_of_getElem? (i := 16) rfl))) (Or.inl (hw _ (List.mem_of_getElem? (i := 20) rfl))) (by decide) (t := (.array .long)) (t' := .int) (by decide) (by decide)))
  have F_a1_size := F_a1_size.other W4 (Or.inr (slot_ne (Or.inr (hw _ (List.mem_of_getElem? (i := 18) rfl))) (Or.inl (hw _ (List.mem_of_getElem? (i := 20) rfl))) (by decide) (t := .int) (t' := .int) (by decide) (by decide)))
  have F_a1_count := F_a1_count.same W4
  have Z0 := Nat.le_trans Z0 (Keep.of_wr W4).1
  have KK := KK.wr W4 (Or.inl (List.mem_of_getElem? (i := 0) rfl))
  have NN := Fr.snoc X4 NN g_a1
  show own_Go p.tables e below _ T4 (mkF m 19 #[.val (.ref a1), .val (.ref a2), .val (.int p3), .val (.int p4)] [])
  obtain ⟨fs, hr, hrun, hended, hW, hsame⟩ := X4.leave (v := none) (fun _ => rfl)
  refine ⟨_, _, ?_, hrun, hended, _, _, rfl, ?_, ⟨_, rfl⟩, hW, hsame.mono (by decide) (by decide)⟩
  · exact X4.returnOut hx Bd.returns (hb hby d2_19) hr
  · show Q2 Z a1 a2 p3 p4 u_words_a1 u_size_a1 u_count_a1 h0 n0 _ T4.heap _
    rw [e4]
    exact ⟨rfl, NN, KK, E_a1, F_a1_words, F_a1_size, F_a1_count⟩
theorem d1_0 : decode prog_3_method_1_code 0 = .ok (.aload_n 0, 1) := by decide +kernel
theorem d1_1 : decode prog_3_method_1_code 1 = .ok (.sipush 2048, 3) := by decide +kernel
theorem d1_4 : decode prog_3_method_1_code 4 = .ok (.newarray .long, 2) := by decide +kernel
theorem d1_6 : decode prog_3_method_1_code 6 = .ok (.ldc 5, 2) := by decide +kernel
theorem d1_8 : decode prog_3_method_1_code 8 = .ok (.iconst 0, 1) := by decide +kernel
theorem d1_9 : decode prog_3_method_1_code 9 = .ok (.invokespecial 6, 3) := by decide +kernel
theorem d1_12 : decode prog_3_method_1_code 12 = .ok (.return_, 1) := by decide +kernel
theorem pd_1 : parseMethodDescriptor "([JII)V" = some ⟨[(.array .long), .int, .int], none⟩ := by decide +kernel
theorem ef_1 (m : MethodId) (a1 : Addr) : entryFrame m #[(.ref a1)] 1 = mkF m 0 #[.val (.ref a1)] [] := by first | (simp [entryFrame, mkF, argsToLocals, Value.category]; done) | rfl
def Q1 (Z : State) (a1 : Addr) (u_words_a1 : Value) (u_size_a1 : Value) (u_count_a1 : Value) (h0 : Heap) (n0 : Nat) (v : Option Value) (h : Heap) (L : List Loc) : Prop := ∃ (b1 : Addr), ∃ (k1 : ClassId), v = none ∧ Fr n0 L ∧ Keep h0 h [a1] ∧ Exa Z h a1 "com/example/capd/capd/status/Bitstring" ∧ Fld Z h a1 "com/example/capd/capd/status/Bitstring" "words" "[J" (.ref b1) ∧ Fld Z h a1 "com/example/capd/capd/status/Bitstring" "size" "I" (.int (131072 : Int32)) ∧ Fld Z h a1 "com/example/capd/capd/status/Bitstring" "count" "I" (.int (0 : Int32)) ∧ n0 ≤ b1 ∧ h0.size ≤ b1 ∧ Exa Z h b1 "[J" ∧ Arv Z h b1 k1 .long (2048 : Int32) (own_ls (fun _ => 0)) (.long (0 : Int64))
set_option maxRecDepth 65536 in
set_option maxHeartbeats 40000000 in
theorem rm1 (l : Launch) (Z : State) (a0 : Array Value) (hw : ∀ d ∈ tables_1, d.before a0 Z = true) (ws : List Jvm.Cond) (a1 : Addr) (u_words_a1 : Value) (u_size_a1 : Value) (u_count_a1 : Value) (h0 : Heap) (n0 : Nat) (Z0 : n0 ≤ h0.size) (E_a1 : Exa Z h0 a1 "com/example/capd/capd/status/Bitstring") (F_a1_words : Fld Z h0 a1 "com/example/capd/capd/status/Bitstring" "words" "[J" u_words_a1) (g_a1 : n0 ≤ a1) (F_a1_size : Fld Z h0 a1 "com/example/capd/capd/status/Bitstring" "size" "I" u_size_a1) (F_a1_count : Fld Z h0 a1 "com/example/capd/capd/status/Bitstring" "count" "I" u_count_a1) :
    MetFree l (⟨"com/example/capd/capd/status/Bitstring", "<init>", "()V"⟩ : MethodName) (head1 (Jvm.Cond.code (⟨"com/example/capd/capd/status/Bitstring", "<init>", "()V"⟩ : MethodName) prog_3_method_1_code 1 none :: ws) ({ frames := 2, cells := 1, slots := 2048, locals := 27 } : Room)) (fun a U => a = #[(.ref a1)] ∧ Z.Warmed39 U.vm ∧ U.heap = h0) (fun _ _ _ _ _ => True) (fun _ U o U' => ∃ v L, o = .returned v ∧ Q1 Z a1 u_words_a1 u_size_a1 u_count_a1 h0 n0 v U'.heap L ∧ FrameEnd U o U' L ({ frames := 2, cells := 1, slots := 2048, locals := 27 } : Room).cells ({ frames := 2, cells := 1, slots := 2048, locals := 27 } : Room).slots) := by
  refine MetFree.of_bodySF (plainFor_of_name pn_0) hisR ?_
  intro p e s m args below meth c s₁ Bd hml0 hP hK
  obtain ⟨rfl, hZ, hh⟩ := hP
  have hx := Bd.exec
  have hby := Bd.bytes
  have hml : c.maxLocals = 1 := hml0
  have hown : s.vm.findClass "com/example/capd/capd/status/Bitstring" = some m.cls := findClass_of_methodNamed Bd.named
  have hnm := (name_of_methodNamed Bd.named Bd.method).1
  have X0 : Stand p l e ({ frames := 2, cells := 1, slots := 2048, locals := 27 } : Room) s m #[(.ref a1)] below meth c s₁ [] 0 0 := Stand.of_body Bd
  have e0 : s₁.heap = h0 := by rw [← hh, Bd.state]; rfl
  have NN := Fr.nil n0
  have KK : Keep h0 h0 [a1] := Keep.refl h0 [a1]
  refine own_start (ef_1 m a1) ?_
  refine own_go (T' := s₁) (g' := (mkF m 4 #[.val (.ref a1)] [(.int (2048 : Int32)), (.ref a1)])) (fun t k => ?_) ?_
  · show Steps p.tables e below (s₁.setTop (mkF m 0 #[.val (.ref a1)] [])) _
    refine XS.aloadN X0.here hx rfl (hb hby d1_0) rfl rfl ?_
    show Steps p.tables e below (s₁.setTop (mkF m 1 #[.val (.ref a1)] [(.ref a1)])) _
    refine XS.sipush X0.here hx rfl (hb hby d1_1) ?_
    exact k
  obtain ⟨T1, h1, k1, X1, e1, E1, A1, AE1, st1⟩ := newPE X0 hx hZ (hw _ (List.mem_of_getElem? (i := 7) rfl)) e0 (g := (mkF m 4 #[.val (.ref a1)] [(.int (2048 : Int32)), (.ref a1)])) rfl (hb hby d1_4) rfl (by decide) (cap := 2048) (by decide) (by decide) (by decide) (by decide) (ad := "[J") rfl
  obtain ⟨b1, g1⟩ : ∃ z, z = h0.size := ⟨_, rfl⟩
  rw [← g1] at A1 AE1 st1
  have g_b1 : n0 ≤ b1 := Nat.le_trans Z0 (Nat.le_of_eq g1.symm)
  have sz_b1 : h0.size ≤ b1 := Nat.le_trans KK.1 (Nat.le_of_eq g1.symm)
  have ne_a1_b1 : a1 ≠ b1 := Nat.ne_of_lt (Nat.lt_of_lt_of_le E_a1.lt (Nat.le_of_eq g1.symm))
  have E_a1 := E_a1.ext E1
  have F_a1_words := F_a1_words.ext E1
  have F_a1_size := F_a1_size.ext E1
  have F_a1_count := F_a1_count.ext E1
  have Z0 := Nat.le_trans Z0 E1.1
  have KK := KK.ext E1
  have E_b1 := AE1
  have V_b1 : Arv Z h1 b1 k1 .long (2048 : Int32) (own_ls (fun _ => 0)) (.long (0 : Int64)) := (Arv.new A1 (by decide)).pad (own_ls_pad)
  refine own_go st1 ?_
  show own_Go p.tables e below _ T1 (mkF m 6 #[.val (.ref a1)] [(.ref b1), (.ref a1)])
  refine own_go (T' := T1) (g' := (mkF m 9 #[.val (.ref a1)] [(.int (0 : Int32)), (.int (131072 : Int32)), (.ref b1), (.ref a1)])) (fun t k => ?_) ?_
  · show Steps p.tables e below (T1.setTop (mkF m 6 #[.val (.ref a1)] [(.ref b1), (.ref a1)])) _
    refine X1.ldcInt hx hown (mvT hZ (hw _ (List.mem_of_getElem? (i := 8) rfl))) (g := (mkF m 6 #[.val (.ref a1)] [(.ref b1), (.ref a1)])) rfl (hb hby d1_6) _ ?_
    show Steps p.tables e below (T1.setTop (mkF m 8 #[.val (.ref a1)] [(.int (131072 : Int32)), (.ref b1), (.ref a1)])) _
    refine XS.iconst X1.here hx rfl (hb hby d1_8) ?_
    exact k
  obtain ⟨_, _, ⟨T2, L2, k2, n2⟩, -, X2, ⟨Lc2, hQ2, l2, y2, z2⟩, st2⟩ := X1.specialBack hx (y := (⟨"com/example/capd/capd/status/Bitstring", "<init>", "([JII)V"⟩ : MethodName)) rfl hown (mvT hZ (hw _ (List.mem_of_getElem? (i := 9) rfl))) (mvT hZ (hw _ (List.mem_of_getElem? (i := 10) rfl))) (mvT hZ (hw _ (List.mem_of_getElem? (i := 11) rfl))) (by decide) (backOf (W := 0) (rm2 l Z a0 hw [] a1 b1 (131072 : Int32) (0 : Int32) u_words_a1 u_size_a1 u_count_a1 h1 n0 Z0 E_a1 F_a1_words g_a1 F_a1_size F_a1_count) hZ (hw _ (List.mem_of_getElem? (i := 11) rfl)) (hw _ (List.mem_of_getElem? (i := 3) rfl)) (by decide) (by decide)) (g := (mkF m 9 #[.val (.ref a1)] [(.int (0 : Int32)), (.int (131072 : Int32)), (.ref b1), (.ref a1)])) rfl (by rw [hml]; rfl) (Steps.refl _) (a := a1) (argsL := [(.ref b1), (.int (131072 : Int32)), (.int (0 : Int32))]) (rest := []) (lenOf pd_1 rfl) rfl (by show 2 * 0 + _ ≤ _; exact Nat.le_of_eq rfl) (hb hby d1_9) (fun _ _ => ⟨rfl, e1, (by decide : 1 + 0 ≤ _), (by decide : 2048 + 0 ≤ _)⟩)
  dsimp only [Pt.U, Pt.locs, Pt.cells, Pt.slots] at X2 l2 y2 z2 st2 hQ2
  subst l2 y2 z2
  obtain ⟨rfl, N2q, K2, Q2_0, Q2_1, Q2_2, Q2_3⟩ := hQ2
  have E_b1 := E_b1.keep K2
  have V_b1 := V_b1.keep K2 (ninS (Ne.symm ne_a1_b1) nin0)
  have E_a1 := Q2_0
  have F_a1_words := Q2_1
  have F_a1_size := Q2_2
  have F_a1_count := Q2_3
  have Z0 := Nat.le_trans Z0 K2.1
  have KK := KK.trans K2 (allS (Or.inl (List.mem_of_getElem? (i := 0) rfl)) all0)
  have NN := Fr.app NN N2q
  refine own_go (fun t k => st2.trans k) ?_
  show own_Go p.tables e below _ T2 (mkF m 12 #[.val (.ref a1)] [])
  obtain ⟨fs, hr, hrun, hended, hW, hsame⟩ := X2.leave (v := none) (fun _ => rfl)
  refine ⟨_, _, ?_, hrun, hended, _, _, rfl, ?_, ⟨_, rfl⟩, hW, hsame.mono (by decide) (by decide)⟩
  · exact X2.returnOut hx Bd.returns (hb hby d1_12) hr
  · show Q1 Z a1 u_words_a1 u_size_a1 u_count_a1 h0 n0 _ T2.heap _
    exact ⟨b1, k1, rfl, NN, KK, E_a1, F_a1_words, F_a1_size, F_a1_count, g_b1, sz_b1, E_b1, V_b1⟩
theorem d4_0 : decode prog_3_method_11_code 0 = .ok (.new 1, 3) := by decide +kernel
theorem d4_3 : decode prog_3_method_11_code 3 = .ok (.dup, 1) := by decide +kernel
theorem d4_4 : decode prog_3_method_11_code 4 = .ok (.aload_n 0, 1) := by decide +kernel
theorem d4_5 : decode prog_3_method_11_code 5 = .ok (.getfield 15, 3) := by decide +kernel
theorem d4_8 : decode prog_3_method_11_code 8 = .ok (.invokevirtual 142, 3) := by decide +kernel
theorem d4_11 : decode prog_3_method_11_code 11 = .ok (.checkcast 143, 3) := by decide +kernel
theorem d4_14 : decode prog_3_method_11_code 14 = .ok (.aload_n 0, 1) := by decide +kernel
theorem d4_15 : decode prog_3_method_11_code 15 = .ok (.getfield 19, 3) := by decide +kernel
theorem d4_18 : decode prog_3_method_11_code 18 = .ok (.aload_n 0, 1) := by decide +kernel
theorem d4_19 : decode prog_3_method_11_code 19 = .ok (.getfield 23, 3) := by decide +kernel
theorem d4_22 : decode prog_3_method_11_code 22 = .ok (.invokespecial 6, 3) := by decide +kernel
theorem d4_25 : decode prog_3_method_11_code 25 = .ok (.areturn, 1) := by decide +kernel
theorem ef_4 (m : MethodId) (a1 : Addr) : entryFrame m #[(.ref a1)] 1 = mkF m 0 #[.val (.ref a1)] [] := by first | (simp [entryFrame, mkF, argsToLocals, Value.category]; done) | rfl
def Q4 (Z : State) (a1 : Addr) (w_words_a1 : Addr) (k_w_words_a1 : ClassId) (f_w_words_a1 : Nat → Int64) (w_size_a1 : Int32) (w_count_a1 : Int32) (h0 : Heap) (n0 : Nat) (v : Option Value) (h : Heap) (L : List Loc) : Prop := ∃ (b1 : Addr), ∃ (b3 : Addr), v = some (.ref b1) ∧ Fr n0 L ∧ Keep h0 h [] ∧ n0 ≤ b1 ∧ h0.size ≤ b1 ∧ Exa Z h b1 "com/example/capd/capd/status/Bitstring" ∧ Fld Z h b1 "com/example/capd/capd/status/Bitstring" "words" "[J" (.ref b3) ∧ Fld Z h b1 "com/example/capd/capd/status/Bitstring" "size" "I" (.int w_size_a1) ∧ Fld Z h b1 "com/example/capd/capd/status/Bitstring" "count" "I" (.int w_count_a1) ∧ b1 ≠ b3 ∧ n0 ≤ b3 ∧ h0.size ≤ b3 ∧ Exa Z h b3 "[J" ∧ Arv Z h b3 k_w_words_a1 .long (2048 : Int32) (own_ls f_w_words_a1) (.long (0 : Int64))
set_option maxRecDepth 65536 in
set_option maxHeartbeats 40000000 in
theorem rm4 (l : Launch) (Z : State) (a0 : Array Value) (hw : ∀ d ∈ tables_1, d.before a0 Z = true) (ws : List Jvm.Cond) (a1 : Addr) (w_words_a1 : Addr) (k_w_words_a1 : ClassId) (f_w_words_a1 : Nat → Int64) (w_size_a1 : Int32) (w_count_a1 : Int32) (h0 : Heap) (n0 : Nat) (Z0 : n0 ≤ h0.size) (F_a1_words : Fld Z h0 a1 "com/example/capd/capd/status/Bitstring" "words" "[J" (.ref w_words_a1)) (V_w_words_a1 : Arv Z h0 w_words_a1 k_w_words_a1 .long (2048 : Int32) (own_ls f_w_words_a1) (.long (0 : Int64))) (E_w_words_a1 : Exa Z h0 w_words_a1 "[J") (F_a1_size : Fld Z h0 a1 "com/example/capd/capd/status/Bitstring" "size" "I" (.int w_size_a1)) (F_a1_count : Fld Z h0 a1 "com/example/capd/capd/status/Bitstring" "count" "I" (.int w_count_a1)) :
    MetFree l (⟨"com/example/capd/capd/status/Bitstring", "copy", "()Lcom/example/capd/capd/status/Bitstring;"⟩ : MethodName) (head1 (Jvm.Cond.code (⟨"com/example/capd/capd/status/Bitstring", "copy", "()Lcom/example/capd/capd/status/Bitstring;"⟩ : MethodName) prog_3_method_11_code 1 (some (.object "com/example/capd/capd/status/Bitstring")) :: ws) ({ frames := 2, cells := 2, slots := 2051, locals := 28 } : Room)) (fun a U => a = #[(.ref a1)] ∧ Z.Warmed39 U.vm ∧ U.heap = h0) (fun _ _ _ _ _ => True) (fun _ U o U' => ∃ v L, o = .returned v ∧ Q4 Z a1 w_words_a1 k_w_words_a1 f_w_words_a1 w_size_a1 w_count_a1 h0 n0 v U'.heap L ∧ FrameEnd U o U' L ({ frames := 2, cells := 2, slots := 2051, locals := 28 } : Room).cells ({ frames := 2, cells := 2, slots := 2051, locals := 28 } : Room).slots) := by
  refine MetFree.of_bodySF (plainFor_of_name pn_0) hisR ?_
  intro p e s m args below meth c s₁ Bd hml0 hP hK
  obtain ⟨rfl, hZ, hh⟩ := hP
  have hx := Bd.exec
  have hby := Bd.bytes
  have hml : c.maxLocals = 1 := hml0
  have hown : s.vm.findClass "com/example/capd/capd/status/Bitstring" = some m.cls := findClass_of_methodNamed Bd.named
  have hnm := (name_of_methodNamed Bd.named Bd.method).1
  have X0 : Stand p l e ({ frames := 2, cells := 2, slots := 2051, locals := 28 } : Room) s m #[(.ref a1)] below meth c s₁ [] 0 0 := Stand.of_body Bd
  have e0 : s₁.heap = h0 := by rw [← hh, Bd.state]; rfl
  have NN := Fr.nil n0
  have KK : Keep h0 h0 [] := Keep.refl h0 []
  refine own_start (ef_4 m a1) ?_
  obtain ⟨T1, h1, X1, e1, E1, A1, D1, -, st1⟩ := newO X0 hx hZ hown (hw _ (List.mem_of_getElem? (i := 26) rfl)) (hw _ (List.mem_of_getElem? (i := 2) rfl)) (hw _ (List.mem_of_getElem? (i := 3) rfl)) e0 (g := (mkF m 0 #[.val (.ref a1)] [])) rfl (hb hby d4_0) (by decide) (by decide)
  obtain ⟨b1, g1⟩ : ∃ z, z = h0.size := ⟨_, rfl⟩
  rw [← g1] at A1 D1 st1
  have g_b1 : n0 ≤ b1 := Nat.le_trans Z0 (Nat.le_of_eq g1.symm)
  have sz_b1 : h0.size ≤ b1 := Nat.le_trans KK.1 (Nat.le_of_eq g1.symm)
  have ne_a1_b1 : a1 ≠ b1 := Nat.ne_of_lt (Nat.lt_of_lt_of_le F_a1_words.lt (Nat.le_of_eq g1.symm))
  have ne_w_words_a1_b1 : w_words_a1 ≠ b1 := Nat.ne_of_lt (Nat.lt_of_lt_of_le V_w_words_a1.lt (Nat.le_of_eq g1.symm))
  have F_a1_words := F_a1_words.ext E1
  have V_w_words_a1 := V_w_words_a1.ext E1
  have E_w_words_a1 := E_w_words_a1.ext E1
  have F_a1_size := F_a1_size.ext E1
  have F_a1_count := F_a1_count.ext E1
  have Z0 := Nat.le_trans Z0 E1.1
  have KK := KK.ext E1
  have E_b1 := A1
  have F_b1_words : Fld Z h1 b1 "com/example/capd/capd/status/Bitstring" "words" "[J" .null := D1 (Or.inr (hw _ (List.mem_of_getElem? (i := 16) rfl))) (ty := (.array .long)) (by decide)
  have F_b1_size : Fld Z h1 b1 "com/example/capd/capd/status/Bitstring" "size" "I" (.int (0 : Int32)) := D1 (Or.inr (hw _ (List.mem_of_getElem? (i := 18) rfl))) (ty := .int) (by decide)
  have F_b1_count : Fld Z h1 b1 "com/example/capd/capd/status/Bitstring" "count" "I" (.int (0 : Int32)) := D1 (Or.inl (hw _ (List.mem_of_getElem? (i := 20) rfl))) (ty := .int) (by decide)
  refine own_go st1 ?_
  show own_Go p.tables e below _ T1 (mkF m 3 #[.val (.ref a1)] [(.ref b1)])
  refine own_go (T' := T1) (g' := (mkF m 5 #[.val (.ref a1)] [(.ref a1), (.ref b1), (.ref b1)])) (fun t k => ?_) ?_
  · show Steps p.tables e below (T1.setTop (mkF m 3 #[.val (.ref a1)] [(.ref b1)])) _
    refine XS.dup X1.here hx rfl (hb hby d4_3) rfl rfl ?_
    show Steps p.tables e below (T1.setTop (mkF m 4 #[.val (.ref a1)] [(.ref b1), (.ref b1)])) _
    refine XS.aloadN X1.here hx rfl (hb hby d4_4) rfl rfl ?_
    exact k
  obtain ⟨T2, X2, e2, st2⟩ := getF X1 hx hZ hown (host := "") (Or.inl (hw _ (List.mem_of_getElem? (i := 15) rfl))) Via.refl e1 F_a1_words (g := (mkF m 5 #[.val (.ref a1)] [(.ref a1), (.ref b1), (.ref b1)])) rfl rfl (hb hby d4_5)
  refine own_go st2 ?_
  show own_Go p.tables e below _ T2 (mkF m 8 #[.val (.ref a1)] [(.ref w_words_a1), (.ref b1), (.ref b1)])
  obtain ⟨T3, h3, X3, e3, E3, A3, AE3, st3⟩ := cloneH X2 hx hZ hown (hw _ (List.mem_of_getElem? (i := 27) rfl)) (hw _ (List.mem_of_getElem? (i := 28) rfl)) (hw _ (List.mem_of_getElem? (i := 32) rfl)) (hw _ (List.mem_of_getElem? (i := 30) rfl)) (hw _ (List.mem_of_getElem? (i := 31) rfl)) (hw _ (List.mem_of_getElem? (i := 33) rfl)) e2 V_w_words_a1.arh E_w_words_a1 (g := (mkF m 8 #[.val (.ref a1)] [(.ref w_words_a1), (.ref b1), (.ref b1)])) rfl (by rw [hml]; rfl) rfl (hb hby d4_8) (by decide) (W := 2) (by show 2 * 0 + _ ≤ _; exact Nat.le_of_eq rfl) (by decide) (cap := 2048) (by decide) (by decide) (by decide)
  obtain ⟨b3, g3⟩ : ∃ z, z = h1.size := ⟨_, rfl⟩
  rw [← g3] at A3 AE3 st3
  have g_b3 : n0 ≤ b3 := Nat.le_trans Z0 (Nat.le_of_eq g3.symm)
  have sz_b3 : h0.size ≤ b3 := Nat.le_trans KK.1 (Nat.le_of_eq g3.symm)
  have ne_a1_b3 : a1 ≠ b3 := Nat.ne_of_lt (Nat.lt_of_lt_of_le F_a1_words.lt (Nat.le_of_eq g3.symm))
  have ne_w_words_a1_b3 : w_words_a1 ≠ b3 := Nat.ne_of_lt (Nat.lt_of_lt_of_le V_w_words_a1.lt (Nat.le_of_eq g3.symm))
  have ne_b1_b3 : b1 ≠ b3 := Nat.ne_of_lt (Nat.lt_of_lt_of_le E_b1.lt (Nat.le_of_eq g3.symm))
  have F_a1_words := F_a1_words.ext E3
  have V_w_words_a1 := V_w_words_a1.ext E3
  have E_w_words_a1 := E_w_words_a1.ext E3
  have F_a1_size := F_a1_size.ext E3
  have F_a1_count := F_a1_count.ext E3
  have E_b1 := E_b1.ext E3
  have F_b1_words := F_b1_words.ext E3
  have F_b1_size := F_b1_size.ext E3
  have F_b1_count := F_b1_count.ext E3
  have Z0 := Nat.le_trans Z0 E3.1
  have KK := KK.ext E3
  have E_b3 := AE3
  have V_b3 : Arv Z h3 b3 k_w_words_a1 .long (2048 : Int32) (own_ls f_w_words_a1) (.long (0 : Int64)) := A3
  refine own_go st3 ?_
  show own_Go p.tables e below _ T3 (mkF m 11 #[.val (.ref a1)] [(.ref b3), (.ref b1), (.ref b1)])
  obtain ⟨T4, X4, e4, st4⟩ := castY X3 hx hZ hown (hw _ (List.mem_of_getElem? (i := 34) rfl)) e3 (Ins.self E_b3) (g := (mkF m 11 #[.val (.ref a1)] [(.ref b3), (.ref b1), (.ref b1)])) rfl rfl (hb hby d4_11)
  refine own_go st4 ?_
  show own_Go p.tables e below _ T4 (mkF m 14 #[.val (.ref a1)] [(.ref b3), (.ref b1), (.ref b1)])
  refine own_go (T' := T4) (g' := (mkF m 15 #[.val (.ref a1)] [(.ref a1), (.ref b3), (.ref b1), (.ref b1)])) (fun t k => ?_) ?_
  · show Steps p.tables e below (T4.setTop (mkF m 14 #[.val (.ref a1)] [(.ref b3), (.ref b1), (.ref b1)])) _
    refine XS.aloadN X4.here hx rfl (hb hby d4_14) rfl rfl ?_
    exact k
  obtain ⟨T5, X5, e5, st5⟩ := getF X4 hx hZ hown (host := "") (Or.inl (hw _ (List.mem_of_getElem? (i := 17) rfl))) Via.refl e4 F_a1_size (g := (mkF m 15 #[.val (.ref a1)] [(.ref a1), (.ref b3), (.ref b1), (.ref b1)])) rfl rfl (hb hby d4_15)
  refine own_go st5 ?_
  show own_Go p.tables e below _ T5 (mkF m 18 #[.val (.ref a1)] [(.int w_size_a1), (.ref b3), (.ref b1), (.ref b1)])
  refine own_go (T' := T5) (g' := (mkF m 19 #[.val (.ref a1)] [(.ref a1), (.int w_size_a1), (.ref b3), (.ref b1), (.ref b1)])) (fun t k => ?_) ?_
  · show Steps p.tables e below (T5.setTop (mkF m 18 #[.val (.ref a1)] [(.int w_size_a1), (.ref b3), (.ref b1), (.ref b1)])) _
    refine XS.aloadN X5.here hx rfl (hb hby d4_18) rfl rfl ?_
    exact k
  obtain ⟨T6, X6, e6, st6⟩ := getF X5 hx hZ hown (host := "") (Or.inl (hw _ (List.mem_of_getElem? (i := 19) rfl))) Via.refl e5 F_a1_count (g := (mkF m 19 #[.val (.ref a1)] [(.ref a1), (.int w_size_a1), (.ref b3), (.ref b1), (.ref b1)])) rfl rfl (hb hby d4_19)
  refine own_go st6 ?_
  show own_Go p.tables e below _ T6 (mkF m 22 #[.val (.ref a1)] [(.int w_count_a1), (.int w_size_a1), (.ref b3), (.ref b1), (.ref b1)])
  obtain ⟨_, _, ⟨T7, L7, k7, n7⟩, -, X7, ⟨Lc7, hQ7, l7, y7, z7⟩, st7⟩ := X6.specialBack hx (y := (⟨"com/example/capd/capd/status/Bitstring", "<init>", "([JII)V"⟩ : MethodName)) rfl hown (mvT hZ (hw _ (List.mem_of_getElem? (i := 9) rfl))) (mvT hZ (hw _ (List.mem_of_getElem? (i := 10) rfl))) (mvT hZ (hw _ (List.mem_of_getElem? (i := 11) rfl))) (by decide) (backOf (W := 1) (rm2 l Z a0 hw [] b1 b3 w_size_a1 w_count_a1 .null (.int (0 : Int32)) (.int (0 : Int32)) h3 n0 Z0 E_b1 F_b1_words g_b1 F_b1_size F_b1_count) hZ (hw _ (List.mem_of_getElem? (i := 11) rfl)) (hw _ (List.mem_of_getElem? (i := 3) rfl)) (by decide) (by decide)) (g := (mkF m 22 #[.val (.ref a1)] [(.int w_count_a1), (.int w_size_a1), (.ref b3), (.ref b1), (.ref b1)])) rfl (by rw [hml]; rfl) (Steps.refl _) (a := b1) (argsL := [(.ref b3), (.int w_size_a1), (.int w_count_a1)]) (rest := [(.ref b1)]) (lenOf pd_1 rfl) rfl (by show 2 * 0 + _ ≤ _; exact Nat.le_of_eq rfl) (hb hby d4_22) (fun _ _ => ⟨rfl, e6, (by decide : 2 + 0 ≤ _), (by decide : 2051 + 0 ≤ _)⟩)
  dsimp only [Pt.U, Pt.locs, Pt.cells, Pt.slots] at X7 l7 y7 z7 st7 hQ7
  subst l7 y7 z7
  obtain ⟨rfl, N7q, K7, Q7_0, Q7_1, Q7_2, Q7_3⟩ := hQ7
  have F_a1_words := F_a1_words.keep K7 (ninS ne_a1_b1 nin0)
  have V_w_words_a1 := V_w_words_a1.keep K7 (ninS ne_w_words_a1_b1 nin0)
  have E_w_words_a1 := E_w_words_a1.keep K7
  have F_a1_size := F_a1_size.keep K7 (ninS ne_a1_b1 nin0)
  have F_a1_count := F_a1_count.keep K7 (ninS ne_a1_b1 nin0)
  have E_b3 := E_b3.keep K7
  have V_b3 := V_b3.keep K7 (ninS (Ne.symm ne_b1_b3) nin0)
  have E_b1 := Q7_0
  have F_b1_words := Q7_1
  have F_b1_size := Q7_2
  have F_b1_count := Q7_3
  have Z0 := Nat.le_trans Z0 K7.1
  have KK := KK.trans K7 (allS (Or.inr sz_b1) all0)
  have NN := Fr.app NN N7q
  refine own_go (fun t k => st7.trans k) ?_
  show own_Go p.tables e below _ T7 (mkF m 25 #[.val (.ref a1)] [(.ref b1)])
  obtain ⟨fs, hr, hrun, hended, hW, hsame⟩ := X7.leave (v := some (.ref b1)) (fun h => by rw [Bd.returns] at h; cases h)
  refine ⟨_, _, ?_, hrun, hended, _, _, rfl, ?_, ⟨_, rfl⟩, hW, hsame.mono (by decide) (by decide)⟩
  · exact own_retR X7 hx Bd.returns rfl rfl (hb hby d4_25) hr
  · show Q4 Z a1 w_words_a1 k_w_words_a1 f_w_words_a1 w_size_a1 w_count_a1 h0 n0 _ T7.heap _
    exact ⟨b1, b3, rfl, NN, KK, g_b1, sz_b1, E_b1, F_b1_words, F_b1_size, F_b1_count, ne_b1_b3, g_b3, sz_b3, E_b3, V_b3⟩
theorem d5_0 : decode prog_3_method_5_code 0 = .ok (.aload_n 0, 1) := by decide +kernel
theorem d5_1 : decode prog_3_method_5_code 1 = .ok (.getfield 19, 3) := by decide +kernel
theorem d5_4 : decode prog_3_method_5_code 4 = .ok (.ireturn, 1) := by decide +kernel
theorem ef_5 (m : MethodId) (a1 : Addr) : entryFrame m #[(.ref a1)] 1 = mkF m 0 #[.val (.ref a1)] [] := by first | (simp [entryFrame, mkF, argsToLocals, Value.category]; done) | rfl
def r_5 (w_size_a1 : Int32) : Int32 := w_size_a1
def Q5 (Z : State) (a1 : Addr) (w_size_a1 : Int32) (h0 : Heap) (n0 : Nat) (v : Option Value) (h : Heap) (L : List Loc) : Prop := v = some (.int (r_5 w_size_a1)) ∧ Fr n0 L ∧ h = h0
set_option maxRecDepth 65536 in
set_option maxHeartbeats 40000000 in
theorem rm5 (l : Launch) (Z : State) (a0 : Array Value) (hw : ∀ d ∈ tables_1, d.before a0 Z = true) (ws : List Jvm.Cond) (a1 : Addr) (w_size_a1 : Int32) (h0 : Heap) (n0 : Nat) (Z0 : n0 ≤ h0.size) (F_a1_size : Fld Z h0 a1 "com/example/capd/capd/status/Bitstring" "size" "I" (.int w_size_a1)) :
    MetFree l (⟨"com/example/capd/capd/status/Bitstring", "size", "()I"⟩ : MethodName) (head1 (Jvm.Cond.code (⟨"com/example/capd/capd/status/Bitstring", "size", "()I"⟩ : MethodName) prog_3_method_5_code 1 (some .int) :: ws) ({ frames := 0, cells := 0, slots := 0, locals := 0 } : Room)) (fun a U => a = #[(.ref a1)] ∧ Z.Warmed39 U.vm ∧ U.heap = h0) (fun _ _ _ _ _ => True) (fun _ U o U' => ∃ v L, o = .returned v ∧ Q5 Z a1 w_size_a1 h0 n0 v U'.heap L ∧ FrameEnd U o U' L ({ frames := 0, cells := 0, slots := 0, locals := 0 } : Room).cells ({ frames := 0, cells := 0, slots := 0, locals := 0 } : Room).slots) := by
  refine MetFree.of_bodySF (plainFor_of_name pn_0) hisR ?_
  intro p e s m args below meth c s₁ Bd hml0 hP hK
  obtain ⟨rfl, hZ, hh⟩ := hP
  have hx := Bd.exec
  have hby := Bd.bytes
  have hml : c.maxLocals = 1 := hml0
  have hown : s.vm.findClass "com/example/capd/capd/status/Bitstring" = some m.cls := findClass_of_methodNamed Bd.named
  have hnm := (name_of_methodNamed Bd.named Bd.method).1
  have X0 : Stand p l e ({ frames := 0, cells := 0, slots := 0, locals := 0 } : Room) s m #[(.ref a1)] below meth c s₁ [] 0 0 := Stand.of_body Bd
  have e0 : s₁.heap = h0 := by rw [← hh, Bd.state]; rfl
  have NN := Fr.nil n0
  have KK : Keep h0 h0 [] := Keep.refl h0 []
  refine own_start (ef_5 m a1) ?_
  refine own_go (T' := s₁) (g' := (mkF m 1 #[.val (.ref a1)] [(.ref a1)])) (fun t k => ?_) ?_
  · show Steps p.tables e below (s₁.setTop (mkF m 0 #[.val (.ref a1)] [])) _
    refine XS.aloadN X0.here hx rfl (hb hby d5_0) rfl rfl ?_
    exact k
  obtain ⟨T1, X1, e1, st1⟩ := getF X0 hx hZ hown (host := "") (Or.inl (hw _ (List.mem_of_getElem? (i := 17) rfl))) Via.refl e0 F_a1_size (g := (mkF m 1 #[.val (.ref a1)] [(.ref a1)])) rfl rfl (hb hby d5_1)
  refine own_go st1 ?_
  show own_Go p.tables e below _ T1 (mkF m 4 #[.val (.ref a1)] [(.int w_size_a1)])
  obtain ⟨fs, hr, hrun, hended, hW, hsame⟩ := X1.leave (v := some (.int w_size_a1)) (fun h => by rw [Bd.returns] at h; cases h)
  refine ⟨_, _, ?_, hrun, hended, _, _, rfl, ?_, ⟨_, rfl⟩, hW, hsame.mono (by decide) (by decide)⟩
  · exact retI X1 hx Bd.returns (hb hby d5_4) hr
  · show Q5 Z a1 w_size_a1 h0 n0 _ T1.heap _
    rw [e1]
    exact ⟨rfl, NN, rfl⟩
theorem d6_0 : decode prog_3_method_9_code 0 = .ok (.aload_n 0, 1) := by decide +kernel
theorem d6_1 : decode prog_3_method_9_code 1 = .ok (.getfield 23, 3) := by decide +kernel
theorem d6_4 : decode prog_3_method_9_code 4 = .ok (.ireturn, 1) := by decide +kernel
theorem ef_6 (m : MethodId) (a1 : Addr) : entryFrame m #[(.ref a1)] 1 = mkF m 0 #[.val (.ref a1)] [] := by first | (simp [entryFrame, mkF, argsToLocals, Value.category]; done) | rfl
def r_6 (w_count_a1 : Int32) : Int32 := w_count_a1
def Q6 (Z : State) (a1 : Addr) (w_count_a1 : Int32) (h0 : Heap) (n0 : Nat) (v : Option Value) (h : Heap) (L : List Loc) : Prop := v = some (.int (r_6 w_count_a1)) ∧ Fr n0 L ∧ h = h0
set_option maxRecDepth 65536 in
set_option maxHeartbeats 40000000 in
theorem rm6 (l : Launch) (Z : State) (a0 : Array Value) (hw : ∀ d ∈ tables_1, d.before a0 Z = true) (ws : List Jvm.Cond) (a1 : Addr) (w_count_a1 : Int32) (h0 : Heap) (n0 : Nat) (Z0 : n0 ≤ h0.size) (F_a1_count : Fld Z h0 a1 "com/example/capd/capd/status/Bitstring" "count" "I" (.int w_count_a1)) :
    MetFree l (⟨"com/example/capd/capd/status/Bitstring", "count", "()I"⟩ : MethodName) (head1 (Jvm.Cond.code (⟨"com/example/capd/capd/status/Bitstring", "count", "()I"⟩ : MethodName) prog_3_method_9_code 1 (some .int) :: ws) ({ frames := 0, cells := 0, slots := 0, locals := 0 } : Room)) (fun a U => a = #[(.ref a1)] ∧ Z.Warmed39 U.vm ∧ U.heap = h0) (fun _ _ _ _ _ => True) (fun _ U o U' => ∃ v L, o = .returned v ∧ Q6 Z a1 w_count_a1 h0 n0 v U'.heap L ∧ FrameEnd U o U' L ({ frames := 0, cells := 0, slots := 0, locals := 0 } : Room).cells ({ frames := 0, cells := 0, slots := 0, locals := 0 } : Room).slots) := by
  refine MetFree.of_bodySF (plainFor_of_name pn_0) hisR ?_
  intro p e s m args below meth c s₁ Bd hml0 hP hK
  obtain ⟨rfl, hZ, hh⟩ := hP
  have hx := Bd.exec
  have hby := Bd.bytes
  have hml : c.maxLocals = 1 := hml0
  have hown : s.vm.findClass "com/example/capd/capd/status/Bitstring" = some m.cls := findClass_of_methodNamed Bd.named
  have hnm := (name_of_methodNamed Bd.named Bd.method).1
  have X0 : Stand p l e ({ frames := 0, cells := 0, slots := 0, locals := 0 } : Room) s m #[(.ref a1)] below meth c s₁ [] 0 0 := Stand.of_body Bd
  have e0 : s₁.heap = h0 := by rw [← hh, Bd.state]; rfl
  have NN := Fr.nil n0
  have KK : Keep h0 h0 [] := Keep.refl h0 []
  refine own_start (ef_6 m a1) ?_
  refine own_go (T' := s₁) (g' := (mkF m 1 #[.val (.ref a1)] [(.ref a1)])) (fun t k => ?_) ?_
  · show Steps p.tables e below (s₁.setTop (mkF m 0 #[.val (.ref a1)] [])) _
    refine XS.aloadN X0.here hx rfl (hb hby d6_0) rfl rfl ?_
    exact k
  obtain ⟨T1, X1, e1, st1⟩ := getF X0 hx hZ hown (host := "") (Or.inl (hw _ (List.mem_of_getElem? (i := 19) rfl))) Via.refl e0 F_a1_count (g := (mkF m 1 #[.val (.ref a1)] [(.ref a1)])) rfl rfl (hb hby d6_1)
  refine own_go st1 ?_
  show own_Go p.tables e below _ T1 (mkF m 4 #[.val (.ref a1)] [(.int w_count_a1)])
  obtain ⟨fs, hr, hrun, hended, hW, hsame⟩ := X1.leave (v := some (.int w_count_a1)) (fun h => by rw [Bd.returns] at h; cases h)
  refine ⟨_, _, ?_, hrun, hended, _, _, rfl, ?_, ⟨_, rfl⟩, hW, hsame.mono (by decide) (by decide)⟩
  · exact retI X1 hx Bd.returns (hb hby d6_4) hr
  · show Q6 Z a1 w_count_a1 h0 n0 _ T1.heap _
    rw [e1]
    exact ⟨rfl, NN, rfl⟩
def own_pl_m (n : Nat) : Int64 := (((-9223372036854775808 : Int64).toUInt64 >>> ((Int32.ofNat n) &&& 0x3f).toInt64.toUInt64).toInt64)
set_option maxRecDepth 65536 in
theorem own_pl_mm : ∀ a b : Fin 64, (own_pl_m a.val &&& own_pl_m b.val) = if a = b then own_pl_m a.val else 0 := by decide +kernel
set_option maxRecDepth 65536 in
theorem own_pl_mz : ∀ a : Fin 64, ¬ own_pl_m a.val = 0 := by decide +kernel
theorem own_pl_or (a b c : Int64) : (a ||| b) &&& c = (a &&& c) ||| (b &&& c) := by
  apply Int64.toBitVec_inj.mp
  apply BitVec.eq_of_getLsbD_eq
  intro i hi
  simp only [Int64.toBitVec_and, Int64.toBitVec_or, BitVec.getLsbD_and, BitVec.getLsbD_or]
  cases a.toBitVec.getLsbD i <;> cases b.toBitVec.getLsbD i <;> cases c.toBitVec.getLsbD i <;> rfl
theorem own_pl_or0 (a : Int64) : a ||| 0 = a := by
  apply Int64.toBitVec_inj.mp
  rw [Int64.toBitVec_or]
  exact BitVec.or_zero
theorem own_pl_ornz (a b : Int64) (h : ¬ b = 0) : ¬ (a &&& b) ||| b = 0 := by
  intro q
  apply h
  apply Int64.toBitVec_inj.mp
  apply BitVec.eq_of_getLsbD_eq
  intro i hi
  have z := congrArg (fun t => (Int64.toBitVec t).getLsbD i) q
  simp only [Int64.toBitVec_and, Int64.toBitVec_or, BitVec.getLsbD_and, BitVec.getLsbD_or] at z
  rw [← z]
  cases a.toBitVec.getLsbD i <;> cases b.toBitVec.getLsbD i <;> rfl
theorem own_pl_ix (i : Int32) (h0 : ¬ (i < (0 : Int32))) (h1 : i < (131072 : Int32)) : 0 ≤ i.toInt ∧ i.toInt < 131072 ∧ (i / (64 : Int32)).toNatClampNeg = (i.toInt / 64).toNat ∧ r_10 i = own_pl_m (i.toInt % 64).toNat ∧ (i / (64 : Int32)).toInt = i.toInt / 64 := by
  rw [Int32.lt_iff_toInt_lt] at h0 h1
  have k0 : (0 : Int32).toInt = 0 := rfl
  have k1 : (131072 : Int32).toInt = 131072 := rfl
  have d := (c_idiv i (64 : Int32) 64 rfl (by decide)).1 (by omega)
  have m := (c_irem i (64 : Int32) 64 rfl).1 (by omega)
  refine ⟨by omega, by omega, ?_, ?_, d⟩
  · show (i / (64 : Int32)).toInt.toNat = _
    rw [d]
  · have e : i % (64 : Int32) = Int32.ofNat (i.toInt % 64).toNat := by
      apply Int32.toInt_inj.mp
      rw [m, Int32.toInt_ofNat_of_lt (by omega)]
      omega
    simp only [r_10, own_pl_m, e]
theorem own_pl_q (i : Int32) (h0 : ¬ (i < (0 : Int32))) (h1 : i < (131072 : Int32)) : ¬ ((i / (64 : Int32)) < (0 : Int32)) ∧ (i / (64 : Int32)) < (2048 : Int32) := by
  have x := own_pl_ix i h0 h1
  have k0 : (0 : Int32).toInt = 0 := rfl
  have k1 : (2048 : Int32).toInt = 2048 := rfl
  rw [Int32.lt_iff_toInt_lt, Int32.lt_iff_toInt_lt]
  omega
theorem own_pl_g (k s : Int32) (w : Nat → Int64) : r_7 k s w = if ((w ((k / (64 : Int32))).toNatClampNeg) &&& (r_10 k)) = (0 : Int64) then (0 : Int32) else (1 : Int32) := by
  simp only [r_7]
  by_cases h : ((w ((k / (64 : Int32))).toNatClampNeg) &&& (r_10 k)) = (0 : Int64)
  · simp only [if_pos h]; rfl
  · simp only [if_neg h]; rfl
theorem own_pl_gz (k s : Int32) : r_7 k s (fun _ => 0) = 0 := by
  rw [own_pl_g, if_pos]
  exact Int64.zero_and
theorem own_pl_gs (k i s c : Int32) (w : Nat → Int64) (k0 : ¬ (k < (0 : Int32))) (k1 : k < (131072 : Int32)) (i0 : ¬ (i < (0 : Int32))) (i1 : i < (131072 : Int32)) : r_7 k s (u_11_w_words_a1_fn i s w c) = if k = i then 1 else r_7 k s w := by
  obtain ⟨ka, kb, kd, km, -⟩ := own_pl_ix k k0 k1
  obtain ⟨ia, ib, id, im, -⟩ := own_pl_ix i i0 i1
  simp only [u_11_w_words_a1_fn]
  by_cases u : r_7 i s w = (0 : Int32)
  · rw [if_pos u]
    by_cases e : k = i
    · rw [if_pos e, e, own_pl_g, if_neg]
      simp only [own_up, if_pos]
      rw [own_pl_or, im, own_pl_mm ⟨(i.toInt % 64).toNat, by omega⟩ ⟨(i.toInt % 64).toNat, by omega⟩, if_pos rfl]
      exact own_pl_ornz _ _ (own_pl_mz ⟨(i.toInt % 64).toNat, by omega⟩)
    · rw [if_neg e, own_pl_g, own_pl_g]
      by_cases f : (k / (64 : Int32)).toNatClampNeg = (i / (64 : Int32)).toNatClampNeg
      · simp only [own_up, if_pos f]
        have ne : ¬ ((⟨(i.toInt % 64).toNat, by omega⟩ : Fin 64) = ⟨(k.toInt % 64).toNat, by omega⟩) := by
          intro q
          have q' := congrArg Fin.val q
          simp only at q'
          apply e
          apply Int32.toInt_inj.mp
          rw [kd, id] at f
          omega
        rw [own_pl_or, im, km, own_pl_mm ⟨(i.toInt % 64).toNat, by omega⟩ ⟨(k.toInt % 64).toNat, by omega⟩, if_neg ne, own_pl_or0, f]
      · simp only [own_up, if_neg f]
  · rw [if_neg u]
    by_cases e : k = i
    · rw [if_pos e, e]
      rw [own_pl_g] at u ⊢
      by_cases z : ((w ((i / (64 : Int32))).toNatClampNeg) &&& (r_10 i)) = (0 : Int64)
      · exact absurd (if_pos z) u
      · exact if_neg z
    · rw [if_neg e]
theorem own_pl_mask (x y : Int32) (h : y = (x &&& (131071 : Int32))) : ¬ (y < (0 : Int32)) ∧ y < (131072 : Int32) := by
  have m := c_mask x (131071 : Int32) 17 (by decide) (by decide)
  rw [← h] at m
  have k0 : (0 : Int32).toInt = 0 := rfl
  have k4 : (131072 : Int32).toInt = 131072 := rfl
  simp only [Int32.lt_iff_toInt_lt]
  omega
theorem own_pl_modn (x y : Int32) (h : y = ((x &&& (2147483647 : Int32)) % (131072 : Int32))) : ¬ (y < (0 : Int32)) ∧ y < (131072 : Int32) := by
  have m := c_mask x (2147483647 : Int32) 31 (by decide) (by decide)
  have g := (c_irem (x &&& (2147483647 : Int32)) (131072 : Int32) 131072 rfl).1 (by omega)
  rw [← h] at g
  have k0 : (0 : Int32).toInt = 0 := rfl
  have k4 : (131072 : Int32).toInt = 131072 := rfl
  simp only [Int32.lt_iff_toInt_lt]
  omega
theorem own_pl_ct (i s c : Int32) (w : Nat → Int64) : u_11_a1_count i s w c = if r_7 i s w = (0 : Int32) then (c + (1 : Int32)) else c := rfl
theorem own_pl_r6 (c : Int32) : r_6 c = c := rfl
theorem own_pl_sym (a b : Int32) (P : Prop) : (a = b → P) → (b = a → P) := fun h q => h q.symm
theorem pn_3 : plainName "com/example/capd/capd/status/BitstringCopyPinLaw" = true := by first | (simp [plainName, overriddenIn]; done) | decide +kernel
theorem pd_0 : parseMethodDescriptor "()V" = some ⟨[], none⟩ := by decide +kernel
theorem pd_2 : parseMethodDescriptor "()Lcom/example/capd/capd/status/Bitstring;" = some ⟨[], some (.object "com/example/capd/capd/status/Bitstring")⟩ := by decide +kernel
theorem pd_4 : parseMethodDescriptor "()I" = some ⟨[], some .int⟩ := by decide +kernel
theorem pd_9 : parseMethodDescriptor "(I)V" = some ⟨[.int], none⟩ := by decide +kernel
theorem ef_0 (m : MethodId) (p1 : Int32) (p2 : Int32) (p3 : Int32) (p4 : Int32) (p5 : Int32) : entryFrame m #[(.int p1), (.int p2), (.int p3), (.int p4), (.int p5)] maxLocals = mkF m 0 #[.val (.int p1), .val (.int p2), .val (.int p3), .val (.int p4), .val (.int p5), .unset, .unset, .unset, .unset, .unset, .unset, .unset, .unset, .unset, .unset, .unset, .unset, .unset, .unset] [] := by first | (simp [entryFrame, mkF, argsToLocals, Value.category, maxLocals]; done) | rfl
def Q0 (Z : State) (p1 : Int32) (p2 : Int32) (p3 : Int32) (p4 : Int32) (p5 : Int32) (h0 : Heap) (n0 : Nat) (v : Option Value) (h : Heap) (L : List Loc) : Prop := v = some (.int 1) ∧ Fr n0 L
theorem own_at_hs208_tt (p5 : Int32) (j5 : Int32) (j7 : Int32) (hj5 : j5 = (if (p5 &&& (1 : Int32)) = (0 : Int32) then (0 : Int32) else (1 : Int32))) (hj7 : j7 = (if (p5 &&& (2 : Int32)) = (0 : Int32) then (0 : Int32) else (1 : Int32))) (hc63_3 : j5 = (0 : Int32)) (hc75_4 : j7 = (0 : Int32)) : (r_5 (131072 : Int32)) = (131072 : Int32) := by
  rfl
theorem own_at_hs230_tt (p5 : Int32) (j5 : Int32) (j7 : Int32) (j11 : Int32) (hj5 : j5 = (if (p5 &&& (1 : Int32)) = (0 : Int32) then (0 : Int32) else (1 : Int32))) (hj7 : j7 = (if (p5 &&& (2 : Int32)) = (0 : Int32) then (0 : Int32) else (1 : Int32))) (hj11 : j11 = ((0 : Int32) + (0 : Int32))) (hc63_3 : j5 = (0 : Int32)) (hc75_4 : j7 = (0 : Int32)) (hs208 : (r_5 (131072 : Int32)) = (131072 : Int32)) : (r_6 (0 : Int32)) = j11 := by
  clear hs208
  simp only [own_pl_ct, own_pl_r6, own_pl_gz]
  all_goals (
    clear hc75_4 hc63_3 hj7 hj5
    subst hj11
    first | (simp_all; done) | (simp_all [eq_comm]; done) | rfl | decide)
theorem own_at_hhhhc1_3_5_249_tt (p1 : Int32) (p5 : Int32) (j1 : Int32) (j5 : Int32) (j7 : Int32) (j11 : Int32) (hj1 : j1 = (p1 &&& (131071 : Int32))) (hj5 : j5 = (if (p5 &&& (1 : Int32)) = (0 : Int32) then (0 : Int32) else (1 : Int32))) (hj7 : j7 = (if (p5 &&& (2 : Int32)) = (0 : Int32) then (0 : Int32) else (1 : Int32))) (hj11 : j11 = ((0 : Int32) + (0 : Int32))) (hc63_3 : j5 = (0 : Int32)) (hc75_4 : j7 = (0 : Int32)) (hs208 : (r_5 (131072 : Int32)) = (131072 : Int32)) (hs230 : (r_6 (0 : Int32)) = j11) : ¬ (j1 < (0 : Int32)) := by
  exact (own_pl_mask _ _ hj1).1
theorem own_at_hhhhc6_3_5_249_tt (p1 : Int32) (p5 : Int32) (j1 : Int32) (j5 : Int32) (j7 : Int32) (j11 : Int32) (hj1 : j1 = (p1 &&& (131071 : Int32))) (hj5 : j5 = (if (p5 &&& (1 : Int32)) = (0 : Int32) then (0 : Int32) else (1 : Int32))) (hj7 : j7 = (if (p5 &&& (2 : Int32)) = (0 : Int32) then (0 : Int32) else (1 : Int32))) (hj11 : j11 = ((0 : Int32) + (0 : Int32))) (hc63_3 : j5 = (0 : Int32)) (hc75_4 : j7 = (0 : Int32)) (hs208 : (r_5 (131072 : Int32)) = (131072 : Int32)) (hs230 : (r_6 (0 : Int32)) = j11) (hhhhc1_3_5_249 : ¬ (j1 < (0 : Int32))) : j1 < (131072 : Int32) := by
  exact (own_pl_mask _ _ hj1).2
theorem own_at_hhlo17_249_tt (p1 : Int32) (p5 : Int32) (j1 : Int32) (j5 : Int32) (j7 : Int32) (j11 : Int32) (hj1 : j1 = (p1 &&& (131071 : Int32))) (hj5 : j5 = (if (p5 &&& (1 : Int32)) = (0 : Int32) then (0 : Int32) else (1 : Int32))) (hj7 : j7 = (if (p5 &&& (2 : Int32)) = (0 : Int32) then (0 : Int32) else (1 : Int32))) (hj11 : j11 = ((0 : Int32) + (0 : Int32))) (hc63_3 : j5 = (0 : Int32)) (hc75_4 : j7 = (0 : Int32)) (hs208 : (r_5 (131072 : Int32)) = (131072 : Int32)) (hs230 : (r_6 (0 : Int32)) = j11) (hhhhc1_3_5_249 : ¬ (j1 < (0 : Int32))) (hhhhc6_3_5_249 : j1 < (131072 : Int32)) : ¬ ((j1 / (64 : Int32)) < (0 : Int32)) := by
  exact (own_pl_q _ (own_pl_mask _ _ hj1).1 (own_pl_mask _ _ hj1).2).1
theorem own_at_hhhi17_249_tt (p1 : Int32) (p5 : Int32) (j1 : Int32) (j5 : Int32) (j7 : Int32) (j11 : Int32) (hj1 : j1 = (p1 &&& (131071 : Int32))) (hj5 : j5 = (if (p5 &&& (1 : Int32)) = (0 : Int32) then (0 : Int32) else (1 : Int32))) (hj7 : j7 = (if (p5 &&& (2 : Int32)) = (0 : Int32) then (0 : Int32) else (1 : Int32))) (hj11 : j11 = ((0 : Int32) + (0 : Int32))) (hc63_3 : j5 = (0 : Int32)) (hc75_4 : j7 = (0 : Int32)) (hs208 : (r_5 (131072 : Int32)) = (131072 : Int32)) (hs230 : (r_6 (0 : Int32)) = j11) (hhhhc1_3_5_249 : ¬ (j1 < (0 : Int32))) (hhhhc6_3_5_249 : j1 < (131072 : Int32)) (hhlo17_249 : ¬ ((j1 / (64 : Int32)) < (0 : Int32))) : (j1 / (64 : Int32)) < (2048 : Int32) := by
  exact (own_pl_q _ (own_pl_mask _ _ hj1).1 (own_pl_mask _ _ hj1).2).2
theorem own_at_hs254_tt (p1 : Int32) (p5 : Int32) (j1 : Int32) (j5 : Int32) (j7 : Int32) (j11 : Int32) (hj1 : j1 = (p1 &&& (131071 : Int32))) (hj5 : j5 = (if (p5 &&& (1 : Int32)) = (0 : Int32) then (0 : Int32) else (1 : Int32))) (hj7 : j7 = (if (p5 &&& (2 : Int32)) = (0 : Int32) then (0 : Int32) else (1 : Int32))) (hj11 : j11 = ((0 : Int32) + (0 : Int32))) (hc63_3 : j5 = (0 : Int32)) (hc75_4 : j7 = (0 : Int32)) (hs208 : (r_5 (131072 : Int32)) = (131072 : Int32)) (hs230 : (r_6 (0 : Int32)) = j11) (hhhhc1_3_5_249 : ¬ (j1 < (0 : Int32))) (hhhhc6_3_5_249 : j1 < (131072 : Int32)) (hhlo17_249 : ¬ ((j1 / (64 : Int32)) < (0 : Int32))) (hhhi17_249 : (j1 / (64 : Int32)) < (2048 : Int32)) : (r_7 j1 (131072 : Int32) (fun _ => 0)) = (0 : Int32) := by
  have rj1 := (own_pl_mask _ _ hj1)
  have g_j1_j1 := fun (s c : Int32) (w : Nat → Int64) => own_pl_gs j1 j1 s c w rj1.1 rj1.2 rj1.1 rj1.2
  clear hs208 hs230
  simp only [own_pl_ct, own_pl_r6, g_j1_j1, own_pl_gz]
  all_goals (
    clear g_j1_j1 rj1 hhhi17_249 hhlo17_249 hhhhc6_3_5_249 hhhhc1_3_5_249 hc75_4 hc63_3 hj7 hj5 hj1
    subst hj11
    first | (simp_all; done) | (simp_all [eq_comm]; done) | rfl | decide)
theorem own_at_hhhhc1_3_5_273_tt (p1 : Int32) (p3 : Int32) (p5 : Int32) (j1 : Int32) (j3 : Int32) (j5 : Int32) (j7 : Int32) (j11 : Int32) (hj1 : j1 = (p1 &&& (131071 : Int32))) (hj3 : j3 = (p3 &&& (131071 : Int32))) (hj5 : j5 = (if (p5 &&& (1 : Int32)) = (0 : Int32) then (0 : Int32) else (1 : Int32))) (hj7 : j7 = (if (p5 &&& (2 : Int32)) = (0 : Int32) then (0 : Int32) else (1 : Int32))) (hj11 : j11 = ((0 : Int32) + (0 : Int32))) (hc63_3 : j5 = (0 : Int32)) (hc75_4 : j7 = (0 : Int32)) (hs208 : (r_5 (131072 : Int32)) = (131072 : Int32)) (hs230 : (r_6 (0 : Int32)) = j11) (hhhhc1_3_5_249 : ¬ (j1 < (0 : Int32))) (hhhhc6_3_5_249 : j1 < (131072 : Int32)) (hhlo17_249 : ¬ ((j1 / (64 : Int32)) < (0 : Int32))) (hhhi17_249 : (j1 / (64 : Int32)) < (2048 : Int32)) (hs254 : (r_7 j1 (131072 : Int32) (fun _ => 0)) = (0 : Int32)) : ¬ (j3 < (0 : Int32)) := by
  exact (own_pl_mask _ _ hj3).1
theorem own_at_hhhhc6_3_5_273_tt (p1 : Int32) (p3 : Int32) (p5 : Int32) (j1 : Int32) (j3 : Int32) (j5 : Int32) (j7 : Int32) (j11 : Int32) (hj1 : j1 = (p1 &&& (131071 : Int32))) (hj3 : j3 = (p3 &&& (131071 : Int32))) (hj5 : j5 = (if (p5 &&& (1 : Int32)) = (0 : Int32) then (0 : Int32) else (1 : Int32))) (hj7 : j7 = (if (p5 &&& (2 : Int32)) = (0 : Int32) then (0 : Int32) else (1 : Int32))) (hj11 : j11 = ((0 : Int32) + (0 : Int32))) (hc63_3 : j5 = (0 : Int32)) (hc75_4 : j7 = (0 : Int32)) (hs208 : (r_5 (131072 : Int32)) = (131072 : Int32)) (hs230 : (r_6 (0 : Int32)) = j11) (hhhhc1_3_5_249 : ¬ (j1 < (0 : Int32))) (hhhhc6_3_5_249 : j1 < (131072 : Int32)) (hhlo17_249 : ¬ ((j1 / (64 : Int32)) < (0 : Int32))) (hhhi17_249 : (j1 / (64 : Int32)) < (2048 : Int32)) (hs254 : (r_7 j1 (131072 : Int32) (fun _ => 0)) = (0 : Int32)) (hhhhc1_3_5_273 : ¬ (j3 < (0 : Int32))) : j3 < (131072 : Int32) := by
  exact (own_pl_mask _ _ hj3).2
theorem own_at_hhlo17_273_tt (p1 : Int32) (p3 : Int32) (p5 : Int32) (j1 : Int32) (j3 : Int32) (j5 : Int32) (j7 : Int32) (j11 : Int32) (hj1 : j1 = (p1 &&& (131071 : Int32))) (hj3 : j3 = (p3 &&& (131071 : Int32))) (hj5 : j5 = (if (p5 &&& (1 : Int32)) = (0 : Int32) then (0 : Int32) else (1 : Int32))) (hj7 : j7 = (if (p5 &&& (2 : Int32)) = (0 : Int32) then (0 : Int32) else (1 : Int32))) (hj11 : j11 = ((0 : Int32) + (0 : Int32))) (hc63_3 : j5 = (0 : Int32)) (hc75_4 : j7 = (0 : Int32)) (hs208 : (r_5 (131072 : Int32)) = (131072 : Int32)) (hs230 : (r_6 (0 : Int32)) = j11) (hhhhc1_3_5_249 : ¬ (j1 < (0 : Int32))) (hhhhc6_3_5_249 : j1 < (131072 : Int32)) (hhlo17_249 : ¬ ((j1 / (64 : Int32)) < (0 : Int32))) (hhhi17_249 : (j1 / (64 : Int32)) < (2048 : Int32)) (hs254 : (r_7 j1 (131072 : Int32) (fun _ => 0)) = (0 : Int32)) (hhhhc1_3_5_273 : ¬ (j3 < (0 : Int32))) (hhhhc6_3_5_273 : j3 < (131072 : Int32)) : ¬ ((j3 / (64 : Int32)) < (0 : Int32)) := by
  exact (own_pl_q _ (own_pl_mask _ _ hj3).1 (own_pl_mask _ _ hj3).2).1
theorem own_at_hhhi17_273_tt (p1 : Int32) (p3 : Int32) (p5 : Int32) (j1 : Int32) (j3 : Int32) (j5 : Int32) (j7 : Int32) (j11 : Int32) (hj1 : j1 = (p1 &&& (131071 : Int32))) (hj3 : j3 = (p3 &&& (131071 : Int32))) (hj5 : j5 = (if (p5 &&& (1 : Int32)) = (0 : Int32) then (0 : Int32) else (1 : Int32))) (hj7 : j7 = (if (p5 &&& (2 : Int32)) = (0 : Int32) then (0 : Int32) else (1 : Int32))) (hj11 : j11 = ((0 : Int32) + (0 : Int32))) (hc63_3 : j5 = (0 : Int32)) (hc75_4 : j7 = (0 : Int32)) (hs208 : (r_5 (131072 : Int32)) = (131072 : Int32)) (hs230 : (r_6 (0 : Int32)) = j11) (hhhhc1_3_5_249 : ¬ (j1 < (0 : Int32))) (hhhhc6_3_5_249 : j1 < (131072 : Int32)) (hhlo17_249 : ¬ ((j1 / (64 : Int32)) < (0 : Int32))) (hhhi17_249 : (j1 / (64 : Int32)) < (2048 : Int32)) (hs254 : (r_7 j1 (131072 : Int32) (fun _ => 0)) = (0 : Int32)) (hhhhc1_3_5_273 : ¬ (j3 < (0 : Int32))) (hhhhc6_3_5_273 : j3 < (131072 : Int32)) (hhlo17_273 : ¬ ((j3 / (64 : Int32)) < (0 : Int32))) : (j3 / (64 : Int32)) < (2048 : Int32) := by
  exact (own_pl_q _ (own_pl_mask _ _ hj3).1 (own_pl_mask _ _ hj3).2).2
theorem own_at_hs278_tt (p1 : Int32) (p3 : Int32) (p5 : Int32) (j1 : Int32) (j3 : Int32) (j5 : Int32) (j7 : Int32) (j11 : Int32) (hj1 : j1 = (p1 &&& (131071 : Int32))) (hj3 : j3 = (p3 &&& (131071 : Int32))) (hj5 : j5 = (if (p5 &&& (1 : Int32)) = (0 : Int32) then (0 : Int32) else (1 : Int32))) (hj7 : j7 = (if (p5 &&& (2 : Int32)) = (0 : Int32) then (0 : Int32) else (1 : Int32))) (hj11 : j11 = ((0 : Int32) + (0 : Int32))) (hc63_3 : j5 = (0 : Int32)) (hc75_4 : j7 = (0 : Int32)) (hs208 : (r_5 (131072 : Int32)) = (131072 : Int32)) (hs230 : (r_6 (0 : Int32)) = j11) (hhhhc1_3_5_249 : ¬ (j1 < (0 : Int32))) (hhhhc6_3_5_249 : j1 < (131072 : Int32)) (hhlo17_249 : ¬ ((j1 / (64 : Int32)) < (0 : Int32))) (hhhi17_249 : (j1 / (64 : Int32)) < (2048 : Int32)) (hs254 : (r_7 j1 (131072 : Int32) (fun _ => 0)) = (0 : Int32)) (hhhhc1_3_5_273 : ¬ (j3 < (0 : Int32))) (hhhhc6_3_5_273 : j3 < (131072 : Int32)) (hhlo17_273 : ¬ ((j3 / (64 : Int32)) < (0 : Int32))) (hhhi17_273 : (j3 / (64 : Int32)) < (2048 : Int32)) : (r_7 j3 (131072 : Int32) (fun _ => 0)) = (0 : Int32) := by
  have rj1 := (own_pl_mask _ _ hj1)
  have rj3 := (own_pl_mask _ _ hj3)
  have g_j1_j1 := fun (s c : Int32) (w : Nat → Int64) => own_pl_gs j1 j1 s c w rj1.1 rj1.2 rj1.1 rj1.2
  have g_j1_j3 := fun (s c : Int32) (w : Nat → Int64) => own_pl_gs j1 j3 s c w rj1.1 rj1.2 rj3.1 rj3.2
  have g_j3_j1 := fun (s c : Int32) (w : Nat → Int64) => own_pl_gs j3 j1 s c w rj3.1 rj3.2 rj1.1 rj1.2
  have g_j3_j3 := fun (s c : Int32) (w : Nat → Int64) => own_pl_gs j3 j3 s c w rj3.1 rj3.2 rj3.1 rj3.2
  clear hs208 hs230 hs254
  simp only [own_pl_ct, own_pl_r6, g_j1_j1, g_j1_j3, g_j3_j1, g_j3_j3, own_pl_gz]
  all_goals (
    clear g_j1_j1 g_j1_j3 g_j3_j1 g_j3_j3 rj1 rj3 hhhi17_273 hhlo17_273 hhhhc6_3_5_273 hhhhc1_3_5_273 hhhi17_249 hhlo17_249 hhhhc6_3_5_249 hhhhc1_3_5_249 hc75_4 hc63_3 hj7 hj5 hj3 hj1
    subst hj11
    first | (simp_all; done) | (simp_all [eq_comm]; done) | rfl | decide)
theorem own_at_hs346_tt (p1 : Int32) (p3 : Int32) (p5 : Int32) (j1 : Int32) (j3 : Int32) (j5 : Int32) (j7 : Int32) (j11 : Int32) (j19 : Int32) (hj1 : j1 = (p1 &&& (131071 : Int32))) (hj3 : j3 = (p3 &&& (131071 : Int32))) (hj5 : j5 = (if (p5 &&& (1 : Int32)) = (0 : Int32) then (0 : Int32) else (1 : Int32))) (hj7 : j7 = (if (p5 &&& (2 : Int32)) = (0 : Int32) then (0 : Int32) else (1 : Int32))) (hj11 : j11 = ((0 : Int32) + (0 : Int32))) (hj19 : j19 = (j11 + (1 : Int32))) (hc63_3 : j5 = (0 : Int32)) (hc75_4 : j7 = (0 : Int32)) (hs208 : (r_5 (131072 : Int32)) = (131072 : Int32)) (hs230 : (r_6 (0 : Int32)) = j11) (hhhhc1_3_5_249 : ¬ (j1 < (0 : Int32))) (hhhhc6_3_5_249 : j1 < (131072 : Int32)) (hhlo17_249 : ¬ ((j1 / (64 : Int32)) < (0 : Int32))) (hhhi17_249 : (j1 / (64 : Int32)) < (2048 : Int32)) (hs254 : (r_7 j1 (131072 : Int32) (fun _ => 0)) = (0 : Int32)) (hhhhc1_3_5_273 : ¬ (j3 < (0 : Int32))) (hhhhc6_3_5_273 : j3 < (131072 : Int32)) (hhlo17_273 : ¬ ((j3 / (64 : Int32)) < (0 : Int32))) (hhhi17_273 : (j3 / (64 : Int32)) < (2048 : Int32)) (hs278 : (r_7 j3 (131072 : Int32) (fun _ => 0)) = (0 : Int32)) : (r_6 (u_11_a1_count j3 (131072 : Int32) (fun _ => 0) (0 : Int32))) = j19 := by
  have rj1 := (own_pl_mask _ _ hj1)
  have rj3 := (own_pl_mask _ _ hj3)
  have g_j1_j1 := fun (s c : Int32) (w : Nat → Int64) => own_pl_gs j1 j1 s c w rj1.1 rj1.2 rj1.1 rj1.2
  have g_j1_j3 := fun (s c : Int32) (w : Nat → Int64) => own_pl_gs j1 j3 s c w rj1.1 rj1.2 rj3.1 rj3.2
  have g_j3_j1 := fun (s c : Int32) (w : Nat → Int64) => own_pl_gs j3 j1 s c w rj3.1 rj3.2 rj1.1 rj1.2
  have g_j3_j3 := fun (s c : Int32) (w : Nat → Int64) => own_pl_gs j3 j3 s c w rj3.1 rj3.2 rj3.1 rj3.2
  clear hs208 hs230 hs254 hs278
  simp only [own_pl_ct, own_pl_r6, g_j1_j1, g_j1_j3, g_j3_j1, g_j3_j3, own_pl_gz]
  all_goals (
    clear g_j1_j1 g_j1_j3 g_j3_j1 g_j3_j3 rj1 rj3 hhhi17_273 hhlo17_273 hhhhc6_3_5_273 hhhhc1_3_5_273 hhhi17_249 hhlo17_249 hhhhc6_3_5_249 hhhhc1_3_5_249 hc75_4 hc63_3 hj7 hj5 hj3 hj1
    subst hj19
    subst hj11
    by_cases ej1j3 : j1 = j3 <;> first | (simp_all; done) | (simp_all [eq_comm]; done) | rfl | decide)
theorem own_at_hhhhc1_3_5_398_tt (p1 : Int32) (p3 : Int32) (p4 : Int32) (p5 : Int32) (j1 : Int32) (j3 : Int32) (j4 : Int32) (j5 : Int32) (j7 : Int32) (j11 : Int32) (j19 : Int32) (hj1 : j1 = (p1 &&& (131071 : Int32))) (hj3 : j3 = (p3 &&& (131071 : Int32))) (hj4 : j4 = (p4 &&& (131071 : Int32))) (hj5 : j5 = (if (p5 &&& (1 : Int32)) = (0 : Int32) then (0 : Int32) else (1 : Int32))) (hj7 : j7 = (if (p5 &&& (2 : Int32)) = (0 : Int32) then (0 : Int32) else (1 : Int32))) (hj11 : j11 = ((0 : Int32) + (0 : Int32))) (hj19 : j19 = (j11 + (1 : Int32))) (hc63_3 : j5 = (0 : Int32)) (hc75_4 : j7 = (0 : Int32)) (hs208 : (r_5 (131072 : Int32)) = (131072 : Int32)) (hs230 : (r_6 (0 : Int32)) = j11) (hhhhc1_3_5_249 : ¬ (j1 < (0 : Int32))) (hhhhc6_3_5_249 : j1 < (131072 : Int32)) (hhlo17_249 : ¬ ((j1 / (64 : Int32)) < (0 : Int32))) (hhhi17_249 : (j1 / (64 : Int32)) < (2048 : Int32)) (hs254 : (r_7 j1 (131072 : Int32) (fun _ => 0)) = (0 : Int32)) (hhhhc1_3_5_273 : ¬ (j3 < (0 : Int32))) (hhhhc6_3_5_273 : j3 < (131072 : Int32)) (hhlo17_273 : ¬ ((j3 / (64 : Int32)) < (0 : Int32))) (hhhi17_273 : (j3 / (64 : Int32)) < (2048 : Int32)) (hs278 : (r_7 j3 (131072 : Int32) (fun _ => 0)) = (0 : Int32)) (hs346 : (r_6 (u_11_a1_count j3 (131072 : Int32) (fun _ => 0) (0 : Int32))) = j19) : ¬ (j4 < (0 : Int32)) := by
  exact (own_pl_mask _ _ hj4).1
theorem own_at_hhhhc6_3_5_398_tt (p1 : Int32) (p3 : Int32) (p4 : Int32) (p5 : Int32) (j1 : Int32) (j3 : Int32) (j4 : Int32) (j5 : Int32) (j7 : Int32) (j11 : Int32) (j19 : Int32) (hj1 : j1 = (p1 &&& (131071 : Int32))) (hj3 : j3 = (p3 &&& (131071 : Int32))) (hj4 : j4 = (p4 &&& (131071 : Int32))) (hj5 : j5 = (if (p5 &&& (1 : Int32)) = (0 : Int32) then (0 : Int32) else (1 : Int32))) (hj7 : j7 = (if (p5 &&& (2 : Int32)) = (0 : Int32) then (0 : Int32) else (1 : Int32))) (hj11 : j11 = ((0 : Int32) + (0 : Int32))) (hj19 : j19 = (j11 + (1 : Int32))) (hc63_3 : j5 = (0 : Int32)) (hc75_4 : j7 = (0 : Int32)) (hs208 : (r_5 (131072 : Int32)) = (131072 : Int32)) (hs230 : (r_6 (0 : Int32)) = j11) (hhhhc1_3_5_249 : ¬ (j1 < (0 : Int32))) (hhhhc6_3_5_249 : j1 < (131072 : Int32)) (hhlo17_249 : ¬ ((j1 / (64 : Int32)) < (0 : Int32))) (hhhi17_249 : (j1 / (64 : Int32)) < (2048 : Int32)) (hs254 : (r_7 j1 (131072 : Int32) (fun _ => 0)) = (0 : Int32)) (hhhhc1_3_5_273 : ¬ (j3 < (0 : Int32))) (hhhhc6_3_5_273 : j3 < (131072 : Int32)) (hhlo17_273 : ¬ ((j3 / (64 : Int32)) < (0 : Int32))) (hhhi17_273 : (j3 / (64 : Int32)) < (2048 : Int32)) (hs278 : (r_7 j3 (131072 : Int32) (fun _ => 0)) = (0 : Int32)) (hs346 : (r_6 (u_11_a1_count j3 (131072 : Int32) (fun _ => 0) (0 : Int32))) = j19) (hhhhc1_3_5_398 : ¬ (j4 < (0 : Int32))) : j4 < (131072 : Int32) := by
  exact (own_pl_mask _ _ hj4).2
theorem own_at_hhhlo17_11_398_tt (p1 : Int32) (p3 : Int32) (p4 : Int32) (p5 : Int32) (j1 : Int32) (j3 : Int32) (j4 : Int32) (j5 : Int32) (j7 : Int32) (j11 : Int32) (j19 : Int32) (hj1 : j1 = (p1 &&& (131071 : Int32))) (hj3 : j3 = (p3 &&& (131071 : Int32))) (hj4 : j4 = (p4 &&& (131071 : Int32))) (hj5 : j5 = (if (p5 &&& (1 : Int32)) = (0 : Int32) then (0 : Int32) else (1 : Int32))) (hj7 : j7 = (if (p5 &&& (2 : Int32)) = (0 : Int32) then (0 : Int32) else (1 : Int32))) (hj11 : j11 = ((0 : Int32) + (0 : Int32))) (hj19 : j19 = (j11 + (1 : Int32))) (hc63_3 : j5 = (0 : Int32)) (hc75_4 : j7 = (0 : Int32)) (hs208 : (r_5 (131072 : Int32)) = (131072 : Int32)) (hs230 : (r_6 (0 : Int32)) = j11) (hhhhc1_3_5_249 : ¬ (j1 < (0 : Int32))) (hhhhc6_3_5_249 : j1 < (131072 : Int32)) (hhlo17_249 : ¬ ((j1 / (64 : Int32)) < (0 : Int32))) (hhhi17_249 : (j1 / (64 : Int32)) < (2048 : Int32)) (hs254 : (r_7 j1 (131072 : Int32) (fun _ => 0)) = (0 : Int32)) (hhhhc1_3_5_273 : ¬ (j3 < (0 : Int32))) (hhhhc6_3_5_273 : j3 < (131072 : Int32)) (hhlo17_273 : ¬ ((j3 / (64 : Int32)) < (0 : Int32))) (hhhi17_273 : (j3 / (64 : Int32)) < (2048 : Int32)) (hs278 : (r_7 j3 (131072 : Int32) (fun _ => 0)) = (0 : Int32)) (hs346 : (r_6 (u_11_a1_count j3 (131072 : Int32) (fun _ => 0) (0 : Int32))) = j19) (hhhhc1_3_5_398 : ¬ (j4 < (0 : Int32))) (hhhhc6_3_5_398 : j4 < (131072 : Int32)) : ¬ ((j4 / (64 : Int32)) < (0 : Int32)) := by
  exact (own_pl_q _ (own_pl_mask _ _ hj4).1 (own_pl_mask _ _ hj4).2).1
theorem own_at_hhhhi17_11_398_tt (p1 : Int32) (p3 : Int32) (p4 : Int32) (p5 : Int32) (j1 : Int32) (j3 : Int32) (j4 : Int32) (j5 : Int32) (j7 : Int32) (j11 : Int32) (j19 : Int32) (hj1 : j1 = (p1 &&& (131071 : Int32))) (hj3 : j3 = (p3 &&& (131071 : Int32))) (hj4 : j4 = (p4 &&& (131071 : Int32))) (hj5 : j5 = (if (p5 &&& (1 : Int32)) = (0 : Int32) then (0 : Int32) else (1 : Int32))) (hj7 : j7 = (if (p5 &&& (2 : Int32)) = (0 : Int32) then (0 : Int32) else (1 : Int32))) (hj11 : j11 = ((0 : Int32) + (0 : Int32))) (hj19 : j19 = (j11 + (1 : Int32))) (hc63_3 : j5 = (0 : Int32)) (hc75_4 : j7 = (0 : Int32)) (hs208 : (r_5 (131072 : Int32)) = (131072 : Int32)) (hs230 : (r_6 (0 : Int32)) = j11) (hhhhc1_3_5_249 : ¬ (j1 < (0 : Int32))) (hhhhc6_3_5_249 : j1 < (131072 : Int32)) (hhlo17_249 : ¬ ((j1 / (64 : Int32)) < (0 : Int32))) (hhhi17_249 : (j1 / (64 : Int32)) < (2048 : Int32)) (hs254 : (r_7 j1 (131072 : Int32) (fun _ => 0)) = (0 : Int32)) (hhhhc1_3_5_273 : ¬ (j3 < (0 : Int32))) (hhhhc6_3_5_273 : j3 < (131072 : Int32)) (hhlo17_273 : ¬ ((j3 / (64 : Int32)) < (0 : Int32))) (hhhi17_273 : (j3 / (64 : Int32)) < (2048 : Int32)) (hs278 : (r_7 j3 (131072 : Int32) (fun _ => 0)) = (0 : Int32)) (hs346 : (r_6 (u_11_a1_count j3 (131072 : Int32) (fun _ => 0) (0 : Int32))) = j19) (hhhhc1_3_5_398 : ¬ (j4 < (0 : Int32))) (hhhhc6_3_5_398 : j4 < (131072 : Int32)) (hhhlo17_11_398 : ¬ ((j4 / (64 : Int32)) < (0 : Int32))) : (j4 / (64 : Int32)) < (2048 : Int32) := by
  exact (own_pl_q _ (own_pl_mask _ _ hj4).1 (own_pl_mask _ _ hj4).2).2
theorem own_at_hs415_tt (p1 : Int32) (p3 : Int32) (p4 : Int32) (p5 : Int32) (j1 : Int32) (j3 : Int32) (j4 : Int32) (j5 : Int32) (j7 : Int32) (j11 : Int32) (j19 : Int32) (j21 : Int32) (hj1 : j1 = (p1 &&& (131071 : Int32))) (hj3 : j3 = (p3 &&& (131071 : Int32))) (hj4 : j4 = (p4 &&& (131071 : Int32))) (hj5 : j5 = (if (p5 &&& (1 : Int32)) = (0 : Int32) then (0 : Int32) else (1 : Int32))) (hj7 : j7 = (if (p5 &&& (2 : Int32)) = (0 : Int32) then (0 : Int32) else (1 : Int32))) (hj11 : j11 = ((0 : Int32) + (0 : Int32))) (hj19 : j19 = (j11 + (1 : Int32))) (hj21 : j21 = (if j4 = j3 then (1 : Int32) else (0 : Int32))) (hc63_3 : j5 = (0 : Int32)) (hc75_4 : j7 = (0 : Int32)) (hs208 : (r_5 (131072 : Int32)) = (131072 : Int32)) (hs230 : (r_6 (0 : Int32)) = j11) (hhhhc1_3_5_249 : ¬ (j1 < (0 : Int32))) (hhhhc6_3_5_249 : j1 < (131072 : Int32)) (hhlo17_249 : ¬ ((j1 / (64 : Int32)) < (0 : Int32))) (hhhi17_249 : (j1 / (64 : Int32)) < (2048 : Int32)) (hs254 : (r_7 j1 (131072 : Int32) (fun _ => 0)) = (0 : Int32)) (hhhhc1_3_5_273 : ¬ (j3 < (0 : Int32))) (hhhhc6_3_5_273 : j3 < (131072 : Int32)) (hhlo17_273 : ¬ ((j3 / (64 : Int32)) < (0 : Int32))) (hhhi17_273 : (j3 / (64 : Int32)) < (2048 : Int32)) (hs278 : (r_7 j3 (131072 : Int32) (fun _ => 0)) = (0 : Int32)) (hs346 : (r_6 (u_11_a1_count j3 (131072 : Int32) (fun _ => 0) (0 : Int32))) = j19) (hhhhc1_3_5_398 : ¬ (j4 < (0 : Int32))) (hhhhc6_3_5_398 : j4 < (131072 : Int32)) (hhhlo17_11_398 : ¬ ((j4 / (64 : Int32)) < (0 : Int32))) (hhhhi17_11_398 : (j4 / (64 : Int32)) < (2048 : Int32)) : (r_7 j4 (131072 : Int32) (u_11_w_words_a1_fn j3 (131072 : Int32) (fun _ => 0) (0 : Int32))) = j21 := by
  have rj1 := (own_pl_mask _ _ hj1)
  have rj3 := (own_pl_mask _ _ hj3)
  have rj4 := (own_pl_mask _ _ hj4)
  have g_j1_j1 := fun (s c : Int32) (w : Nat → Int64) => own_pl_gs j1 j1 s c w rj1.1 rj1.2 rj1.1 rj1.2
  have g_j1_j3 := fun (s c : Int32) (w : Nat → Int64) => own_pl_gs j1 j3 s c w rj1.1 rj1.2 rj3.1 rj3.2
  have g_j1_j4 := fun (s c : Int32) (w : Nat → Int64) => own_pl_gs j1 j4 s c w rj1.1 rj1.2 rj4.1 rj4.2
  have g_j3_j1 := fun (s c : Int32) (w : Nat → Int64) => own_pl_gs j3 j1 s c w rj3.1 rj3.2 rj1.1 rj1.2
  have g_j3_j3 := fun (s c : Int32) (w : Nat → Int64) => own_pl_gs j3 j3 s c w rj3.1 rj3.2 rj3.1 rj3.2
  have g_j3_j4 := fun (s c : Int32) (w : Nat → Int64) => own_pl_gs j3 j4 s c w rj3.1 rj3.2 rj4.1 rj4.2
  have g_j4_j1 := fun (s c : Int32) (w : Nat → Int64) => own_pl_gs j4 j1 s c w rj4.1 rj4.2 rj1.1 rj1.2
  have g_j4_j3 := fun (s c : Int32) (w : Nat → Int64) => own_pl_gs j4 j3 s c w rj4.1 rj4.2 rj3.1 rj3.2
  have g_j4_j4 := fun (s c : Int32) (w : Nat → Int64) => own_pl_gs j4 j4 s c w rj4.1 rj4.2 rj4.1 rj4.2
  clear hs208 hs230 hs254 hs278 hs346
  simp only [own_pl_ct, own_pl_r6, g_j1_j1, g_j1_j3, g_j1_j4, g_j3_j1, g_j3_j3, g_j3_j4, g_j4_j1, g_j4_j3, g_j4_j4, own_pl_gz]
  all_goals (
    clear g_j1_j1 g_j1_j3 g_j1_j4 g_j3_j1 g_j3_j3 g_j3_j4 g_j4_j1 g_j4_j3 g_j4_j4 rj1 rj3 rj4 hhhhi17_11_398 hhhlo17_11_398 hhhhc6_3_5_398 hhhhc1_3_5_398 hhhi17_273 hhlo17_273 hhhhc6_3_5_273 hhhhc1_3_5_273 hhhi17_249 hhlo17_249 hhhhc6_3_5_249 hhhhc1_3_5_249 hc75_4 hc63_3 hj7 hj5 hj4 hj3 hj1
    subst hj21
    subst hj19
    subst hj11
    by_cases ej1j3 : j1 = j3 <;> by_cases ej1j4 : j1 = j4 <;> by_cases ej3j4 : j3 = j4 <;> first | (simp_all; done) | (simp_all [eq_comm]; done) | rfl | decide)
theorem own_at_hhhhc1_3_5_82_tf (p2 : Int32) (p5 : Int32) (j2 : Int32) (j5 : Int32) (j7 : Int32) (hj2 : j2 = (p2 &&& (131071 : Int32))) (hj5 : j5 = (if (p5 &&& (1 : Int32)) = (0 : Int32) then (0 : Int32) else (1 : Int32))) (hj7 : j7 = (if (p5 &&& (2 : Int32)) = (0 : Int32) then (0 : Int32) else (1 : Int32))) (hc63_3 : j5 = (0 : Int32)) (hc75_4 : ¬ (j7 = (0 : Int32))) : ¬ (j2 < (0 : Int32)) := by
  exact (own_pl_mask _ _ hj2).1
theorem own_at_hhhhc6_3_5_82_tf (p2 : Int32) (p5 : Int32) (j2 : Int32) (j5 : Int32) (j7 : Int32) (hj2 : j2 = (p2 &&& (131071 : Int32))) (hj5 : j5 = (if (p5 &&& (1 : Int32)) = (0 : Int32) then (0 : Int32) else (1 : Int32))) (hj7 : j7 = (if (p5 &&& (2 : Int32)) = (0 : Int32) then (0 : Int32) else (1 : Int32))) (hc63_3 : j5 = (0 : Int32)) (hc75_4 : ¬ (j7 = (0 : Int32))) (hhhhc1_3_5_82 : ¬ (j2 < (0 : Int32))) : j2 < (131072 : Int32) := by
  exact (own_pl_mask _ _ hj2).2
theorem own_at_hhhlo17_11_82_tf (p2 : Int32) (p5 : Int32) (j2 : Int32) (j5 : Int32) (j7 : Int32) (hj2 : j2 = (p2 &&& (131071 : Int32))) (hj5 : j5 = (if (p5 &&& (1 : Int32)) = (0 : Int32) then (0 : Int32) else (1 : Int32))) (hj7 : j7 = (if (p5 &&& (2 : Int32)) = (0 : Int32) then (0 : Int32) else (1 : Int32))) (hc63_3 : j5 = (0 : Int32)) (hc75_4 : ¬ (j7 = (0 : Int32))) (hhhhc1_3_5_82 : ¬ (j2 < (0 : Int32))) (hhhhc6_3_5_82 : j2 < (131072 : Int32)) : ¬ ((j2 / (64 : Int32)) < (0 : Int32)) := by
  exact (own_pl_q _ (own_pl_mask _ _ hj2).1 (own_pl_mask _ _ hj2).2).1
theorem own_at_hhhhi17_11_82_tf (p2 : Int32) (p5 : Int32) (j2 : Int32) (j5 : Int32) (j7 : Int32) (hj2 : j2 = (p2 &&& (131071 : Int32))) (hj5 : j5 = (if (p5 &&& (1 : Int32)) = (0 : Int32) then (0 : Int32) else (1 : Int32))) (hj7 : j7 = (if (p5 &&& (2 : Int32)) = (0 : Int32) then (0 : Int32) else (1 : Int32))) (hc63_3 : j5 = (0 : Int32)) (hc75_4 : ¬ (j7 = (0 : Int32))) (hhhhc1_3_5_82 : ¬ (j2 < (0 : Int32))) (hhhhc6_3_5_82 : j2 < (131072 : Int32)) (hhhlo17_11_82 : ¬ ((j2 / (64 : Int32)) < (0 : Int32))) : (j2 / (64 : Int32)) < (2048 : Int32) := by
  exact (own_pl_q _ (own_pl_mask _ _ hj2).1 (own_pl_mask _ _ hj2).2).2
theorem own_at_hs208_tf (p2 : Int32) (p5 : Int32) (j2 : Int32) (j5 : Int32) (j7 : Int32) (hj2 : j2 = (p2 &&& (131071 : Int32))) (hj5 : j5 = (if (p5 &&& (1 : Int32)) = (0 : Int32) then (0 : Int32) else (1 : Int32))) (hj7 : j7 = (if (p5 &&& (2 : Int32)) = (0 : Int32) then (0 : Int32) else (1 : Int32))) (hc63_3 : j5 = (0 : Int32)) (hc75_4 : ¬ (j7 = (0 : Int32))) (hhhhc1_3_5_82 : ¬ (j2 < (0 : Int32))) (hhhhc6_3_5_82 : j2 < (131072 : Int32)) (hhhlo17_11_82 : ¬ ((j2 / (64 : Int32)) < (0 : Int32))) (hhhhi17_11_82 : (j2 / (64 : Int32)) < (2048 : Int32)) : (r_5 (131072 : Int32)) = (131072 : Int32) := by
  rfl
theorem own_at_hs230_tf (p2 : Int32) (p5 : Int32) (j2 : Int32) (j5 : Int32) (j7 : Int32) (j26 : Int32) (hj2 : j2 = (p2 &&& (131071 : Int32))) (hj5 : j5 = (if (p5 &&& (1 : Int32)) = (0 : Int32) then (0 : Int32) else (1 : Int32))) (hj7 : j7 = (if (p5 &&& (2 : Int32)) = (0 : Int32) then (0 : Int32) else (1 : Int32))) (hj26 : j26 = ((0 : Int32) + (1 : Int32))) (hc63_3 : j5 = (0 : Int32)) (hc75_4 : ¬ (j7 = (0 : Int32))) (hhhhc1_3_5_82 : ¬ (j2 < (0 : Int32))) (hhhhc6_3_5_82 : j2 < (131072 : Int32)) (hhhlo17_11_82 : ¬ ((j2 / (64 : Int32)) < (0 : Int32))) (hhhhi17_11_82 : (j2 / (64 : Int32)) < (2048 : Int32)) (hs208 : (r_5 (131072 : Int32)) = (131072 : Int32)) : (r_6 (u_11_a1_count j2 (131072 : Int32) (fun _ => 0) (0 : Int32))) = j26 := by
  have rj2 := (own_pl_mask _ _ hj2)
  have g_j2_j2 := fun (s c : Int32) (w : Nat → Int64) => own_pl_gs j2 j2 s c w rj2.1 rj2.2 rj2.1 rj2.2
  clear hs208
  simp only [own_pl_ct, own_pl_r6, g_j2_j2, own_pl_gz]
  all_goals (
    clear g_j2_j2 rj2 hhhhi17_11_82 hhhlo17_11_82 hhhhc6_3_5_82 hhhhc1_3_5_82 hc75_4 hc63_3 hj7 hj5 hj2
    subst hj26
    first | (simp_all; done) | (simp_all [eq_comm]; done) | rfl | decide)
theorem own_at_hhhhc1_3_5_249_tf (p1 : Int32) (p2 : Int32) (p5 : Int32) (j1 : Int32) (j2 : Int32) (j5 : Int32) (j7 : Int32) (j26 : Int32) (hj1 : j1 = (p1 &&& (131071 : Int32))) (hj2 : j2 = (p2 &&& (131071 : Int32))) (hj5 : j5 = (if (p5 &&& (1 : Int32)) = (0 : Int32) then (0 : Int32) else (1 : Int32))) (hj7 : j7 = (if (p5 &&& (2 : Int32)) = (0 : Int32) then (0 : Int32) else (1 : Int32))) (hj26 : j26 = ((0 : Int32) + (1 : Int32))) (hc63_3 : j5 = (0 : Int32)) (hc75_4 : ¬ (j7 = (0 : Int32))) (hhhhc1_3_5_82 : ¬ (j2 < (0 : Int32))) (hhhhc6_3_5_82 : j2 < (131072 : Int32)) (hhhlo17_11_82 : ¬ ((j2 / (64 : Int32)) < (0 : Int32))) (hhhhi17_11_82 : (j2 / (64 : Int32)) < (2048 : Int32)) (hs208 : (r_5 (131072 : Int32)) = (131072 : Int32)) (hs230 : (r_6 (u_11_a1_count j2 (131072 : Int32) (fun _ => 0) (0 : Int32))) = j26) : ¬ (j1 < (0 : Int32)) := by
  exact (own_pl_mask _ _ hj1).1
theorem own_at_hhhhc6_3_5_249_tf (p1 : Int32) (p2 : Int32) (p5 : Int32) (j1 : Int32) (j2 : Int32) (j5 : Int32) (j7 : Int32) (j26 : Int32) (hj1 : j1 = (p1 &&& (131071 : Int32))) (hj2 : j2 = (p2 &&& (131071 : Int32))) (hj5 : j5 = (if (p5 &&& (1 : Int32)) = (0 : Int32) then (0 : Int32) else (1 : Int32))) (hj7 : j7 = (if (p5 &&& (2 : Int32)) = (0 : Int32) then (0 : Int32) else (1 : Int32))) (hj26 : j26 = ((0 : Int32) + (1 : Int32))) (hc63_3 : j5 = (0 : Int32)) (hc75_4 : ¬ (j7 = (0 : Int32))) (hhhhc1_3_5_82 : ¬ (j2 < (0 : Int32))) (hhhhc6_3_5_82 : j2 < (131072 : Int32)) (hhhlo17_11_82 : ¬ ((j2 / (64 : Int32)) < (0 : Int32))) (hhhhi17_11_82 : (j2 / (64 : Int32)) < (2048 : Int32)) (hs208 : (r_5 (131072 : Int32)) = (131072 : Int32)) (hs230 : (r_6 (u_11_a1_count j2 (131072 : Int32) (fun _ => 0) (0 : Int32))) = j26) (hhhhc1_3_5_249 : ¬ (j1 < (0 : Int32))) : j1 < (131072 : Int32) := by
  exact (own_pl_mask _ _ hj1).2
theorem own_at_hhlo17_249_tf (p1 : Int32) (p2 : Int32) (p5 : Int32) (j1 : Int32) (j2 : Int32) (j5 : Int32) (j7 : Int32) (j26 : Int32) (hj1 : j1 = (p1 &&& (131071 : Int32))) (hj2 : j2 = (p2 &&& (131071 : Int32))) (hj5 : j5 = (if (p5 &&& (1 : Int32)) = (0 : Int32) then (0 : Int32) else (1 : Int32))) (hj7 : j7 = (if (p5 &&& (2 : Int32)) = (0 : Int32) then (0 : Int32) else (1 : Int32))) (hj26 : j26 = ((0 : Int32) + (1 : Int32))) (hc63_3 : j5 = (0 : Int32)) (hc75_4 : ¬ (j7 = (0 : Int32))) (hhhhc1_3_5_82 : ¬ (j2 < (0 : Int32))) (hhhhc6_3_5_82 : j2 < (131072 : Int32)) (hhhlo17_11_82 : ¬ ((j2 / (64 : Int32)) < (0 : Int32))) (hhhhi17_11_82 : (j2 / (64 : Int32)) < (2048 : Int32)) (hs208 : (r_5 (131072 : Int32)) = (131072 : Int32)) (hs230 : (r_6 (u_11_a1_count j2 (131072 : Int32) (fun _ => 0) (0 : Int32))) = j26) (hhhhc1_3_5_249 : ¬ (j1 < (0 : Int32))) (hhhhc6_3_5_249 : j1 < (131072 : Int32)) : ¬ ((j1 / (64 : Int32)) < (0 : Int32)) := by
  exact (own_pl_q _ (own_pl_mask _ _ hj1).1 (own_pl_mask _ _ hj1).2).1
theorem own_at_hhhi17_249_tf (p1 : Int32) (p2 : Int32) (p5 : Int32) (j1 : Int32) (j2 : Int32) (j5 : Int32) (j7 : Int32) (j26 : Int32) (hj1 : j1 = (p1 &&& (131071 : Int32))) (hj2 : j2 = (p2 &&& (131071 : Int32))) (hj5 : j5 = (if (p5 &&& (1 : Int32)) = (0 : Int32) then (0 : Int32) else (1 : Int32))) (hj7 : j7 = (if (p5 &&& (2 : Int32)) = (0 : Int32) then (0 : Int32) else (1 : Int32))) (hj26 : j26 = ((0 : Int32) + (1 : Int32))) (hc63_3 : j5 = (0 : Int32)) (hc75_4 : ¬ (j7 = (0 : Int32))) (hhhhc1_3_5_82 : ¬ (j2 < (0 : Int32))) (hhhhc6_3_5_82 : j2 < (131072 : Int32)) (hhhlo17_11_82 : ¬ ((j2 / (64 : Int32)) < (0 : Int32))) (hhhhi17_11_82 : (j2 / (64 : Int32)) < (2048 : Int32)) (hs208 : (r_5 (131072 : Int32)) = (131072 : Int32)) (hs230 : (r_6 (u_11_a1_count j2 (131072 : Int32) (fun _ => 0) (0 : Int32))) = j26) (hhhhc1_3_5_249 : ¬ (j1 < (0 : Int32))) (hhhhc6_3_5_249 : j1 < (131072 : Int32)) (hhlo17_249 : ¬ ((j1 / (64 : Int32)) < (0 : Int32))) : (j1 / (64 : Int32)) < (2048 : Int32) := by
  exact (own_pl_q _ (own_pl_mask _ _ hj1).1 (own_pl_mask _ _ hj1).2).2
theorem own_at_hs254_tf (p1 : Int32) (p2 : Int32) (p5 : Int32) (j1 : Int32) (j2 : Int32) (j5 : Int32) (j7 : Int32) (j26 : Int32) (j27 : Int32) (hj1 : j1 = (p1 &&& (131071 : Int32))) (hj2 : j2 = (p2 &&& (131071 : Int32))) (hj5 : j5 = (if (p5 &&& (1 : Int32)) = (0 : Int32) then (0 : Int32) else (1 : Int32))) (hj7 : j7 = (if (p5 &&& (2 : Int32)) = (0 : Int32) then (0 : Int32) else (1 : Int32))) (hj26 : j26 = ((0 : Int32) + (1 : Int32))) (hj27 : j27 = (if j1 = j2 then (1 : Int32) else (0 : Int32))) (hc63_3 : j5 = (0 : Int32)) (hc75_4 : ¬ (j7 = (0 : Int32))) (hhhhc1_3_5_82 : ¬ (j2 < (0 : Int32))) (hhhhc6_3_5_82 : j2 < (131072 : Int32)) (hhhlo17_11_82 : ¬ ((j2 / (64 : Int32)) < (0 : Int32))) (hhhhi17_11_82 : (j2 / (64 : Int32)) < (2048 : Int32)) (hs208 : (r_5 (131072 : Int32)) = (131072 : Int32)) (hs230 : (r_6 (u_11_a1_count j2 (131072 : Int32) (fun _ => 0) (0 : Int32))) = j26) (hhhhc1_3_5_249 : ¬ (j1 < (0 : Int32))) (hhhhc6_3_5_249 : j1 < (131072 : Int32)) (hhlo17_249 : ¬ ((j1 / (64 : Int32)) < (0 : Int32))) (hhhi17_249 : (j1 / (64 : Int32)) < (2048 : Int32)) : (r_7 j1 (131072 : Int32) (u_11_w_words_a1_fn j2 (131072 : Int32) (fun _ => 0) (0 : Int32))) = j27 := by
  have rj1 := (own_pl_mask _ _ hj1)
  have rj2 := (own_pl_mask _ _ hj2)
  have g_j1_j1 := fun (s c : Int32) (w : Nat → Int64) => own_pl_gs j1 j1 s c w rj1.1 rj1.2 rj1.1 rj1.2
  have g_j1_j2 := fun (s c : Int32) (w : Nat → Int64) => own_pl_gs j1 j2 s c w rj1.1 rj1.2 rj2.1 rj2.2
  have g_j2_j1 := fun (s c : Int32) (w : Nat → Int64) => own_pl_gs j2 j1 s c w rj2.1 rj2.2 rj1.1 rj1.2
  have g_j2_j2 := fun (s c : Int32) (w : Nat → Int64) => own_pl_gs j2 j2 s c w rj2.1 rj2.2 rj2.1 rj2.2
  clear hs208 hs230
  simp only [own_pl_ct, own_pl_r6, g_j1_j1, g_j1_j2, g_j2_j1, g_j2_j2, own_pl_gz]
  all_goals (
    clear g_j1_j1 g_j1_j2 g_j2_j1 g_j2_j2 rj1 rj2 hhhi17_249 hhlo17_249 hhhhc6_3_5_249 hhhhc1_3_5_249 hhhhi17_11_82 hhhlo17_11_82 hhhhc6_3_5_82 hhhhc1_3_5_82 hc75_4 hc63_3 hj7 hj5 hj2 hj1
    subst hj27
    subst hj26
    by_cases ej1j2 : j1 = j2 <;> first | (simp_all; done) | (simp_all [eq_comm]; done) | rfl | decide)
theorem own_at_hhhhc1_3_5_273_tf (p1 : Int32) (p2 : Int32) (p3 : Int32) (p5 : Int32) (j1 : Int32) (j2 : Int32) (j3 : Int32) (j5 : Int32) (j7 : Int32) (j26 : Int32) (j27 : Int32) (hj1 : j1 = (p1 &&& (131071 : Int32))) (hj2 : j2 = (p2 &&& (131071 : Int32))) (hj3 : j3 = (p3 &&& (131071 : Int32))) (hj5 : j5 = (if (p5 &&& (1 : Int32)) = (0 : Int32) then (0 : Int32) else (1 : Int32))) (hj7 : j7 = (if (p5 &&& (2 : Int32)) = (0 : Int32) then (0 : Int32) else (1 : Int32))) (hj26 : j26 = ((0 : Int32) + (1 : Int32))) (hj27 : j27 = (if j1 = j2 then (1 : Int32) else (0 : Int32))) (hc63_3 : j5 = (0 : Int32)) (hc75_4 : ¬ (j7 = (0 : Int32))) (hhhhc1_3_5_82 : ¬ (j2 < (0 : Int32))) (hhhhc6_3_5_82 : j2 < (131072 : Int32)) (hhhlo17_11_82 : ¬ ((j2 / (64 : Int32)) < (0 : Int32))) (hhhhi17_11_82 : (j2 / (64 : Int32)) < (2048 : Int32)) (hs208 : (r_5 (131072 : Int32)) = (131072 : Int32)) (hs230 : (r_6 (u_11_a1_count j2 (131072 : Int32) (fun _ => 0) (0 : Int32))) = j26) (hhhhc1_3_5_249 : ¬ (j1 < (0 : Int32))) (hhhhc6_3_5_249 : j1 < (131072 : Int32)) (hhlo17_249 : ¬ ((j1 / (64 : Int32)) < (0 : Int32))) (hhhi17_249 : (j1 / (64 : Int32)) < (2048 : Int32)) (hs254 : (r_7 j1 (131072 : Int32) (u_11_w_words_a1_fn j2 (131072 : Int32) (fun _ => 0) (0 : Int32))) = j27) : ¬ (j3 < (0 : Int32)) := by
  exact (own_pl_mask _ _ hj3).1
theorem own_at_hhhhc6_3_5_273_tf (p1 : Int32) (p2 : Int32) (p3 : Int32) (p5 : Int32) (j1 : Int32) (j2 : Int32) (j3 : Int32) (j5 : Int32) (j7 : Int32) (j26 : Int32) (j27 : Int32) (hj1 : j1 = (p1 &&& (131071 : Int32))) (hj2 : j2 = (p2 &&& (131071 : Int32))) (hj3 : j3 = (p3 &&& (131071 : Int32))) (hj5 : j5 = (if (p5 &&& (1 : Int32)) = (0 : Int32) then (0 : Int32) else (1 : Int32))) (hj7 : j7 = (if (p5 &&& (2 : Int32)) = (0 : Int32) then (0 : Int32) else (1 : Int32))) (hj26 : j26 = ((0 : Int32) + (1 : Int32))) (hj27 : j27 = (if j1 = j2 then (1 : Int32) else (0 : Int32))) (hc63_3 : j5 = (0 : Int32)) (hc75_4 : ¬ (j7 = (0 : Int32))) (hhhhc1_3_5_82 : ¬ (j2 < (0 : Int32))) (hhhhc6_3_5_82 : j2 < (131072 : Int32)) (hhhlo17_11_82 : ¬ ((j2 / (64 : Int32)) < (0 : Int32))) (hhhhi17_11_82 : (j2 / (64 : Int32)) < (2048 : Int32)) (hs208 : (r_5 (131072 : Int32)) = (131072 : Int32)) (hs230 : (r_6 (u_11_a1_count j2 (131072 : Int32) (fun _ => 0) (0 : Int32))) = j26) (hhhhc1_3_5_249 : ¬ (j1 < (0 : Int32))) (hhhhc6_3_5_249 : j1 < (131072 : Int32)) (hhlo17_249 : ¬ ((j1 / (64 : Int32)) < (0 : Int32))) (hhhi17_249 : (j1 / (64 : Int32)) < (2048 : Int32)) (hs254 : (r_7 j1 (131072 : Int32) (u_11_w_words_a1_fn j2 (131072 : Int32) (fun _ => 0) (0 : Int32))) = j27) (hhhhc1_3_5_273 : ¬ (j3 < (0 : Int32))) : j3 < (131072 : Int32) := by
  exact (own_pl_mask _ _ hj3).2
theorem own_at_hhlo17_273_tf (p1 : Int32) (p2 : Int32) (p3 : Int32) (p5 : Int32) (j1 : Int32) (j2 : Int32) (j3 : Int32) (j5 : Int32) (j7 : Int32) (j26 : Int32) (j27 : Int32) (hj1 : j1 = (p1 &&& (131071 : Int32))) (hj2 : j2 = (p2 &&& (131071 : Int32))) (hj3 : j3 = (p3 &&& (131071 : Int32))) (hj5 : j5 = (if (p5 &&& (1 : Int32)) = (0 : Int32) then (0 : Int32) else (1 : Int32))) (hj7 : j7 = (if (p5 &&& (2 : Int32)) = (0 : Int32) then (0 : Int32) else (1 : Int32))) (hj26 : j26 = ((0 : Int32) + (1 : Int32))) (hj27 : j27 = (if j1 = j2 then (1 : Int32) else (0 : Int32))) (hc63_3 : j5 = (0 : Int32)) (hc75_4 : ¬ (j7 = (0 : Int32))) (hhhhc1_3_5_82 : ¬ (j2 < (0 : Int32))) (hhhhc6_3_5_82 : j2 < (131072 : Int32)) (hhhlo17_11_82 : ¬ ((j2 / (64 : Int32)) < (0 : Int32))) (hhhhi17_11_82 : (j2 / (64 : Int32)) < (2048 : Int32)) (hs208 : (r_5 (131072 : Int32)) = (131072 : Int32)) (hs230 : (r_6 (u_11_a1_count j2 (131072 : Int32) (fun _ => 0) (0 : Int32))) = j26) (hhhhc1_3_5_249 : ¬ (j1 < (0 : Int32))) (hhhhc6_3_5_249 : j1 < (131072 : Int32)) (hhlo17_249 : ¬ ((j1 / (64 : Int32)) < (0 : Int32))) (hhhi17_249 : (j1 / (64 : Int32)) < (2048 : Int32)) (hs254 : (r_7 j1 (131072 : Int32) (u_11_w_words_a1_fn j2 (131072 : Int32) (fun _ => 0) (0 : Int32))) = j27) (hhhhc1_3_5_273 : ¬ (j3 < (0 : Int32))) (hhhhc6_3_5_273 : j3 < (131072 : Int32)) : ¬ ((j3 / (64 : Int32)) < (0 : Int32)) := by
  exact (own_pl_q _ (own_pl_mask _ _ hj3).1 (own_pl_mask _ _ hj3).2).1
theorem own_at_hhhi17_273_tf (p1 : Int32) (p2 : Int32) (p3 : Int32) (p5 : Int32) (j1 : Int32) (j2 : Int32) (j3 : Int32) (j5 : Int32) (j7 : Int32) (j26 : Int32) (j27 : Int32) (hj1 : j1 = (p1 &&& (131071 : Int32))) (hj2 : j2 = (p2 &&& (131071 : Int32))) (hj3 : j3 = (p3 &&& (131071 : Int32))) (hj5 : j5 = (if (p5 &&& (1 : Int32)) = (0 : Int32) then (0 : Int32) else (1 : Int32))) (hj7 : j7 = (if (p5 &&& (2 : Int32)) = (0 : Int32) then (0 : Int32) else (1 : Int32))) (hj26 : j26 = ((0 : Int32) + (1 : Int32))) (hj27 : j27 = (if j1 = j2 then (1 : Int32) else (0 : Int32))) (hc63_3 : j5 = (0 : Int32)) (hc75_4 : ¬ (j7 = (0 : Int32))) (hhhhc1_3_5_82 : ¬ (j2 < (0 : Int32))) (hhhhc6_3_5_82 : j2 < (131072 : Int32)) (hhhlo17_11_82 : ¬ ((j2 / (64 : Int32)) < (0 : Int32))) (hhhhi17_11_82 : (j2 / (64 : Int32)) < (2048 : Int32)) (hs208 : (r_5 (131072 : Int32)) = (131072 : Int32)) (hs230 : (r_6 (u_11_a1_count j2 (131072 : Int32) (fun _ => 0) (0 : Int32))) = j26) (hhhhc1_3_5_249 : ¬ (j1 < (0 : Int32))) (hhhhc6_3_5_249 : j1 < (131072 : Int32)) (hhlo17_249 : ¬ ((j1 / (64 : Int32)) < (0 : Int32))) (hhhi17_249 : (j1 / (64 : Int32)) < (2048 : Int32)) (hs254 : (r_7 j1 (131072 : Int32) (u_11_w_words_a1_fn j2 (131072 : Int32) (fun _ => 0) (0 : Int32))) = j27) (hhhhc1_3_5_273 : ¬ (j3 < (0 : Int32))) (hhhhc6_3_5_273 : j3 < (131072 : Int32)) (hhlo17_273 : ¬ ((j3 / (64 : Int32)) < (0 : Int32))) : (j3 / (64 : Int32)) < (2048 : Int32) := by
  exact (own_pl_q _ (own_pl_mask _ _ hj3).1 (own_pl_mask _ _ hj3).2).2
theorem own_at_hs278_tf (p1 : Int32) (p2 : Int32) (p3 : Int32) (p5 : Int32) (j1 : Int32) (j2 : Int32) (j3 : Int32) (j5 : Int32) (j7 : Int32) (j26 : Int32) (j27 : Int32) (j29 : Int32) (hj1 : j1 = (p1 &&& (131071 : Int32))) (hj2 : j2 = (p2 &&& (131071 : Int32))) (hj3 : j3 = (p3 &&& (131071 : Int32))) (hj5 : j5 = (if (p5 &&& (1 : Int32)) = (0 : Int32) then (0 : Int32) else (1 : Int32))) (hj7 : j7 = (if (p5 &&& (2 : Int32)) = (0 : Int32) then (0 : Int32) else (1 : Int32))) (hj26 : j26 = ((0 : Int32) + (1 : Int32))) (hj27 : j27 = (if j1 = j2 then (1 : Int32) else (0 : Int32))) (hj29 : j29 = (if j3 = j2 then (1 : Int32) else (0 : Int32))) (hc63_3 : j5 = (0 : Int32)) (hc75_4 : ¬ (j7 = (0 : Int32))) (hhhhc1_3_5_82 : ¬ (j2 < (0 : Int32))) (hhhhc6_3_5_82 : j2 < (131072 : Int32)) (hhhlo17_11_82 : ¬ ((j2 / (64 : Int32)) < (0 : Int32))) (hhhhi17_11_82 : (j2 / (64 : Int32)) < (2048 : Int32)) (hs208 : (r_5 (131072 : Int32)) = (131072 : Int32)) (hs230 : (r_6 (u_11_a1_count j2 (131072 : Int32) (fun _ => 0) (0 : Int32))) = j26) (hhhhc1_3_5_249 : ¬ (j1 < (0 : Int32))) (hhhhc6_3_5_249 : j1 < (131072 : Int32)) (hhlo17_249 : ¬ ((j1 / (64 : Int32)) < (0 : Int32))) (hhhi17_249 : (j1 / (64 : Int32)) < (2048 : Int32)) (hs254 : (r_7 j1 (131072 : Int32) (u_11_w_words_a1_fn j2 (131072 : Int32) (fun _ => 0) (0 : Int32))) = j27) (hhhhc1_3_5_273 : ¬ (j3 < (0 : Int32))) (hhhhc6_3_5_273 : j3 < (131072 : Int32)) (hhlo17_273 : ¬ ((j3 / (64 : Int32)) < (0 : Int32))) (hhhi17_273 : (j3 / (64 : Int32)) < (2048 : Int32)) : (r_7 j3 (131072 : Int32) (u_11_w_words_a1_fn j2 (131072 : Int32) (fun _ => 0) (0 : Int32))) = j29 := by
  have rj1 := (own_pl_mask _ _ hj1)
  have rj2 := (own_pl_mask _ _ hj2)
  have rj3 := (own_pl_mask _ _ hj3)
  have g_j1_j1 := fun (s c : Int32) (w : Nat → Int64) => own_pl_gs j1 j1 s c w rj1.1 rj1.2 rj1.1 rj1.2
  have g_j1_j2 := fun (s c : Int32) (w : Nat → Int64) => own_pl_gs j1 j2 s c w rj1.1 rj1.2 rj2.1 rj2.2
  have g_j1_j3 := fun (s c : Int32) (w : Nat → Int64) => own_pl_gs j1 j3 s c w rj1.1 rj1.2 rj3.1 rj3.2
  have g_j2_j1 := fun (s c : Int32) (w : Nat → Int64) => own_pl_gs j2 j1 s c w rj2.1 rj2.2 rj1.1 rj1.2
  have g_j2_j2 := fun (s c : Int32) (w : Nat → Int64) => own_pl_gs j2 j2 s c w rj2.1 rj2.2 rj2.1 rj2.2
  have g_j2_j3 := fun (s c : Int32) (w : Nat → Int64) => own_pl_gs j2 j3 s c w rj2.1 rj2.2 rj3.1 rj3.2
  have g_j3_j1 := fun (s c : Int32) (w : Nat → Int64) => own_pl_gs j3 j1 s c w rj3.1 rj3.2 rj1.1 rj1.2
  have g_j3_j2 := fun (s c : Int32) (w : Nat → Int64) => own_pl_gs j3 j2 s c w rj3.1 rj3.2 rj2.1 rj2.2
  have g_j3_j3 := fun (s c : Int32) (w : Nat → Int64) => own_pl_gs j3 j3 s c w rj3.1 rj3.2 rj3.1 rj3.2
  clear hs208 hs230 hs254
  simp only [own_pl_ct, own_pl_r6, g_j1_j1, g_j1_j2, g_j1_j3, g_j2_j1, g_j2_j2, g_j2_j3, g_j3_j1, g_j3_j2, g_j3_j3, own_pl_gz]
  all_goals (
    clear g_j1_j1 g_j1_j2 g_j1_j3 g_j2_j1 g_j2_j2 g_j2_j3 g_j3_j1 g_j3_j2 g_j3_j3 rj1 rj2 rj3 hhhi17_273 hhlo17_273 hhhhc6_3_5_273 hhhhc1_3_5_273 hhhi17_249 hhlo17_249 hhhhc6_3_5_249 hhhhc1_3_5_249 hhhhi17_11_82 hhhlo17_11_82 hhhhc6_3_5_82 hhhhc1_3_5_82 hc75_4 hc63_3 hj7 hj5 hj3 hj2 hj1
    subst hj29
    subst hj27
    subst hj26
    by_cases ej1j2 : j1 = j2 <;> by_cases ej1j3 : j1 = j3 <;> by_cases ej2j3 : j2 = j3 <;> first | (simp_all; done) | (simp_all [eq_comm]; done) | rfl | decide)
theorem own_at_hs346_tf (p1 : Int32) (p2 : Int32) (p3 : Int32) (p5 : Int32) (j1 : Int32) (j2 : Int32) (j3 : Int32) (j5 : Int32) (j7 : Int32) (j26 : Int32) (j27 : Int32) (j29 : Int32) (j38 : Int32) (j40 : Int32) (hj1 : j1 = (p1 &&& (131071 : Int32))) (hj2 : j2 = (p2 &&& (131071 : Int32))) (hj3 : j3 = (p3 &&& (131071 : Int32))) (hj5 : j5 = (if (p5 &&& (1 : Int32)) = (0 : Int32) then (0 : Int32) else (1 : Int32))) (hj7 : j7 = (if (p5 &&& (2 : Int32)) = (0 : Int32) then (0 : Int32) else (1 : Int32))) (hj26 : j26 = ((0 : Int32) + (1 : Int32))) (hj27 : j27 = (if j1 = j2 then (1 : Int32) else (0 : Int32))) (hj29 : j29 = (if j3 = j2 then (1 : Int32) else (0 : Int32))) (hj38 : j38 = (if j29 = (0 : Int32) then (1 : Int32) else (0 : Int32))) (hj40 : j40 = (j26 + j38)) (hc63_3 : j5 = (0 : Int32)) (hc75_4 : ¬ (j7 = (0 : Int32))) (hhhhc1_3_5_82 : ¬ (j2 < (0 : Int32))) (hhhhc6_3_5_82 : j2 < (131072 : Int32)) (hhhlo17_11_82 : ¬ ((j2 / (64 : Int32)) < (0 : Int32))) (hhhhi17_11_82 : (j2 / (64 : Int32)) < (2048 : Int32)) (hs208 : (r_5 (131072 : Int32)) = (131072 : Int32)) (hs230 : (r_6 (u_11_a1_count j2 (131072 : Int32) (fun _ => 0) (0 : Int32))) = j26) (hhhhc1_3_5_249 : ¬ (j1 < (0 : Int32))) (hhhhc6_3_5_249 : j1 < (131072 : Int32)) (hhlo17_249 : ¬ ((j1 / (64 : Int32)) < (0 : Int32))) (hhhi17_249 : (j1 / (64 : Int32)) < (2048 : Int32)) (hs254 : (r_7 j1 (131072 : Int32) (u_11_w_words_a1_fn j2 (131072 : Int32) (fun _ => 0) (0 : Int32))) = j27) (hhhhc1_3_5_273 : ¬ (j3 < (0 : Int32))) (hhhhc6_3_5_273 : j3 < (131072 : Int32)) (hhlo17_273 : ¬ ((j3 / (64 : Int32)) < (0 : Int32))) (hhhi17_273 : (j3 / (64 : Int32)) < (2048 : Int32)) (hs278 : (r_7 j3 (131072 : Int32) (u_11_w_words_a1_fn j2 (131072 : Int32) (fun _ => 0) (0 : Int32))) = j29) : (r_6 (u_11_a1_count j3 (131072 : Int32) (u_11_w_words_a1_fn j2 (131072 : Int32) (fun _ => 0) (0 : Int32)) (u_11_a1_count j2 (131072 : Int32) (fun _ => 0) (0 : Int32)))) = j40 := by
  have rj1 := (own_pl_mask _ _ hj1)
  have rj2 := (own_pl_mask _ _ hj2)
  have rj3 := (own_pl_mask _ _ hj3)
  have g_j1_j1 := fun (s c : Int32) (w : Nat → Int64) => own_pl_gs j1 j1 s c w rj1.1 rj1.2 rj1.1 rj1.2
  have g_j1_j2 := fun (s c : Int32) (w : Nat → Int64) => own_pl_gs j1 j2 s c w rj1.1 rj1.2 rj2.1 rj2.2
  have g_j1_j3 := fun (s c : Int32) (w : Nat → Int64) => own_pl_gs j1 j3 s c w rj1.1 rj1.2 rj3.1 rj3.2
  have g_j2_j1 := fun (s c : Int32) (w : Nat → Int64) => own_pl_gs j2 j1 s c w rj2.1 rj2.2 rj1.1 rj1.2
  have g_j2_j2 := fun (s c : Int32) (w : Nat → Int64) => own_pl_gs j2 j2 s c w rj2.1 rj2.2 rj2.1 rj2.2
  have g_j2_j3 := fun (s c : Int32) (w : Nat → Int64) => own_pl_gs j2 j3 s c w rj2.1 rj2.2 rj3.1 rj3.2
  have g_j3_j1 := fun (s c : Int32) (w : Nat → Int64) => own_pl_gs j3 j1 s c w rj3.1 rj3.2 rj1.1 rj1.2
  have g_j3_j2 := fun (s c : Int32) (w : Nat → Int64) => own_pl_gs j3 j2 s c w rj3.1 rj3.2 rj2.1 rj2.2
  have g_j3_j3 := fun (s c : Int32) (w : Nat → Int64) => own_pl_gs j3 j3 s c w rj3.1 rj3.2 rj3.1 rj3.2
  clear hs208 hs230 hs254 hs278
  simp only [own_pl_ct, own_pl_r6, g_j1_j1, g_j1_j2, g_j1_j3, g_j2_j1, g_j2_j2, g_j2_j3, g_j3_j1, g_j3_j2, g_j3_j3, own_pl_gz]
  all_goals (
    clear g_j1_j1 g_j1_j2 g_j1_j3 g_j2_j1 g_j2_j2 g_j2_j3 g_j3_j1 g_j3_j2 g_j3_j3 rj1 rj2 rj3 hhhi17_273 hhlo17_273 hhhhc6_3_5_273 hhhhc1_3_5_273 hhhi17_249 hhlo17_249 hhhhc6_3_5_249 hhhhc1_3_5_249 hhhhi17_11_82 hhhlo17_11_82 hhhhc6_3_5_82 hhhhc1_3_5_82 hc75_4 hc63_3 hj7 hj5 hj3 hj2 hj1
    subst hj40
    subst hj38
    subst hj29
    subst hj27
    subst hj26
    by_cases ej1j2 : j1 = j2 <;> by_cases ej1j3 : j1 = j3 <;> by_cases ej2j3 : j2 = j3 <;> first | (simp_all; done) | (simp_all [eq_comm]; done) | rfl | decide)
theorem own_at_hhhhc1_3_5_398_tf (p1 : Int32) (p2 : Int32) (p3 : Int32) (p4 : Int32) (p5 : Int32) (j1 : Int32) (j2 : Int32) (j3 : Int32) (j4 : Int32) (j5 : Int32) (j7 : Int32) (j26 : Int32) (j27 : Int32) (j29 : Int32) (j38 : Int32) (j40 : Int32) (hj1 : j1 = (p1 &&& (131071 : Int32))) (hj2 : j2 = (p2 &&& (131071 : Int32))) (hj3 : j3 = (p3 &&& (131071 : Int32))) (hj4 : j4 = (p4 &&& (131071 : Int32))) (hj5 : j5 = (if (p5 &&& (1 : Int32)) = (0 : Int32) then (0 : Int32) else (1 : Int32))) (hj7 : j7 = (if (p5 &&& (2 : Int32)) = (0 : Int32) then (0 : Int32) else (1 : Int32))) (hj26 : j26 = ((0 : Int32) + (1 : Int32))) (hj27 : j27 = (if j1 = j2 then (1 : Int32) else (0 : Int32))) (hj29 : j29 = (if j3 = j2 then (1 : Int32) else (0 : Int32))) (hj38 : j38 = (if j29 = (0 : Int32) then (1 : Int32) else (0 : Int32))) (hj40 : j40 = (j26 + j38)) (hc63_3 : j5 = (0 : Int32)) (hc75_4 : ¬ (j7 = (0 : Int32))) (hhhhc1_3_5_82 : ¬ (j2 < (0 : Int32))) (hhhhc6_3_5_82 : j2 < (131072 : Int32)) (hhhlo17_11_82 : ¬ ((j2 / (64 : Int32)) < (0 : Int32))) (hhhhi17_11_82 : (j2 / (64 : Int32)) < (2048 : Int32)) (hs208 : (r_5 (131072 : Int32)) = (131072 : Int32)) (hs230 : (r_6 (u_11_a1_count j2 (131072 : Int32) (fun _ => 0) (0 : Int32))) = j26) (hhhhc1_3_5_249 : ¬ (j1 < (0 : Int32))) (hhhhc6_3_5_249 : j1 < (131072 : Int32)) (hhlo17_249 : ¬ ((j1 / (64 : Int32)) < (0 : Int32))) (hhhi17_249 : (j1 / (64 : Int32)) < (2048 : Int32)) (hs254 : (r_7 j1 (131072 : Int32) (u_11_w_words_a1_fn j2 (131072 : Int32) (fun _ => 0) (0 : Int32))) = j27) (hhhhc1_3_5_273 : ¬ (j3 < (0 : Int32))) (hhhhc6_3_5_273 : j3 < (131072 : Int32)) (hhlo17_273 : ¬ ((j3 / (64 : Int32)) < (0 : Int32))) (hhhi17_273 : (j3 / (64 : Int32)) < (2048 : Int32)) (hs278 : (r_7 j3 (131072 : Int32) (u_11_w_words_a1_fn j2 (131072 : Int32) (fun _ => 0) (0 : Int32))) = j29) (hs346 : (r_6 (u_11_a1_count j3 (131072 : Int32) (u_11_w_words_a1_fn j2 (131072 : Int32) (fun _ => 0) (0 : Int32)) (u_11_a1_count j2 (131072 : Int32) (fun _ => 0) (0 : Int32)))) = j40) : ¬ (j4 < (0 : Int32)) := by
  exact (own_pl_mask _ _ hj4).1
theorem own_at_hhhhc6_3_5_398_tf (p1 : Int32) (p2 : Int32) (p3 : Int32) (p4 : Int32) (p5 : Int32) (j1 : Int32) (j2 : Int32) (j3 : Int32) (j4 : Int32) (j5 : Int32) (j7 : Int32) (j26 : Int32) (j27 : Int32) (j29 : Int32) (j38 : Int32) (j40 : Int32) (hj1 : j1 = (p1 &&& (131071 : Int32))) (hj2 : j2 = (p2 &&& (131071 : Int32))) (hj3 : j3 = (p3 &&& (131071 : Int32))) (hj4 : j4 = (p4 &&& (131071 : Int32))) (hj5 : j5 = (if (p5 &&& (1 : Int32)) = (0 : Int32) then (0 : Int32) else (1 : Int32))) (hj7 : j7 = (if (p5 &&& (2 : Int32)) = (0 : Int32) then (0 : Int32) else (1 : Int32))) (hj26 : j26 = ((0 : Int32) + (1 : Int32))) (hj27 : j27 = (if j1 = j2 then (1 : Int32) else (0 : Int32))) (hj29 : j29 = (if j3 = j2 then (1 : Int32) else (0 : Int32))) (hj38 : j38 = (if j29 = (0 : Int32) then (1 : Int32) else (0 : Int32))) (hj40 : j40 = (j26 + j38)) (hc63_3 : j5 = (0 : Int32)) (hc75_4 : ¬ (j7 = (0 : Int32))) (hhhhc1_3_5_82 : ¬ (j2 < (0 : Int32))) (hhhhc6_3_5_82 : j2 < (131072 : Int32)) (hhhlo17_11_82 : ¬ ((j2 / (64 : Int32)) < (0 : Int32))) (hhhhi17_11_82 : (j2 / (64 : Int32)) < (2048 : Int32)) (hs208 : (r_5 (131072 : Int32)) = (131072 : Int32)) (hs230 : (r_6 (u_11_a1_count j2 (131072 : Int32) (fun _ => 0) (0 : Int32))) = j26) (hhhhc1_3_5_249 : ¬ (j1 < (0 : Int32))) (hhhhc6_3_5_249 : j1 < (131072 : Int32)) (hhlo17_249 : ¬ ((j1 / (64 : Int32)) < (0 : Int32))) (hhhi17_249 : (j1 / (64 : Int32)) < (2048 : Int32)) (hs254 : (r_7 j1 (131072 : Int32) (u_11_w_words_a1_fn j2 (131072 : Int32) (fun _ => 0) (0 : Int32))) = j27) (hhhhc1_3_5_273 : ¬ (j3 < (0 : Int32))) (hhhhc6_3_5_273 : j3 < (131072 : Int32)) (hhlo17_273 : ¬ ((j3 / (64 : Int32)) < (0 : Int32))) (hhhi17_273 : (j3 / (64 : Int32)) < (2048 : Int32)) (hs278 : (r_7 j3 (131072 : Int32) (u_11_w_words_a1_fn j2 (131072 : Int32) (fun _ => 0) (0 : Int32))) = j29) (hs346 : (r_6 (u_11_a1_count j3 (131072 : Int32) (u_11_w_words_a1_fn j2 (131072 : Int32) (fun _ => 0) (0 : Int32)) (u_11_a1_count j2 (131072 : Int32) (fun _ => 0) (0 : Int32)))) = j40) (hhhhc1_3_5_398 : ¬ (j4 < (0 : Int32))) : j4 < (131072 : Int32) := by
  exact (own_pl_mask _ _ hj4).2
theorem own_at_hhhlo17_11_398_tf (p1 : Int32) (p2 : Int32) (p3 : Int32) (p4 : Int32) (p5 : Int32) (j1 : Int32) (j2 : Int32) (j3 : Int32) (j4 : Int32) (j5 : Int32) (j7 : Int32) (j26 : Int32) (j27 : Int32) (j29 : Int32) (j38 : Int32) (j40 : Int32) (hj1 : j1 = (p1 &&& (131071 : Int32))) (hj2 : j2 = (p2 &&& (131071 : Int32))) (hj3 : j3 = (p3 &&& (131071 : Int32))) (hj4 : j4 = (p4 &&& (131071 : Int32))) (hj5 : j5 = (if (p5 &&& (1 : Int32)) = (0 : Int32) then (0 : Int32) else (1 : Int32))) (hj7 : j7 = (if (p5 &&& (2 : Int32)) = (0 : Int32) then (0 : Int32) else (1 : Int32))) (hj26 : j26 = ((0 : Int32) + (1 : Int32))) (hj27 : j27 = (if j1 = j2 then (1 : Int32) else (0 : Int32))) (hj29 : j29 = (if j3 = j2 then (1 : Int32) else (0 : Int32))) (hj38 : j38 = (if j29 = (0 : Int32) then (1 : Int32) else (0 : Int32))) (hj40 : j40 = (j26 + j38)) (hc63_3 : j5 = (0 : Int32)) (hc75_4 : ¬ (j7 = (0 : Int32))) (hhhhc1_3_5_82 : ¬ (j2 < (0 : Int32))) (hhhhc6_3_5_82 : j2 < (131072 : Int32)) (hhhlo17_11_82 : ¬ ((j2 / (64 : Int32)) < (0 : Int32))) (hhhhi17_11_82 : (j2 / (64 : Int32)) < (2048 : Int32)) (hs208 : (r_5 (131072 : Int32)) = (131072 : Int32)) (hs230 : (r_6 (u_11_a1_count j2 (131072 : Int32) (fun _ => 0) (0 : Int32))) = j26) (hhhhc1_3_5_249 : ¬ (j1 < (0 : Int32))) (hhhhc6_3_5_249 : j1 < (131072 : Int32)) (hhlo17_249 : ¬ ((j1 / (64 : Int32)) < (0 : Int32))) (hhhi17_249 : (j1 / (64 : Int32)) < (2048 : Int32)) (hs254 : (r_7 j1 (131072 : Int32) (u_11_w_words_a1_fn j2 (131072 : Int32) (fun _ => 0) (0 : Int32))) = j27) (hhhhc1_3_5_273 : ¬ (j3 < (0 : Int32))) (hhhhc6_3_5_273 : j3 < (131072 : Int32)) (hhlo17_273 : ¬ ((j3 / (64 : Int32)) < (0 : Int32))) (hhhi17_273 : (j3 / (64 : Int32)) < (2048 : Int32)) (hs278 : (r_7 j3 (131072 : Int32) (u_11_w_words_a1_fn j2 (131072 : Int32) (fun _ => 0) (0 : Int32))) = j29) (hs346 : (r_6 (u_11_a1_count j3 (131072 : Int32) (u_11_w_words_a1_fn j2 (131072 : Int32) (fun _ => 0) (0 : Int32)) (u_11_a1_count j2 (131072 : Int32) (fun _ => 0) (0 : Int32)))) = j40) (hhhhc1_3_5_398 : ¬ (j4 < (0 : Int32))) (hhhhc6_3_5_398 : j4 < (131072 : Int32)) : ¬ ((j4 / (64 : Int32)) < (0 : Int32)) := by
  exact (own_pl_q _ (own_pl_mask _ _ hj4).1 (own_pl_mask _ _ hj4).2).1
theorem own_at_hhhhi17_11_398_tf (p1 : Int32) (p2 : Int32) (p3 : Int32) (p4 : Int32) (p5 : Int32) (j1 : Int32) (j2 : Int32) (j3 : Int32) (j4 : Int32) (j5 : Int32) (j7 : Int32) (j26 : Int32) (j27 : Int32) (j29 : Int32) (j38 : Int32) (j40 : Int32) (hj1 : j1 = (p1 &&& (131071 : Int32))) (hj2 : j2 = (p2 &&& (131071 : Int32))) (hj3 : j3 = (p3 &&& (131071 : Int32))) (hj4 : j4 = (p4 &&& (131071 : Int32))) (hj5 : j5 = (if (p5 &&& (1 : Int32)) = (0 : Int32) then (0 : Int32) else (1 : Int32))) (hj7 : j7 = (if (p5 &&& (2 : Int32)) = (0 : Int32) then (0 : Int32) else (1 : Int32))) (hj26 : j26 = ((0 : Int32) + (1 : Int32))) (hj27 : j27 = (if j1 = j2 then (1 : Int32) else (0 : Int32))) (hj29 : j29 = (if j3 = j2 then (1 : Int32) else (0 : Int32))) (hj38 : j38 = (if j29 = (0 : Int32) then (1 : Int32) else (0 : Int32))) (hj40 : j40 = (j26 + j38)) (hc63_3 : j5 = (0 : Int32)) (hc75_4 : ¬ (j7 = (0 : Int32))) (hhhhc1_3_5_82 : ¬ (j2 < (0 : Int32))) (hhhhc6_3_5_82 : j2 < (131072 : Int32)) (hhhlo17_11_82 : ¬ ((j2 / (64 : Int32)) < (0 : Int32))) (hhhhi17_11_82 : (j2 / (64 : Int32)) < (2048 : Int32)) (hs208 : (r_5 (131072 : Int32)) = (131072 : Int32)) (hs230 : (r_6 (u_11_a1_count j2 (131072 : Int32) (fun _ => 0) (0 : Int32))) = j26) (hhhhc1_3_5_249 : ¬ (j1 < (0 : Int32))) (hhhhc6_3_5_249 : j1 < (131072 : Int32)) (hhlo17_249 : ¬ ((j1 / (64 : Int32)) < (0 : Int32))) (hhhi17_249 : (j1 / (64 : Int32)) < (2048 : Int32)) (hs254 : (r_7 j1 (131072 : Int32) (u_11_w_words_a1_fn j2 (131072 : Int32) (fun _ => 0) (0 : Int32))) = j27) (hhhhc1_3_5_273 : ¬ (j3 < (0 : Int32))) (hhhhc6_3_5_273 : j3 < (131072 : Int32)) (hhlo17_273 : ¬ ((j3 / (64 : Int32)) < (0 : Int32))) (hhhi17_273 : (j3 / (64 : Int32)) < (2048 : Int32)) (hs278 : (r_7 j3 (131072 : Int32) (u_11_w_words_a1_fn j2 (131072 : Int32) (fun _ => 0) (0 : Int32))) = j29) (hs346 : (r_6 (u_11_a1_count j3 (131072 : Int32) (u_11_w_words_a1_fn j2 (131072 : Int32) (fun _ => 0) (0 : Int32)) (u_11_a1_count j2 (131072 : Int32) (fun _ => 0) (0 : Int32)))) = j40) (hhhhc1_3_5_398 : ¬ (j4 < (0 : Int32))) (hhhhc6_3_5_398 : j4 < (131072 : Int32)) (hhhlo17_11_398 : ¬ ((j4 / (64 : Int32)) < (0 : Int32))) : (j4 / (64 : Int32)) < (2048 : Int32) := by
  exact (own_pl_q _ (own_pl_mask _ _ hj4).1 (own_pl_mask _ _ hj4).2).2
theorem own_at_hs415_tf (p1 : Int32) (p2 : Int32) (p3 : Int32) (p4 : Int32) (p5 : Int32) (j1 : Int32) (j2 : Int32) (j3 : Int32) (j4 : Int32) (j5 : Int32) (j7 : Int32) (j26 : Int32) (j27 : Int32) (j29 : Int32) (j38 : Int32) (j40 : Int32) (j42 : Int32) (hj1 : j1 = (p1 &&& (131071 : Int32))) (hj2 : j2 = (p2 &&& (131071 : Int32))) (hj3 : j3 = (p3 &&& (131071 : Int32))) (hj4 : j4 = (p4 &&& (131071 : Int32))) (hj5 : j5 = (if (p5 &&& (1 : Int32)) = (0 : Int32) then (0 : Int32) else (1 : Int32))) (hj7 : j7 = (if (p5 &&& (2 : Int32)) = (0 : Int32) then (0 : Int32) else (1 : Int32))) (hj26 : j26 = ((0 : Int32) + (1 : Int32))) (hj27 : j27 = (if j1 = j2 then (1 : Int32) else (0 : Int32))) (hj29 : j29 = (if j3 = j2 then (1 : Int32) else (0 : Int32))) (hj38 : j38 = (if j29 = (0 : Int32) then (1 : Int32) else (0 : Int32))) (hj40 : j40 = (j26 + j38)) (hj42 : j42 = (if j4 = j2 then (1 : Int32) else (if j4 = j3 then (1 : Int32) else (0 : Int32)))) (hc63_3 : j5 = (0 : Int32)) (hc75_4 : ¬ (j7 = (0 : Int32))) (hhhhc1_3_5_82 : ¬ (j2 < (0 : Int32))) (hhhhc6_3_5_82 : j2 < (131072 : Int32)) (hhhlo17_11_82 : ¬ ((j2 / (64 : Int32)) < (0 : Int32))) (hhhhi17_11_82 : (j2 / (64 : Int32)) < (2048 : Int32)) (hs208 : (r_5 (131072 : Int32)) = (131072 : Int32)) (hs230 : (r_6 (u_11_a1_count j2 (131072 : Int32) (fun _ => 0) (0 : Int32))) = j26) (hhhhc1_3_5_249 : ¬ (j1 < (0 : Int32))) (hhhhc6_3_5_249 : j1 < (131072 : Int32)) (hhlo17_249 : ¬ ((j1 / (64 : Int32)) < (0 : Int32))) (hhhi17_249 : (j1 / (64 : Int32)) < (2048 : Int32)) (hs254 : (r_7 j1 (131072 : Int32) (u_11_w_words_a1_fn j2 (131072 : Int32) (fun _ => 0) (0 : Int32))) = j27) (hhhhc1_3_5_273 : ¬ (j3 < (0 : Int32))) (hhhhc6_3_5_273 : j3 < (131072 : Int32)) (hhlo17_273 : ¬ ((j3 / (64 : Int32)) < (0 : Int32))) (hhhi17_273 : (j3 / (64 : Int32)) < (2048 : Int32)) (hs278 : (r_7 j3 (131072 : Int32) (u_11_w_words_a1_fn j2 (131072 : Int32) (fun _ => 0) (0 : Int32))) = j29) (hs346 : (r_6 (u_11_a1_count j3 (131072 : Int32) (u_11_w_words_a1_fn j2 (131072 : Int32) (fun _ => 0) (0 : Int32)) (u_11_a1_count j2 (131072 : Int32) (fun _ => 0) (0 : Int32)))) = j40) (hhhhc1_3_5_398 : ¬ (j4 < (0 : Int32))) (hhhhc6_3_5_398 : j4 < (131072 : Int32)) (hhhlo17_11_398 : ¬ ((j4 / (64 : Int32)) < (0 : Int32))) (hhhhi17_11_398 : (j4 / (64 : Int32)) < (2048 : Int32)) : (r_7 j4 (131072 : Int32) (u_11_w_words_a1_fn j3 (131072 : Int32) (u_11_w_words_a1_fn j2 (131072 : Int32) (fun _ => 0) (0 : Int32)) (u_11_a1_count j2 (131072 : Int32) (fun _ => 0) (0 : Int32)))) = j42 := by
  have rj1 := (own_pl_mask _ _ hj1)
  have rj2 := (own_pl_mask _ _ hj2)
  have rj3 := (own_pl_mask _ _ hj3)
  have rj4 := (own_pl_mask _ _ hj4)
  have g_j1_j1 := fun (s c : Int32) (w : Nat → Int64) => own_pl_gs j1 j1 s c w rj1.1 rj1.2 rj1.1 rj1.2
  have g_j1_j2 := fun (s c : Int32) (w : Nat → Int64) => own_pl_gs j1 j2 s c w rj1.1 rj1.2 rj2.1 rj2.2
  have g_j1_j3 := fun (s c : Int32) (w : Nat → Int64) => own_pl_gs j1 j3 s c w rj1.1 rj1.2 rj3.1 rj3.2
  have g_j1_j4 := fun (s c : Int32) (w : Nat → Int64) => own_pl_gs j1 j4 s c w rj1.1 rj1.2 rj4.1 rj4.2
  have g_j2_j1 := fun (s c : Int32) (w : Nat → Int64) => own_pl_gs j2 j1 s c w rj2.1 rj2.2 rj1.1 rj1.2
  have g_j2_j2 := fun (s c : Int32) (w : Nat → Int64) => own_pl_gs j2 j2 s c w rj2.1 rj2.2 rj2.1 rj2.2
  have g_j2_j3 := fun (s c : Int32) (w : Nat → Int64) => own_pl_gs j2 j3 s c w rj2.1 rj2.2 rj3.1 rj3.2
  have g_j2_j4 := fun (s c : Int32) (w : Nat → Int64) => own_pl_gs j2 j4 s c w rj2.1 rj2.2 rj4.1 rj4.2
  have g_j3_j1 := fun (s c : Int32) (w : Nat → Int64) => own_pl_gs j3 j1 s c w rj3.1 rj3.2 rj1.1 rj1.2
  have g_j3_j2 := fun (s c : Int32) (w : Nat → Int64) => own_pl_gs j3 j2 s c w rj3.1 rj3.2 rj2.1 rj2.2
  have g_j3_j3 := fun (s c : Int32) (w : Nat → Int64) => own_pl_gs j3 j3 s c w rj3.1 rj3.2 rj3.1 rj3.2
  have g_j3_j4 := fun (s c : Int32) (w : Nat → Int64) => own_pl_gs j3 j4 s c w rj3.1 rj3.2 rj4.1 rj4.2
  have g_j4_j1 := fun (s c : Int32) (w : Nat → Int64) => own_pl_gs j4 j1 s c w rj4.1 rj4.2 rj1.1 rj1.2
  have g_j4_j2 := fun (s c : Int32) (w : Nat → Int64) => own_pl_gs j4 j2 s c w rj4.1 rj4.2 rj2.1 rj2.2
  have g_j4_j3 := fun (s c : Int32) (w : Nat → Int64) => own_pl_gs j4 j3 s c w rj4.1 rj4.2 rj3.1 rj3.2
  have g_j4_j4 := fun (s c : Int32) (w : Nat → Int64) => own_pl_gs j4 j4 s c w rj4.1 rj4.2 rj4.1 rj4.2
  clear hs208 hs230 hs254 hs278 hs346
  simp only [own_pl_ct, own_pl_r6, g_j1_j1, g_j1_j2, g_j1_j3, g_j1_j4, g_j2_j1, g_j2_j2, g_j2_j3, g_j2_j4, g_j3_j1, g_j3_j2, g_j3_j3, g_j3_j4, g_j4_j1, g_j4_j2, g_j4_j3, g_j4_j4, own_pl_gz]
  all_goals (
    clear g_j1_j1 g_j1_j2 g_j1_j3 g_j1_j4 g_j2_j1 g_j2_j2 g_j2_j3 g_j2_j4 g_j3_j1 g_j3_j2 g_j3_j3 g_j3_j4 g_j4_j1 g_j4_j2 g_j4_j3 g_j4_j4 rj1 rj2 rj3 rj4 hhhhi17_11_398 hhhlo17_11_398 hhhhc6_3_5_398 hhhhc1_3_5_398 hhhi17_273 hhlo17_273 hhhhc6_3_5_273 hhhhc1_3_5_273 hhhi17_249 hhlo17_249 hhhhc6_3_5_249 hhhhc1_3_5_249 hhhhi17_11_82 hhhlo17_11_82 hhhhc6_3_5_82 hhhhc1_3_5_82 hc75_4 hc63_3 hj7 hj5 hj4 hj3 hj2 hj1
    subst hj42
    subst hj40
    subst hj38
    subst hj29
    subst hj27
    subst hj26
    by_cases ej1j2 : j1 = j2 <;> by_cases ej1j3 : j1 = j3 <;> by_cases ej1j4 : j1 = j4 <;> by_cases ej2j3 : j2 = j3 <;> by_cases ej2j4 : j2 = j4 <;> by_cases ej3j4 : j3 = j4 <;> first | (simp_all; done) | (simp_all [eq_comm]; done) | rfl | decide)
theorem own_at_hhhhc1_3_5_70_f (p1 : Int32) (p5 : Int32) (j1 : Int32) (j5 : Int32) (hj1 : j1 = (p1 &&& (131071 : Int32))) (hj5 : j5 = (if (p5 &&& (1 : Int32)) = (0 : Int32) then (0 : Int32) else (1 : Int32))) (hc63_3 : ¬ (j5 = (0 : Int32))) : ¬ (j1 < (0 : Int32)) := by
  exact (own_pl_mask _ _ hj1).1
theorem own_at_hhhhc6_3_5_70_f (p1 : Int32) (p5 : Int32) (j1 : Int32) (j5 : Int32) (hj1 : j1 = (p1 &&& (131071 : Int32))) (hj5 : j5 = (if (p5 &&& (1 : Int32)) = (0 : Int32) then (0 : Int32) else (1 : Int32))) (hc63_3 : ¬ (j5 = (0 : Int32))) (hhhhc1_3_5_70 : ¬ (j1 < (0 : Int32))) : j1 < (131072 : Int32) := by
  exact (own_pl_mask _ _ hj1).2
theorem own_at_hhhlo17_11_70_f (p1 : Int32) (p5 : Int32) (j1 : Int32) (j5 : Int32) (hj1 : j1 = (p1 &&& (131071 : Int32))) (hj5 : j5 = (if (p5 &&& (1 : Int32)) = (0 : Int32) then (0 : Int32) else (1 : Int32))) (hc63_3 : ¬ (j5 = (0 : Int32))) (hhhhc1_3_5_70 : ¬ (j1 < (0 : Int32))) (hhhhc6_3_5_70 : j1 < (131072 : Int32)) : ¬ ((j1 / (64 : Int32)) < (0 : Int32)) := by
  exact (own_pl_q _ (own_pl_mask _ _ hj1).1 (own_pl_mask _ _ hj1).2).1
theorem own_at_hhhhi17_11_70_f (p1 : Int32) (p5 : Int32) (j1 : Int32) (j5 : Int32) (hj1 : j1 = (p1 &&& (131071 : Int32))) (hj5 : j5 = (if (p5 &&& (1 : Int32)) = (0 : Int32) then (0 : Int32) else (1 : Int32))) (hc63_3 : ¬ (j5 = (0 : Int32))) (hhhhc1_3_5_70 : ¬ (j1 < (0 : Int32))) (hhhhc6_3_5_70 : j1 < (131072 : Int32)) (hhhlo17_11_70 : ¬ ((j1 / (64 : Int32)) < (0 : Int32))) : (j1 / (64 : Int32)) < (2048 : Int32) := by
  exact (own_pl_q _ (own_pl_mask _ _ hj1).1 (own_pl_mask _ _ hj1).2).2
theorem own_at_hs208_ft (p1 : Int32) (p5 : Int32) (j1 : Int32) (j5 : Int32) (j7 : Int32) (hj1 : j1 = (p1 &&& (131071 : Int32))) (hj5 : j5 = (if (p5 &&& (1 : Int32)) = (0 : Int32) then (0 : Int32) else (1 : Int32))) (hj7 : j7 = (if (p5 &&& (2 : Int32)) = (0 : Int32) then (0 : Int32) else (1 : Int32))) (hc63_3 : ¬ (j5 = (0 : Int32))) (hhhhc1_3_5_70 : ¬ (j1 < (0 : Int32))) (hhhhc6_3_5_70 : j1 < (131072 : Int32)) (hhhlo17_11_70 : ¬ ((j1 / (64 : Int32)) < (0 : Int32))) (hhhhi17_11_70 : (j1 / (64 : Int32)) < (2048 : Int32)) (hc75_11 : j7 = (0 : Int32)) : (r_5 (131072 : Int32)) = (131072 : Int32) := by
  rfl
theorem own_at_hs230_ft (p1 : Int32) (p5 : Int32) (j1 : Int32) (j5 : Int32) (j7 : Int32) (j47 : Int32) (hj1 : j1 = (p1 &&& (131071 : Int32))) (hj5 : j5 = (if (p5 &&& (1 : Int32)) = (0 : Int32) then (0 : Int32) else (1 : Int32))) (hj7 : j7 = (if (p5 &&& (2 : Int32)) = (0 : Int32) then (0 : Int32) else (1 : Int32))) (hj47 : j47 = ((1 : Int32) + (0 : Int32))) (hc63_3 : ¬ (j5 = (0 : Int32))) (hhhhc1_3_5_70 : ¬ (j1 < (0 : Int32))) (hhhhc6_3_5_70 : j1 < (131072 : Int32)) (hhhlo17_11_70 : ¬ ((j1 / (64 : Int32)) < (0 : Int32))) (hhhhi17_11_70 : (j1 / (64 : Int32)) < (2048 : Int32)) (hc75_11 : j7 = (0 : Int32)) (hs208 : (r_5 (131072 : Int32)) = (131072 : Int32)) : (r_6 (u_11_a1_count j1 (131072 : Int32) (fun _ => 0) (0 : Int32))) = j47 := by
  have rj1 := (own_pl_mask _ _ hj1)
  have g_j1_j1 := fun (s c : Int32) (w : Nat → Int64) => own_pl_gs j1 j1 s c w rj1.1 rj1.2 rj1.1 rj1.2
  clear hs208
  simp only [own_pl_ct, own_pl_r6, g_j1_j1, own_pl_gz]
  all_goals (
    clear g_j1_j1 rj1 hc75_11 hhhhi17_11_70 hhhlo17_11_70 hhhhc6_3_5_70 hhhhc1_3_5_70 hc63_3 hj7 hj5 hj1
    subst hj47
    first | (simp_all; done) | (simp_all [eq_comm]; done) | rfl | decide)
theorem own_at_hs254_ft (p1 : Int32) (p5 : Int32) (j1 : Int32) (j5 : Int32) (j7 : Int32) (j47 : Int32) (hj1 : j1 = (p1 &&& (131071 : Int32))) (hj5 : j5 = (if (p5 &&& (1 : Int32)) = (0 : Int32) then (0 : Int32) else (1 : Int32))) (hj7 : j7 = (if (p5 &&& (2 : Int32)) = (0 : Int32) then (0 : Int32) else (1 : Int32))) (hj47 : j47 = ((1 : Int32) + (0 : Int32))) (hc63_3 : ¬ (j5 = (0 : Int32))) (hhhhc1_3_5_70 : ¬ (j1 < (0 : Int32))) (hhhhc6_3_5_70 : j1 < (131072 : Int32)) (hhhlo17_11_70 : ¬ ((j1 / (64 : Int32)) < (0 : Int32))) (hhhhi17_11_70 : (j1 / (64 : Int32)) < (2048 : Int32)) (hc75_11 : j7 = (0 : Int32)) (hs208 : (r_5 (131072 : Int32)) = (131072 : Int32)) (hs230 : (r_6 (u_11_a1_count j1 (131072 : Int32) (fun _ => 0) (0 : Int32))) = j47) : (r_7 j1 (131072 : Int32) (u_11_w_words_a1_fn j1 (131072 : Int32) (fun _ => 0) (0 : Int32))) = (1 : Int32) := by
  have rj1 := (own_pl_mask _ _ hj1)
  have g_j1_j1 := fun (s c : Int32) (w : Nat → Int64) => own_pl_gs j1 j1 s c w rj1.1 rj1.2 rj1.1 rj1.2
  clear hs208 hs230
  simp only [own_pl_ct, own_pl_r6, g_j1_j1, own_pl_gz]
  all_goals (
    clear g_j1_j1 rj1 hc75_11 hhhhi17_11_70 hhhlo17_11_70 hhhhc6_3_5_70 hhhhc1_3_5_70 hc63_3 hj7 hj5 hj1
    subst hj47
    first | (simp_all; done) | (simp_all [eq_comm]; done) | rfl | decide)
theorem own_at_hhhhc1_3_5_273_ft (p1 : Int32) (p3 : Int32) (p5 : Int32) (j1 : Int32) (j3 : Int32) (j5 : Int32) (j7 : Int32) (j47 : Int32) (hj1 : j1 = (p1 &&& (131071 : Int32))) (hj3 : j3 = (p3 &&& (131071 : Int32))) (hj5 : j5 = (if (p5 &&& (1 : Int32)) = (0 : Int32) then (0 : Int32) else (1 : Int32))) (hj7 : j7 = (if (p5 &&& (2 : Int32)) = (0 : Int32) then (0 : Int32) else (1 : Int32))) (hj47 : j47 = ((1 : Int32) + (0 : Int32))) (hc63_3 : ¬ (j5 = (0 : Int32))) (hhhhc1_3_5_70 : ¬ (j1 < (0 : Int32))) (hhhhc6_3_5_70 : j1 < (131072 : Int32)) (hhhlo17_11_70 : ¬ ((j1 / (64 : Int32)) < (0 : Int32))) (hhhhi17_11_70 : (j1 / (64 : Int32)) < (2048 : Int32)) (hc75_11 : j7 = (0 : Int32)) (hs208 : (r_5 (131072 : Int32)) = (131072 : Int32)) (hs230 : (r_6 (u_11_a1_count j1 (131072 : Int32) (fun _ => 0) (0 : Int32))) = j47) (hs254 : (r_7 j1 (131072 : Int32) (u_11_w_words_a1_fn j1 (131072 : Int32) (fun _ => 0) (0 : Int32))) = (1 : Int32)) : ¬ (j3 < (0 : Int32)) := by
  exact (own_pl_mask _ _ hj3).1
theorem own_at_hhhhc6_3_5_273_ft (p1 : Int32) (p3 : Int32) (p5 : Int32) (j1 : Int32) (j3 : Int32) (j5 : Int32) (j7 : Int32) (j47 : Int32) (hj1 : j1 = (p1 &&& (131071 : Int32))) (hj3 : j3 = (p3 &&& (131071 : Int32))) (hj5 : j5 = (if (p5 &&& (1 : Int32)) = (0 : Int32) then (0 : Int32) else (1 : Int32))) (hj7 : j7 = (if (p5 &&& (2 : Int32)) = (0 : Int32) then (0 : Int32) else (1 : Int32))) (hj47 : j47 = ((1 : Int32) + (0 : Int32))) (hc63_3 : ¬ (j5 = (0 : Int32))) (hhhhc1_3_5_70 : ¬ (j1 < (0 : Int32))) (hhhhc6_3_5_70 : j1 < (131072 : Int32)) (hhhlo17_11_70 : ¬ ((j1 / (64 : Int32)) < (0 : Int32))) (hhhhi17_11_70 : (j1 / (64 : Int32)) < (2048 : Int32)) (hc75_11 : j7 = (0 : Int32)) (hs208 : (r_5 (131072 : Int32)) = (131072 : Int32)) (hs230 : (r_6 (u_11_a1_count j1 (131072 : Int32) (fun _ => 0) (0 : Int32))) = j47) (hs254 : (r_7 j1 (131072 : Int32) (u_11_w_words_a1_fn j1 (131072 : Int32) (fun _ => 0) (0 : Int32))) = (1 : Int32)) (hhhhc1_3_5_273 : ¬ (j3 < (0 : Int32))) : j3 < (131072 : Int32) := by
  exact (own_pl_mask _ _ hj3).2
theorem own_at_hhlo17_273_ft (p1 : Int32) (p3 : Int32) (p5 : Int32) (j1 : Int32) (j3 : Int32) (j5 : Int32) (j7 : Int32) (j47 : Int32) (hj1 : j1 = (p1 &&& (131071 : Int32))) (hj3 : j3 = (p3 &&& (131071 : Int32))) (hj5 : j5 = (if (p5 &&& (1 : Int32)) = (0 : Int32) then (0 : Int32) else (1 : Int32))) (hj7 : j7 = (if (p5 &&& (2 : Int32)) = (0 : Int32) then (0 : Int32) else (1 : Int32))) (hj47 : j47 = ((1 : Int32) + (0 : Int32))) (hc63_3 : ¬ (j5 = (0 : Int32))) (hhhhc1_3_5_70 : ¬ (j1 < (0 : Int32))) (hhhhc6_3_5_70 : j1 < (131072 : Int32)) (hhhlo17_11_70 : ¬ ((j1 / (64 : Int32)) < (0 : Int32))) (hhhhi17_11_70 : (j1 / (64 : Int32)) < (2048 : Int32)) (hc75_11 : j7 = (0 : Int32)) (hs208 : (r_5 (131072 : Int32)) = (131072 : Int32)) (hs230 : (r_6 (u_11_a1_count j1 (131072 : Int32) (fun _ => 0) (0 : Int32))) = j47) (hs254 : (r_7 j1 (131072 : Int32) (u_11_w_words_a1_fn j1 (131072 : Int32) (fun _ => 0) (0 : Int32))) = (1 : Int32)) (hhhhc1_3_5_273 : ¬ (j3 < (0 : Int32))) (hhhhc6_3_5_273 : j3 < (131072 : Int32)) : ¬ ((j3 / (64 : Int32)) < (0 : Int32)) := by
  exact (own_pl_q _ (own_pl_mask _ _ hj3).1 (own_pl_mask _ _ hj3).2).1
theorem own_at_hhhi17_273_ft (p1 : Int32) (p3 : Int32) (p5 : Int32) (j1 : Int32) (j3 : Int32) (j5 : Int32) (j7 : Int32) (j47 : Int32) (hj1 : j1 = (p1 &&& (131071 : Int32))) (hj3 : j3 = (p3 &&& (131071 : Int32))) (hj5 : j5 = (if (p5 &&& (1 : Int32)) = (0 : Int32) then (0 : Int32) else (1 : Int32))) (hj7 : j7 = (if (p5 &&& (2 : Int32)) = (0 : Int32) then (0 : Int32) else (1 : Int32))) (hj47 : j47 = ((1 : Int32) + (0 : Int32))) (hc63_3 : ¬ (j5 = (0 : Int32))) (hhhhc1_3_5_70 : ¬ (j1 < (0 : Int32))) (hhhhc6_3_5_70 : j1 < (131072 : Int32)) (hhhlo17_11_70 : ¬ ((j1 / (64 : Int32)) < (0 : Int32))) (hhhhi17_11_70 : (j1 / (64 : Int32)) < (2048 : Int32)) (hc75_11 : j7 = (0 : Int32)) (hs208 : (r_5 (131072 : Int32)) = (131072 : Int32)) (hs230 : (r_6 (u_11_a1_count j1 (131072 : Int32) (fun _ => 0) (0 : Int32))) = j47) (hs254 : (r_7 j1 (131072 : Int32) (u_11_w_words_a1_fn j1 (131072 : Int32) (fun _ => 0) (0 : Int32))) = (1 : Int32)) (hhhhc1_3_5_273 : ¬ (j3 < (0 : Int32))) (hhhhc6_3_5_273 : j3 < (131072 : Int32)) (hhlo17_273 : ¬ ((j3 / (64 : Int32)) < (0 : Int32))) : (j3 / (64 : Int32)) < (2048 : Int32) := by
  exact (own_pl_q _ (own_pl_mask _ _ hj3).1 (own_pl_mask _ _ hj3).2).2
theorem own_at_hs278_ft (p1 : Int32) (p3 : Int32) (p5 : Int32) (j1 : Int32) (j3 : Int32) (j5 : Int32) (j7 : Int32) (j47 : Int32) (j48 : Int32) (hj1 : j1 = (p1 &&& (131071 : Int32))) (hj3 : j3 = (p3 &&& (131071 : Int32))) (hj5 : j5 = (if (p5 &&& (1 : Int32)) = (0 : Int32) then (0 : Int32) else (1 : Int32))) (hj7 : j7 = (if (p5 &&& (2 : Int32)) = (0 : Int32) then (0 : Int32) else (1 : Int32))) (hj47 : j47 = ((1 : Int32) + (0 : Int32))) (hj48 : j48 = (if j3 = j1 then (1 : Int32) else (0 : Int32))) (hc63_3 : ¬ (j5 = (0 : Int32))) (hhhhc1_3_5_70 : ¬ (j1 < (0 : Int32))) (hhhhc6_3_5_70 : j1 < (131072 : Int32)) (hhhlo17_11_70 : ¬ ((j1 / (64 : Int32)) < (0 : Int32))) (hhhhi17_11_70 : (j1 / (64 : Int32)) < (2048 : Int32)) (hc75_11 : j7 = (0 : Int32)) (hs208 : (r_5 (131072 : Int32)) = (131072 : Int32)) (hs230 : (r_6 (u_11_a1_count j1 (131072 : Int32) (fun _ => 0) (0 : Int32))) = j47) (hs254 : (r_7 j1 (131072 : Int32) (u_11_w_words_a1_fn j1 (131072 : Int32) (fun _ => 0) (0 : Int32))) = (1 : Int32)) (hhhhc1_3_5_273 : ¬ (j3 < (0 : Int32))) (hhhhc6_3_5_273 : j3 < (131072 : Int32)) (hhlo17_273 : ¬ ((j3 / (64 : Int32)) < (0 : Int32))) (hhhi17_273 : (j3 / (64 : Int32)) < (2048 : Int32)) : (r_7 j3 (131072 : Int32) (u_11_w_words_a1_fn j1 (131072 : Int32) (fun _ => 0) (0 : Int32))) = j48 := by
  have rj1 := (own_pl_mask _ _ hj1)
  have rj3 := (own_pl_mask _ _ hj3)
  have g_j1_j1 := fun (s c : Int32) (w : Nat → Int64) => own_pl_gs j1 j1 s c w rj1.1 rj1.2 rj1.1 rj1.2
  have g_j1_j3 := fun (s c : Int32) (w : Nat → Int64) => own_pl_gs j1 j3 s c w rj1.1 rj1.2 rj3.1 rj3.2
  have g_j3_j1 := fun (s c : Int32) (w : Nat → Int64) => own_pl_gs j3 j1 s c w rj3.1 rj3.2 rj1.1 rj1.2
  have g_j3_j3 := fun (s c : Int32) (w : Nat → Int64) => own_pl_gs j3 j3 s c w rj3.1 rj3.2 rj3.1 rj3.2
  clear hs208 hs230 hs254
  simp only [own_pl_ct, own_pl_r6, g_j1_j1, g_j1_j3, g_j3_j1, g_j3_j3, own_pl_gz]
  all_goals (
    clear g_j1_j1 g_j1_j3 g_j3_j1 g_j3_j3 rj1 rj3 hhhi17_273 hhlo17_273 hhhhc6_3_5_273 hhhhc1_3_5_273 hc75_11 hhhhi17_11_70 hhhlo17_11_70 hhhhc6_3_5_70 hhhhc1_3_5_70 hc63_3 hj7 hj5 hj3 hj1
    subst hj48
    subst hj47
    by_cases ej1j3 : j1 = j3 <;> first | (simp_all; done) | (simp_all [eq_comm]; done) | rfl | decide)
theorem own_at_hs346_ft (p1 : Int32) (p3 : Int32) (p5 : Int32) (j1 : Int32) (j3 : Int32) (j5 : Int32) (j7 : Int32) (j47 : Int32) (j48 : Int32) (j57 : Int32) (j59 : Int32) (hj1 : j1 = (p1 &&& (131071 : Int32))) (hj3 : j3 = (p3 &&& (131071 : Int32))) (hj5 : j5 = (if (p5 &&& (1 : Int32)) = (0 : Int32) then (0 : Int32) else (1 : Int32))) (hj7 : j7 = (if (p5 &&& (2 : Int32)) = (0 : Int32) then (0 : Int32) else (1 : Int32))) (hj47 : j47 = ((1 : Int32) + (0 : Int32))) (hj48 : j48 = (if j3 = j1 then (1 : Int32) else (0 : Int32))) (hj57 : j57 = (if j48 = (0 : Int32) then (1 : Int32) else (0 : Int32))) (hj59 : j59 = (j47 + j57)) (hc63_3 : ¬ (j5 = (0 : Int32))) (hhhhc1_3_5_70 : ¬ (j1 < (0 : Int32))) (hhhhc6_3_5_70 : j1 < (131072 : Int32)) (hhhlo17_11_70 : ¬ ((j1 / (64 : Int32)) < (0 : Int32))) (hhhhi17_11_70 : (j1 / (64 : Int32)) < (2048 : Int32)) (hc75_11 : j7 = (0 : Int32)) (hs208 : (r_5 (131072 : Int32)) = (131072 : Int32)) (hs230 : (r_6 (u_11_a1_count j1 (131072 : Int32) (fun _ => 0) (0 : Int32))) = j47) (hs254 : (r_7 j1 (131072 : Int32) (u_11_w_words_a1_fn j1 (131072 : Int32) (fun _ => 0) (0 : Int32))) = (1 : Int32)) (hhhhc1_3_5_273 : ¬ (j3 < (0 : Int32))) (hhhhc6_3_5_273 : j3 < (131072 : Int32)) (hhlo17_273 : ¬ ((j3 / (64 : Int32)) < (0 : Int32))) (hhhi17_273 : (j3 / (64 : Int32)) < (2048 : Int32)) (hs278 : (r_7 j3 (131072 : Int32) (u_11_w_words_a1_fn j1 (131072 : Int32) (fun _ => 0) (0 : Int32))) = j48) : (r_6 (u_11_a1_count j3 (131072 : Int32) (u_11_w_words_a1_fn j1 (131072 : Int32) (fun _ => 0) (0 : Int32)) (u_11_a1_count j1 (131072 : Int32) (fun _ => 0) (0 : Int32)))) = j59 := by
  have rj1 := (own_pl_mask _ _ hj1)
  have rj3 := (own_pl_mask _ _ hj3)
  have g_j1_j1 := fun (s c : Int32) (w : Nat → Int64) => own_pl_gs j1 j1 s c w rj1.1 rj1.2 rj1.1 rj1.2
  have g_j1_j3 := fun (s c : Int32) (w : Nat → Int64) => own_pl_gs j1 j3 s c w rj1.1 rj1.2 rj3.1 rj3.2
  have g_j3_j1 := fun (s c : Int32) (w : Nat → Int64) => own_pl_gs j3 j1 s c w rj3.1 rj3.2 rj1.1 rj1.2
  have g_j3_j3 := fun (s c : Int32) (w : Nat → Int64) => own_pl_gs j3 j3 s c w rj3.1 rj3.2 rj3.1 rj3.2
  clear hs208 hs230 hs254 hs278
  simp only [own_pl_ct, own_pl_r6, g_j1_j1, g_j1_j3, g_j3_j1, g_j3_j3, own_pl_gz]
  all_goals (
    clear g_j1_j1 g_j1_j3 g_j3_j1 g_j3_j3 rj1 rj3 hhhi17_273 hhlo17_273 hhhhc6_3_5_273 hhhhc1_3_5_273 hc75_11 hhhhi17_11_70 hhhlo17_11_70 hhhhc6_3_5_70 hhhhc1_3_5_70 hc63_3 hj7 hj5 hj3 hj1
    subst hj59
    subst hj57
    subst hj48
    subst hj47
    by_cases ej1j3 : j1 = j3 <;> first | (simp_all; done) | (simp_all [eq_comm]; done) | rfl | decide)
theorem own_at_hhhhc1_3_5_398_ft (p1 : Int32) (p3 : Int32) (p4 : Int32) (p5 : Int32) (j1 : Int32) (j3 : Int32) (j4 : Int32) (j5 : Int32) (j7 : Int32) (j47 : Int32) (j48 : Int32) (j57 : Int32) (j59 : Int32) (hj1 : j1 = (p1 &&& (131071 : Int32))) (hj3 : j3 = (p3 &&& (131071 : Int32))) (hj4 : j4 = (p4 &&& (131071 : Int32))) (hj5 : j5 = (if (p5 &&& (1 : Int32)) = (0 : Int32) then (0 : Int32) else (1 : Int32))) (hj7 : j7 = (if (p5 &&& (2 : Int32)) = (0 : Int32) then (0 : Int32) else (1 : Int32))) (hj47 : j47 = ((1 : Int32) + (0 : Int32))) (hj48 : j48 = (if j3 = j1 then (1 : Int32) else (0 : Int32))) (hj57 : j57 = (if j48 = (0 : Int32) then (1 : Int32) else (0 : Int32))) (hj59 : j59 = (j47 + j57)) (hc63_3 : ¬ (j5 = (0 : Int32))) (hhhhc1_3_5_70 : ¬ (j1 < (0 : Int32))) (hhhhc6_3_5_70 : j1 < (131072 : Int32)) (hhhlo17_11_70 : ¬ ((j1 / (64 : Int32)) < (0 : Int32))) (hhhhi17_11_70 : (j1 / (64 : Int32)) < (2048 : Int32)) (hc75_11 : j7 = (0 : Int32)) (hs208 : (r_5 (131072 : Int32)) = (131072 : Int32)) (hs230 : (r_6 (u_11_a1_count j1 (131072 : Int32) (fun _ => 0) (0 : Int32))) = j47) (hs254 : (r_7 j1 (131072 : Int32) (u_11_w_words_a1_fn j1 (131072 : Int32) (fun _ => 0) (0 : Int32))) = (1 : Int32)) (hhhhc1_3_5_273 : ¬ (j3 < (0 : Int32))) (hhhhc6_3_5_273 : j3 < (131072 : Int32)) (hhlo17_273 : ¬ ((j3 / (64 : Int32)) < (0 : Int32))) (hhhi17_273 : (j3 / (64 : Int32)) < (2048 : Int32)) (hs278 : (r_7 j3 (131072 : Int32) (u_11_w_words_a1_fn j1 (131072 : Int32) (fun _ => 0) (0 : Int32))) = j48) (hs346 : (r_6 (u_11_a1_count j3 (131072 : Int32) (u_11_w_words_a1_fn j1 (131072 : Int32) (fun _ => 0) (0 : Int32)) (u_11_a1_count j1 (131072 : Int32) (fun _ => 0) (0 : Int32)))) = j59) : ¬ (j4 < (0 : Int32)) := by
  exact (own_pl_mask _ _ hj4).1
theorem own_at_hhhhc6_3_5_398_ft (p1 : Int32) (p3 : Int32) (p4 : Int32) (p5 : Int32) (j1 : Int32) (j3 : Int32) (j4 : Int32) (j5 : Int32) (j7 : Int32) (j47 : Int32) (j48 : Int32) (j57 : Int32) (j59 : Int32) (hj1 : j1 = (p1 &&& (131071 : Int32))) (hj3 : j3 = (p3 &&& (131071 : Int32))) (hj4 : j4 = (p4 &&& (131071 : Int32))) (hj5 : j5 = (if (p5 &&& (1 : Int32)) = (0 : Int32) then (0 : Int32) else (1 : Int32))) (hj7 : j7 = (if (p5 &&& (2 : Int32)) = (0 : Int32) then (0 : Int32) else (1 : Int32))) (hj47 : j47 = ((1 : Int32) + (0 : Int32))) (hj48 : j48 = (if j3 = j1 then (1 : Int32) else (0 : Int32))) (hj57 : j57 = (if j48 = (0 : Int32) then (1 : Int32) else (0 : Int32))) (hj59 : j59 = (j47 + j57)) (hc63_3 : ¬ (j5 = (0 : Int32))) (hhhhc1_3_5_70 : ¬ (j1 < (0 : Int32))) (hhhhc6_3_5_70 : j1 < (131072 : Int32)) (hhhlo17_11_70 : ¬ ((j1 / (64 : Int32)) < (0 : Int32))) (hhhhi17_11_70 : (j1 / (64 : Int32)) < (2048 : Int32)) (hc75_11 : j7 = (0 : Int32)) (hs208 : (r_5 (131072 : Int32)) = (131072 : Int32)) (hs230 : (r_6 (u_11_a1_count j1 (131072 : Int32) (fun _ => 0) (0 : Int32))) = j47) (hs254 : (r_7 j1 (131072 : Int32) (u_11_w_words_a1_fn j1 (131072 : Int32) (fun _ => 0) (0 : Int32))) = (1 : Int32)) (hhhhc1_3_5_273 : ¬ (j3 < (0 : Int32))) (hhhhc6_3_5_273 : j3 < (131072 : Int32)) (hhlo17_273 : ¬ ((j3 / (64 : Int32)) < (0 : Int32))) (hhhi17_273 : (j3 / (64 : Int32)) < (2048 : Int32)) (hs278 : (r_7 j3 (131072 : Int32) (u_11_w_words_a1_fn j1 (131072 : Int32) (fun _ => 0) (0 : Int32))) = j48) (hs346 : (r_6 (u_11_a1_count j3 (131072 : Int32) (u_11_w_words_a1_fn j1 (131072 : Int32) (fun _ => 0) (0 : Int32)) (u_11_a1_count j1 (131072 : Int32) (fun _ => 0) (0 : Int32)))) = j59) (hhhhc1_3_5_398 : ¬ (j4 < (0 : Int32))) : j4 < (131072 : Int32) := by
  exact (own_pl_mask _ _ hj4).2
theorem own_at_hhhlo17_11_398_ft (p1 : Int32) (p3 : Int32) (p4 : Int32) (p5 : Int32) (j1 : Int32) (j3 : Int32) (j4 : Int32) (j5 : Int32) (j7 : Int32) (j47 : Int32) (j48 : Int32) (j57 : Int32) (j59 : Int32) (hj1 : j1 = (p1 &&& (131071 : Int32))) (hj3 : j3 = (p3 &&& (131071 : Int32))) (hj4 : j4 = (p4 &&& (131071 : Int32))) (hj5 : j5 = (if (p5 &&& (1 : Int32)) = (0 : Int32) then (0 : Int32) else (1 : Int32))) (hj7 : j7 = (if (p5 &&& (2 : Int32)) = (0 : Int32) then (0 : Int32) else (1 : Int32))) (hj47 : j47 = ((1 : Int32) + (0 : Int32))) (hj48 : j48 = (if j3 = j1 then (1 : Int32) else (0 : Int32))) (hj57 : j57 = (if j48 = (0 : Int32) then (1 : Int32) else (0 : Int32))) (hj59 : j59 = (j47 + j57)) (hc63_3 : ¬ (j5 = (0 : Int32))) (hhhhc1_3_5_70 : ¬ (j1 < (0 : Int32))) (hhhhc6_3_5_70 : j1 < (131072 : Int32)) (hhhlo17_11_70 : ¬ ((j1 / (64 : Int32)) < (0 : Int32))) (hhhhi17_11_70 : (j1 / (64 : Int32)) < (2048 : Int32)) (hc75_11 : j7 = (0 : Int32)) (hs208 : (r_5 (131072 : Int32)) = (131072 : Int32)) (hs230 : (r_6 (u_11_a1_count j1 (131072 : Int32) (fun _ => 0) (0 : Int32))) = j47) (hs254 : (r_7 j1 (131072 : Int32) (u_11_w_words_a1_fn j1 (131072 : Int32) (fun _ => 0) (0 : Int32))) = (1 : Int32)) (hhhhc1_3_5_273 : ¬ (j3 < (0 : Int32))) (hhhhc6_3_5_273 : j3 < (131072 : Int32)) (hhlo17_273 : ¬ ((j3 / (64 : Int32)) < (0 : Int32))) (hhhi17_273 : (j3 / (64 : Int32)) < (2048 : Int32)) (hs278 : (r_7 j3 (131072 : Int32) (u_11_w_words_a1_fn j1 (131072 : Int32) (fun _ => 0) (0 : Int32))) = j48) (hs346 : (r_6 (u_11_a1_count j3 (131072 : Int32) (u_11_w_words_a1_fn j1 (131072 : Int32) (fun _ => 0) (0 : Int32)) (u_11_a1_count j1 (131072 : Int32) (fun _ => 0) (0 : Int32)))) = j59) (hhhhc1_3_5_398 : ¬ (j4 < (0 : Int32))) (hhhhc6_3_5_398 : j4 < (131072 : Int32)) : ¬ ((j4 / (64 : Int32)) < (0 : Int32)) := by
  exact (own_pl_q _ (own_pl_mask _ _ hj4).1 (own_pl_mask _ _ hj4).2).1
theorem own_at_hhhhi17_11_398_ft (p1 : Int32) (p3 : Int32) (p4 : Int32) (p5 : Int32) (j1 : Int32) (j3 : Int32) (j4 : Int32) (j5 : Int32) (j7 : Int32) (j47 : Int32) (j48 : Int32) (j57 : Int32) (j59 : Int32) (hj1 : j1 = (p1 &&& (131071 : Int32))) (hj3 : j3 = (p3 &&& (131071 : Int32))) (hj4 : j4 = (p4 &&& (131071 : Int32))) (hj5 : j5 = (if (p5 &&& (1 : Int32)) = (0 : Int32) then (0 : Int32) else (1 : Int32))) (hj7 : j7 = (if (p5 &&& (2 : Int32)) = (0 : Int32) then (0 : Int32) else (1 : Int32))) (hj47 : j47 = ((1 : Int32) + (0 : Int32))) (hj48 : j48 = (if j3 = j1 then (1 : Int32) else (0 : Int32))) (hj57 : j57 = (if j48 = (0 : Int32) then (1 : Int32) else (0 : Int32))) (hj59 : j59 = (j47 + j57)) (hc63_3 : ¬ (j5 = (0 : Int32))) (hhhhc1_3_5_70 : ¬ (j1 < (0 : Int32))) (hhhhc6_3_5_70 : j1 < (131072 : Int32)) (hhhlo17_11_70 : ¬ ((j1 / (64 : Int32)) < (0 : Int32))) (hhhhi17_11_70 : (j1 / (64 : Int32)) < (2048 : Int32)) (hc75_11 : j7 = (0 : Int32)) (hs208 : (r_5 (131072 : Int32)) = (131072 : Int32)) (hs230 : (r_6 (u_11_a1_count j1 (131072 : Int32) (fun _ => 0) (0 : Int32))) = j47) (hs254 : (r_7 j1 (131072 : Int32) (u_11_w_words_a1_fn j1 (131072 : Int32) (fun _ => 0) (0 : Int32))) = (1 : Int32)) (hhhhc1_3_5_273 : ¬ (j3 < (0 : Int32))) (hhhhc6_3_5_273 : j3 < (131072 : Int32)) (hhlo17_273 : ¬ ((j3 / (64 : Int32)) < (0 : Int32))) (hhhi17_273 : (j3 / (64 : Int32)) < (2048 : Int32)) (hs278 : (r_7 j3 (131072 : Int32) (u_11_w_words_a1_fn j1 (131072 : Int32) (fun _ => 0) (0 : Int32))) = j48) (hs346 : (r_6 (u_11_a1_count j3 (131072 : Int32) (u_11_w_words_a1_fn j1 (131072 : Int32) (fun _ => 0) (0 : Int32)) (u_11_a1_count j1 (131072 : Int32) (fun _ => 0) (0 : Int32)))) = j59) (hhhhc1_3_5_398 : ¬ (j4 < (0 : Int32))) (hhhhc6_3_5_398 : j4 < (131072 : Int32)) (hhhlo17_11_398 : ¬ ((j4 / (64 : Int32)) < (0 : Int32))) : (j4 / (64 : Int32)) < (2048 : Int32) := by
  exact (own_pl_q _ (own_pl_mask _ _ hj4).1 (own_pl_mask _ _ hj4).2).2
theorem own_at_hs415_ft (p1 : Int32) (p3 : Int32) (p4 : Int32) (p5 : Int32) (j1 : Int32) (j3 : Int32) (j4 : Int32) (j5 : Int32) (j7 : Int32) (j47 : Int32) (j48 : Int32) (j57 : Int32) (j59 : Int32) (j61 : Int32) (hj1 : j1 = (p1 &&& (131071 : Int32))) (hj3 : j3 = (p3 &&& (131071 : Int32))) (hj4 : j4 = (p4 &&& (131071 : Int32))) (hj5 : j5 = (if (p5 &&& (1 : Int32)) = (0 : Int32) then (0 : Int32) else (1 : Int32))) (hj7 : j7 = (if (p5 &&& (2 : Int32)) = (0 : Int32) then (0 : Int32) else (1 : Int32))) (hj47 : j47 = ((1 : Int32) + (0 : Int32))) (hj48 : j48 = (if j3 = j1 then (1 : Int32) else (0 : Int32))) (hj57 : j57 = (if j48 = (0 : Int32) then (1 : Int32) else (0 : Int32))) (hj59 : j59 = (j47 + j57)) (hj61 : j61 = (if j4 = j1 then (1 : Int32) else (if j4 = j3 then (1 : Int32) else (0 : Int32)))) (hc63_3 : ¬ (j5 = (0 : Int32))) (hhhhc1_3_5_70 : ¬ (j1 < (0 : Int32))) (hhhhc6_3_5_70 : j1 < (131072 : Int32)) (hhhlo17_11_70 : ¬ ((j1 / (64 : Int32)) < (0 : Int32))) (hhhhi17_11_70 : (j1 / (64 : Int32)) < (2048 : Int32)) (hc75_11 : j7 = (0 : Int32)) (hs208 : (r_5 (131072 : Int32)) = (131072 : Int32)) (hs230 : (r_6 (u_11_a1_count j1 (131072 : Int32) (fun _ => 0) (0 : Int32))) = j47) (hs254 : (r_7 j1 (131072 : Int32) (u_11_w_words_a1_fn j1 (131072 : Int32) (fun _ => 0) (0 : Int32))) = (1 : Int32)) (hhhhc1_3_5_273 : ¬ (j3 < (0 : Int32))) (hhhhc6_3_5_273 : j3 < (131072 : Int32)) (hhlo17_273 : ¬ ((j3 / (64 : Int32)) < (0 : Int32))) (hhhi17_273 : (j3 / (64 : Int32)) < (2048 : Int32)) (hs278 : (r_7 j3 (131072 : Int32) (u_11_w_words_a1_fn j1 (131072 : Int32) (fun _ => 0) (0 : Int32))) = j48) (hs346 : (r_6 (u_11_a1_count j3 (131072 : Int32) (u_11_w_words_a1_fn j1 (131072 : Int32) (fun _ => 0) (0 : Int32)) (u_11_a1_count j1 (131072 : Int32) (fun _ => 0) (0 : Int32)))) = j59) (hhhhc1_3_5_398 : ¬ (j4 < (0 : Int32))) (hhhhc6_3_5_398 : j4 < (131072 : Int32)) (hhhlo17_11_398 : ¬ ((j4 / (64 : Int32)) < (0 : Int32))) (hhhhi17_11_398 : (j4 / (64 : Int32)) < (2048 : Int32)) : (r_7 j4 (131072 : Int32) (u_11_w_words_a1_fn j3 (131072 : Int32) (u_11_w_words_a1_fn j1 (131072 : Int32) (fun _ => 0) (0 : Int32)) (u_11_a1_count j1 (131072 : Int32) (fun _ => 0) (0 : Int32)))) = j61 := by
  have rj1 := (own_pl_mask _ _ hj1)
  have rj3 := (own_pl_mask _ _ hj3)
  have rj4 := (own_pl_mask _ _ hj4)
  have g_j1_j1 := fun (s c : Int32) (w : Nat → Int64) => own_pl_gs j1 j1 s c w rj1.1 rj1.2 rj1.1 rj1.2
  have g_j1_j3 := fun (s c : Int32) (w : Nat → Int64) => own_pl_gs j1 j3 s c w rj1.1 rj1.2 rj3.1 rj3.2
  have g_j1_j4 := fun (s c : Int32) (w : Nat → Int64) => own_pl_gs j1 j4 s c w rj1.1 rj1.2 rj4.1 rj4.2
  have g_j3_j1 := fun (s c : Int32) (w : Nat → Int64) => own_pl_gs j3 j1 s c w rj3.1 rj3.2 rj1.1 rj1.2
  have g_j3_j3 := fun (s c : Int32) (w : Nat → Int64) => own_pl_gs j3 j3 s c w rj3.1 rj3.2 rj3.1 rj3.2
  have g_j3_j4 := fun (s c : Int32) (w : Nat → Int64) => own_pl_gs j3 j4 s c w rj3.1 rj3.2 rj4.1 rj4.2
  have g_j4_j1 := fun (s c : Int32) (w : Nat → Int64) => own_pl_gs j4 j1 s c w rj4.1 rj4.2 rj1.1 rj1.2
  have g_j4_j3 := fun (s c : Int32) (w : Nat → Int64) => own_pl_gs j4 j3 s c w rj4.1 rj4.2 rj3.1 rj3.2
  have g_j4_j4 := fun (s c : Int32) (w : Nat → Int64) => own_pl_gs j4 j4 s c w rj4.1 rj4.2 rj4.1 rj4.2
  clear hs208 hs230 hs254 hs278 hs346
  simp only [own_pl_ct, own_pl_r6, g_j1_j1, g_j1_j3, g_j1_j4, g_j3_j1, g_j3_j3, g_j3_j4, g_j4_j1, g_j4_j3, g_j4_j4, own_pl_gz]
  all_goals (
    clear g_j1_j1 g_j1_j3 g_j1_j4 g_j3_j1 g_j3_j3 g_j3_j4 g_j4_j1 g_j4_j3 g_j4_j4 rj1 rj3 rj4 hhhhi17_11_398 hhhlo17_11_398 hhhhc6_3_5_398 hhhhc1_3_5_398 hhhi17_273 hhlo17_273 hhhhc6_3_5_273 hhhhc1_3_5_273 hc75_11 hhhhi17_11_70 hhhlo17_11_70 hhhhc6_3_5_70 hhhhc1_3_5_70 hc63_3 hj7 hj5 hj4 hj3 hj1
    subst hj61
    subst hj59
    subst hj57
    subst hj48
    subst hj47
    by_cases ej1j3 : j1 = j3 <;> by_cases ej1j4 : j1 = j4 <;> by_cases ej3j4 : j3 = j4 <;> first | (simp_all; done) | (simp_all [eq_comm]; done) | rfl | decide)
theorem own_at_hhhhc1_3_5_82_ff (p1 : Int32) (p2 : Int32) (p5 : Int32) (j1 : Int32) (j2 : Int32) (j5 : Int32) (j7 : Int32) (hj1 : j1 = (p1 &&& (131071 : Int32))) (hj2 : j2 = (p2 &&& (131071 : Int32))) (hj5 : j5 = (if (p5 &&& (1 : Int32)) = (0 : Int32) then (0 : Int32) else (1 : Int32))) (hj7 : j7 = (if (p5 &&& (2 : Int32)) = (0 : Int32) then (0 : Int32) else (1 : Int32))) (hc63_3 : ¬ (j5 = (0 : Int32))) (hhhhc1_3_5_70 : ¬ (j1 < (0 : Int32))) (hhhhc6_3_5_70 : j1 < (131072 : Int32)) (hhhlo17_11_70 : ¬ ((j1 / (64 : Int32)) < (0 : Int32))) (hhhhi17_11_70 : (j1 / (64 : Int32)) < (2048 : Int32)) (hc75_11 : ¬ (j7 = (0 : Int32))) : ¬ (j2 < (0 : Int32)) := by
  exact (own_pl_mask _ _ hj2).1
theorem own_at_hhhhc6_3_5_82_ff (p1 : Int32) (p2 : Int32) (p5 : Int32) (j1 : Int32) (j2 : Int32) (j5 : Int32) (j7 : Int32) (hj1 : j1 = (p1 &&& (131071 : Int32))) (hj2 : j2 = (p2 &&& (131071 : Int32))) (hj5 : j5 = (if (p5 &&& (1 : Int32)) = (0 : Int32) then (0 : Int32) else (1 : Int32))) (hj7 : j7 = (if (p5 &&& (2 : Int32)) = (0 : Int32) then (0 : Int32) else (1 : Int32))) (hc63_3 : ¬ (j5 = (0 : Int32))) (hhhhc1_3_5_70 : ¬ (j1 < (0 : Int32))) (hhhhc6_3_5_70 : j1 < (131072 : Int32)) (hhhlo17_11_70 : ¬ ((j1 / (64 : Int32)) < (0 : Int32))) (hhhhi17_11_70 : (j1 / (64 : Int32)) < (2048 : Int32)) (hc75_11 : ¬ (j7 = (0 : Int32))) (hhhhc1_3_5_82 : ¬ (j2 < (0 : Int32))) : j2 < (131072 : Int32) := by
  exact (own_pl_mask _ _ hj2).2
theorem own_at_hhhlo17_11_82_ff (p1 : Int32) (p2 : Int32) (p5 : Int32) (j1 : Int32) (j2 : Int32) (j5 : Int32) (j7 : Int32) (hj1 : j1 = (p1 &&& (131071 : Int32))) (hj2 : j2 = (p2 &&& (131071 : Int32))) (hj5 : j5 = (if (p5 &&& (1 : Int32)) = (0 : Int32) then (0 : Int32) else (1 : Int32))) (hj7 : j7 = (if (p5 &&& (2 : Int32)) = (0 : Int32) then (0 : Int32) else (1 : Int32))) (hc63_3 : ¬ (j5 = (0 : Int32))) (hhhhc1_3_5_70 : ¬ (j1 < (0 : Int32))) (hhhhc6_3_5_70 : j1 < (131072 : Int32)) (hhhlo17_11_70 : ¬ ((j1 / (64 : Int32)) < (0 : Int32))) (hhhhi17_11_70 : (j1 / (64 : Int32)) < (2048 : Int32)) (hc75_11 : ¬ (j7 = (0 : Int32))) (hhhhc1_3_5_82 : ¬ (j2 < (0 : Int32))) (hhhhc6_3_5_82 : j2 < (131072 : Int32)) : ¬ ((j2 / (64 : Int32)) < (0 : Int32)) := by
  exact (own_pl_q _ (own_pl_mask _ _ hj2).1 (own_pl_mask _ _ hj2).2).1
theorem own_at_hhhhi17_11_82_ff (p1 : Int32) (p2 : Int32) (p5 : Int32) (j1 : Int32) (j2 : Int32) (j5 : Int32) (j7 : Int32) (hj1 : j1 = (p1 &&& (131071 : Int32))) (hj2 : j2 = (p2 &&& (131071 : Int32))) (hj5 : j5 = (if (p5 &&& (1 : Int32)) = (0 : Int32) then (0 : Int32) else (1 : Int32))) (hj7 : j7 = (if (p5 &&& (2 : Int32)) = (0 : Int32) then (0 : Int32) else (1 : Int32))) (hc63_3 : ¬ (j5 = (0 : Int32))) (hhhhc1_3_5_70 : ¬ (j1 < (0 : Int32))) (hhhhc6_3_5_70 : j1 < (131072 : Int32)) (hhhlo17_11_70 : ¬ ((j1 / (64 : Int32)) < (0 : Int32))) (hhhhi17_11_70 : (j1 / (64 : Int32)) < (2048 : Int32)) (hc75_11 : ¬ (j7 = (0 : Int32))) (hhhhc1_3_5_82 : ¬ (j2 < (0 : Int32))) (hhhhc6_3_5_82 : j2 < (131072 : Int32)) (hhhlo17_11_82 : ¬ ((j2 / (64 : Int32)) < (0 : Int32))) : (j2 / (64 : Int32)) < (2048 : Int32) := by
  exact (own_pl_q _ (own_pl_mask _ _ hj2).1 (own_pl_mask _ _ hj2).2).2
theorem own_at_hs208_ff (p1 : Int32) (p2 : Int32) (p5 : Int32) (j1 : Int32) (j2 : Int32) (j5 : Int32) (j7 : Int32) (hj1 : j1 = (p1 &&& (131071 : Int32))) (hj2 : j2 = (p2 &&& (131071 : Int32))) (hj5 : j5 = (if (p5 &&& (1 : Int32)) = (0 : Int32) then (0 : Int32) else (1 : Int32))) (hj7 : j7 = (if (p5 &&& (2 : Int32)) = (0 : Int32) then (0 : Int32) else (1 : Int32))) (hc63_3 : ¬ (j5 = (0 : Int32))) (hhhhc1_3_5_70 : ¬ (j1 < (0 : Int32))) (hhhhc6_3_5_70 : j1 < (131072 : Int32)) (hhhlo17_11_70 : ¬ ((j1 / (64 : Int32)) < (0 : Int32))) (hhhhi17_11_70 : (j1 / (64 : Int32)) < (2048 : Int32)) (hc75_11 : ¬ (j7 = (0 : Int32))) (hhhhc1_3_5_82 : ¬ (j2 < (0 : Int32))) (hhhhc6_3_5_82 : j2 < (131072 : Int32)) (hhhlo17_11_82 : ¬ ((j2 / (64 : Int32)) < (0 : Int32))) (hhhhi17_11_82 : (j2 / (64 : Int32)) < (2048 : Int32)) : (r_5 (131072 : Int32)) = (131072 : Int32) := by
  rfl
theorem own_at_hs230_ff (p1 : Int32) (p2 : Int32) (p5 : Int32) (j1 : Int32) (j2 : Int32) (j5 : Int32) (j7 : Int32) (j66 : Int32) (j68 : Int32) (hj1 : j1 = (p1 &&& (131071 : Int32))) (hj2 : j2 = (p2 &&& (131071 : Int32))) (hj5 : j5 = (if (p5 &&& (1 : Int32)) = (0 : Int32) then (0 : Int32) else (1 : Int32))) (hj7 : j7 = (if (p5 &&& (2 : Int32)) = (0 : Int32) then (0 : Int32) else (1 : Int32))) (hj66 : j66 = (if j1 = j2 then (0 : Int32) else (1 : Int32))) (hj68 : j68 = ((1 : Int32) + j66)) (hc63_3 : ¬ (j5 = (0 : Int32))) (hhhhc1_3_5_70 : ¬ (j1 < (0 : Int32))) (hhhhc6_3_5_70 : j1 < (131072 : Int32)) (hhhlo17_11_70 : ¬ ((j1 / (64 : Int32)) < (0 : Int32))) (hhhhi17_11_70 : (j1 / (64 : Int32)) < (2048 : Int32)) (hc75_11 : ¬ (j7 = (0 : Int32))) (hhhhc1_3_5_82 : ¬ (j2 < (0 : Int32))) (hhhhc6_3_5_82 : j2 < (131072 : Int32)) (hhhlo17_11_82 : ¬ ((j2 / (64 : Int32)) < (0 : Int32))) (hhhhi17_11_82 : (j2 / (64 : Int32)) < (2048 : Int32)) (hs208 : (r_5 (131072 : Int32)) = (131072 : Int32)) : (r_6 (u_11_a1_count j2 (131072 : Int32) (u_11_w_words_a1_fn j1 (131072 : Int32) (fun _ => 0) (0 : Int32)) (u_11_a1_count j1 (131072 : Int32) (fun _ => 0) (0 : Int32)))) = j68 := by
  have rj1 := (own_pl_mask _ _ hj1)
  have rj2 := (own_pl_mask _ _ hj2)
  have g_j1_j1 := fun (s c : Int32) (w : Nat → Int64) => own_pl_gs j1 j1 s c w rj1.1 rj1.2 rj1.1 rj1.2
  have g_j1_j2 := fun (s c : Int32) (w : Nat → Int64) => own_pl_gs j1 j2 s c w rj1.1 rj1.2 rj2.1 rj2.2
  have g_j2_j1 := fun (s c : Int32) (w : Nat → Int64) => own_pl_gs j2 j1 s c w rj2.1 rj2.2 rj1.1 rj1.2
  have g_j2_j2 := fun (s c : Int32) (w : Nat → Int64) => own_pl_gs j2 j2 s c w rj2.1 rj2.2 rj2.1 rj2.2
  clear hs208
  simp only [own_pl_ct, own_pl_r6, g_j1_j1, g_j1_j2, g_j2_j1, g_j2_j2, own_pl_gz]
  all_goals (
    clear g_j1_j1 g_j1_j2 g_j2_j1 g_j2_j2 rj1 rj2 hhhhi17_11_82 hhhlo17_11_82 hhhhc6_3_5_82 hhhhc1_3_5_82 hc75_11 hhhhi17_11_70 hhhlo17_11_70 hhhhc6_3_5_70 hhhhc1_3_5_70 hc63_3 hj7 hj5 hj2 hj1
    subst hj68
    subst hj66
    by_cases ej1j2 : j1 = j2 <;> first | (simp_all; done) | (simp_all [eq_comm]; done) | rfl | decide)
theorem own_at_hs254_ff (p1 : Int32) (p2 : Int32) (p5 : Int32) (j1 : Int32) (j2 : Int32) (j5 : Int32) (j7 : Int32) (j66 : Int32) (j68 : Int32) (hj1 : j1 = (p1 &&& (131071 : Int32))) (hj2 : j2 = (p2 &&& (131071 : Int32))) (hj5 : j5 = (if (p5 &&& (1 : Int32)) = (0 : Int32) then (0 : Int32) else (1 : Int32))) (hj7 : j7 = (if (p5 &&& (2 : Int32)) = (0 : Int32) then (0 : Int32) else (1 : Int32))) (hj66 : j66 = (if j1 = j2 then (0 : Int32) else (1 : Int32))) (hj68 : j68 = ((1 : Int32) + j66)) (hc63_3 : ¬ (j5 = (0 : Int32))) (hhhhc1_3_5_70 : ¬ (j1 < (0 : Int32))) (hhhhc6_3_5_70 : j1 < (131072 : Int32)) (hhhlo17_11_70 : ¬ ((j1 / (64 : Int32)) < (0 : Int32))) (hhhhi17_11_70 : (j1 / (64 : Int32)) < (2048 : Int32)) (hc75_11 : ¬ (j7 = (0 : Int32))) (hhhhc1_3_5_82 : ¬ (j2 < (0 : Int32))) (hhhhc6_3_5_82 : j2 < (131072 : Int32)) (hhhlo17_11_82 : ¬ ((j2 / (64 : Int32)) < (0 : Int32))) (hhhhi17_11_82 : (j2 / (64 : Int32)) < (2048 : Int32)) (hs208 : (r_5 (131072 : Int32)) = (131072 : Int32)) (hs230 : (r_6 (u_11_a1_count j2 (131072 : Int32) (u_11_w_words_a1_fn j1 (131072 : Int32) (fun _ => 0) (0 : Int32)) (u_11_a1_count j1 (131072 : Int32) (fun _ => 0) (0 : Int32)))) = j68) : (r_7 j1 (131072 : Int32) (u_11_w_words_a1_fn j2 (131072 : Int32) (u_11_w_words_a1_fn j1 (131072 : Int32) (fun _ => 0) (0 : Int32)) (u_11_a1_count j1 (131072 : Int32) (fun _ => 0) (0 : Int32)))) = (1 : Int32) := by
  have rj1 := (own_pl_mask _ _ hj1)
  have rj2 := (own_pl_mask _ _ hj2)
  have g_j1_j1 := fun (s c : Int32) (w : Nat → Int64) => own_pl_gs j1 j1 s c w rj1.1 rj1.2 rj1.1 rj1.2
  have g_j1_j2 := fun (s c : Int32) (w : Nat → Int64) => own_pl_gs j1 j2 s c w rj1.1 rj1.2 rj2.1 rj2.2
  have g_j2_j1 := fun (s c : Int32) (w : Nat → Int64) => own_pl_gs j2 j1 s c w rj2.1 rj2.2 rj1.1 rj1.2
  have g_j2_j2 := fun (s c : Int32) (w : Nat → Int64) => own_pl_gs j2 j2 s c w rj2.1 rj2.2 rj2.1 rj2.2
  clear hs208 hs230
  simp only [own_pl_ct, own_pl_r6, g_j1_j1, g_j1_j2, g_j2_j1, g_j2_j2, own_pl_gz]
  all_goals (
    clear g_j1_j1 g_j1_j2 g_j2_j1 g_j2_j2 rj1 rj2 hhhhi17_11_82 hhhlo17_11_82 hhhhc6_3_5_82 hhhhc1_3_5_82 hc75_11 hhhhi17_11_70 hhhlo17_11_70 hhhhc6_3_5_70 hhhhc1_3_5_70 hc63_3 hj7 hj5 hj2 hj1
    subst hj68
    subst hj66
    by_cases ej1j2 : j1 = j2 <;> first | (simp_all; done) | (simp_all [eq_comm]; done) | rfl | decide)
theorem own_at_hhhhc1_3_5_273_ff (p1 : Int32) (p2 : Int32) (p3 : Int32) (p5 : Int32) (j1 : Int32) (j2 : Int32) (j3 : Int32) (j5 : Int32) (j7 : Int32) (j66 : Int32) (j68 : Int32) (hj1 : j1 = (p1 &&& (131071 : Int32))) (hj2 : j2 = (p2 &&& (131071 : Int32))) (hj3 : j3 = (p3 &&& (131071 : Int32))) (hj5 : j5 = (if (p5 &&& (1 : Int32)) = (0 : Int32) then (0 : Int32) else (1 : Int32))) (hj7 : j7 = (if (p5 &&& (2 : Int32)) = (0 : Int32) then (0 : Int32) else (1 : Int32))) (hj66 : j66 = (if j1 = j2 then (0 : Int32) else (1 : Int32))) (hj68 : j68 = ((1 : Int32) + j66)) (hc63_3 : ¬ (j5 = (0 : Int32))) (hhhhc1_3_5_70 : ¬ (j1 < (0 : Int32))) (hhhhc6_3_5_70 : j1 < (131072 : Int32)) (hhhlo17_11_70 : ¬ ((j1 / (64 : Int32)) < (0 : Int32))) (hhhhi17_11_70 : (j1 / (64 : Int32)) < (2048 : Int32)) (hc75_11 : ¬ (j7 = (0 : Int32))) (hhhhc1_3_5_82 : ¬ (j2 < (0 : Int32))) (hhhhc6_3_5_82 : j2 < (131072 : Int32)) (hhhlo17_11_82 : ¬ ((j2 / (64 : Int32)) < (0 : Int32))) (hhhhi17_11_82 : (j2 / (64 : Int32)) < (2048 : Int32)) (hs208 : (r_5 (131072 : Int32)) = (131072 : Int32)) (hs230 : (r_6 (u_11_a1_count j2 (131072 : Int32) (u_11_w_words_a1_fn j1 (131072 : Int32) (fun _ => 0) (0 : Int32)) (u_11_a1_count j1 (131072 : Int32) (fun _ => 0) (0 : Int32)))) = j68) (hs254 : (r_7 j1 (131072 : Int32) (u_11_w_words_a1_fn j2 (131072 : Int32) (u_11_w_words_a1_fn j1 (131072 : Int32) (fun _ => 0) (0 : Int32)) (u_11_a1_count j1 (131072 : Int32) (fun _ => 0) (0 : Int32)))) = (1 : Int32)) : ¬ (j3 < (0 : Int32)) := by
  exact (own_pl_mask _ _ hj3).1
theorem own_at_hhhhc6_3_5_273_ff (p1 : Int32) (p2 : Int32) (p3 : Int32) (p5 : Int32) (j1 : Int32) (j2 : Int32) (j3 : Int32) (j5 : Int32) (j7 : Int32) (j66 : Int32) (j68 : Int32) (hj1 : j1 = (p1 &&& (131071 : Int32))) (hj2 : j2 = (p2 &&& (131071 : Int32))) (hj3 : j3 = (p3 &&& (131071 : Int32))) (hj5 : j5 = (if (p5 &&& (1 : Int32)) = (0 : Int32) then (0 : Int32) else (1 : Int32))) (hj7 : j7 = (if (p5 &&& (2 : Int32)) = (0 : Int32) then (0 : Int32) else (1 : Int32))) (hj66 : j66 = (if j1 = j2 then (0 : Int32) else (1 : Int32))) (hj68 : j68 = ((1 : Int32) + j66)) (hc63_3 : ¬ (j5 = (0 : Int32))) (hhhhc1_3_5_70 : ¬ (j1 < (0 : Int32))) (hhhhc6_3_5_70 : j1 < (131072 : Int32)) (hhhlo17_11_70 : ¬ ((j1 / (64 : Int32)) < (0 : Int32))) (hhhhi17_11_70 : (j1 / (64 : Int32)) < (2048 : Int32)) (hc75_11 : ¬ (j7 = (0 : Int32))) (hhhhc1_3_5_82 : ¬ (j2 < (0 : Int32))) (hhhhc6_3_5_82 : j2 < (131072 : Int32)) (hhhlo17_11_82 : ¬ ((j2 / (64 : Int32)) < (0 : Int32))) (hhhhi17_11_82 : (j2 / (64 : Int32)) < (2048 : Int32)) (hs208 : (r_5 (131072 : Int32)) = (131072 : Int32)) (hs230 : (r_6 (u_11_a1_count j2 (131072 : Int32) (u_11_w_words_a1_fn j1 (131072 : Int32) (fun _ => 0) (0 : Int32)) (u_11_a1_count j1 (131072 : Int32) (fun _ => 0) (0 : Int32)))) = j68) (hs254 : (r_7 j1 (131072 : Int32) (u_11_w_words_a1_fn j2 (131072 : Int32) (u_11_w_words_a1_fn j1 (131072 : Int32) (fun _ => 0) (0 : Int32)) (u_11_a1_count j1 (131072 : Int32) (fun _ => 0) (0 : Int32)))) = (1 : Int32)) (hhhhc1_3_5_273 : ¬ (j3 < (0 : Int32))) : j3 < (131072 : Int32) := by
  exact (own_pl_mask _ _ hj3).2
theorem own_at_hhlo17_273_ff (p1 : Int32) (p2 : Int32) (p3 : Int32) (p5 : Int32) (j1 : Int32) (j2 : Int32) (j3 : Int32) (j5 : Int32) (j7 : Int32) (j66 : Int32) (j68 : Int32) (hj1 : j1 = (p1 &&& (131071 : Int32))) (hj2 : j2 = (p2 &&& (131071 : Int32))) (hj3 : j3 = (p3 &&& (131071 : Int32))) (hj5 : j5 = (if (p5 &&& (1 : Int32)) = (0 : Int32) then (0 : Int32) else (1 : Int32))) (hj7 : j7 = (if (p5 &&& (2 : Int32)) = (0 : Int32) then (0 : Int32) else (1 : Int32))) (hj66 : j66 = (if j1 = j2 then (0 : Int32) else (1 : Int32))) (hj68 : j68 = ((1 : Int32) + j66)) (hc63_3 : ¬ (j5 = (0 : Int32))) (hhhhc1_3_5_70 : ¬ (j1 < (0 : Int32))) (hhhhc6_3_5_70 : j1 < (131072 : Int32)) (hhhlo17_11_70 : ¬ ((j1 / (64 : Int32)) < (0 : Int32))) (hhhhi17_11_70 : (j1 / (64 : Int32)) < (2048 : Int32)) (hc75_11 : ¬ (j7 = (0 : Int32))) (hhhhc1_3_5_82 : ¬ (j2 < (0 : Int32))) (hhhhc6_3_5_82 : j2 < (131072 : Int32)) (hhhlo17_11_82 : ¬ ((j2 / (64 : Int32)) < (0 : Int32))) (hhhhi17_11_82 : (j2 / (64 : Int32)) < (2048 : Int32)) (hs208 : (r_5 (131072 : Int32)) = (131072 : Int32)) (hs230 : (r_6 (u_11_a1_count j2 (131072 : Int32) (u_11_w_words_a1_fn j1 (131072 : Int32) (fun _ => 0) (0 : Int32)) (u_11_a1_count j1 (131072 : Int32) (fun _ => 0) (0 : Int32)))) = j68) (hs254 : (r_7 j1 (131072 : Int32) (u_11_w_words_a1_fn j2 (131072 : Int32) (u_11_w_words_a1_fn j1 (131072 : Int32) (fun _ => 0) (0 : Int32)) (u_11_a1_count j1 (131072 : Int32) (fun _ => 0) (0 : Int32)))) = (1 : Int32)) (hhhhc1_3_5_273 : ¬ (j3 < (0 : Int32))) (hhhhc6_3_5_273 : j3 < (131072 : Int32)) : ¬ ((j3 / (64 : Int32)) < (0 : Int32)) := by
  exact (own_pl_q _ (own_pl_mask _ _ hj3).1 (own_pl_mask _ _ hj3).2).1
theorem own_at_hhhi17_273_ff (p1 : Int32) (p2 : Int32) (p3 : Int32) (p5 : Int32) (j1 : Int32) (j2 : Int32) (j3 : Int32) (j5 : Int32) (j7 : Int32) (j66 : Int32) (j68 : Int32) (hj1 : j1 = (p1 &&& (131071 : Int32))) (hj2 : j2 = (p2 &&& (131071 : Int32))) (hj3 : j3 = (p3 &&& (131071 : Int32))) (hj5 : j5 = (if (p5 &&& (1 : Int32)) = (0 : Int32) then (0 : Int32) else (1 : Int32))) (hj7 : j7 = (if (p5 &&& (2 : Int32)) = (0 : Int32) then (0 : Int32) else (1 : Int32))) (hj66 : j66 = (if j1 = j2 then (0 : Int32) else (1 : Int32))) (hj68 : j68 = ((1 : Int32) + j66)) (hc63_3 : ¬ (j5 = (0 : Int32))) (hhhhc1_3_5_70 : ¬ (j1 < (0 : Int32))) (hhhhc6_3_5_70 : j1 < (131072 : Int32)) (hhhlo17_11_70 : ¬ ((j1 / (64 : Int32)) < (0 : Int32))) (hhhhi17_11_70 : (j1 / (64 : Int32)) < (2048 : Int32)) (hc75_11 : ¬ (j7 = (0 : Int32))) (hhhhc1_3_5_82 : ¬ (j2 < (0 : Int32))) (hhhhc6_3_5_82 : j2 < (131072 : Int32)) (hhhlo17_11_82 : ¬ ((j2 / (64 : Int32)) < (0 : Int32))) (hhhhi17_11_82 : (j2 / (64 : Int32)) < (2048 : Int32)) (hs208 : (r_5 (131072 : Int32)) = (131072 : Int32)) (hs230 : (r_6 (u_11_a1_count j2 (131072 : Int32) (u_11_w_words_a1_fn j1 (131072 : Int32) (fun _ => 0) (0 : Int32)) (u_11_a1_count j1 (131072 : Int32) (fun _ => 0) (0 : Int32)))) = j68) (hs254 : (r_7 j1 (131072 : Int32) (u_11_w_words_a1_fn j2 (131072 : Int32) (u_11_w_words_a1_fn j1 (131072 : Int32) (fun _ => 0) (0 : Int32)) (u_11_a1_count j1 (131072 : Int32) (fun _ => 0) (0 : Int32)))) = (1 : Int32)) (hhhhc1_3_5_273 : ¬ (j3 < (0 : Int32))) (hhhhc6_3_5_273 : j3 < (131072 : Int32)) (hhlo17_273 : ¬ ((j3 / (64 : Int32)) < (0 : Int32))) : (j3 / (64 : Int32)) < (2048 : Int32) := by
  exact (own_pl_q _ (own_pl_mask _ _ hj3).1 (own_pl_mask _ _ hj3).2).2
theorem own_at_hs278_ff (p1 : Int32) (p2 : Int32) (p3 : Int32) (p5 : Int32) (j1 : Int32) (j2 : Int32) (j3 : Int32) (j5 : Int32) (j7 : Int32) (j66 : Int32) (j68 : Int32) (j69 : Int32) (hj1 : j1 = (p1 &&& (131071 : Int32))) (hj2 : j2 = (p2 &&& (131071 : Int32))) (hj3 : j3 = (p3 &&& (131071 : Int32))) (hj5 : j5 = (if (p5 &&& (1 : Int32)) = (0 : Int32) then (0 : Int32) else (1 : Int32))) (hj7 : j7 = (if (p5 &&& (2 : Int32)) = (0 : Int32) then (0 : Int32) else (1 : Int32))) (hj66 : j66 = (if j1 = j2 then (0 : Int32) else (1 : Int32))) (hj68 : j68 = ((1 : Int32) + j66)) (hj69 : j69 = (if j3 = j1 then (1 : Int32) else (if j3 = j2 then (1 : Int32) else (0 : Int32)))) (hc63_3 : ¬ (j5 = (0 : Int32))) (hhhhc1_3_5_70 : ¬ (j1 < (0 : Int32))) (hhhhc6_3_5_70 : j1 < (131072 : Int32)) (hhhlo17_11_70 : ¬ ((j1 / (64 : Int32)) < (0 : Int32))) (hhhhi17_11_70 : (j1 / (64 : Int32)) < (2048 : Int32)) (hc75_11 : ¬ (j7 = (0 : Int32))) (hhhhc1_3_5_82 : ¬ (j2 < (0 : Int32))) (hhhhc6_3_5_82 : j2 < (131072 : Int32)) (hhhlo17_11_82 : ¬ ((j2 / (64 : Int32)) < (0 : Int32))) (hhhhi17_11_82 : (j2 / (64 : Int32)) < (2048 : Int32)) (hs208 : (r_5 (131072 : Int32)) = (131072 : Int32)) (hs230 : (r_6 (u_11_a1_count j2 (131072 : Int32) (u_11_w_words_a1_fn j1 (131072 : Int32) (fun _ => 0) (0 : Int32)) (u_11_a1_count j1 (131072 : Int32) (fun _ => 0) (0 : Int32)))) = j68) (hs254 : (r_7 j1 (131072 : Int32) (u_11_w_words_a1_fn j2 (131072 : Int32) (u_11_w_words_a1_fn j1 (131072 : Int32) (fun _ => 0) (0 : Int32)) (u_11_a1_count j1 (131072 : Int32) (fun _ => 0) (0 : Int32)))) = (1 : Int32)) (hhhhc1_3_5_273 : ¬ (j3 < (0 : Int32))) (hhhhc6_3_5_273 : j3 < (131072 : Int32)) (hhlo17_273 : ¬ ((j3 / (64 : Int32)) < (0 : Int32))) (hhhi17_273 : (j3 / (64 : Int32)) < (2048 : Int32)) : (r_7 j3 (131072 : Int32) (u_11_w_words_a1_fn j2 (131072 : Int32) (u_11_w_words_a1_fn j1 (131072 : Int32) (fun _ => 0) (0 : Int32)) (u_11_a1_count j1 (131072 : Int32) (fun _ => 0) (0 : Int32)))) = j69 := by
  have rj1 := (own_pl_mask _ _ hj1)
  have rj2 := (own_pl_mask _ _ hj2)
  have rj3 := (own_pl_mask _ _ hj3)
  have g_j1_j1 := fun (s c : Int32) (w : Nat → Int64) => own_pl_gs j1 j1 s c w rj1.1 rj1.2 rj1.1 rj1.2
  have g_j1_j2 := fun (s c : Int32) (w : Nat → Int64) => own_pl_gs j1 j2 s c w rj1.1 rj1.2 rj2.1 rj2.2
  have g_j1_j3 := fun (s c : Int32) (w : Nat → Int64) => own_pl_gs j1 j3 s c w rj1.1 rj1.2 rj3.1 rj3.2
  have g_j2_j1 := fun (s c : Int32) (w : Nat → Int64) => own_pl_gs j2 j1 s c w rj2.1 rj2.2 rj1.1 rj1.2
  have g_j2_j2 := fun (s c : Int32) (w : Nat → Int64) => own_pl_gs j2 j2 s c w rj2.1 rj2.2 rj2.1 rj2.2
  have g_j2_j3 := fun (s c : Int32) (w : Nat → Int64) => own_pl_gs j2 j3 s c w rj2.1 rj2.2 rj3.1 rj3.2
  have g_j3_j1 := fun (s c : Int32) (w : Nat → Int64) => own_pl_gs j3 j1 s c w rj3.1 rj3.2 rj1.1 rj1.2
  have g_j3_j2 := fun (s c : Int32) (w : Nat → Int64) => own_pl_gs j3 j2 s c w rj3.1 rj3.2 rj2.1 rj2.2
  have g_j3_j3 := fun (s c : Int32) (w : Nat → Int64) => own_pl_gs j3 j3 s c w rj3.1 rj3.2 rj3.1 rj3.2
  clear hs208 hs230 hs254
  simp only [own_pl_ct, own_pl_r6, g_j1_j1, g_j1_j2, g_j1_j3, g_j2_j1, g_j2_j2, g_j2_j3, g_j3_j1, g_j3_j2, g_j3_j3, own_pl_gz]
  all_goals (
    clear g_j1_j1 g_j1_j2 g_j1_j3 g_j2_j1 g_j2_j2 g_j2_j3 g_j3_j1 g_j3_j2 g_j3_j3 rj1 rj2 rj3 hhhi17_273 hhlo17_273 hhhhc6_3_5_273 hhhhc1_3_5_273 hhhhi17_11_82 hhhlo17_11_82 hhhhc6_3_5_82 hhhhc1_3_5_82 hc75_11 hhhhi17_11_70 hhhlo17_11_70 hhhhc6_3_5_70 hhhhc1_3_5_70 hc63_3 hj7 hj5 hj3 hj2 hj1
    subst hj69
    subst hj68
    subst hj66
    by_cases ej1j2 : j1 = j2 <;> by_cases ej1j3 : j1 = j3 <;> by_cases ej2j3 : j2 = j3 <;> first | (simp_all; done) | (simp_all [eq_comm]; done) | rfl | decide)
theorem own_at_hs346_ff (p1 : Int32) (p2 : Int32) (p3 : Int32) (p5 : Int32) (j1 : Int32) (j2 : Int32) (j3 : Int32) (j5 : Int32) (j7 : Int32) (j66 : Int32) (j68 : Int32) (j69 : Int32) (j78 : Int32) (j80 : Int32) (hj1 : j1 = (p1 &&& (131071 : Int32))) (hj2 : j2 = (p2 &&& (131071 : Int32))) (hj3 : j3 = (p3 &&& (131071 : Int32))) (hj5 : j5 = (if (p5 &&& (1 : Int32)) = (0 : Int32) then (0 : Int32) else (1 : Int32))) (hj7 : j7 = (if (p5 &&& (2 : Int32)) = (0 : Int32) then (0 : Int32) else (1 : Int32))) (hj66 : j66 = (if j1 = j2 then (0 : Int32) else (1 : Int32))) (hj68 : j68 = ((1 : Int32) + j66)) (hj69 : j69 = (if j3 = j1 then (1 : Int32) else (if j3 = j2 then (1 : Int32) else (0 : Int32)))) (hj78 : j78 = (if j69 = (0 : Int32) then (1 : Int32) else (0 : Int32))) (hj80 : j80 = (j68 + j78)) (hc63_3 : ¬ (j5 = (0 : Int32))) (hhhhc1_3_5_70 : ¬ (j1 < (0 : Int32))) (hhhhc6_3_5_70 : j1 < (131072 : Int32)) (hhhlo17_11_70 : ¬ ((j1 / (64 : Int32)) < (0 : Int32))) (hhhhi17_11_70 : (j1 / (64 : Int32)) < (2048 : Int32)) (hc75_11 : ¬ (j7 = (0 : Int32))) (hhhhc1_3_5_82 : ¬ (j2 < (0 : Int32))) (hhhhc6_3_5_82 : j2 < (131072 : Int32)) (hhhlo17_11_82 : ¬ ((j2 / (64 : Int32)) < (0 : Int32))) (hhhhi17_11_82 : (j2 / (64 : Int32)) < (2048 : Int32)) (hs208 : (r_5 (131072 : Int32)) = (131072 : Int32)) (hs230 : (r_6 (u_11_a1_count j2 (131072 : Int32) (u_11_w_words_a1_fn j1 (131072 : Int32) (fun _ => 0) (0 : Int32)) (u_11_a1_count j1 (131072 : Int32) (fun _ => 0) (0 : Int32)))) = j68) (hs254 : (r_7 j1 (131072 : Int32) (u_11_w_words_a1_fn j2 (131072 : Int32) (u_11_w_words_a1_fn j1 (131072 : Int32) (fun _ => 0) (0 : Int32)) (u_11_a1_count j1 (131072 : Int32) (fun _ => 0) (0 : Int32)))) = (1 : Int32)) (hhhhc1_3_5_273 : ¬ (j3 < (0 : Int32))) (hhhhc6_3_5_273 : j3 < (131072 : Int32)) (hhlo17_273 : ¬ ((j3 / (64 : Int32)) < (0 : Int32))) (hhhi17_273 : (j3 / (64 : Int32)) < (2048 : Int32)) (hs278 : (r_7 j3 (131072 : Int32) (u_11_w_words_a1_fn j2 (131072 : Int32) (u_11_w_words_a1_fn j1 (131072 : Int32) (fun _ => 0) (0 : Int32)) (u_11_a1_count j1 (131072 : Int32) (fun _ => 0) (0 : Int32)))) = j69) : (r_6 (u_11_a1_count j3 (131072 : Int32) (u_11_w_words_a1_fn j2 (131072 : Int32) (u_11_w_words_a1_fn j1 (131072 : Int32) (fun _ => 0) (0 : Int32)) (u_11_a1_count j1 (131072 : Int32) (fun _ => 0) (0 : Int32))) (u_11_a1_count j2 (131072 : Int32) (u_11_w_words_a1_fn j1 (131072 : Int32) (fun _ => 0) (0 : Int32)) (u_11_a1_count j1 (131072 : Int32) (fun _ => 0) (0 : Int32))))) = j80 := by
  have rj1 := (own_pl_mask _ _ hj1)
  have rj2 := (own_pl_mask _ _ hj2)
  have rj3 := (own_pl_mask _ _ hj3)
  have g_j1_j1 := fun (s c : Int32) (w : Nat → Int64) => own_pl_gs j1 j1 s c w rj1.1 rj1.2 rj1.1 rj1.2
  have g_j1_j2 := fun (s c : Int32) (w : Nat → Int64) => own_pl_gs j1 j2 s c w rj1.1 rj1.2 rj2.1 rj2.2
  have g_j1_j3 := fun (s c : Int32) (w : Nat → Int64) => own_pl_gs j1 j3 s c w rj1.1 rj1.2 rj3.1 rj3.2
  have g_j2_j1 := fun (s c : Int32) (w : Nat → Int64) => own_pl_gs j2 j1 s c w rj2.1 rj2.2 rj1.1 rj1.2
  have g_j2_j2 := fun (s c : Int32) (w : Nat → Int64) => own_pl_gs j2 j2 s c w rj2.1 rj2.2 rj2.1 rj2.2
  have g_j2_j3 := fun (s c : Int32) (w : Nat → Int64) => own_pl_gs j2 j3 s c w rj2.1 rj2.2 rj3.1 rj3.2
  have g_j3_j1 := fun (s c : Int32) (w : Nat → Int64) => own_pl_gs j3 j1 s c w rj3.1 rj3.2 rj1.1 rj1.2
  have g_j3_j2 := fun (s c : Int32) (w : Nat → Int64) => own_pl_gs j3 j2 s c w rj3.1 rj3.2 rj2.1 rj2.2
  have g_j3_j3 := fun (s c : Int32) (w : Nat → Int64) => own_pl_gs j3 j3 s c w rj3.1 rj3.2 rj3.1 rj3.2
  clear hs208 hs230 hs254 hs278
  simp only [own_pl_ct, own_pl_r6, g_j1_j1, g_j1_j2, g_j1_j3, g_j2_j1, g_j2_j2, g_j2_j3, g_j3_j1, g_j3_j2, g_j3_j3, own_pl_gz]
  all_goals (
    clear g_j1_j1 g_j1_j2 g_j1_j3 g_j2_j1 g_j2_j2 g_j2_j3 g_j3_j1 g_j3_j2 g_j3_j3 rj1 rj2 rj3 hhhi17_273 hhlo17_273 hhhhc6_3_5_273 hhhhc1_3_5_273 hhhhi17_11_82 hhhlo17_11_82 hhhhc6_3_5_82 hhhhc1_3_5_82 hc75_11 hhhhi17_11_70 hhhlo17_11_70 hhhhc6_3_5_70 hhhhc1_3_5_70 hc63_3 hj7 hj5 hj3 hj2 hj1
    subst hj80
    subst hj78
    subst hj69
    subst hj68
    subst hj66
    by_cases ej1j2 : j1 = j2 <;> by_cases ej1j3 : j1 = j3 <;> by_cases ej2j3 : j2 = j3 <;> first | (simp_all; done) | (simp_all [eq_comm]; done) | rfl | decide)
theorem own_at_hhhhc1_3_5_398_ff (p1 : Int32) (p2 : Int32) (p3 : Int32) (p4 : Int32) (p5 : Int32) (j1 : Int32) (j2 : Int32) (j3 : Int32) (j4 : Int32) (j5 : Int32) (j7 : Int32) (j66 : Int32) (j68 : Int32) (j69 : Int32) (j78 : Int32) (j80 : Int32) (hj1 : j1 = (p1 &&& (131071 : Int32))) (hj2 : j2 = (p2 &&& (131071 : Int32))) (hj3 : j3 = (p3 &&& (131071 : Int32))) (hj4 : j4 = (p4 &&& (131071 : Int32))) (hj5 : j5 = (if (p5 &&& (1 : Int32)) = (0 : Int32) then (0 : Int32) else (1 : Int32))) (hj7 : j7 = (if (p5 &&& (2 : Int32)) = (0 : Int32) then (0 : Int32) else (1 : Int32))) (hj66 : j66 = (if j1 = j2 then (0 : Int32) else (1 : Int32))) (hj68 : j68 = ((1 : Int32) + j66)) (hj69 : j69 = (if j3 = j1 then (1 : Int32) else (if j3 = j2 then (1 : Int32) else (0 : Int32)))) (hj78 : j78 = (if j69 = (0 : Int32) then (1 : Int32) else (0 : Int32))) (hj80 : j80 = (j68 + j78)) (hc63_3 : ¬ (j5 = (0 : Int32))) (hhhhc1_3_5_70 : ¬ (j1 < (0 : Int32))) (hhhhc6_3_5_70 : j1 < (131072 : Int32)) (hhhlo17_11_70 : ¬ ((j1 / (64 : Int32)) < (0 : Int32))) (hhhhi17_11_70 : (j1 / (64 : Int32)) < (2048 : Int32)) (hc75_11 : ¬ (j7 = (0 : Int32))) (hhhhc1_3_5_82 : ¬ (j2 < (0 : Int32))) (hhhhc6_3_5_82 : j2 < (131072 : Int32)) (hhhlo17_11_82 : ¬ ((j2 / (64 : Int32)) < (0 : Int32))) (hhhhi17_11_82 : (j2 / (64 : Int32)) < (2048 : Int32)) (hs208 : (r_5 (131072 : Int32)) = (131072 : Int32)) (hs230 : (r_6 (u_11_a1_count j2 (131072 : Int32) (u_11_w_words_a1_fn j1 (131072 : Int32) (fun _ => 0) (0 : Int32)) (u_11_a1_count j1 (131072 : Int32) (fun _ => 0) (0 : Int32)))) = j68) (hs254 : (r_7 j1 (131072 : Int32) (u_11_w_words_a1_fn j2 (131072 : Int32) (u_11_w_words_a1_fn j1 (131072 : Int32) (fun _ => 0) (0 : Int32)) (u_11_a1_count j1 (131072 : Int32) (fun _ => 0) (0 : Int32)))) = (1 : Int32)) (hhhhc1_3_5_273 : ¬ (j3 < (0 : Int32))) (hhhhc6_3_5_273 : j3 < (131072 : Int32)) (hhlo17_273 : ¬ ((j3 / (64 : Int32)) < (0 : Int32))) (hhhi17_273 : (j3 / (64 : Int32)) < (2048 : Int32)) (hs278 : (r_7 j3 (131072 : Int32) (u_11_w_words_a1_fn j2 (131072 : Int32) (u_11_w_words_a1_fn j1 (131072 : Int32) (fun _ => 0) (0 : Int32)) (u_11_a1_count j1 (131072 : Int32) (fun _ => 0) (0 : Int32)))) = j69) (hs346 : (r_6 (u_11_a1_count j3 (131072 : Int32) (u_11_w_words_a1_fn j2 (131072 : Int32) (u_11_w_words_a1_fn j1 (131072 : Int32) (fun _ => 0) (0 : Int32)) (u_11_a1_count j1 (131072 : Int32) (fun _ => 0) (0 : Int32))) (u_11_a1_count j2 (131072 : Int32) (u_11_w_words_a1_fn j1 (131072 : Int32) (fun _ => 0) (0 : Int32)) (u_11_a1_count j1 (131072 : Int32) (fun _ => 0) (0 : Int32))))) = j80) : ¬ (j4 < (0 : Int32)) := by
  exact (own_pl_mask _ _ hj4).1
theorem own_at_hhhhc6_3_5_398_ff (p1 : Int32) (p2 : Int32) (p3 : Int32) (p4 : Int32) (p5 : Int32) (j1 : Int32) (j2 : Int32) (j3 : Int32) (j4 : Int32) (j5 : Int32) (j7 : Int32) (j66 : Int32) (j68 : Int32) (j69 : Int32) (j78 : Int32) (j80 : Int32) (hj1 : j1 = (p1 &&& (131071 : Int32))) (hj2 : j2 = (p2 &&& (131071 : Int32))) (hj3 : j3 = (p3 &&& (131071 : Int32))) (hj4 : j4 = (p4 &&& (131071 : Int32))) (hj5 : j5 = (if (p5 &&& (1 : Int32)) = (0 : Int32) then (0 : Int32) else (1 : Int32))) (hj7 : j7 = (if (p5 &&& (2 : Int32)) = (0 : Int32) then (0 : Int32) else (1 : Int32))) (hj66 : j66 = (if j1 = j2 then (0 : Int32) else (1 : Int32))) (hj68 : j68 = ((1 : Int32) + j66)) (hj69 : j69 = (if j3 = j1 then (1 : Int32) else (if j3 = j2 then (1 : Int32) else (0 : Int32)))) (hj78 : j78 = (if j69 = (0 : Int32) then (1 : Int32) else (0 : Int32))) (hj80 : j80 = (j68 + j78)) (hc63_3 : ¬ (j5 = (0 : Int32))) (hhhhc1_3_5_70 : ¬ (j1 < (0 : Int32))) (hhhhc6_3_5_70 : j1 < (131072 : Int32)) (hhhlo17_11_70 : ¬ ((j1 / (64 : Int32)) < (0 : Int32))) (hhhhi17_11_70 : (j1 / (64 : Int32)) < (2048 : Int32)) (hc75_11 : ¬ (j7 = (0 : Int32))) (hhhhc1_3_5_82 : ¬ (j2 < (0 : Int32))) (hhhhc6_3_5_82 : j2 < (131072 : Int32)) (hhhlo17_11_82 : ¬ ((j2 / (64 : Int32)) < (0 : Int32))) (hhhhi17_11_82 : (j2 / (64 : Int32)) < (2048 : Int32)) (hs208 : (r_5 (131072 : Int32)) = (131072 : Int32)) (hs230 : (r_6 (u_11_a1_count j2 (131072 : Int32) (u_11_w_words_a1_fn j1 (131072 : Int32) (fun _ => 0) (0 : Int32)) (u_11_a1_count j1 (131072 : Int32) (fun _ => 0) (0 : Int32)))) = j68) (hs254 : (r_7 j1 (131072 : Int32) (u_11_w_words_a1_fn j2 (131072 : Int32) (u_11_w_words_a1_fn j1 (131072 : Int32) (fun _ => 0) (0 : Int32)) (u_11_a1_count j1 (131072 : Int32) (fun _ => 0) (0 : Int32)))) = (1 : Int32)) (hhhhc1_3_5_273 : ¬ (j3 < (0 : Int32))) (hhhhc6_3_5_273 : j3 < (131072 : Int32)) (hhlo17_273 : ¬ ((j3 / (64 : Int32)) < (0 : Int32))) (hhhi17_273 : (j3 / (64 : Int32)) < (2048 : Int32)) (hs278 : (r_7 j3 (131072 : Int32) (u_11_w_words_a1_fn j2 (131072 : Int32) (u_11_w_words_a1_fn j1 (131072 : Int32) (fun _ => 0) (0 : Int32)) (u_11_a1_count j1 (131072 : Int32) (fun _ => 0) (0 : Int32)))) = j69) (hs346 : (r_6 (u_11_a1_count j3 (131072 : Int32) (u_11_w_words_a1_fn j2 (131072 : Int32) (u_11_w_words_a1_fn j1 (131072 : Int32) (fun _ => 0) (0 : Int32)) (u_11_a1_count j1 (131072 : Int32) (fun _ => 0) (0 : Int32))) (u_11_a1_count j2 (131072 : Int32) (u_11_w_words_a1_fn j1 (131072 : Int32) (fun _ => 0) (0 : Int32)) (u_11_a1_count j1 (131072 : Int32) (fun _ => 0) (0 : Int32))))) = j80) (hhhhc1_3_5_398 : ¬ (j4 < (0 : Int32))) : j4 < (131072 : Int32) := by
  exact (own_pl_mask _ _ hj4).2
theorem own_at_hhhlo17_11_398_ff (p1 : Int32) (p2 : Int32) (p3 : Int32) (p4 : Int32) (p5 : Int32) (j1 : Int32) (j2 : Int32) (j3 : Int32) (j4 : Int32) (j5 : Int32) (j7 : Int32) (j66 : Int32) (j68 : Int32) (j69 : Int32) (j78 : Int32) (j80 : Int32) (hj1 : j1 = (p1 &&& (131071 : Int32))) (hj2 : j2 = (p2 &&& (131071 : Int32))) (hj3 : j3 = (p3 &&& (131071 : Int32))) (hj4 : j4 = (p4 &&& (131071 : Int32))) (hj5 : j5 = (if (p5 &&& (1 : Int32)) = (0 : Int32) then (0 : Int32) else (1 : Int32))) (hj7 : j7 = (if (p5 &&& (2 : Int32)) = (0 : Int32) then (0 : Int32) else (1 : Int32))) (hj66 : j66 = (if j1 = j2 then (0 : Int32) else (1 : Int32))) (hj68 : j68 = ((1 : Int32) + j66)) (hj69 : j69 = (if j3 = j1 then (1 : Int32) else (if j3 = j2 then (1 : Int32) else (0 : Int32)))) (hj78 : j78 = (if j69 = (0 : Int32) then (1 : Int32) else (0 : Int32))) (hj80 : j80 = (j68 + j78)) (hc63_3 : ¬ (j5 = (0 : Int32))) (hhhhc1_3_5_70 : ¬ (j1 < (0 : Int32))) (hhhhc6_3_5_70 : j1 < (131072 : Int32)) (hhhlo17_11_70 : ¬ ((j1 / (64 : Int32)) < (0 : Int32))) (hhhhi17_11_70 : (j1 / (64 : Int32)) < (2048 : Int32)) (hc75_11 : ¬ (j7 = (0 : Int32))) (hhhhc1_3_5_82 : ¬ (j2 < (0 : Int32))) (hhhhc6_3_5_82 : j2 < (131072 : Int32)) (hhhlo17_11_82 : ¬ ((j2 / (64 : Int32)) < (0 : Int32))) (hhhhi17_11_82 : (j2 / (64 : Int32)) < (2048 : Int32)) (hs208 : (r_5 (131072 : Int32)) = (131072 : Int32)) (hs230 : (r_6 (u_11_a1_count j2 (131072 : Int32) (u_11_w_words_a1_fn j1 (131072 : Int32) (fun _ => 0) (0 : Int32)) (u_11_a1_count j1 (131072 : Int32) (fun _ => 0) (0 : Int32)))) = j68) (hs254 : (r_7 j1 (131072 : Int32) (u_11_w_words_a1_fn j2 (131072 : Int32) (u_11_w_words_a1_fn j1 (131072 : Int32) (fun _ => 0) (0 : Int32)) (u_11_a1_count j1 (131072 : Int32) (fun _ => 0) (0 : Int32)))) = (1 : Int32)) (hhhhc1_3_5_273 : ¬ (j3 < (0 : Int32))) (hhhhc6_3_5_273 : j3 < (131072 : Int32)) (hhlo17_273 : ¬ ((j3 / (64 : Int32)) < (0 : Int32))) (hhhi17_273 : (j3 / (64 : Int32)) < (2048 : Int32)) (hs278 : (r_7 j3 (131072 : Int32) (u_11_w_words_a1_fn j2 (131072 : Int32) (u_11_w_words_a1_fn j1 (131072 : Int32) (fun _ => 0) (0 : Int32)) (u_11_a1_count j1 (131072 : Int32) (fun _ => 0) (0 : Int32)))) = j69) (hs346 : (r_6 (u_11_a1_count j3 (131072 : Int32) (u_11_w_words_a1_fn j2 (131072 : Int32) (u_11_w_words_a1_fn j1 (131072 : Int32) (fun _ => 0) (0 : Int32)) (u_11_a1_count j1 (131072 : Int32) (fun _ => 0) (0 : Int32))) (u_11_a1_count j2 (131072 : Int32) (u_11_w_words_a1_fn j1 (131072 : Int32) (fun _ => 0) (0 : Int32)) (u_11_a1_count j1 (131072 : Int32) (fun _ => 0) (0 : Int32))))) = j80) (hhhhc1_3_5_398 : ¬ (j4 < (0 : Int32))) (hhhhc6_3_5_398 : j4 < (131072 : Int32)) : ¬ ((j4 / (64 : Int32)) < (0 : Int32)) := by
  exact (own_pl_q _ (own_pl_mask _ _ hj4).1 (own_pl_mask _ _ hj4).2).1
theorem own_at_hhhhi17_11_398_ff (p1 : Int32) (p2 : Int32) (p3 : Int32) (p4 : Int32) (p5 : Int32) (j1 : Int32) (j2 : Int32) (j3 : Int32) (j4 : Int32) (j5 : Int32) (j7 : Int32) (j66 : Int32) (j68 : Int32) (j69 : Int32) (j78 : Int32) (j80 : Int32) (hj1 : j1 = (p1 &&& (131071 : Int32))) (hj2 : j2 = (p2 &&& (131071 : Int32))) (hj3 : j3 = (p3 &&& (131071 : Int32))) (hj4 : j4 = (p4 &&& (131071 : Int32))) (hj5 : j5 = (if (p5 &&& (1 : Int32)) = (0 : Int32) then (0 : Int32) else (1 : Int32))) (hj7 : j7 = (if (p5 &&& (2 : Int32)) = (0 : Int32) then (0 : Int32) else (1 : Int32))) (hj66 : j66 = (if j1 = j2 then (0 : Int32) else (1 : Int32))) (hj68 : j68 = ((1 : Int32) + j66)) (hj69 : j69 = (if j3 = j1 then (1 : Int32) else (if j3 = j2 then (1 : Int32) else (0 : Int32)))) (hj78 : j78 = (if j69 = (0 : Int32) then (1 : Int32) else (0 : Int32))) (hj80 : j80 = (j68 + j78)) (hc63_3 : ¬ (j5 = (0 : Int32))) (hhhhc1_3_5_70 : ¬ (j1 < (0 : Int32))) (hhhhc6_3_5_70 : j1 < (131072 : Int32)) (hhhlo17_11_70 : ¬ ((j1 / (64 : Int32)) < (0 : Int32))) (hhhhi17_11_70 : (j1 / (64 : Int32)) < (2048 : Int32)) (hc75_11 : ¬ (j7 = (0 : Int32))) (hhhhc1_3_5_82 : ¬ (j2 < (0 : Int32))) (hhhhc6_3_5_82 : j2 < (131072 : Int32)) (hhhlo17_11_82 : ¬ ((j2 / (64 : Int32)) < (0 : Int32))) (hhhhi17_11_82 : (j2 / (64 : Int32)) < (2048 : Int32)) (hs208 : (r_5 (131072 : Int32)) = (131072 : Int32)) (hs230 : (r_6 (u_11_a1_count j2 (131072 : Int32) (u_11_w_words_a1_fn j1 (131072 : Int32) (fun _ => 0) (0 : Int32)) (u_11_a1_count j1 (131072 : Int32) (fun _ => 0) (0 : Int32)))) = j68) (hs254 : (r_7 j1 (131072 : Int32) (u_11_w_words_a1_fn j2 (131072 : Int32) (u_11_w_words_a1_fn j1 (131072 : Int32) (fun _ => 0) (0 : Int32)) (u_11_a1_count j1 (131072 : Int32) (fun _ => 0) (0 : Int32)))) = (1 : Int32)) (hhhhc1_3_5_273 : ¬ (j3 < (0 : Int32))) (hhhhc6_3_5_273 : j3 < (131072 : Int32)) (hhlo17_273 : ¬ ((j3 / (64 : Int32)) < (0 : Int32))) (hhhi17_273 : (j3 / (64 : Int32)) < (2048 : Int32)) (hs278 : (r_7 j3 (131072 : Int32) (u_11_w_words_a1_fn j2 (131072 : Int32) (u_11_w_words_a1_fn j1 (131072 : Int32) (fun _ => 0) (0 : Int32)) (u_11_a1_count j1 (131072 : Int32) (fun _ => 0) (0 : Int32)))) = j69) (hs346 : (r_6 (u_11_a1_count j3 (131072 : Int32) (u_11_w_words_a1_fn j2 (131072 : Int32) (u_11_w_words_a1_fn j1 (131072 : Int32) (fun _ => 0) (0 : Int32)) (u_11_a1_count j1 (131072 : Int32) (fun _ => 0) (0 : Int32))) (u_11_a1_count j2 (131072 : Int32) (u_11_w_words_a1_fn j1 (131072 : Int32) (fun _ => 0) (0 : Int32)) (u_11_a1_count j1 (131072 : Int32) (fun _ => 0) (0 : Int32))))) = j80) (hhhhc1_3_5_398 : ¬ (j4 < (0 : Int32))) (hhhhc6_3_5_398 : j4 < (131072 : Int32)) (hhhlo17_11_398 : ¬ ((j4 / (64 : Int32)) < (0 : Int32))) : (j4 / (64 : Int32)) < (2048 : Int32) := by
  exact (own_pl_q _ (own_pl_mask _ _ hj4).1 (own_pl_mask _ _ hj4).2).2
theorem own_at_hs415_ff (p1 : Int32) (p2 : Int32) (p3 : Int32) (p4 : Int32) (p5 : Int32) (j1 : Int32) (j2 : Int32) (j3 : Int32) (j4 : Int32) (j5 : Int32) (j7 : Int32) (j66 : Int32) (j68 : Int32) (j69 : Int32) (j78 : Int32) (j80 : Int32) (j82 : Int32) (hj1 : j1 = (p1 &&& (131071 : Int32))) (hj2 : j2 = (p2 &&& (131071 : Int32))) (hj3 : j3 = (p3 &&& (131071 : Int32))) (hj4 : j4 = (p4 &&& (131071 : Int32))) (hj5 : j5 = (if (p5 &&& (1 : Int32)) = (0 : Int32) then (0 : Int32) else (1 : Int32))) (hj7 : j7 = (if (p5 &&& (2 : Int32)) = (0 : Int32) then (0 : Int32) else (1 : Int32))) (hj66 : j66 = (if j1 = j2 then (0 : Int32) else (1 : Int32))) (hj68 : j68 = ((1 : Int32) + j66)) (hj69 : j69 = (if j3 = j1 then (1 : Int32) else (if j3 = j2 then (1 : Int32) else (0 : Int32)))) (hj78 : j78 = (if j69 = (0 : Int32) then (1 : Int32) else (0 : Int32))) (hj80 : j80 = (j68 + j78)) (hj82 : j82 = (if j4 = j1 then (1 : Int32) else (if j4 = j2 then (1 : Int32) else (if j4 = j3 then (1 : Int32) else (0 : Int32))))) (hc63_3 : ¬ (j5 = (0 : Int32))) (hhhhc1_3_5_70 : ¬ (j1 < (0 : Int32))) (hhhhc6_3_5_70 : j1 < (131072 : Int32)) (hhhlo17_11_70 : ¬ ((j1 / (64 : Int32)) < (0 : Int32))) (hhhhi17_11_70 : (j1 / (64 : Int32)) < (2048 : Int32)) (hc75_11 : ¬ (j7 = (0 : Int32))) (hhhhc1_3_5_82 : ¬ (j2 < (0 : Int32))) (hhhhc6_3_5_82 : j2 < (131072 : Int32)) (hhhlo17_11_82 : ¬ ((j2 / (64 : Int32)) < (0 : Int32))) (hhhhi17_11_82 : (j2 / (64 : Int32)) < (2048 : Int32)) (hs208 : (r_5 (131072 : Int32)) = (131072 : Int32)) (hs230 : (r_6 (u_11_a1_count j2 (131072 : Int32) (u_11_w_words_a1_fn j1 (131072 : Int32) (fun _ => 0) (0 : Int32)) (u_11_a1_count j1 (131072 : Int32) (fun _ => 0) (0 : Int32)))) = j68) (hs254 : (r_7 j1 (131072 : Int32) (u_11_w_words_a1_fn j2 (131072 : Int32) (u_11_w_words_a1_fn j1 (131072 : Int32) (fun _ => 0) (0 : Int32)) (u_11_a1_count j1 (131072 : Int32) (fun _ => 0) (0 : Int32)))) = (1 : Int32)) (hhhhc1_3_5_273 : ¬ (j3 < (0 : Int32))) (hhhhc6_3_5_273 : j3 < (131072 : Int32)) (hhlo17_273 : ¬ ((j3 / (64 : Int32)) < (0 : Int32))) (hhhi17_273 : (j3 / (64 : Int32)) < (2048 : Int32)) (hs278 : (r_7 j3 (131072 : Int32) (u_11_w_words_a1_fn j2 (131072 : Int32) (u_11_w_words_a1_fn j1 (131072 : Int32) (fun _ => 0) (0 : Int32)) (u_11_a1_count j1 (131072 : Int32) (fun _ => 0) (0 : Int32)))) = j69) (hs346 : (r_6 (u_11_a1_count j3 (131072 : Int32) (u_11_w_words_a1_fn j2 (131072 : Int32) (u_11_w_words_a1_fn j1 (131072 : Int32) (fun _ => 0) (0 : Int32)) (u_11_a1_count j1 (131072 : Int32) (fun _ => 0) (0 : Int32))) (u_11_a1_count j2 (131072 : Int32) (u_11_w_words_a1_fn j1 (131072 : Int32) (fun _ => 0) (0 : Int32)) (u_11_a1_count j1 (131072 : Int32) (fun _ => 0) (0 : Int32))))) = j80) (hhhhc1_3_5_398 : ¬ (j4 < (0 : Int32))) (hhhhc6_3_5_398 : j4 < (131072 : Int32)) (hhhlo17_11_398 : ¬ ((j4 / (64 : Int32)) < (0 : Int32))) (hhhhi17_11_398 : (j4 / (64 : Int32)) < (2048 : Int32)) : (r_7 j4 (131072 : Int32) (u_11_w_words_a1_fn j3 (131072 : Int32) (u_11_w_words_a1_fn j2 (131072 : Int32) (u_11_w_words_a1_fn j1 (131072 : Int32) (fun _ => 0) (0 : Int32)) (u_11_a1_count j1 (131072 : Int32) (fun _ => 0) (0 : Int32))) (u_11_a1_count j2 (131072 : Int32) (u_11_w_words_a1_fn j1 (131072 : Int32) (fun _ => 0) (0 : Int32)) (u_11_a1_count j1 (131072 : Int32) (fun _ => 0) (0 : Int32))))) = j82 := by
  have rj1 := (own_pl_mask _ _ hj1)
  have rj2 := (own_pl_mask _ _ hj2)
  have rj3 := (own_pl_mask _ _ hj3)
  have rj4 := (own_pl_mask _ _ hj4)
  have g_j1_j1 := fun (s c : Int32) (w : Nat → Int64) => own_pl_gs j1 j1 s c w rj1.1 rj1.2 rj1.1 rj1.2
  have g_j1_j2 := fun (s c : Int32) (w : Nat → Int64) => own_pl_gs j1 j2 s c w rj1.1 rj1.2 rj2.1 rj2.2
  have g_j1_j3 := fun (s c : Int32) (w : Nat → Int64) => own_pl_gs j1 j3 s c w rj1.1 rj1.2 rj3.1 rj3.2
  have g_j1_j4 := fun (s c : Int32) (w : Nat → Int64) => own_pl_gs j1 j4 s c w rj1.1 rj1.2 rj4.1 rj4.2
  have g_j2_j1 := fun (s c : Int32) (w : Nat → Int64) => own_pl_gs j2 j1 s c w rj2.1 rj2.2 rj1.1 rj1.2
  have g_j2_j2 := fun (s c : Int32) (w : Nat → Int64) => own_pl_gs j2 j2 s c w rj2.1 rj2.2 rj2.1 rj2.2
  have g_j2_j3 := fun (s c : Int32) (w : Nat → Int64) => own_pl_gs j2 j3 s c w rj2.1 rj2.2 rj3.1 rj3.2
  have g_j2_j4 := fun (s c : Int32) (w : Nat → Int64) => own_pl_gs j2 j4 s c w rj2.1 rj2.2 rj4.1 rj4.2
  have g_j3_j1 := fun (s c : Int32) (w : Nat → Int64) => own_pl_gs j3 j1 s c w rj3.1 rj3.2 rj1.1 rj1.2
  have g_j3_j2 := fun (s c : Int32) (w : Nat → Int64) => own_pl_gs j3 j2 s c w rj3.1 rj3.2 rj2.1 rj2.2
  have g_j3_j3 := fun (s c : Int32) (w : Nat → Int64) => own_pl_gs j3 j3 s c w rj3.1 rj3.2 rj3.1 rj3.2
  have g_j3_j4 := fun (s c : Int32) (w : Nat → Int64) => own_pl_gs j3 j4 s c w rj3.1 rj3.2 rj4.1 rj4.2
  have g_j4_j1 := fun (s c : Int32) (w : Nat → Int64) => own_pl_gs j4 j1 s c w rj4.1 rj4.2 rj1.1 rj1.2
  have g_j4_j2 := fun (s c : Int32) (w : Nat → Int64) => own_pl_gs j4 j2 s c w rj4.1 rj4.2 rj2.1 rj2.2
  have g_j4_j3 := fun (s c : Int32) (w : Nat → Int64) => own_pl_gs j4 j3 s c w rj4.1 rj4.2 rj3.1 rj3.2
  have g_j4_j4 := fun (s c : Int32) (w : Nat → Int64) => own_pl_gs j4 j4 s c w rj4.1 rj4.2 rj4.1 rj4.2
  clear hs208 hs230 hs254 hs278 hs346
  simp only [own_pl_ct, own_pl_r6, g_j1_j1, g_j1_j2, g_j1_j3, g_j1_j4, g_j2_j1, g_j2_j2, g_j2_j3, g_j2_j4, g_j3_j1, g_j3_j2, g_j3_j3, g_j3_j4, g_j4_j1, g_j4_j2, g_j4_j3, g_j4_j4, own_pl_gz]
  all_goals (
    clear g_j1_j1 g_j1_j2 g_j1_j3 g_j1_j4 g_j2_j1 g_j2_j2 g_j2_j3 g_j2_j4 g_j3_j1 g_j3_j2 g_j3_j3 g_j3_j4 g_j4_j1 g_j4_j2 g_j4_j3 g_j4_j4 rj1 rj2 rj3 rj4 hhhhi17_11_398 hhhlo17_11_398 hhhhc6_3_5_398 hhhhc1_3_5_398 hhhi17_273 hhlo17_273 hhhhc6_3_5_273 hhhhc1_3_5_273 hhhhi17_11_82 hhhlo17_11_82 hhhhc6_3_5_82 hhhhc1_3_5_82 hc75_11 hhhhi17_11_70 hhhlo17_11_70 hhhhc6_3_5_70 hhhhc1_3_5_70 hc63_3 hj7 hj5 hj4 hj3 hj2 hj1
    subst hj82
    subst hj80
    subst hj78
    subst hj69
    subst hj68
    subst hj66
    by_cases ej1j2 : j1 = j2 <;> by_cases ej1j3 : j1 = j3 <;> by_cases ej1j4 : j1 = j4 <;> by_cases ej2j3 : j2 = j3 <;> by_cases ej2j4 : j2 = j4 <;> by_cases ej3j4 : j3 = j4 <;> first | (simp_all; done) | (simp_all [eq_comm]; done) | rfl | decide)
set_option maxRecDepth 65536 in
set_option maxHeartbeats 40000000 in
theorem rm0 (l : Launch) (Z : State) (a0 : Array Value) (hw : ∀ d ∈ tables_1, d.before a0 Z = true) (ws : List Jvm.Cond) (p1 : Int32) (p2 : Int32) (p3 : Int32) (p4 : Int32) (p5 : Int32) (h0 : Heap) (n0 : Nat) (Z0 : n0 ≤ h0.size) :
    MetFree l x (head1 (Jvm.Cond.code x code maxLocals ret :: ws) room_1) (fun a U => a = #[(.int p1), (.int p2), (.int p3), (.int p4), (.int p5)] ∧ Z.Warmed39 U.vm ∧ U.heap = h0) (fun _ _ _ _ _ => True) (fun _ U o U' => ∃ v L, o = .returned v ∧ Q0 Z p1 p2 p3 p4 p5 h0 n0 v U'.heap L ∧ FrameEnd U o U' L room_1.cells room_1.slots) := by
  refine MetFree.of_bodySF (plainFor_of_name pn_3) hisR ?_
  intro p e s m args below meth c s₁ Bd hml0 hP hK
  obtain ⟨rfl, hZ, hh⟩ := hP
  have hx := Bd.exec
  have hby := Bd.bytes
  have hml : c.maxLocals = 19 := hml0
  have hown : s.vm.findClass "com/example/capd/capd/status/BitstringCopyPinLaw" = some m.cls := findClass_of_methodNamed Bd.named
  have hnm := (name_of_methodNamed Bd.named Bd.method).1
  have X0 : Stand p l e room_1 s m #[(.int p1), (.int p2), (.int p3), (.int p4), (.int p5)] below meth c s₁ [] 0 0 := Stand.of_body Bd
  have e0 : s₁.heap = h0 := by rw [← hh, Bd.state]; rfl
  have NN := Fr.nil n0
  have KK : Keep h0 h0 [] := Keep.refl h0 []
  refine own_start (ef_0 m p1 p2 p3 p4 p5) ?_
  refine own_go (T' := s₁) (g' := (mkF m 6 #[.val (.int p1), .val (.int p2), .val (.int p3), .val (.int p4), .val (.int p5), .val (.int (p1 &&& (131071 : Int32))), .unset, .unset, .unset, .unset, .unset, .unset, .unset, .unset, .unset, .unset, .unset, .unset, .unset] [])) (fun t k => ?_) ?_
  · show Steps p.tables e below (s₁.setTop (mkF m 0 #[.val (.int p1), .val (.int p2), .val (.int p3), .val (.int p4), .val (.int p5), .unset, .unset, .unset, .unset, .unset, .unset, .unset, .unset, .unset, .unset, .unset, .unset, .unset, .unset] [])) _
    refine XS.iloadN X0.here hx rfl (hb hby at_0) rfl ?_
    show Steps p.tables e below (s₁.setTop (mkF m 1 #[.val (.int p1), .val (.int p2), .val (.int p3), .val (.int p4), .val (.int p5), .unset, .unset, .unset, .unset, .unset, .unset, .unset, .unset, .unset, .unset, .unset, .unset, .unset, .unset] [(.int p1)])) _
    refine X0.ldcInt hx hown (mvT hZ (hw _ (List.mem_of_getElem? (i := 0) rfl))) (g := (mkF m 1 #[.val (.int p1), .val (.int p2), .val (.int p3), .val (.int p4), .val (.int p5), .unset, .unset, .unset, .unset, .unset, .unset, .unset, .unset, .unset, .unset, .unset, .unset, .unset, .unset] [(.int p1)])) rfl (hb hby at_1) _ ?_
    show Steps p.tables e below (s₁.setTop (mkF m 3 #[.val (.int p1), .val (.int p2), .val (.int p3), .val (.int p4), .val (.int p5), .unset, .unset, .unset, .unset, .unset, .unset, .unset, .unset, .unset, .unset, .unset, .unset, .unset, .unset] [(.int (131071 : Int32)), (.int p1)])) _
    refine XS.iand X0.here hx rfl (hb hby at_3) rfl ?_
    show Steps p.tables e below (s₁.setTop (mkF m 4 #[.val (.int p1), .val (.int p2), .val (.int p3), .val (.int p4), .val (.int p5), .unset, .unset, .unset, .unset, .unset, .unset, .unset, .unset, .unset, .unset, .unset, .unset, .unset, .unset] [(.int (p1 &&& (131071 : Int32)))])) _
    refine XS.istore X0.here hx rfl (hb hby at_4) rfl (l' := #[.val (.int p1), .val (.int p2), .val (.int p3), .val (.int p4), .val (.int p5), .val (.int (p1 &&& (131071 : Int32))), .unset, .unset, .unset, .unset, .unset, .unset, .unset, .unset, .unset, .unset, .unset, .unset, .unset]) rfl ?_
    exact k
  show own_Go p.tables e below _ s₁ (mkF m 6 #[.val (.int p1), .val (.int p2), .val (.int p3), .val (.int p4), .val (.int p5), .val (.int (p1 &&& (131071 : Int32))), .unset, .unset, .unset, .unset, .unset, .unset, .unset, .unset, .unset, .unset, .unset, .unset, .unset] [])
  obtain ⟨j1, hj1⟩ : ∃ z : Int32, z = (p1 &&& (131071 : Int32)) := ⟨_, rfl⟩
  rw [← hj1]
  show own_Go p.tables e below _ s₁ (mkF m 6 #[.val (.int p1), .val (.int p2), .val (.int p3), .val (.int p4), .val (.int p5), .val (.int j1), .unset, .unset, .unset, .unset, .unset, .unset, .unset, .unset, .unset, .unset, .unset, .unset, .unset] [])
  refine own_go (T' := s₁) (g' := (mkF m 12 #[.val (.int p1), .val (.int p2), .val (.int p3), .val (.int p4), .val (.int p5), .val (.int j1), .val (.int (p2 &&& (131071 : Int32))), .unset, .unset, .unset, .unset, .unset, .unset, .unset, .unset, .unset, .unset, .unset, .unset] [])) (fun t k => ?_) ?_
  · show Steps p.tables e below (s₁.setTop (mkF m 6 #[.val (.int p1), .val (.int p2), .val (.int p3), .val (.int p4), .val (.int p5), .val (.int j1), .unset, .unset, .unset, .unset, .unset, .unset, .unset, .unset, .unset, .unset, .unset, .unset, .unset] [])) _
    refine XS.iloadN X0.here hx rfl (hb hby at_6) rfl ?_
    show Steps p.tables e below (s₁.setTop (mkF m 7 #[.val (.int p1), .val (.int p2), .val (.int p3), .val (.int p4), .val (.int p5), .val (.int j1), .unset, .unset, .unset, .unset, .unset, .unset, .unset, .unset, .unset, .unset, .unset, .unset, .unset] [(.int p2)])) _
    refine X0.ldcInt hx hown (mvT hZ (hw _ (List.mem_of_getElem? (i := 0) rfl))) (g := (mkF m 7 #[.val (.int p1), .val (.int p2), .val (.int p3), .val (.int p4), .val (.int p5), .val (.int j1), .unset, .unset, .unset, .unset, .unset, .unset, .unset, .unset, .unset, .unset, .unset, .unset, .unset] [(.int p2)])) rfl (hb hby at_7) _ ?_
    show Steps p.tables e below (s₁.setTop (mkF m 9 #[.val (.int p1), .val (.int p2), .val (.int p3), .val (.int p4), .val (.int p5), .val (.int j1), .unset, .unset, .unset, .unset, .unset, .unset, .unset, .unset, .unset, .unset, .unset, .unset, .unset] [(.int (131071 : Int32)), (.int p2)])) _
    refine XS.iand X0.here hx rfl (hb hby at_9) rfl ?_
    show Steps p.tables e below (s₁.setTop (mkF m 10 #[.val (.int p1), .val (.int p2), .val (.int p3), .val (.int p4), .val (.int p5), .val (.int j1), .unset, .unset, .unset, .unset, .unset, .unset, .unset, .unset, .unset, .unset, .unset, .unset, .unset] [(.int (p2 &&& (131071 : Int32)))])) _
    refine XS.istore X0.here hx rfl (hb hby at_10) rfl (l' := #[.val (.int p1), .val (.int p2), .val (.int p3), .val (.int p4), .val (.int p5), .val (.int j1), .val (.int (p2 &&& (131071 : Int32))), .unset, .unset, .unset, .unset, .unset, .unset, .unset, .unset, .unset, .unset, .unset, .unset]) rfl ?_
    exact k
  show own_Go p.tables e below _ s₁ (mkF m 12 #[.val (.int p1), .val (.int p2), .val (.int p3), .val (.int p4), .val (.int p5), .val (.int j1), .val (.int (p2 &&& (131071 : Int32))), .unset, .unset, .unset, .unset, .unset, .unset, .unset, .unset, .unset, .unset, .unset, .unset] [])
  obtain ⟨j2, hj2⟩ : ∃ z : Int32, z = (p2 &&& (131071 : Int32)) := ⟨_, rfl⟩
  rw [← hj2]
  show own_Go p.tables e below _ s₁ (mkF m 12 #[.val (.int p1), .val (.int p2), .val (.int p3), .val (.int p4), .val (.int p5), .val (.int j1), .val (.int j2), .unset, .unset, .unset, .unset, .unset, .unset, .unset, .unset, .unset, .unset, .unset, .unset] [])
  refine own_go (T' := s₁) (g' := (mkF m 18 #[.val (.int p1), .val (.int p2), .val (.int p3), .val (.int p4), .val (.int p5), .val (.int j1), .val (.int j2), .val (.int (p3 &&& (131071 : Int32))), .unset, .unset, .unset, .unset, .unset, .unset, .unset, .unset, .unset, .unset, .unset] [])) (fun t k => ?_) ?_
  · show Steps p.tables e below (s₁.setTop (mkF m 12 #[.val (.int p1), .val (.int p2), .val (.int p3), .val (.int p4), .val (.int p5), .val (.int j1), .val (.int j2), .unset, .unset, .unset, .unset, .unset, .unset, .unset, .unset, .unset, .unset, .unset, .unset] [])) _
    refine XS.iloadN X0.here hx rfl (hb hby at_12) rfl ?_
    show Steps p.tables e below (s₁.setTop (mkF m 13 #[.val (.int p1), .val (.int p2), .val (.int p3), .val (.int p4), .val (.int p5), .val (.int j1), .val (.int j2), .unset, .unset, .unset, .unset, .unset, .unset, .unset, .unset, .unset, .unset, .unset, .unset] [(.int p3)])) _
    refine X0.ldcInt hx hown (mvT hZ (hw _ (List.mem_of_getElem? (i := 0) rfl))) (g := (mkF m 13 #[.val (.int p1), .val (.int p2), .val (.int p3), .val (.int p4), .val (.int p5), .val (.int j1), .val (.int j2), .unset, .unset, .unset, .unset, .unset, .unset, .unset, .unset, .unset, .unset, .unset, .unset] [(.int p3)])) rfl (hb hby at_13) _ ?_
    show Steps p.tables e below (s₁.setTop (mkF m 15 #[.val (.int p1), .val (.int p2), .val (.int p3), .val (.int p4), .val (.int p5), .val (.int j1), .val (.int j2), .unset, .unset, .unset, .unset, .unset, .unset, .unset, .unset, .unset, .unset, .unset, .unset] [(.int (131071 : Int32)), (.int p3)])) _
    refine XS.iand X0.here hx rfl (hb hby at_15) rfl ?_
    show Steps p.tables e below (s₁.setTop (mkF m 16 #[.val (.int p1), .val (.int p2), .val (.int p3), .val (.int p4), .val (.int p5), .val (.int j1), .val (.int j2), .unset, .unset, .unset, .unset, .unset, .unset, .unset, .unset, .unset, .unset, .unset, .unset] [(.int (p3 &&& (131071 : Int32)))])) _
    refine XS.istore X0.here hx rfl (hb hby at_16) rfl (l' := #[.val (.int p1), .val (.int p2), .val (.int p3), .val (.int p4), .val (.int p5), .val (.int j1), .val (.int j2), .val (.int (p3 &&& (131071 : Int32))), .unset, .unset, .unset, .unset, .unset, .unset, .unset, .unset, .unset, .unset, .unset]) rfl ?_
    exact k
  show own_Go p.tables e below _ s₁ (mkF m 18 #[.val (.int p1), .val (.int p2), .val (.int p3), .val (.int p4), .val (.int p5), .val (.int j1), .val (.int j2), .val (.int (p3 &&& (131071 : Int32))), .unset, .unset, .unset, .unset, .unset, .unset, .unset, .unset, .unset, .unset, .unset] [])
  obtain ⟨j3, hj3⟩ : ∃ z : Int32, z = (p3 &&& (131071 : Int32)) := ⟨_, rfl⟩
  rw [← hj3]
  show own_Go p.tables e below _ s₁ (mkF m 18 #[.val (.int p1), .val (.int p2), .val (.int p3), .val (.int p4), .val (.int p5), .val (.int j1), .val (.int j2), .val (.int j3), .unset, .unset, .unset, .unset, .unset, .unset, .unset, .unset, .unset, .unset, .unset] [])
  refine own_go (T' := s₁) (g' := (mkF m 24 #[.val (.int p1), .val (.int p2), .val (.int p3), .val (.int p4), .val (.int p5), .val (.int j1), .val (.int j2), .val (.int j3), .val (.int (p4 &&& (131071 : Int32))), .unset, .unset, .unset, .unset, .unset, .unset, .unset, .unset, .unset, .unset] [])) (fun t k => ?_) ?_
  · show Steps p.tables e below (s₁.setTop (mkF m 18 #[.val (.int p1), .val (.int p2), .val (.int p3), .val (.int p4), .val (.int p5), .val (.int j1), .val (.int j2), .val (.int j3), .unset, .unset, .unset, .unset, .unset, .unset, .unset, .unset, .unset, .unset, .unset] [])) _
    refine XS.iloadN X0.here hx rfl (hb hby at_18) rfl ?_
    show Steps p.tables e below (s₁.setTop (mkF m 19 #[.val (.int p1), .val (.int p2), .val (.int p3), .val (.int p4), .val (.int p5), .val (.int j1), .val (.int j2), .val (.int j3), .unset, .unset, .unset, .unset, .unset, .unset, .unset, .unset, .unset, .unset, .unset] [(.int p4)])) _
    refine X0.ldcInt hx hown (mvT hZ (hw _ (List.mem_of_getElem? (i := 0) rfl))) (g := (mkF m 19 #[.val (.int p1), .val (.int p2), .val (.int p3), .val (.int p4), .val (.int p5), .val (.int j1), .val (.int j2), .val (.int j3), .unset, .unset, .unset, .unset, .unset, .unset, .unset, .unset, .unset, .unset, .unset] [(.int p4)])) rfl (hb hby at_19) _ ?_
    show Steps p.tables e below (s₁.setTop (mkF m 21 #[.val (.int p1), .val (.int p2), .val (.int p3), .val (.int p4), .val (.int p5), .val (.int j1), .val (.int j2), .val (.int j3), .unset, .unset, .unset, .unset, .unset, .unset, .unset, .unset, .unset, .unset, .unset] [(.int (131071 : Int32)), (.int p4)])) _
    refine XS.iand X0.here hx rfl (hb hby at_21) rfl ?_
    show Steps p.tables e below (s₁.setTop (mkF m 22 #[.val (.int p1), .val (.int p2), .val (.int p3), .val (.int p4), .val (.int p5), .val (.int j1), .val (.int j2), .val (.int j3), .unset, .unset, .unset, .unset, .unset, .unset, .unset, .unset, .unset, .unset, .unset] [(.int (p4 &&& (131071 : Int32)))])) _
    refine XS.istore X0.here hx rfl (hb hby at_22) rfl (l' := #[.val (.int p1), .val (.int p2), .val (.int p3), .val (.int p4), .val (.int p5), .val (.int j1), .val (.int j2), .val (.int j3), .val (.int (p4 &&& (131071 : Int32))), .unset, .unset, .unset, .unset, .unset, .unset, .unset, .unset, .unset, .unset]) rfl ?_
    exact k
  show own_Go p.tables e below _ s₁ (mkF m 24 #[.val (.int p1), .val (.int p2), .val (.int p3), .val (.int p4), .val (.int p5), .val (.int j1), .val (.int j2), .val (.int j3), .val (.int (p4 &&& (131071 : Int32))), .unset, .unset, .unset, .unset, .unset, .unset, .unset, .unset, .unset, .unset] [])
  obtain ⟨j4, hj4⟩ : ∃ z : Int32, z = (p4 &&& (131071 : Int32)) := ⟨_, rfl⟩
  rw [← hj4]
  show own_Go p.tables e below _ s₁ (mkF m 24 #[.val (.int p1), .val (.int p2), .val (.int p3), .val (.int p4), .val (.int p5), .val (.int j1), .val (.int j2), .val (.int j3), .val (.int j4), .unset, .unset, .unset, .unset, .unset, .unset, .unset, .unset, .unset, .unset] [])
  refine own_go (T' := s₁) (g' := (mkF m 28 #[.val (.int p1), .val (.int p2), .val (.int p3), .val (.int p4), .val (.int p5), .val (.int j1), .val (.int j2), .val (.int j3), .val (.int j4), .unset, .unset, .unset, .unset, .unset, .unset, .unset, .unset, .unset, .unset] [(.int (p5 &&& (1 : Int32)))])) (fun t k => ?_) ?_
  · show Steps p.tables e below (s₁.setTop (mkF m 24 #[.val (.int p1), .val (.int p2), .val (.int p3), .val (.int p4), .val (.int p5), .val (.int j1), .val (.int j2), .val (.int j3), .val (.int j4), .unset, .unset, .unset, .unset, .unset, .unset, .unset, .unset, .unset, .unset] [])) _
    refine XS.iload X0.here hx rfl (hb hby at_24) rfl ?_
    show Steps p.tables e below (s₁.setTop (mkF m 26 #[.val (.int p1), .val (.int p2), .val (.int p3), .val (.int p4), .val (.int p5), .val (.int j1), .val (.int j2), .val (.int j3), .val (.int j4), .unset, .unset, .unset, .unset, .unset, .unset, .unset, .unset, .unset, .unset] [(.int p5)])) _
    refine XS.iconst X0.here hx rfl (hb hby at_26) ?_
    show Steps p.tables e below (s₁.setTop (mkF m 27 #[.val (.int p1), .val (.int p2), .val (.int p3), .val (.int p4), .val (.int p5), .val (.int j1), .val (.int j2), .val (.int j3), .val (.int j4), .unset, .unset, .unset, .unset, .unset, .unset, .unset, .unset, .unset, .unset] [(.int (1 : Int32)), (.int p5)])) _
    refine XS.iand X0.here hx rfl (hb hby at_27) rfl ?_
    exact k
  obtain ⟨j5, hj5, st6⟩ : ∃ (j5 : Int32), j5 = (if (p5 &&& (1 : Int32)) = (0 : Int32) then (0 : Int32) else (1 : Int32)) ∧ ∀ t, Steps p.tables e below (s₁.setTop (mkF m 36 #[.val (.int p1), .val (.int p2), .val (.int p3), .val (.int p4), .val (.int p5), .val (.int j1), .val (.int j2), .val (.int j3), .val (.int j4), .unset, .unset, .unset, .unset, .unset, .unset, .unset, .unset, .unset, .unset] [(.int j5)])) t → Steps p.tables e below (s₁.setTop (mkF m 28 #[.val (.int p1), .val (.int p2), .val (.int p3), .val (.int p4), .val (.int p5), .val (.int j1), .val (.int j2), .val (.int j3), .val (.int j4), .unset, .unset, .unset, .unset, .unset, .unset, .unset, .unset, .unset, .unset] [(.int (p5 &&& (1 : Int32)))])) t := by
    by_cases hc28_1 : (p5 &&& (1 : Int32)) = (0 : Int32)
    · skip
      refine ⟨(0 : Int32), (by simp only [if_pos hc28_1]), fun t k => ?_⟩
      show Steps p.tables e below (s₁.setTop (mkF m 28 #[.val (.int p1), .val (.int p2), .val (.int p3), .val (.int p4), .val (.int p5), .val (.int j1), .val (.int j2), .val (.int j3), .val (.int j4), .unset, .unset, .unset, .unset, .unset, .unset, .unset, .unset, .unset, .unset] [(.int (p5 &&& (1 : Int32)))])) _
      refine XS.ifYes X0.here hx rfl (pc0 := 28) (pc' := 35) rfl (hb hby at_28) rfl ((if0 _ _).trans (teq hc28_1).1) (by decide) (by decide) ?_
      show Steps p.tables e below (s₁.setTop (mkF m 35 #[.val (.int p1), .val (.int p2), .val (.int p3), .val (.int p4), .val (.int p5), .val (.int j1), .val (.int j2), .val (.int j3), .val (.int j4), .unset, .unset, .unset, .unset, .unset, .unset, .unset, .unset, .unset, .unset] [])) _
      refine XS.iconst X0.here hx rfl (hb hby at_35) ?_
      exact k
    · skip
      refine ⟨(1 : Int32), (by simp only [if_neg hc28_1]), fun t k => ?_⟩
      show Steps p.tables e below (s₁.setTop (mkF m 28 #[.val (.int p1), .val (.int p2), .val (.int p3), .val (.int p4), .val (.int p5), .val (.int j1), .val (.int j2), .val (.int j3), .val (.int j4), .unset, .unset, .unset, .unset, .unset, .unset, .unset, .unset, .unset, .unset] [(.int (p5 &&& (1 : Int32)))])) _
      refine XS.ifNo X0.here hx rfl (hb hby at_28) rfl ((if0 _ _).trans (feq hc28_1).1) ?_
      show Steps p.tables e below (s₁.setTop (mkF m 31 #[.val (.int p1), .val (.int p2), .val (.int p3), .val (.int p4), .val (.int p5), .val (.int j1), .val (.int j2), .val (.int j3), .val (.int j4), .unset, .unset, .unset, .unset, .unset, .unset, .unset, .unset, .unset, .unset] [])) _
      refine XS.iconst X0.here hx rfl (hb hby at_31) ?_
      show Steps p.tables e below (s₁.setTop (mkF m 32 #[.val (.int p1), .val (.int p2), .val (.int p3), .val (.int p4), .val (.int p5), .val (.int j1), .val (.int j2), .val (.int j3), .val (.int j4), .unset, .unset, .unset, .unset, .unset, .unset, .unset, .unset, .unset, .unset] [(.int (1 : Int32))])) _
      refine XS.goto X0.here hx rfl (pc0 := 32) (pc' := 36) rfl (hb hby at_32) (by decide) (by decide) ?_
      exact k
  refine own_go st6 ?_
  show own_Go p.tables e below _ s₁ (mkF m 36 #[.val (.int p1), .val (.int p2), .val (.int p3), .val (.int p4), .val (.int p5), .val (.int j1), .val (.int j2), .val (.int j3), .val (.int j4), .unset, .unset, .unset, .unset, .unset, .unset, .unset, .unset, .unset, .unset] [(.int j5)])
  refine own_go (T' := s₁) (g' := (mkF m 42 #[.val (.int p1), .val (.int p2), .val (.int p3), .val (.int p4), .val (.int p5), .val (.int j1), .val (.int j2), .val (.int j3), .val (.int j4), .val (.int j5), .unset, .unset, .unset, .unset, .unset, .unset, .unset, .unset, .unset] [(.int (p5 &&& (2 : Int32)))])) (fun t k => ?_) ?_
  · show Steps p.tables e below (s₁.setTop (mkF m 36 #[.val (.int p1), .val (.int p2), .val (.int p3), .val (.int p4), .val (.int p5), .val (.int j1), .val (.int j2), .val (.int j3), .val (.int j4), .unset, .unset, .unset, .unset, .unset, .unset, .unset, .unset, .unset, .unset] [(.int j5)])) _
    refine XS.istore X0.here hx rfl (hb hby at_36) rfl (l' := #[.val (.int p1), .val (.int p2), .val (.int p3), .val (.int p4), .val (.int p5), .val (.int j1), .val (.int j2), .val (.int j3), .val (.int j4), .val (.int j5), .unset, .unset, .unset, .unset, .unset, .unset, .unset, .unset, .unset]) rfl ?_
    show Steps p.tables e below (s₁.setTop (mkF m 38 #[.val (.int p1), .val (.int p2), .val (.int p3), .val (.int p4), .val (.int p5), .val (.int j1), .val (.int j2), .val (.int j3), .val (.int j4), .val (.int j5), .unset, .unset, .unset, .unset, .unset, .unset, .unset, .unset, .unset] [])) _
    refine XS.iload X0.here hx rfl (hb hby at_38) rfl ?_
    show Steps p.tables e below (s₁.setTop (mkF m 40 #[.val (.int p1), .val (.int p2), .val (.int p3), .val (.int p4), .val (.int p5), .val (.int j1), .val (.int j2), .val (.int j3), .val (.int j4), .val (.int j5), .unset, .unset, .unset, .unset, .unset, .unset, .unset, .unset, .unset] [(.int p5)])) _
    refine XS.iconst X0.here hx rfl (hb hby at_40) ?_
    show Steps p.tables e below (s₁.setTop (mkF m 41 #[.val (.int p1), .val (.int p2), .val (.int p3), .val (.int p4), .val (.int p5), .val (.int j1), .val (.int j2), .val (.int j3), .val (.int j4), .val (.int j5), .unset, .unset, .unset, .unset, .unset, .unset, .unset, .unset, .unset] [(.int (2 : Int32)), (.int p5)])) _
    refine XS.iand X0.here hx rfl (hb hby at_41) rfl ?_
    exact k
  obtain ⟨j7, hj7, st8⟩ : ∃ (j7 : Int32), j7 = (if (p5 &&& (2 : Int32)) = (0 : Int32) then (0 : Int32) else (1 : Int32)) ∧ ∀ t, Steps p.tables e below (s₁.setTop (mkF m 50 #[.val (.int p1), .val (.int p2), .val (.int p3), .val (.int p4), .val (.int p5), .val (.int j1), .val (.int j2), .val (.int j3), .val (.int j4), .val (.int j5), .unset, .unset, .unset, .unset, .unset, .unset, .unset, .unset, .unset] [(.int j7)])) t → Steps p.tables e below (s₁.setTop (mkF m 42 #[.val (.int p1), .val (.int p2), .val (.int p3), .val (.int p4), .val (.int p5), .val (.int j1), .val (.int j2), .val (.int j3), .val (.int j4), .val (.int j5), .unset, .unset, .unset, .unset, .unset, .unset, .unset, .unset, .unset] [(.int (p5 &&& (2 : Int32)))])) t := by
    by_cases hc42_2 : (p5 &&& (2 : Int32)) = (0 : Int32)
    · skip
      refine ⟨(0 : Int32), (by simp only [if_pos hc42_2]), fun t k => ?_⟩
      show Steps p.tables e below (s₁.setTop (mkF m 42 #[.val (.int p1), .val (.int p2), .val (.int p3), .val (.int p4), .val (.int p5), .val (.int j1), .val (.int j2), .val (.int j3), .val (.int j4), .val (.int j5), .unset, .unset, .unset, .unset, .unset, .unset, .unset, .unset, .unset] [(.int (p5 &&& (2 : Int32)))])) _
      refine XS.ifYes X0.here hx rfl (pc0 := 42) (pc' := 49) rfl (hb hby at_42) rfl ((if0 _ _).trans (teq hc42_2).1) (by decide) (by decide) ?_
      show Steps p.tables e below (s₁.setTop (mkF m 49 #[.val (.int p1), .val (.int p2), .val (.int p3), .val (.int p4), .val (.int p5), .val (.int j1), .val (.int j2), .val (.int j3), .val (.int j4), .val (.int j5), .unset, .unset, .unset, .unset, .unset, .unset, .unset, .unset, .unset] [])) _
      refine XS.iconst X0.here hx rfl (hb hby at_49) ?_
      exact k
    · skip
      refine ⟨(1 : Int32), (by simp only [if_neg hc42_2]), fun t k => ?_⟩
      show Steps p.tables e below (s₁.setTop (mkF m 42 #[.val (.int p1), .val (.int p2), .val (.int p3), .val (.int p4), .val (.int p5), .val (.int j1), .val (.int j2), .val (.int j3), .val (.int j4), .val (.int j5), .unset, .unset, .unset, .unset, .unset, .unset, .unset, .unset, .unset] [(.int (p5 &&& (2 : Int32)))])) _
      refine XS.ifNo X0.here hx rfl (hb hby at_42) rfl ((if0 _ _).trans (feq hc42_2).1) ?_
      show Steps p.tables e below (s₁.setTop (mkF m 45 #[.val (.int p1), .val (.int p2), .val (.int p3), .val (.int p4), .val (.int p5), .val (.int j1), .val (.int j2), .val (.int j3), .val (.int j4), .val (.int j5), .unset, .unset, .unset, .unset, .unset, .unset, .unset, .unset, .unset] [])) _
      refine XS.iconst X0.here hx rfl (hb hby at_45) ?_
      show Steps p.tables e below (s₁.setTop (mkF m 46 #[.val (.int p1), .val (.int p2), .val (.int p3), .val (.int p4), .val (.int p5), .val (.int j1), .val (.int j2), .val (.int j3), .val (.int j4), .val (.int j5), .unset, .unset, .unset, .unset, .unset, .unset, .unset, .unset, .unset] [(.int (1 : Int32))])) _
      refine XS.goto X0.here hx rfl (pc0 := 46) (pc' := 50) rfl (hb hby at_46) (by decide) (by decide) ?_
      exact k
  refine own_go st8 ?_
  show own_Go p.tables e below _ s₁ (mkF m 50 #[.val (.int p1), .val (.int p2), .val (.int p3), .val (.int p4), .val (.int p5), .val (.int j1), .val (.int j2), .val (.int j3), .val (.int j4), .val (.int j5), .unset, .unset, .unset, .unset, .unset, .unset, .unset, .unset, .unset] [(.int j7)])
  refine own_go (T' := s₁) (g' := (mkF m 52 #[.val (.int p1), .val (.int p2), .val (.int p3), .val (.int p4), .val (.int p5), .val (.int j1), .val (.int j2), .val (.int j3), .val (.int j4), .val (.int j5), .val (.int j7), .unset, .unset, .unset, .unset, .unset, .unset, .unset, .unset] [])) (fun t k => ?_) ?_
  · show Steps p.tables e below (s₁.setTop (mkF m 50 #[.val (.int p1), .val (.int p2), .val (.int p3), .val (.int p4), .val (.int p5), .val (.int j1), .val (.int j2), .val (.int j3), .val (.int j4), .val (.int j5), .unset, .unset, .unset, .unset, .unset, .unset, .unset, .unset, .unset] [(.int j7)])) _
    refine XS.istore X0.here hx rfl (hb hby at_50) rfl (l' := #[.val (.int p1), .val (.int p2), .val (.int p3), .val (.int p4), .val (.int p5), .val (.int j1), .val (.int j2), .val (.int j3), .val (.int j4), .val (.int j5), .val (.int j7), .unset, .unset, .unset, .unset, .unset, .unset, .unset, .unset]) rfl ?_
    exact k
  obtain ⟨T9, h9, X9, e9, E9, A9, D9, -, st9⟩ := newO X0 hx hZ hown (hw _ (List.mem_of_getElem? (i := 1) rfl)) (hw _ (List.mem_of_getElem? (i := 2) rfl)) (hw _ (List.mem_of_getElem? (i := 3) rfl)) e0 (g := (mkF m 52 #[.val (.int p1), .val (.int p2), .val (.int p3), .val (.int p4), .val (.int p5), .val (.int j1), .val (.int j2), .val (.int j3), .val (.int j4), .val (.int j5), .val (.int j7), .unset, .unset, .unset, .unset, .unset, .unset, .unset, .unset] [])) rfl (hb hby at_52) (by decide) (by decide)
  obtain ⟨b9, g9⟩ : ∃ z, z = h0.size := ⟨_, rfl⟩
  rw [← g9] at A9 D9 st9
  have g_b9 : n0 ≤ b9 := Nat.le_trans Z0 (Nat.le_of_eq g9.symm)
  have sz_b9 : h0.size ≤ b9 := Nat.le_trans KK.1 (Nat.le_of_eq g9.symm)
  have Z0 := Nat.le_trans Z0 E9.1
  have KK := KK.ext E9
  have E_b9 := A9
  have F_b9_words : Fld Z h9 b9 "com/example/capd/capd/status/Bitstring" "words" "[J" .null := D9 (Or.inr (hw _ (List.mem_of_getElem? (i := 16) rfl))) (ty := (.array .long)) (by decide)
  have F_b9_size : Fld Z h9 b9 "com/example/capd/capd/status/Bitstring" "size" "I" (.int (0 : Int32)) := D9 (Or.inr (hw _ (List.mem_of_getElem? (i := 18) rfl))) (ty := .int) (by decide)
  have F_b9_count : Fld Z h9 b9 "com/example/capd/capd/status/Bitstring" "count" "I" (.int (0 : Int32)) := D9 (Or.inl (hw _ (List.mem_of_getElem? (i := 20) rfl))) (ty := .int) (by decide)
  refine own_go st9 ?_
  show own_Go p.tables e below _ T9 (mkF m 55 #[.val (.int p1), .val (.int p2), .val (.int p3), .val (.int p4), .val (.int p5), .val (.int j1), .val (.int j2), .val (.int j3), .val (.int j4), .val (.int j5), .val (.int j7), .unset, .unset, .unset, .unset, .unset, .unset, .unset, .unset] [(.ref b9)])
  refine own_go (T' := T9) (g' := (mkF m 56 #[.val (.int p1), .val (.int p2), .val (.int p3), .val (.int p4), .val (.int p5), .val (.int j1), .val (.int j2), .val (.int j3), .val (.int j4), .val (.int j5), .val (.int j7), .unset, .unset, .unset, .unset, .unset, .unset, .unset, .unset] [(.ref b9), (.ref b9)])) (fun t k => ?_) ?_
  · show Steps p.tables e below (T9.setTop (mkF m 55 #[.val (.int p1), .val (.int p2), .val (.int p3), .val (.int p4), .val (.int p5), .val (.int j1), .val (.int j2), .val (.int j3), .val (.int j4), .val (.int j5), .val (.int j7), .unset, .unset, .unset, .unset, .unset, .unset, .unset, .unset] [(.ref b9)])) _
    refine XS.dup X9.here hx rfl (hb hby at_55) rfl rfl ?_
    exact k
  obtain ⟨_, _, ⟨T10, L10, k10, n10⟩, -, X10, ⟨Lc10, hQ10, l10, y10, z10⟩, st10⟩ := X9.specialBack hx (y := (⟨"com/example/capd/capd/status/Bitstring", "<init>", "()V"⟩ : MethodName)) rfl hown (mvT hZ (hw _ (List.mem_of_getElem? (i := 4) rfl))) (mvT hZ (hw _ (List.mem_of_getElem? (i := 5) rfl))) (mvT hZ (hw _ (List.mem_of_getElem? (i := 6) rfl))) (by decide) (backOf (W := 1) (rm1 l Z a0 hw [] b9 .null (.int (0 : Int32)) (.int (0 : Int32)) h9 n0 Z0 E_b9 F_b9_words g_b9 F_b9_size F_b9_count) hZ (hw _ (List.mem_of_getElem? (i := 6) rfl)) (hw _ (List.mem_of_getElem? (i := 3) rfl)) (by decide) (by decide)) (g := (mkF m 56 #[.val (.int p1), .val (.int p2), .val (.int p3), .val (.int p4), .val (.int p5), .val (.int j1), .val (.int j2), .val (.int j3), .val (.int j4), .val (.int j5), .val (.int j7), .unset, .unset, .unset, .unset, .unset, .unset, .unset, .unset] [(.ref b9), (.ref b9)])) rfl (by rw [hml]; rfl) (Steps.refl _) (a := b9) (argsL := []) (rest := [(.ref b9)]) (lenOf pd_0 rfl) rfl (by show 2 * 0 + _ ≤ _; exact Nat.le_of_eq rfl) (hb hby at_56) (fun _ _ => ⟨rfl, e9, (by decide : 1 + 1 ≤ _), (by decide : 3 + 2048 ≤ _)⟩)
  dsimp only [Pt.U, Pt.locs, Pt.cells, Pt.slots] at X10 l10 y10 z10 st10 hQ10
  subst l10 y10 z10
  obtain ⟨b10_0, k10_1, rfl, N10q, K10, Q10_0, Q10_1, Q10_2, Q10_3, R10_0, R10_1, R10_2, R10_3⟩ := hQ10
  have ne_b9_b10_0 : b9 ≠ b10_0 := Nat.ne_of_lt (Nat.lt_of_lt_of_le E_b9.lt R10_1)
  have E_b9 := Q10_0
  have F_b9_words := Q10_1
  have F_b9_size := Q10_2
  have F_b9_count := Q10_3
  have g_b10_0 := R10_0
  have sz_b10_0 : h0.size ≤ b10_0 := Nat.le_trans KK.1 R10_1
  have E_b10_0 := R10_2
  have V_b10_0 := R10_3
  have Z0 := Nat.le_trans Z0 K10.1
  have KK := KK.trans K10 (allS (Or.inr sz_b9) all0)
  have NN := Fr.app NN N10q
  refine own_go (fun t k => st10.trans k) ?_
  show own_Go p.tables e below _ T10 (mkF m 59 #[.val (.int p1), .val (.int p2), .val (.int p3), .val (.int p4), .val (.int p5), .val (.int j1), .val (.int j2), .val (.int j3), .val (.int j4), .val (.int j5), .val (.int j7), .unset, .unset, .unset, .unset, .unset, .unset, .unset, .unset] [(.ref b9)])
  refine own_go (T' := T10) (g' := (mkF m 63 #[.val (.int p1), .val (.int p2), .val (.int p3), .val (.int p4), .val (.int p5), .val (.int j1), .val (.int j2), .val (.int j3), .val (.int j4), .val (.int j5), .val (.int j7), .val (.ref b9), .unset, .unset, .unset, .unset, .unset, .unset, .unset] [(.int j5)])) (fun t k => ?_) ?_
  · show Steps p.tables e below (T10.setTop (mkF m 59 #[.val (.int p1), .val (.int p2), .val (.int p3), .val (.int p4), .val (.int p5), .val (.int j1), .val (.int j2), .val (.int j3), .val (.int j4), .val (.int j5), .val (.int j7), .unset, .unset, .unset, .unset, .unset, .unset, .unset, .unset] [(.ref b9)])) _
    refine XS.astore X10.here hx rfl (hb hby at_59) rfl rfl (l' := #[.val (.int p1), .val (.int p2), .val (.int p3), .val (.int p4), .val (.int p5), .val (.int j1), .val (.int j2), .val (.int j3), .val (.int j4), .val (.int j5), .val (.int j7), .val (.ref b9), .unset, .unset, .unset, .unset, .unset, .unset, .unset]) rfl ?_
    show Steps p.tables e below (T10.setTop (mkF m 61 #[.val (.int p1), .val (.int p2), .val (.int p3), .val (.int p4), .val (.int p5), .val (.int j1), .val (.int j2), .val (.int j3), .val (.int j4), .val (.int j5), .val (.int j7), .val (.ref b9), .unset, .unset, .unset, .unset, .unset, .unset, .unset] [])) _
    refine XS.iload X10.here hx rfl (hb hby at_61) rfl ?_
    exact k
  by_cases hc63_3 : j5 = (0 : Int32)
  · skip
    refine own_go (T' := T10) (g' := (mkF m 75 #[.val (.int p1), .val (.int p2), .val (.int p3), .val (.int p4), .val (.int p5), .val (.int j1), .val (.int j2), .val (.int j3), .val (.int j4), .val (.int j5), .val (.int j7), .val (.ref b9), .unset, .unset, .unset, .unset, .unset, .unset, .unset] [(.int j7)])) (fun t k => ?_) ?_
    · show Steps p.tables e below (T10.setTop (mkF m 63 #[.val (.int p1), .val (.int p2), .val (.int p3), .val (.int p4), .val (.int p5), .val (.int j1), .val (.int j2), .val (.int j3), .val (.int j4), .val (.int j5), .val (.int j7), .val (.ref b9), .unset, .unset, .unset, .unset, .unset, .unset, .unset] [(.int j5)])) _
      refine XS.ifYes X10.here hx rfl (pc0 := 63) (pc' := 73) rfl (hb hby at_63) rfl ((if0 _ _).trans (teq hc63_3).1) (by decide) (by decide) ?_
      show Steps p.tables e below (T10.setTop (mkF m 73 #[.val (.int p1), .val (.int p2), .val (.int p3), .val (.int p4), .val (.int p5), .val (.int j1), .val (.int j2), .val (.int j3), .val (.int j4), .val (.int j5), .val (.int j7), .val (.ref b9), .unset, .unset, .unset, .unset, .unset, .unset, .unset] [])) _
      refine XS.iload X10.here hx rfl (hb hby at_73) rfl ?_
      exact k
    by_cases hc75_4 : j7 = (0 : Int32)
    · skip
      refine own_go (T' := T10) (g' := (mkF m 87 #[.val (.int p1), .val (.int p2), .val (.int p3), .val (.int p4), .val (.int p5), .val (.int j1), .val (.int j2), .val (.int j3), .val (.int j4), .val (.int j5), .val (.int j7), .val (.ref b9), .unset, .unset, .unset, .unset, .unset, .unset, .unset] [(.int j5)])) (fun t k => ?_) ?_
      · show Steps p.tables e below (T10.setTop (mkF m 75 #[.val (.int p1), .val (.int p2), .val (.int p3), .val (.int p4), .val (.int p5), .val (.int j1), .val (.int j2), .val (.int j3), .val (.int j4), .val (.int j5), .val (.int j7), .val (.ref b9), .unset, .unset, .unset, .unset, .unset, .unset, .unset] [(.int j7)])) _
        refine XS.ifYes X10.here hx rfl (pc0 := 75) (pc' := 85) rfl (hb hby at_75) rfl ((if0 _ _).trans (teq hc75_4).1) (by decide) (by decide) ?_
        show Steps p.tables e below (T10.setTop (mkF m 85 #[.val (.int p1), .val (.int p2), .val (.int p3), .val (.int p4), .val (.int p5), .val (.int j1), .val (.int j2), .val (.int j3), .val (.int j4), .val (.int j5), .val (.int j7), .val (.ref b9), .unset, .unset, .unset, .unset, .unset, .unset, .unset] [])) _
        refine XS.iload X10.here hx rfl (hb hby at_85) rfl ?_
        exact k
      refine own_go (T' := T10) (g' := (mkF m 97 #[.val (.int p1), .val (.int p2), .val (.int p3), .val (.int p4), .val (.int p5), .val (.int j1), .val (.int j2), .val (.int j3), .val (.int j4), .val (.int j5), .val (.int j7), .val (.ref b9), .unset, .unset, .unset, .unset, .unset, .unset, .unset] [(.int j7), (.int (0 : Int32))])) (fun t k => ?_) ?_
      · show Steps p.tables e below (T10.setTop (mkF m 87 #[.val (.int p1), .val (.int p2), .val (.int p3), .val (.int p4), .val (.int p5), .val (.int j1), .val (.int j2), .val (.int j3), .val (.int j4), .val (.int j5), .val (.int j7), .val (.ref b9), .unset, .unset, .unset, .unset, .unset, .unset, .unset] [(.int j5)])) _
        refine XS.ifYes X10.here hx rfl (pc0 := 87) (pc' := 94) rfl (hb hby at_87) rfl ((if0 _ _).trans (teq hc63_3).1) (by decide) (by decide) ?_
        show Steps p.tables e below (T10.setTop (mkF m 94 #[.val (.int p1), .val (.int p2), .val (.int p3), .val (.int p4), .val (.int p5), .val (.int j1), .val (.int j2), .val (.int j3), .val (.int j4), .val (.int j5), .val (.int j7), .val (.ref b9), .unset, .unset, .unset, .unset, .unset, .unset, .unset] [])) _
        refine XS.iconst X10.here hx rfl (hb hby at_94) ?_
        show Steps p.tables e below (T10.setTop (mkF m 95 #[.val (.int p1), .val (.int p2), .val (.int p3), .val (.int p4), .val (.int p5), .val (.int j1), .val (.int j2), .val (.int j3), .val (.int j4), .val (.int j5), .val (.int j7), .val (.ref b9), .unset, .unset, .unset, .unset, .unset, .unset, .unset] [(.int (0 : Int32))])) _
        refine XS.iload X10.here hx rfl (hb hby at_95) rfl ?_
        exact k
      refine own_go (T' := T10) (g' := (mkF m 120 #[.val (.int p1), .val (.int p2), .val (.int p3), .val (.int p4), .val (.int p5), .val (.int j1), .val (.int j2), .val (.int j3), .val (.int j4), .val (.int j5), .val (.int j7), .val (.ref b9), .val (.int ((0 : Int32) + (0 : Int32))), .unset, .unset, .unset, .unset, .unset, .unset] [])) (fun t k => ?_) ?_
      · show Steps p.tables e below (T10.setTop (mkF m 97 #[.val (.int p1), .val (.int p2), .val (.int p3), .val (.int p4), .val (.int p5), .val (.int j1), .val (.int j2), .val (.int j3), .val (.int j4), .val (.int j5), .val (.int j7), .val (.ref b9), .unset, .unset, .unset, .unset, .unset, .unset, .unset] [(.int j7), (.int (0 : Int32))])) _
        refine XS.ifYes X10.here hx rfl (pc0 := 97) (pc' := 116) rfl (hb hby at_97) rfl ((if0 _ _).trans (teq hc75_4).1) (by decide) (by decide) ?_
        show Steps p.tables e below (T10.setTop (mkF m 116 #[.val (.int p1), .val (.int p2), .val (.int p3), .val (.int p4), .val (.int p5), .val (.int j1), .val (.int j2), .val (.int j3), .val (.int j4), .val (.int j5), .val (.int j7), .val (.ref b9), .unset, .unset, .unset, .unset, .unset, .unset, .unset] [(.int (0 : Int32))])) _
        refine XS.iconst X10.here hx rfl (hb hby at_116) ?_
        show Steps p.tables e below (T10.setTop (mkF m 117 #[.val (.int p1), .val (.int p2), .val (.int p3), .val (.int p4), .val (.int p5), .val (.int j1), .val (.int j2), .val (.int j3), .val (.int j4), .val (.int j5), .val (.int j7), .val (.ref b9), .unset, .unset, .unset, .unset, .unset, .unset, .unset] [(.int (0 : Int32)), (.int (0 : Int32))])) _
        refine XS.iadd X10.here hx rfl (hb hby at_117) rfl ?_
        show Steps p.tables e below (T10.setTop (mkF m 118 #[.val (.int p1), .val (.int p2), .val (.int p3), .val (.int p4), .val (.int p5), .val (.int j1), .val (.int j2), .val (.int j3), .val (.int j4), .val (.int j5), .val (.int j7), .val (.ref b9), .unset, .unset, .unset, .unset, .unset, .unset, .unset] [(.int ((0 : Int32) + (0 : Int32)))])) _
        refine XS.istore X10.here hx rfl (hb hby at_118) rfl (l' := #[.val (.int p1), .val (.int p2), .val (.int p3), .val (.int p4), .val (.int p5), .val (.int j1), .val (.int j2), .val (.int j3), .val (.int j4), .val (.int j5), .val (.int j7), .val (.ref b9), .val (.int ((0 : Int32) + (0 : Int32))), .unset, .unset, .unset, .unset, .unset, .unset]) rfl ?_
        exact k
      show own_Go p.tables e below _ T10 (mkF m 120 #[.val (.int p1), .val (.int p2), .val (.int p3), .val (.int p4), .val (.int p5), .val (.int j1), .val (.int j2), .val (.int j3), .val (.int j4), .val (.int j5), .val (.int j7), .val (.ref b9), .val (.int ((0 : Int32) + (0 : Int32))), .unset, .unset, .unset, .unset, .unset, .unset] [])
      obtain ⟨j11, hj11⟩ : ∃ z : Int32, z = ((0 : Int32) + (0 : Int32)) := ⟨_, rfl⟩
      rw [← hj11]
      show own_Go p.tables e below _ T10 (mkF m 120 #[.val (.int p1), .val (.int p2), .val (.int p3), .val (.int p4), .val (.int p5), .val (.int j1), .val (.int j2), .val (.int j3), .val (.int j4), .val (.int j5), .val (.int j7), .val (.ref b9), .val (.int j11), .unset, .unset, .unset, .unset, .unset, .unset] [])
      refine own_go (T' := T10) (g' := (mkF m 122 #[.val (.int p1), .val (.int p2), .val (.int p3), .val (.int p4), .val (.int p5), .val (.int j1), .val (.int j2), .val (.int j3), .val (.int j4), .val (.int j5), .val (.int j7), .val (.ref b9), .val (.int j11), .unset, .unset, .unset, .unset, .unset, .unset] [(.int j5)])) (fun t k => ?_) ?_
      · show Steps p.tables e below (T10.setTop (mkF m 120 #[.val (.int p1), .val (.int p2), .val (.int p3), .val (.int p4), .val (.int p5), .val (.int j1), .val (.int j2), .val (.int j3), .val (.int j4), .val (.int j5), .val (.int j7), .val (.ref b9), .val (.int j11), .unset, .unset, .unset, .unset, .unset, .unset] [])) _
        refine XS.iload X10.here hx rfl (hb hby at_120) rfl ?_
        exact k
      refine own_go (T' := T10) (g' := (mkF m 127 #[.val (.int p1), .val (.int p2), .val (.int p3), .val (.int p4), .val (.int p5), .val (.int j1), .val (.int j2), .val (.int j3), .val (.int j4), .val (.int j5), .val (.int j7), .val (.ref b9), .val (.int j11), .unset, .unset, .unset, .unset, .unset, .unset] [(.int j7)])) (fun t k => ?_) ?_
      · show Steps p.tables e below (T10.setTop (mkF m 122 #[.val (.int p1), .val (.int p2), .val (.int p3), .val (.int p4), .val (.int p5), .val (.int j1), .val (.int j2), .val (.int j3), .val (.int j4), .val (.int j5), .val (.int j7), .val (.ref b9), .val (.int j11), .unset, .unset, .unset, .unset, .unset, .unset] [(.int j5)])) _
        refine XS.ifNo X10.here hx rfl (hb hby at_122) rfl ((if0 _ _).trans (teq hc63_3).2) ?_
        show Steps p.tables e below (T10.setTop (mkF m 125 #[.val (.int p1), .val (.int p2), .val (.int p3), .val (.int p4), .val (.int p5), .val (.int j1), .val (.int j2), .val (.int j3), .val (.int j4), .val (.int j5), .val (.int j7), .val (.ref b9), .val (.int j11), .unset, .unset, .unset, .unset, .unset, .unset] [])) _
        refine XS.iload X10.here hx rfl (hb hby at_125) rfl ?_
        exact k
      refine own_go (T' := T10) (g' := (mkF m 146 #[.val (.int p1), .val (.int p2), .val (.int p3), .val (.int p4), .val (.int p5), .val (.int j1), .val (.int j2), .val (.int j3), .val (.int j4), .val (.int j5), .val (.int j7), .val (.ref b9), .val (.int j11), .val (.int (0 : Int32)), .unset, .unset, .unset, .unset, .unset] [(.int j5)])) (fun t k => ?_) ?_
      · show Steps p.tables e below (T10.setTop (mkF m 127 #[.val (.int p1), .val (.int p2), .val (.int p3), .val (.int p4), .val (.int p5), .val (.int j1), .val (.int j2), .val (.int j3), .val (.int j4), .val (.int j5), .val (.int j7), .val (.ref b9), .val (.int j11), .unset, .unset, .unset, .unset, .unset, .unset] [(.int j7)])) _
        refine XS.ifYes X10.here hx rfl (pc0 := 127) (pc' := 141) rfl (hb hby at_127) rfl ((if0 _ _).trans (teq hc75_4).1) (by decide) (by decide) ?_
        show Steps p.tables e below (T10.setTop (mkF m 141 #[.val (.int p1), .val (.int p2), .val (.int p3), .val (.int p4), .val (.int p5), .val (.int j1), .val (.int j2), .val (.int j3), .val (.int j4), .val (.int j5), .val (.int j7), .val (.ref b9), .val (.int j11), .unset, .unset, .unset, .unset, .unset, .unset] [])) _
        refine XS.iconst X10.here hx rfl (hb hby at_141) ?_
        show Steps p.tables e below (T10.setTop (mkF m 142 #[.val (.int p1), .val (.int p2), .val (.int p3), .val (.int p4), .val (.int p5), .val (.int j1), .val (.int j2), .val (.int j3), .val (.int j4), .val (.int j5), .val (.int j7), .val (.ref b9), .val (.int j11), .unset, .unset, .unset, .unset, .unset, .unset] [(.int (0 : Int32))])) _
        refine XS.istore X10.here hx rfl (hb hby at_142) rfl (l' := #[.val (.int p1), .val (.int p2), .val (.int p3), .val (.int p4), .val (.int p5), .val (.int j1), .val (.int j2), .val (.int j3), .val (.int j4), .val (.int j5), .val (.int j7), .val (.ref b9), .val (.int j11), .val (.int (0 : Int32)), .unset, .unset, .unset, .unset, .unset]) rfl ?_
        show Steps p.tables e below (T10.setTop (mkF m 144 #[.val (.int p1), .val (.int p2), .val (.int p3), .val (.int p4), .val (.int p5), .val (.int j1), .val (.int j2), .val (.int j3), .val (.int j4), .val (.int j5), .val (.int j7), .val (.ref b9), .val (.int j11), .val (.int (0 : Int32)), .unset, .unset, .unset, .unset, .unset] [])) _
        refine XS.iload X10.here hx rfl (hb hby at_144) rfl ?_
        exact k
      refine own_go (T' := T10) (g' := (mkF m 158 #[.val (.int p1), .val (.int p2), .val (.int p3), .val (.int p4), .val (.int p5), .val (.int j1), .val (.int j2), .val (.int j3), .val (.int j4), .val (.int j5), .val (.int j7), .val (.ref b9), .val (.int j11), .val (.int (0 : Int32)), .unset, .unset, .unset, .unset, .unset] [(.int j7)])) (fun t k => ?_) ?_
      · show Steps p.tables e below (T10.setTop (mkF m 146 #[.val (.int p1), .val (.int p2), .val (.int p3), .val (.int p4), .val (.int p5), .val (.int j1), .val (.int j2), .val (.int j3), .val (.int j4), .val (.int j5), .val (.int j7), .val (.ref b9), .val (.int j11), .val (.int (0 : Int32)), .unset, .unset, .unset, .unset, .unset] [(.int j5)])) _
        refine XS.ifYes X10.here hx rfl (pc0 := 146) (pc' := 156) rfl (hb hby at_146) rfl ((if0 _ _).trans (teq hc63_3).1) (by decide) (by decide) ?_
        show Steps p.tables e below (T10.setTop (mkF m 156 #[.val (.int p1), .val (.int p2), .val (.int p3), .val (.int p4), .val (.int p5), .val (.int j1), .val (.int j2), .val (.int j3), .val (.int j4), .val (.int j5), .val (.int j7), .val (.ref b9), .val (.int j11), .val (.int (0 : Int32)), .unset, .unset, .unset, .unset, .unset] [])) _
        refine XS.iload X10.here hx rfl (hb hby at_156) rfl ?_
        exact k
      refine own_go (T' := T10) (g' := (mkF m 177 #[.val (.int p1), .val (.int p2), .val (.int p3), .val (.int p4), .val (.int p5), .val (.int j1), .val (.int j2), .val (.int j3), .val (.int j4), .val (.int j5), .val (.int j7), .val (.ref b9), .val (.int j11), .val (.int (0 : Int32)), .val (.int (0 : Int32)), .unset, .unset, .unset, .unset] [(.ref b9)])) (fun t k => ?_) ?_
      · show Steps p.tables e below (T10.setTop (mkF m 158 #[.val (.int p1), .val (.int p2), .val (.int p3), .val (.int p4), .val (.int p5), .val (.int j1), .val (.int j2), .val (.int j3), .val (.int j4), .val (.int j5), .val (.int j7), .val (.ref b9), .val (.int j11), .val (.int (0 : Int32)), .unset, .unset, .unset, .unset, .unset] [(.int j7)])) _
        refine XS.ifYes X10.here hx rfl (pc0 := 158) (pc' := 172) rfl (hb hby at_158) rfl ((if0 _ _).trans (teq hc75_4).1) (by decide) (by decide) ?_
        show Steps p.tables e below (T10.setTop (mkF m 172 #[.val (.int p1), .val (.int p2), .val (.int p3), .val (.int p4), .val (.int p5), .val (.int j1), .val (.int j2), .val (.int j3), .val (.int j4), .val (.int j5), .val (.int j7), .val (.ref b9), .val (.int j11), .val (.int (0 : Int32)), .unset, .unset, .unset, .unset, .unset] [])) _
        refine XS.iconst X10.here hx rfl (hb hby at_172) ?_
        show Steps p.tables e below (T10.setTop (mkF m 173 #[.val (.int p1), .val (.int p2), .val (.int p3), .val (.int p4), .val (.int p5), .val (.int j1), .val (.int j2), .val (.int j3), .val (.int j4), .val (.int j5), .val (.int j7), .val (.ref b9), .val (.int j11), .val (.int (0 : Int32)), .unset, .unset, .unset, .unset, .unset] [(.int (0 : Int32))])) _
        refine XS.istore X10.here hx rfl (hb hby at_173) rfl (l' := #[.val (.int p1), .val (.int p2), .val (.int p3), .val (.int p4), .val (.int p5), .val (.int j1), .val (.int j2), .val (.int j3), .val (.int j4), .val (.int j5), .val (.int j7), .val (.ref b9), .val (.int j11), .val (.int (0 : Int32)), .val (.int (0 : Int32)), .unset, .unset, .unset, .unset]) rfl ?_
        show Steps p.tables e below (T10.setTop (mkF m 175 #[.val (.int p1), .val (.int p2), .val (.int p3), .val (.int p4), .val (.int p5), .val (.int j1), .val (.int j2), .val (.int j3), .val (.int j4), .val (.int j5), .val (.int j7), .val (.ref b9), .val (.int j11), .val (.int (0 : Int32)), .val (.int (0 : Int32)), .unset, .unset, .unset, .unset] [])) _
        refine XS.aload X10.here hx rfl (hb hby at_175) rfl rfl ?_
        exact k
      obtain ⟨cq12, kq12, q12a, q12b, q12c⟩ := isOf hZ rfl E_b9
      obtain ⟨_, _, ⟨T12, L12, k12, n12⟩, -, X12, ⟨Lc12, hQ12, l12, y12, z12⟩, st12⟩ := X10.virtualBack hx (y := (⟨"com/example/capd/capd/status/Bitstring", "copy", "()Lcom/example/capd/capd/status/Bitstring;"⟩ : MethodName)) (z := (⟨"com/example/capd/capd/status/Bitstring", "copy", "()Lcom/example/capd/capd/status/Bitstring;"⟩ : MethodName)) hown (mvT hZ (hw _ (List.mem_of_getElem? (i := 21) rfl))) (mvT hZ (hw _ (List.mem_of_getElem? (i := 22) rfl))) (notFace_of_selects (args := #[]) (mvT hZ (hw _ (List.mem_of_getElem? (i := 24) rfl)))) (mvT hZ (hw _ (List.mem_of_getElem? (i := 24) rfl))) (mvT hZ (hw _ (List.mem_of_getElem? (i := 23) rfl))) (by decide) (backOf (W := 0) (rm4 l Z a0 hw [] b9 b10_0 k10_1 (fun _ => 0) (131072 : Int32) (0 : Int32) T10.heap n0 Z0 F_b9_words V_b10_0 E_b10_0 F_b9_size F_b9_count) hZ (hw _ (List.mem_of_getElem? (i := 25) rfl)) (hw _ (List.mem_of_getElem? (i := 3) rfl)) (by decide) (by decide)) q12a q12c (g := (mkF m 177 #[.val (.int p1), .val (.int p2), .val (.int p3), .val (.int p4), .val (.int p5), .val (.int j1), .val (.int j2), .val (.int j3), .val (.int j4), .val (.int j5), .val (.int j7), .val (.ref b9), .val (.int j11), .val (.int (0 : Int32)), .val (.int (0 : Int32)), .unset, .unset, .unset, .unset] [(.ref b9)])) rfl (by rw [hml]; rfl) (Steps.refl _) (argsL := []) (rest := []) (lenOf pd_2 rfl) rfl (by show 2 * 0 + _ ≤ _; exact Nat.le_of_eq rfl) (hb hby at_177) (fun _ _ => ⟨rfl, rfl, (by decide : 2 + 2 ≤ _), (by decide : 2051 + 2051 ≤ _)⟩)
      dsimp only [Pt.U, Pt.locs, Pt.cells, Pt.slots] at X12 l12 y12 z12 st12 hQ12
      subst l12 y12 z12
      obtain ⟨b12_0, b12_1, rfl, N12q, K12, R12_0, R12_1, R12_2, R12_3, R12_4, R12_5, R12_6, R12_7, R12_8, R12_9, R12_10⟩ := hQ12
      have ne_b9_b12_0 : b9 ≠ b12_0 := Nat.ne_of_lt (Nat.lt_of_lt_of_le E_b9.lt R12_1)
      have ne_b10_0_b12_0 : b10_0 ≠ b12_0 := Nat.ne_of_lt (Nat.lt_of_lt_of_le E_b10_0.lt R12_1)
      have ne_b9_b12_1 : b9 ≠ b12_1 := Nat.ne_of_lt (Nat.lt_of_lt_of_le E_b9.lt R12_8)
      have ne_b10_0_b12_1 : b10_0 ≠ b12_1 := Nat.ne_of_lt (Nat.lt_of_lt_of_le E_b10_0.lt R12_8)
      have E_b9 := E_b9.keep K12
      have F_b9_words := F_b9_words.keep K12 nin0
      have F_b9_size := F_b9_size.keep K12 nin0
      have F_b9_count := F_b9_count.keep K12 nin0
      have E_b10_0 := E_b10_0.keep K12
      have V_b10_0 := V_b10_0.keep K12 nin0
      have g_b12_0 := R12_0
      have sz_b12_0 : h0.size ≤ b12_0 := Nat.le_trans KK.1 R12_1
      have E_b12_0 := R12_2
      have F_b12_0_words := R12_3
      have F_b12_0_size := R12_4
      have F_b12_0_count := R12_5
      have ne_b12_0_b12_1 := R12_6
      have g_b12_1 := R12_7
      have sz_b12_1 : h0.size ≤ b12_1 := Nat.le_trans KK.1 R12_8
      have E_b12_1 := R12_9
      have V_b12_1 := R12_10
      have Z0 := Nat.le_trans Z0 K12.1
      have KK := KK.trans K12 all0
      have NN := Fr.app NN N12q
      refine own_go (fun t k => st12.trans k) ?_
      show own_Go p.tables e below _ T12 (mkF m 180 #[.val (.int p1), .val (.int p2), .val (.int p3), .val (.int p4), .val (.int p5), .val (.int j1), .val (.int j2), .val (.int j3), .val (.int j4), .val (.int j5), .val (.int j7), .val (.ref b9), .val (.int j11), .val (.int (0 : Int32)), .val (.int (0 : Int32)), .unset, .unset, .unset, .unset] [(.ref b12_0)])
      refine own_go (T' := T12) (g' := (mkF m 186 #[.val (.int p1), .val (.int p2), .val (.int p3), .val (.int p4), .val (.int p5), .val (.int j1), .val (.int j2), .val (.int j3), .val (.int j4), .val (.int j5), .val (.int j7), .val (.ref b9), .val (.int j11), .val (.int (0 : Int32)), .val (.int (0 : Int32)), .val (.ref b12_0), .unset, .unset, .unset] [(.ref b9), (.ref b12_0)])) (fun t k => ?_) ?_
      · show Steps p.tables e below (T12.setTop (mkF m 180 #[.val (.int p1), .val (.int p2), .val (.int p3), .val (.int p4), .val (.int p5), .val (.int j1), .val (.int j2), .val (.int j3), .val (.int j4), .val (.int j5), .val (.int j7), .val (.ref b9), .val (.int j11), .val (.int (0 : Int32)), .val (.int (0 : Int32)), .unset, .unset, .unset, .unset] [(.ref b12_0)])) _
        refine XS.astore X12.here hx rfl (hb hby at_180) rfl rfl (l' := #[.val (.int p1), .val (.int p2), .val (.int p3), .val (.int p4), .val (.int p5), .val (.int j1), .val (.int j2), .val (.int j3), .val (.int j4), .val (.int j5), .val (.int j7), .val (.ref b9), .val (.int j11), .val (.int (0 : Int32)), .val (.int (0 : Int32)), .val (.ref b12_0), .unset, .unset, .unset]) rfl ?_
        show Steps p.tables e below (T12.setTop (mkF m 182 #[.val (.int p1), .val (.int p2), .val (.int p3), .val (.int p4), .val (.int p5), .val (.int j1), .val (.int j2), .val (.int j3), .val (.int j4), .val (.int j5), .val (.int j7), .val (.ref b9), .val (.int j11), .val (.int (0 : Int32)), .val (.int (0 : Int32)), .val (.ref b12_0), .unset, .unset, .unset] [])) _
        refine XS.aload X12.here hx rfl (hb hby at_182) rfl rfl ?_
        show Steps p.tables e below (T12.setTop (mkF m 184 #[.val (.int p1), .val (.int p2), .val (.int p3), .val (.int p4), .val (.int p5), .val (.int j1), .val (.int j2), .val (.int j3), .val (.int j4), .val (.int j5), .val (.int j7), .val (.ref b9), .val (.int j11), .val (.int (0 : Int32)), .val (.int (0 : Int32)), .val (.ref b12_0), .unset, .unset, .unset] [(.ref b12_0)])) _
        refine XS.aload X12.here hx rfl (hb hby at_184) rfl rfl ?_
        exact k
      refine own_go (fun t k => Jvm.RoadKit.acmp (g := (mkF m 186 #[.val (.int p1), .val (.int p2), .val (.int p3), .val (.int p4), .val (.int p5), .val (.int j1), .val (.int j2), .val (.int j3), .val (.int j4), .val (.int j5), .val (.int j7), .val (.ref b9), .val (.int j11), .val (.int (0 : Int32)), .val (.int (0 : Int32)), .val (.ref b12_0), .unset, .unset, .unset] [(.ref b9), (.ref b12_0)])) X12 hx rfl rfl rfl (pc0 := 186) (pc' := 189) (same := false) rfl (hb hby at_186) rfl (decide_eq_false fun q => (Ne.symm ne_b9_b12_0) (Value.ref.inj q)) (by decide) (by decide) k) ?_
      show own_Go p.tables e below _ T12 (mkF m 189 #[.val (.int p1), .val (.int p2), .val (.int p3), .val (.int p4), .val (.int p5), .val (.int j1), .val (.int j2), .val (.int j3), .val (.int j4), .val (.int j5), .val (.int j7), .val (.ref b9), .val (.int j11), .val (.int (0 : Int32)), .val (.int (0 : Int32)), .val (.ref b12_0), .unset, .unset, .unset] [])
      refine own_go (T' := T12) (g' := (mkF m 198 #[.val (.int p1), .val (.int p2), .val (.int p3), .val (.int p4), .val (.int p5), .val (.int j1), .val (.int j2), .val (.int j3), .val (.int j4), .val (.int j5), .val (.int j7), .val (.ref b9), .val (.int j11), .val (.int (0 : Int32)), .val (.int (0 : Int32)), .val (.ref b12_0), .val (.int (1 : Int32)), .unset, .unset] [(.int (1 : Int32))])) (fun t k => ?_) ?_
      · show Steps p.tables e below (T12.setTop (mkF m 189 #[.val (.int p1), .val (.int p2), .val (.int p3), .val (.int p4), .val (.int p5), .val (.int j1), .val (.int j2), .val (.int j3), .val (.int j4), .val (.int j5), .val (.int j7), .val (.ref b9), .val (.int j11), .val (.int (0 : Int32)), .val (.int (0 : Int32)), .val (.ref b12_0), .unset, .unset, .unset] [])) _
        refine XS.iconst X12.here hx rfl (hb hby at_189) ?_
        show Steps p.tables e below (T12.setTop (mkF m 190 #[.val (.int p1), .val (.int p2), .val (.int p3), .val (.int p4), .val (.int p5), .val (.int j1), .val (.int j2), .val (.int j3), .val (.int j4), .val (.int j5), .val (.int j7), .val (.ref b9), .val (.int j11), .val (.int (0 : Int32)), .val (.int (0 : Int32)), .val (.ref b12_0), .unset, .unset, .unset] [(.int (1 : Int32))])) _
        refine XS.goto X12.here hx rfl (pc0 := 190) (pc' := 194) rfl (hb hby at_190) (by decide) (by decide) ?_
        show Steps p.tables e below (T12.setTop (mkF m 194 #[.val (.int p1), .val (.int p2), .val (.int p3), .val (.int p4), .val (.int p5), .val (.int j1), .val (.int j2), .val (.int j3), .val (.int j4), .val (.int j5), .val (.int j7), .val (.ref b9), .val (.int j11), .val (.int (0 : Int32)), .val (.int (0 : Int32)), .val (.ref b12_0), .unset, .unset, .unset] [(.int (1 : Int32))])) _
        refine XS.istore X12.here hx rfl (hb hby at_194) rfl (l' := #[.val (.int p1), .val (.int p2), .val (.int p3), .val (.int p4), .val (.int p5), .val (.int j1), .val (.int j2), .val (.int j3), .val (.int j4), .val (.int j5), .val (.int j7), .val (.ref b9), .val (.int j11), .val (.int (0 : Int32)), .val (.int (0 : Int32)), .val (.ref b12_0), .val (.int (1 : Int32)), .unset, .unset]) rfl ?_
        show Steps p.tables e below (T12.setTop (mkF m 196 #[.val (.int p1), .val (.int p2), .val (.int p3), .val (.int p4), .val (.int p5), .val (.int j1), .val (.int j2), .val (.int j3), .val (.int j4), .val (.int j5), .val (.int j7), .val (.ref b9), .val (.int j11), .val (.int (0 : Int32)), .val (.int (0 : Int32)), .val (.ref b12_0), .val (.int (1 : Int32)), .unset, .unset] [])) _
        refine XS.iload X12.here hx rfl (hb hby at_196) rfl ?_
        exact k
      refine own_go (T' := T12) (g' := (mkF m 203 #[.val (.int p1), .val (.int p2), .val (.int p3), .val (.int p4), .val (.int p5), .val (.int j1), .val (.int j2), .val (.int j3), .val (.int j4), .val (.int j5), .val (.int j7), .val (.ref b9), .val (.int j11), .val (.int (0 : Int32)), .val (.int (0 : Int32)), .val (.ref b12_0), .val (.int (1 : Int32)), .unset, .unset] [(.ref b12_0)])) (fun t k => ?_) ?_
      · show Steps p.tables e below (T12.setTop (mkF m 198 #[.val (.int p1), .val (.int p2), .val (.int p3), .val (.int p4), .val (.int p5), .val (.int j1), .val (.int j2), .val (.int j3), .val (.int j4), .val (.int j5), .val (.int j7), .val (.ref b9), .val (.int j11), .val (.int (0 : Int32)), .val (.int (0 : Int32)), .val (.ref b12_0), .val (.int (1 : Int32)), .unset, .unset] [(.int (1 : Int32))])) _
        refine XS.ifNo X12.here hx rfl (hb hby at_198) rfl ((if0 _ _).trans (feq (by decide : ¬ ((1 : Int32) = (0 : Int32)))).1) ?_
        show Steps p.tables e below (T12.setTop (mkF m 201 #[.val (.int p1), .val (.int p2), .val (.int p3), .val (.int p4), .val (.int p5), .val (.int j1), .val (.int j2), .val (.int j3), .val (.int j4), .val (.int j5), .val (.int j7), .val (.ref b9), .val (.int j11), .val (.int (0 : Int32)), .val (.int (0 : Int32)), .val (.ref b12_0), .val (.int (1 : Int32)), .unset, .unset] [])) _
        refine XS.aload X12.here hx rfl (hb hby at_201) rfl rfl ?_
        exact k
      obtain ⟨cq13, kq13, q13a, q13b, q13c⟩ := isOf hZ rfl E_b12_0
      obtain ⟨_, _, ⟨T13, L13, k13, n13⟩, -, X13, ⟨Lc13, hQ13, l13, y13, z13⟩, st13⟩ := X12.virtualBack hx (y := (⟨"com/example/capd/capd/status/Bitstring", "size", "()I"⟩ : MethodName)) (z := (⟨"com/example/capd/capd/status/Bitstring", "size", "()I"⟩ : MethodName)) hown (mvT hZ (hw _ (List.mem_of_getElem? (i := 36) rfl))) (mvT hZ (hw _ (List.mem_of_getElem? (i := 37) rfl))) (notFace_of_selects (args := #[]) (mvT hZ (hw _ (List.mem_of_getElem? (i := 39) rfl)))) (mvT hZ (hw _ (List.mem_of_getElem? (i := 39) rfl))) (mvT hZ (hw _ (List.mem_of_getElem? (i := 38) rfl))) (by decide) (backOf (W := 0) (rm5 l Z a0 hw [] b12_0 (131072 : Int32) T12.heap n0 Z0 F_b12_0_size) hZ (hw _ (List.mem_of_getElem? (i := 40) rfl)) (hw _ (List.mem_of_getElem? (i := 3) rfl)) (by decide) (by decide)) q13a q13c (g := (mkF m 203 #[.val (.int p1), .val (.int p2), .val (.int p3), .val (.int p4), .val (.int p5), .val (.int j1), .val (.int j2), .val (.int j3), .val (.int j4), .val (.int j5), .val (.int j7), .val (.ref b9), .val (.int j11), .val (.int (0 : Int32)), .val (.int (0 : Int32)), .val (.ref b12_0), .val (.int (1 : Int32)), .unset, .unset] [(.ref b12_0)])) rfl (by rw [hml]; rfl) (Steps.refl _) (argsL := []) (rest := []) (lenOf pd_4 rfl) rfl (by show 2 * 0 + _ ≤ _; exact Nat.le_of_eq rfl) (hb hby at_203) (fun _ _ => ⟨rfl, rfl, (by decide : 4 + 0 ≤ _), (by decide : 4102 + 0 ≤ _)⟩)
      dsimp only [Pt.U, Pt.locs, Pt.cells, Pt.slots] at X13 l13 y13 z13 st13 hQ13
      subst l13 y13 z13
      obtain ⟨rfl, N13q, e13⟩ := hQ13
      have NN := Fr.app NN N13q
      refine own_go (fun t k => st13.trans k) ?_
      show own_Go p.tables e below _ T13 (mkF m 206 #[.val (.int p1), .val (.int p2), .val (.int p3), .val (.int p4), .val (.int p5), .val (.int j1), .val (.int j2), .val (.int j3), .val (.int j4), .val (.int j5), .val (.int j7), .val (.ref b9), .val (.int j11), .val (.int (0 : Int32)), .val (.int (0 : Int32)), .val (.ref b12_0), .val (.int (1 : Int32)), .unset, .unset] [(.int (r_5 (131072 : Int32)))])
      refine own_go (T' := T13) (g' := (mkF m 208 #[.val (.int p1), .val (.int p2), .val (.int p3), .val (.int p4), .val (.int p5), .val (.int j1), .val (.int j2), .val (.int j3), .val (.int j4), .val (.int j5), .val (.int j7), .val (.ref b9), .val (.int j11), .val (.int (0 : Int32)), .val (.int (0 : Int32)), .val (.ref b12_0), .val (.int (1 : Int32)), .unset, .unset] [(.int (131072 : Int32)), (.int (r_5 (131072 : Int32)))])) (fun t k => ?_) ?_
      · show Steps p.tables e below (T13.setTop (mkF m 206 #[.val (.int p1), .val (.int p2), .val (.int p3), .val (.int p4), .val (.int p5), .val (.int j1), .val (.int j2), .val (.int j3), .val (.int j4), .val (.int j5), .val (.int j7), .val (.ref b9), .val (.int j11), .val (.int (0 : Int32)), .val (.int (0 : Int32)), .val (.ref b12_0), .val (.int (1 : Int32)), .unset, .unset] [(.int (r_5 (131072 : Int32)))])) _
        refine X13.ldcInt hx hown (mvT hZ (hw _ (List.mem_of_getElem? (i := 41) rfl))) (g := (mkF m 206 #[.val (.int p1), .val (.int p2), .val (.int p3), .val (.int p4), .val (.int p5), .val (.int j1), .val (.int j2), .val (.int j3), .val (.int j4), .val (.int j5), .val (.int j7), .val (.ref b9), .val (.int j11), .val (.int (0 : Int32)), .val (.int (0 : Int32)), .val (.ref b12_0), .val (.int (1 : Int32)), .unset, .unset] [(.int (r_5 (131072 : Int32)))])) rfl (hb hby at_206) _ ?_
        exact k
      have hs208 : (r_5 (131072 : Int32)) = (131072 : Int32) := own_at_hs208_tt p5 j5 j7 hj5 hj7 hc63_3 hc75_4
      refine own_go (T' := T13) (g' := (mkF m 220 #[.val (.int p1), .val (.int p2), .val (.int p3), .val (.int p4), .val (.int p5), .val (.int j1), .val (.int j2), .val (.int j3), .val (.int j4), .val (.int j5), .val (.int j7), .val (.ref b9), .val (.int j11), .val (.int (0 : Int32)), .val (.int (0 : Int32)), .val (.ref b12_0), .val (.int (1 : Int32)), .unset, .unset] [(.int (1 : Int32))])) (fun t k => ?_) ?_
      · show Steps p.tables e below (T13.setTop (mkF m 208 #[.val (.int p1), .val (.int p2), .val (.int p3), .val (.int p4), .val (.int p5), .val (.int j1), .val (.int j2), .val (.int j3), .val (.int j4), .val (.int j5), .val (.int j7), .val (.ref b9), .val (.int j11), .val (.int (0 : Int32)), .val (.int (0 : Int32)), .val (.ref b12_0), .val (.int (1 : Int32)), .unset, .unset] [(.int (131072 : Int32)), (.int (r_5 (131072 : Int32)))])) _
        refine XS.icmpNo X13.here hx rfl (hb hby at_208) rfl (teq hs208).2 ?_
        show Steps p.tables e below (T13.setTop (mkF m 211 #[.val (.int p1), .val (.int p2), .val (.int p3), .val (.int p4), .val (.int p5), .val (.int j1), .val (.int j2), .val (.int j3), .val (.int j4), .val (.int j5), .val (.int j7), .val (.ref b9), .val (.int j11), .val (.int (0 : Int32)), .val (.int (0 : Int32)), .val (.ref b12_0), .val (.int (1 : Int32)), .unset, .unset] [])) _
        refine XS.iconst X13.here hx rfl (hb hby at_211) ?_
        show Steps p.tables e below (T13.setTop (mkF m 212 #[.val (.int p1), .val (.int p2), .val (.int p3), .val (.int p4), .val (.int p5), .val (.int j1), .val (.int j2), .val (.int j3), .val (.int j4), .val (.int j5), .val (.int j7), .val (.ref b9), .val (.int j11), .val (.int (0 : Int32)), .val (.int (0 : Int32)), .val (.ref b12_0), .val (.int (1 : Int32)), .unset, .unset] [(.int (1 : Int32))])) _
        refine XS.goto X13.here hx rfl (pc0 := 212) (pc' := 216) rfl (hb hby at_212) (by decide) (by decide) ?_
        show Steps p.tables e below (T13.setTop (mkF m 216 #[.val (.int p1), .val (.int p2), .val (.int p3), .val (.int p4), .val (.int p5), .val (.int j1), .val (.int j2), .val (.int j3), .val (.int j4), .val (.int j5), .val (.int j7), .val (.ref b9), .val (.int j11), .val (.int (0 : Int32)), .val (.int (0 : Int32)), .val (.ref b12_0), .val (.int (1 : Int32)), .unset, .unset] [(.int (1 : Int32))])) _
        refine XS.istore X13.here hx rfl (hb hby at_216) rfl (l' := #[.val (.int p1), .val (.int p2), .val (.int p3), .val (.int p4), .val (.int p5), .val (.int j1), .val (.int j2), .val (.int j3), .val (.int j4), .val (.int j5), .val (.int j7), .val (.ref b9), .val (.int j11), .val (.int (0 : Int32)), .val (.int (0 : Int32)), .val (.ref b12_0), .val (.int (1 : Int32)), .unset, .unset]) rfl ?_
        show Steps p.tables e below (T13.setTop (mkF m 218 #[.val (.int p1), .val (.int p2), .val (.int p3), .val (.int p4), .val (.int p5), .val (.int j1), .val (.int j2), .val (.int j3), .val (.int j4), .val (.int j5), .val (.int j7), .val (.ref b9), .val (.int j11), .val (.int (0 : Int32)), .val (.int (0 : Int32)), .val (.ref b12_0), .val (.int (1 : Int32)), .unset, .unset] [])) _
        refine XS.iload X13.here hx rfl (hb hby at_218) rfl ?_
        exact k
      refine own_go (T' := T13) (g' := (mkF m 225 #[.val (.int p1), .val (.int p2), .val (.int p3), .val (.int p4), .val (.int p5), .val (.int j1), .val (.int j2), .val (.int j3), .val (.int j4), .val (.int j5), .val (.int j7), .val (.ref b9), .val (.int j11), .val (.int (0 : Int32)), .val (.int (0 : Int32)), .val (.ref b12_0), .val (.int (1 : Int32)), .unset, .unset] [(.ref b12_0)])) (fun t k => ?_) ?_
      · show Steps p.tables e below (T13.setTop (mkF m 220 #[.val (.int p1), .val (.int p2), .val (.int p3), .val (.int p4), .val (.int p5), .val (.int j1), .val (.int j2), .val (.int j3), .val (.int j4), .val (.int j5), .val (.int j7), .val (.ref b9), .val (.int j11), .val (.int (0 : Int32)), .val (.int (0 : Int32)), .val (.ref b12_0), .val (.int (1 : Int32)), .unset, .unset] [(.int (1 : Int32))])) _
        refine XS.ifNo X13.here hx rfl (hb hby at_220) rfl ((if0 _ _).trans (feq (by decide : ¬ ((1 : Int32) = (0 : Int32)))).1) ?_
        show Steps p.tables e below (T13.setTop (mkF m 223 #[.val (.int p1), .val (.int p2), .val (.int p3), .val (.int p4), .val (.int p5), .val (.int j1), .val (.int j2), .val (.int j3), .val (.int j4), .val (.int j5), .val (.int j7), .val (.ref b9), .val (.int j11), .val (.int (0 : Int32)), .val (.int (0 : Int32)), .val (.ref b12_0), .val (.int (1 : Int32)), .unset, .unset] [])) _
        refine XS.aload X13.here hx rfl (hb hby at_223) rfl rfl ?_
        exact k
      obtain ⟨cq14, kq14, q14a, q14b, q14c⟩ := isOf hZ e13 E_b12_0
      obtain ⟨_, _, ⟨T14, L14, k14, n14⟩, -, X14, ⟨Lc14, hQ14, l14, y14, z14⟩, st14⟩ := X13.virtualBack hx (y := (⟨"com/example/capd/capd/status/Bitstring", "count", "()I"⟩ : MethodName)) (z := (⟨"com/example/capd/capd/status/Bitstring", "count", "()I"⟩ : MethodName)) hown (mvT hZ (hw _ (List.mem_of_getElem? (i := 42) rfl))) (mvT hZ (hw _ (List.mem_of_getElem? (i := 43) rfl))) (notFace_of_selects (args := #[]) (mvT hZ (hw _ (List.mem_of_getElem? (i := 45) rfl)))) (mvT hZ (hw _ (List.mem_of_getElem? (i := 45) rfl))) (mvT hZ (hw _ (List.mem_of_getElem? (i := 44) rfl))) (by decide) (backOf (W := 0) (rm6 l Z a0 hw [] b12_0 (0 : Int32) T12.heap n0 Z0 F_b12_0_count) hZ (hw _ (List.mem_of_getElem? (i := 46) rfl)) (hw _ (List.mem_of_getElem? (i := 3) rfl)) (by decide) (by decide)) q14a q14c (g := (mkF m 225 #[.val (.int p1), .val (.int p2), .val (.int p3), .val (.int p4), .val (.int p5), .val (.int j1), .val (.int j2), .val (.int j3), .val (.int j4), .val (.int j5), .val (.int j7), .val (.ref b9), .val (.int j11), .val (.int (0 : Int32)), .val (.int (0 : Int32)), .val (.ref b12_0), .val (.int (1 : Int32)), .unset, .unset] [(.ref b12_0)])) rfl (by rw [hml]; rfl) (Steps.refl _) (argsL := []) (rest := []) (lenOf pd_4 rfl) rfl (by show 2 * 0 + _ ≤ _; exact Nat.le_of_eq rfl) (hb hby at_225) (fun _ _ => ⟨rfl, e13, (by decide : 4 + 0 ≤ _), (by decide : 4102 + 0 ≤ _)⟩)
      dsimp only [Pt.U, Pt.locs, Pt.cells, Pt.slots] at X14 l14 y14 z14 st14 hQ14
      subst l14 y14 z14
      obtain ⟨rfl, N14q, e14⟩ := hQ14
      have NN := Fr.app NN N14q
      refine own_go (fun t k => st14.trans k) ?_
      show own_Go p.tables e below _ T14 (mkF m 228 #[.val (.int p1), .val (.int p2), .val (.int p3), .val (.int p4), .val (.int p5), .val (.int j1), .val (.int j2), .val (.int j3), .val (.int j4), .val (.int j5), .val (.int j7), .val (.ref b9), .val (.int j11), .val (.int (0 : Int32)), .val (.int (0 : Int32)), .val (.ref b12_0), .val (.int (1 : Int32)), .unset, .unset] [(.int (r_6 (0 : Int32)))])
      refine own_go (T' := T14) (g' := (mkF m 230 #[.val (.int p1), .val (.int p2), .val (.int p3), .val (.int p4), .val (.int p5), .val (.int j1), .val (.int j2), .val (.int j3), .val (.int j4), .val (.int j5), .val (.int j7), .val (.ref b9), .val (.int j11), .val (.int (0 : Int32)), .val (.int (0 : Int32)), .val (.ref b12_0), .val (.int (1 : Int32)), .unset, .unset] [(.int j11), (.int (r_6 (0 : Int32)))])) (fun t k => ?_) ?_
      · show Steps p.tables e below (T14.setTop (mkF m 228 #[.val (.int p1), .val (.int p2), .val (.int p3), .val (.int p4), .val (.int p5), .val (.int j1), .val (.int j2), .val (.int j3), .val (.int j4), .val (.int j5), .val (.int j7), .val (.ref b9), .val (.int j11), .val (.int (0 : Int32)), .val (.int (0 : Int32)), .val (.ref b12_0), .val (.int (1 : Int32)), .unset, .unset] [(.int (r_6 (0 : Int32)))])) _
        refine XS.iload X14.here hx rfl (hb hby at_228) rfl ?_
        exact k
      have hs230 : (r_6 (0 : Int32)) = j11 := own_at_hs230_tt p5 j5 j7 j11 hj5 hj7 hj11 hc63_3 hc75_4 hs208
      refine own_go (T' := T14) (g' := (mkF m 242 #[.val (.int p1), .val (.int p2), .val (.int p3), .val (.int p4), .val (.int p5), .val (.int j1), .val (.int j2), .val (.int j3), .val (.int j4), .val (.int j5), .val (.int j7), .val (.ref b9), .val (.int j11), .val (.int (0 : Int32)), .val (.int (0 : Int32)), .val (.ref b12_0), .val (.int (1 : Int32)), .unset, .unset] [(.int (1 : Int32))])) (fun t k => ?_) ?_
      · show Steps p.tables e below (T14.setTop (mkF m 230 #[.val (.int p1), .val (.int p2), .val (.int p3), .val (.int p4), .val (.int p5), .val (.int j1), .val (.int j2), .val (.int j3), .val (.int j4), .val (.int j5), .val (.int j7), .val (.ref b9), .val (.int j11), .val (.int (0 : Int32)), .val (.int (0 : Int32)), .val (.ref b12_0), .val (.int (1 : Int32)), .unset, .unset] [(.int j11), (.int (r_6 (0 : Int32)))])) _
        refine XS.icmpNo X14.here hx rfl (hb hby at_230) rfl (teq hs230).2 ?_
        show Steps p.tables e below (T14.setTop (mkF m 233 #[.val (.int p1), .val (.int p2), .val (.int p3), .val (.int p4), .val (.int p5), .val (.int j1), .val (.int j2), .val (.int j3), .val (.int j4), .val (.int j5), .val (.int j7), .val (.ref b9), .val (.int j11), .val (.int (0 : Int32)), .val (.int (0 : Int32)), .val (.ref b12_0), .val (.int (1 : Int32)), .unset, .unset] [])) _
        refine XS.iconst X14.here hx rfl (hb hby at_233) ?_
        show Steps p.tables e below (T14.setTop (mkF m 234 #[.val (.int p1), .val (.int p2), .val (.int p3), .val (.int p4), .val (.int p5), .val (.int j1), .val (.int j2), .val (.int j3), .val (.int j4), .val (.int j5), .val (.int j7), .val (.ref b9), .val (.int j11), .val (.int (0 : Int32)), .val (.int (0 : Int32)), .val (.ref b12_0), .val (.int (1 : Int32)), .unset, .unset] [(.int (1 : Int32))])) _
        refine XS.goto X14.here hx rfl (pc0 := 234) (pc' := 238) rfl (hb hby at_234) (by decide) (by decide) ?_
        show Steps p.tables e below (T14.setTop (mkF m 238 #[.val (.int p1), .val (.int p2), .val (.int p3), .val (.int p4), .val (.int p5), .val (.int j1), .val (.int j2), .val (.int j3), .val (.int j4), .val (.int j5), .val (.int j7), .val (.ref b9), .val (.int j11), .val (.int (0 : Int32)), .val (.int (0 : Int32)), .val (.ref b12_0), .val (.int (1 : Int32)), .unset, .unset] [(.int (1 : Int32))])) _
        refine XS.istore X14.here hx rfl (hb hby at_238) rfl (l' := #[.val (.int p1), .val (.int p2), .val (.int p3), .val (.int p4), .val (.int p5), .val (.int j1), .val (.int j2), .val (.int j3), .val (.int j4), .val (.int j5), .val (.int j7), .val (.ref b9), .val (.int j11), .val (.int (0 : Int32)), .val (.int (0 : Int32)), .val (.ref b12_0), .val (.int (1 : Int32)), .unset, .unset]) rfl ?_
        show Steps p.tables e below (T14.setTop (mkF m 240 #[.val (.int p1), .val (.int p2), .val (.int p3), .val (.int p4), .val (.int p5), .val (.int j1), .val (.int j2), .val (.int j3), .val (.int j4), .val (.int j5), .val (.int j7), .val (.ref b9), .val (.int j11), .val (.int (0 : Int32)), .val (.int (0 : Int32)), .val (.ref b12_0), .val (.int (1 : Int32)), .unset, .unset] [])) _
        refine XS.iload X14.here hx rfl (hb hby at_240) rfl ?_
        exact k
      refine own_go (T' := T14) (g' := (mkF m 249 #[.val (.int p1), .val (.int p2), .val (.int p3), .val (.int p4), .val (.int p5), .val (.int j1), .val (.int j2), .val (.int j3), .val (.int j4), .val (.int j5), .val (.int j7), .val (.ref b9), .val (.int j11), .val (.int (0 : Int32)), .val (.int (0 : Int32)), .val (.ref b12_0), .val (.int (1 : Int32)), .unset, .unset] [(.int j1), (.ref b12_0)])) (fun t k => ?_) ?_
      · show Steps p.tables e below (T14.setTop (mkF m 242 #[.val (.int p1), .val (.int p2), .val (.int p3), .val (.int p4), .val (.int p5), .val (.int j1), .val (.int j2), .val (.int j3), .val (.int j4), .val (.int j5), .val (.int j7), .val (.ref b9), .val (.int j11), .val (.int (0 : Int32)), .val (.int (0 : Int32)), .val (.ref b12_0), .val (.int (1 : Int32)), .unset, .unset] [(.int (1 : Int32))])) _
        refine XS.ifNo X14.here hx rfl (hb hby at_242) rfl ((if0 _ _).trans (feq (by decide : ¬ ((1 : Int32) = (0 : Int32)))).1) ?_
        show Steps p.tables e below (T14.setTop (mkF m 245 #[.val (.int p1), .val (.int p2), .val (.int p3), .val (.int p4), .val (.int p5), .val (.int j1), .val (.int j2), .val (.int j3), .val (.int j4), .val (.int j5), .val (.int j7), .val (.ref b9), .val (.int j11), .val (.int (0 : Int32)), .val (.int (0 : Int32)), .val (.ref b12_0), .val (.int (1 : Int32)), .unset, .unset] [])) _
        refine XS.aload X14.here hx rfl (hb hby at_245) rfl rfl ?_
        show Steps p.tables e below (T14.setTop (mkF m 247 #[.val (.int p1), .val (.int p2), .val (.int p3), .val (.int p4), .val (.int p5), .val (.int j1), .val (.int j2), .val (.int j3), .val (.int j4), .val (.int j5), .val (.int j7), .val (.ref b9), .val (.int j11), .val (.int (0 : Int32)), .val (.int (0 : Int32)), .val (.ref b12_0), .val (.int (1 : Int32)), .unset, .unset] [(.ref b12_0)])) _
        refine XS.iload X14.here hx rfl (hb hby at_247) rfl ?_
        exact k
      have hhhhc1_3_5_249 : ¬ (j1 < (0 : Int32)) := own_at_hhhhc1_3_5_249_tt p1 p5 j1 j5 j7 j11 hj1 hj5 hj7 hj11 hc63_3 hc75_4 hs208 hs230
      have hhhhc6_3_5_249 : j1 < (131072 : Int32) := own_at_hhhhc6_3_5_249_tt p1 p5 j1 j5 j7 j11 hj1 hj5 hj7 hj11 hc63_3 hc75_4 hs208 hs230 hhhhc1_3_5_249
      have hhlo17_249 : ¬ ((j1 / (64 : Int32)) < (0 : Int32)) := own_at_hhlo17_249_tt p1 p5 j1 j5 j7 j11 hj1 hj5 hj7 hj11 hc63_3 hc75_4 hs208 hs230 hhhhc1_3_5_249 hhhhc6_3_5_249
      have hhhi17_249 : (j1 / (64 : Int32)) < (2048 : Int32) := own_at_hhhi17_249_tt p1 p5 j1 j5 j7 j11 hj1 hj5 hj7 hj11 hc63_3 hc75_4 hs208 hs230 hhhhc1_3_5_249 hhhhc6_3_5_249 hhlo17_249
      obtain ⟨cq15, kq15, q15a, q15b, q15c⟩ := isOf hZ e14 E_b12_0
      obtain ⟨_, _, ⟨T15, L15, k15, n15⟩, -, X15, ⟨Lc15, hQ15, l15, y15, z15⟩, st15⟩ := X14.virtualBack hx (y := (⟨"com/example/capd/capd/status/Bitstring", "get", "(I)Z"⟩ : MethodName)) (z := (⟨"com/example/capd/capd/status/Bitstring", "get", "(I)Z"⟩ : MethodName)) hown (mvT hZ (hw _ (List.mem_of_getElem? (i := 47) rfl))) (mvT hZ (hw _ (List.mem_of_getElem? (i := 48) rfl))) (notFace_of_selects (args := #[]) (mvT hZ (hw _ (List.mem_of_getElem? (i := 50) rfl)))) (mvT hZ (hw _ (List.mem_of_getElem? (i := 50) rfl))) (mvT hZ (hw _ (List.mem_of_getElem? (i := 49) rfl))) (by decide) (backOf (W := 0) (rm7 l Z a0 hw [] b12_0 j1 (131072 : Int32) b12_1 k10_1 (fun _ => 0) T12.heap n0 Z0 F_b12_0_size hhhhc1_3_5_249 hhhhc6_3_5_249 F_b12_0_words V_b12_1 hhlo17_249 hhhi17_249) hZ (hw _ (List.mem_of_getElem? (i := 51) rfl)) (hw _ (List.mem_of_getElem? (i := 3) rfl)) (by decide) (by decide)) q15a q15c (g := (mkF m 249 #[.val (.int p1), .val (.int p2), .val (.int p3), .val (.int p4), .val (.int p5), .val (.int j1), .val (.int j2), .val (.int j3), .val (.int j4), .val (.int j5), .val (.int j7), .val (.ref b9), .val (.int j11), .val (.int (0 : Int32)), .val (.int (0 : Int32)), .val (.ref b12_0), .val (.int (1 : Int32)), .unset, .unset] [(.int j1), (.ref b12_0)])) rfl (by rw [hml]; rfl) (Steps.refl _) (argsL := [(.int j1)]) (rest := []) (lenOf pd_5 rfl) rfl (by show 2 * 0 + _ ≤ _; exact Nat.le_of_eq rfl) (hb hby at_249) (fun _ _ => ⟨rfl, e14, (by decide : 4 + 0 ≤ _), (by decide : 4102 + 0 ≤ _)⟩)
      dsimp only [Pt.U, Pt.locs, Pt.cells, Pt.slots] at X15 l15 y15 z15 st15 hQ15
      subst l15 y15 z15
      obtain ⟨rfl, N15q, e15⟩ := hQ15
      have NN := Fr.app NN N15q
      refine own_go (fun t k => st15.trans k) ?_
      show own_Go p.tables e below _ T15 (mkF m 252 #[.val (.int p1), .val (.int p2), .val (.int p3), .val (.int p4), .val (.int p5), .val (.int j1), .val (.int j2), .val (.int j3), .val (.int j4), .val (.int j5), .val (.int j7), .val (.ref b9), .val (.int j11), .val (.int (0 : Int32)), .val (.int (0 : Int32)), .val (.ref b12_0), .val (.int (1 : Int32)), .unset, .unset] [(.int (r_7 j1 (131072 : Int32) (fun _ => 0)))])
      refine own_go (T' := T15) (g' := (mkF m 254 #[.val (.int p1), .val (.int p2), .val (.int p3), .val (.int p4), .val (.int p5), .val (.int j1), .val (.int j2), .val (.int j3), .val (.int j4), .val (.int j5), .val (.int j7), .val (.ref b9), .val (.int j11), .val (.int (0 : Int32)), .val (.int (0 : Int32)), .val (.ref b12_0), .val (.int (1 : Int32)), .unset, .unset] [(.int (0 : Int32)), (.int (r_7 j1 (131072 : Int32) (fun _ => 0)))])) (fun t k => ?_) ?_
      · show Steps p.tables e below (T15.setTop (mkF m 252 #[.val (.int p1), .val (.int p2), .val (.int p3), .val (.int p4), .val (.int p5), .val (.int j1), .val (.int j2), .val (.int j3), .val (.int j4), .val (.int j5), .val (.int j7), .val (.ref b9), .val (.int j11), .val (.int (0 : Int32)), .val (.int (0 : Int32)), .val (.ref b12_0), .val (.int (1 : Int32)), .unset, .unset] [(.int (r_7 j1 (131072 : Int32) (fun _ => 0)))])) _
        refine XS.iload X15.here hx rfl (hb hby at_252) rfl ?_
        exact k
      have hs254 : (r_7 j1 (131072 : Int32) (fun _ => 0)) = (0 : Int32) := own_at_hs254_tt p1 p5 j1 j5 j7 j11 hj1 hj5 hj7 hj11 hc63_3 hc75_4 hs208 hs230 hhhhc1_3_5_249 hhhhc6_3_5_249 hhlo17_249 hhhi17_249
      refine own_go (T' := T15) (g' := (mkF m 266 #[.val (.int p1), .val (.int p2), .val (.int p3), .val (.int p4), .val (.int p5), .val (.int j1), .val (.int j2), .val (.int j3), .val (.int j4), .val (.int j5), .val (.int j7), .val (.ref b9), .val (.int j11), .val (.int (0 : Int32)), .val (.int (0 : Int32)), .val (.ref b12_0), .val (.int (1 : Int32)), .unset, .unset] [(.int (1 : Int32))])) (fun t k => ?_) ?_
      · show Steps p.tables e below (T15.setTop (mkF m 254 #[.val (.int p1), .val (.int p2), .val (.int p3), .val (.int p4), .val (.int p5), .val (.int j1), .val (.int j2), .val (.int j3), .val (.int j4), .val (.int j5), .val (.int j7), .val (.ref b9), .val (.int j11), .val (.int (0 : Int32)), .val (.int (0 : Int32)), .val (.ref b12_0), .val (.int (1 : Int32)), .unset, .unset] [(.int (0 : Int32)), (.int (r_7 j1 (131072 : Int32) (fun _ => 0)))])) _
        refine XS.icmpNo X15.here hx rfl (hb hby at_254) rfl (teq hs254).2 ?_
        show Steps p.tables e below (T15.setTop (mkF m 257 #[.val (.int p1), .val (.int p2), .val (.int p3), .val (.int p4), .val (.int p5), .val (.int j1), .val (.int j2), .val (.int j3), .val (.int j4), .val (.int j5), .val (.int j7), .val (.ref b9), .val (.int j11), .val (.int (0 : Int32)), .val (.int (0 : Int32)), .val (.ref b12_0), .val (.int (1 : Int32)), .unset, .unset] [])) _
        refine XS.iconst X15.here hx rfl (hb hby at_257) ?_
        show Steps p.tables e below (T15.setTop (mkF m 258 #[.val (.int p1), .val (.int p2), .val (.int p3), .val (.int p4), .val (.int p5), .val (.int j1), .val (.int j2), .val (.int j3), .val (.int j4), .val (.int j5), .val (.int j7), .val (.ref b9), .val (.int j11), .val (.int (0 : Int32)), .val (.int (0 : Int32)), .val (.ref b12_0), .val (.int (1 : Int32)), .unset, .unset] [(.int (1 : Int32))])) _
        refine XS.goto X15.here hx rfl (pc0 := 258) (pc' := 262) rfl (hb hby at_258) (by decide) (by decide) ?_
        show Steps p.tables e below (T15.setTop (mkF m 262 #[.val (.int p1), .val (.int p2), .val (.int p3), .val (.int p4), .val (.int p5), .val (.int j1), .val (.int j2), .val (.int j3), .val (.int j4), .val (.int j5), .val (.int j7), .val (.ref b9), .val (.int j11), .val (.int (0 : Int32)), .val (.int (0 : Int32)), .val (.ref b12_0), .val (.int (1 : Int32)), .unset, .unset] [(.int (1 : Int32))])) _
        refine XS.istore X15.here hx rfl (hb hby at_262) rfl (l' := #[.val (.int p1), .val (.int p2), .val (.int p3), .val (.int p4), .val (.int p5), .val (.int j1), .val (.int j2), .val (.int j3), .val (.int j4), .val (.int j5), .val (.int j7), .val (.ref b9), .val (.int j11), .val (.int (0 : Int32)), .val (.int (0 : Int32)), .val (.ref b12_0), .val (.int (1 : Int32)), .unset, .unset]) rfl ?_
        show Steps p.tables e below (T15.setTop (mkF m 264 #[.val (.int p1), .val (.int p2), .val (.int p3), .val (.int p4), .val (.int p5), .val (.int j1), .val (.int j2), .val (.int j3), .val (.int j4), .val (.int j5), .val (.int j7), .val (.ref b9), .val (.int j11), .val (.int (0 : Int32)), .val (.int (0 : Int32)), .val (.ref b12_0), .val (.int (1 : Int32)), .unset, .unset] [])) _
        refine XS.iload X15.here hx rfl (hb hby at_264) rfl ?_
        exact k
      refine own_go (T' := T15) (g' := (mkF m 273 #[.val (.int p1), .val (.int p2), .val (.int p3), .val (.int p4), .val (.int p5), .val (.int j1), .val (.int j2), .val (.int j3), .val (.int j4), .val (.int j5), .val (.int j7), .val (.ref b9), .val (.int j11), .val (.int (0 : Int32)), .val (.int (0 : Int32)), .val (.ref b12_0), .val (.int (1 : Int32)), .unset, .unset] [(.int j3), (.ref b12_0)])) (fun t k => ?_) ?_
      · show Steps p.tables e below (T15.setTop (mkF m 266 #[.val (.int p1), .val (.int p2), .val (.int p3), .val (.int p4), .val (.int p5), .val (.int j1), .val (.int j2), .val (.int j3), .val (.int j4), .val (.int j5), .val (.int j7), .val (.ref b9), .val (.int j11), .val (.int (0 : Int32)), .val (.int (0 : Int32)), .val (.ref b12_0), .val (.int (1 : Int32)), .unset, .unset] [(.int (1 : Int32))])) _
        refine XS.ifNo X15.here hx rfl (hb hby at_266) rfl ((if0 _ _).trans (feq (by decide : ¬ ((1 : Int32) = (0 : Int32)))).1) ?_
        show Steps p.tables e below (T15.setTop (mkF m 269 #[.val (.int p1), .val (.int p2), .val (.int p3), .val (.int p4), .val (.int p5), .val (.int j1), .val (.int j2), .val (.int j3), .val (.int j4), .val (.int j5), .val (.int j7), .val (.ref b9), .val (.int j11), .val (.int (0 : Int32)), .val (.int (0 : Int32)), .val (.ref b12_0), .val (.int (1 : Int32)), .unset, .unset] [])) _
        refine XS.aload X15.here hx rfl (hb hby at_269) rfl rfl ?_
        show Steps p.tables e below (T15.setTop (mkF m 271 #[.val (.int p1), .val (.int p2), .val (.int p3), .val (.int p4), .val (.int p5), .val (.int j1), .val (.int j2), .val (.int j3), .val (.int j4), .val (.int j5), .val (.int j7), .val (.ref b9), .val (.int j11), .val (.int (0 : Int32)), .val (.int (0 : Int32)), .val (.ref b12_0), .val (.int (1 : Int32)), .unset, .unset] [(.ref b12_0)])) _
        refine XS.iload X15.here hx rfl (hb hby at_271) rfl ?_
        exact k
      have hhhhc1_3_5_273 : ¬ (j3 < (0 : Int32)) := own_at_hhhhc1_3_5_273_tt p1 p3 p5 j1 j3 j5 j7 j11 hj1 hj3 hj5 hj7 hj11 hc63_3 hc75_4 hs208 hs230 hhhhc1_3_5_249 hhhhc6_3_5_249 hhlo17_249 hhhi17_249 hs254
      have hhhhc6_3_5_273 : j3 < (131072 : Int32) := own_at_hhhhc6_3_5_273_tt p1 p3 p5 j1 j3 j5 j7 j11 hj1 hj3 hj5 hj7 hj11 hc63_3 hc75_4 hs208 hs230 hhhhc1_3_5_249 hhhhc6_3_5_249 hhlo17_249 hhhi17_249 hs254 hhhhc1_3_5_273
      have hhlo17_273 : ¬ ((j3 / (64 : Int32)) < (0 : Int32)) := own_at_hhlo17_273_tt p1 p3 p5 j1 j3 j5 j7 j11 hj1 hj3 hj5 hj7 hj11 hc63_3 hc75_4 hs208 hs230 hhhhc1_3_5_249 hhhhc6_3_5_249 hhlo17_249 hhhi17_249 hs254 hhhhc1_3_5_273 hhhhc6_3_5_273
      have hhhi17_273 : (j3 / (64 : Int32)) < (2048 : Int32) := own_at_hhhi17_273_tt p1 p3 p5 j1 j3 j5 j7 j11 hj1 hj3 hj5 hj7 hj11 hc63_3 hc75_4 hs208 hs230 hhhhc1_3_5_249 hhhhc6_3_5_249 hhlo17_249 hhhi17_249 hs254 hhhhc1_3_5_273 hhhhc6_3_5_273 hhlo17_273
      obtain ⟨cq16, kq16, q16a, q16b, q16c⟩ := isOf hZ e15 E_b12_0
      obtain ⟨_, _, ⟨T16, L16, k16, n16⟩, -, X16, ⟨Lc16, hQ16, l16, y16, z16⟩, st16⟩ := X15.virtualBack hx (y := (⟨"com/example/capd/capd/status/Bitstring", "get", "(I)Z"⟩ : MethodName)) (z := (⟨"com/example/capd/capd/status/Bitstring", "get", "(I)Z"⟩ : MethodName)) hown (mvT hZ (hw _ (List.mem_of_getElem? (i := 47) rfl))) (mvT hZ (hw _ (List.mem_of_getElem? (i := 48) rfl))) (notFace_of_selects (args := #[]) (mvT hZ (hw _ (List.mem_of_getElem? (i := 50) rfl)))) (mvT hZ (hw _ (List.mem_of_getElem? (i := 50) rfl))) (mvT hZ (hw _ (List.mem_of_getElem? (i := 49) rfl))) (by decide) (backOf (W := 0) (rm7 l Z a0 hw [] b12_0 j3 (131072 : Int32) b12_1 k10_1 (fun _ => 0) T12.heap n0 Z0 F_b12_0_size hhhhc1_3_5_273 hhhhc6_3_5_273 F_b12_0_words V_b12_1 hhlo17_273 hhhi17_273) hZ (hw _ (List.mem_of_getElem? (i := 51) rfl)) (hw _ (List.mem_of_getElem? (i := 3) rfl)) (by decide) (by decide)) q16a q16c (g := (mkF m 273 #[.val (.int p1), .val (.int p2), .val (.int p3), .val (.int p4), .val (.int p5), .val (.int j1), .val (.int j2), .val (.int j3), .val (.int j4), .val (.int j5), .val (.int j7), .val (.ref b9), .val (.int j11), .val (.int (0 : Int32)), .val (.int (0 : Int32)), .val (.ref b12_0), .val (.int (1 : Int32)), .unset, .unset] [(.int j3), (.ref b12_0)])) rfl (by rw [hml]; rfl) (Steps.refl _) (argsL := [(.int j3)]) (rest := []) (lenOf pd_5 rfl) rfl (by show 2 * 0 + _ ≤ _; exact Nat.le_of_eq rfl) (hb hby at_273) (fun _ _ => ⟨rfl, e15, (by decide : 4 + 0 ≤ _), (by decide : 4102 + 0 ≤ _)⟩)
      dsimp only [Pt.U, Pt.locs, Pt.cells, Pt.slots] at X16 l16 y16 z16 st16 hQ16
      subst l16 y16 z16
      obtain ⟨rfl, N16q, e16⟩ := hQ16
      have NN := Fr.app NN N16q
      refine own_go (fun t k => st16.trans k) ?_
      show own_Go p.tables e below _ T16 (mkF m 276 #[.val (.int p1), .val (.int p2), .val (.int p3), .val (.int p4), .val (.int p5), .val (.int j1), .val (.int j2), .val (.int j3), .val (.int j4), .val (.int j5), .val (.int j7), .val (.ref b9), .val (.int j11), .val (.int (0 : Int32)), .val (.int (0 : Int32)), .val (.ref b12_0), .val (.int (1 : Int32)), .unset, .unset] [(.int (r_7 j3 (131072 : Int32) (fun _ => 0)))])
      refine own_go (T' := T16) (g' := (mkF m 278 #[.val (.int p1), .val (.int p2), .val (.int p3), .val (.int p4), .val (.int p5), .val (.int j1), .val (.int j2), .val (.int j3), .val (.int j4), .val (.int j5), .val (.int j7), .val (.ref b9), .val (.int j11), .val (.int (0 : Int32)), .val (.int (0 : Int32)), .val (.ref b12_0), .val (.int (1 : Int32)), .unset, .unset] [(.int (0 : Int32)), (.int (r_7 j3 (131072 : Int32) (fun _ => 0)))])) (fun t k => ?_) ?_
      · show Steps p.tables e below (T16.setTop (mkF m 276 #[.val (.int p1), .val (.int p2), .val (.int p3), .val (.int p4), .val (.int p5), .val (.int j1), .val (.int j2), .val (.int j3), .val (.int j4), .val (.int j5), .val (.int j7), .val (.ref b9), .val (.int j11), .val (.int (0 : Int32)), .val (.int (0 : Int32)), .val (.ref b12_0), .val (.int (1 : Int32)), .unset, .unset] [(.int (r_7 j3 (131072 : Int32) (fun _ => 0)))])) _
        refine XS.iload X16.here hx rfl (hb hby at_276) rfl ?_
        exact k
      have hs278 : (r_7 j3 (131072 : Int32) (fun _ => 0)) = (0 : Int32) := own_at_hs278_tt p1 p3 p5 j1 j3 j5 j7 j11 hj1 hj3 hj5 hj7 hj11 hc63_3 hc75_4 hs208 hs230 hhhhc1_3_5_249 hhhhc6_3_5_249 hhlo17_249 hhhi17_249 hs254 hhhhc1_3_5_273 hhhhc6_3_5_273 hhlo17_273 hhhi17_273
      refine own_go (T' := T16) (g' := (mkF m 292 #[.val (.int p1), .val (.int p2), .val (.int p3), .val (.int p4), .val (.int p5), .val (.int j1), .val (.int j2), .val (.int j3), .val (.int j4), .val (.int j5), .val (.int j7), .val (.ref b9), .val (.int j11), .val (.int (0 : Int32)), .val (.int (0 : Int32)), .val (.ref b12_0), .val (.int (1 : Int32)), .unset, .unset] [(.int j3), (.ref b12_0)])) (fun t k => ?_) ?_
      · show Steps p.tables e below (T16.setTop (mkF m 278 #[.val (.int p1), .val (.int p2), .val (.int p3), .val (.int p4), .val (.int p5), .val (.int j1), .val (.int j2), .val (.int j3), .val (.int j4), .val (.int j5), .val (.int j7), .val (.ref b9), .val (.int j11), .val (.int (0 : Int32)), .val (.int (0 : Int32)), .val (.ref b12_0), .val (.int (1 : Int32)), .unset, .unset] [(.int (0 : Int32)), (.int (r_7 j3 (131072 : Int32) (fun _ => 0)))])) _
        refine XS.icmpNo X16.here hx rfl (hb hby at_278) rfl (teq hs278).2 ?_
        show Steps p.tables e below (T16.setTop (mkF m 281 #[.val (.int p1), .val (.int p2), .val (.int p3), .val (.int p4), .val (.int p5), .val (.int j1), .val (.int j2), .val (.int j3), .val (.int j4), .val (.int j5), .val (.int j7), .val (.ref b9), .val (.int j11), .val (.int (0 : Int32)), .val (.int (0 : Int32)), .val (.ref b12_0), .val (.int (1 : Int32)), .unset, .unset] [])) _
        refine XS.iconst X16.here hx rfl (hb hby at_281) ?_
        show Steps p.tables e below (T16.setTop (mkF m 282 #[.val (.int p1), .val (.int p2), .val (.int p3), .val (.int p4), .val (.int p5), .val (.int j1), .val (.int j2), .val (.int j3), .val (.int j4), .val (.int j5), .val (.int j7), .val (.ref b9), .val (.int j11), .val (.int (0 : Int32)), .val (.int (0 : Int32)), .val (.ref b12_0), .val (.int (1 : Int32)), .unset, .unset] [(.int (1 : Int32))])) _
        refine XS.goto X16.here hx rfl (pc0 := 282) (pc' := 286) rfl (hb hby at_282) (by decide) (by decide) ?_
        show Steps p.tables e below (T16.setTop (mkF m 286 #[.val (.int p1), .val (.int p2), .val (.int p3), .val (.int p4), .val (.int p5), .val (.int j1), .val (.int j2), .val (.int j3), .val (.int j4), .val (.int j5), .val (.int j7), .val (.ref b9), .val (.int j11), .val (.int (0 : Int32)), .val (.int (0 : Int32)), .val (.ref b12_0), .val (.int (1 : Int32)), .unset, .unset] [(.int (1 : Int32))])) _
        refine XS.istore X16.here hx rfl (hb hby at_286) rfl (l' := #[.val (.int p1), .val (.int p2), .val (.int p3), .val (.int p4), .val (.int p5), .val (.int j1), .val (.int j2), .val (.int j3), .val (.int j4), .val (.int j5), .val (.int j7), .val (.ref b9), .val (.int j11), .val (.int (0 : Int32)), .val (.int (0 : Int32)), .val (.ref b12_0), .val (.int (1 : Int32)), .unset, .unset]) rfl ?_
        show Steps p.tables e below (T16.setTop (mkF m 288 #[.val (.int p1), .val (.int p2), .val (.int p3), .val (.int p4), .val (.int p5), .val (.int j1), .val (.int j2), .val (.int j3), .val (.int j4), .val (.int j5), .val (.int j7), .val (.ref b9), .val (.int j11), .val (.int (0 : Int32)), .val (.int (0 : Int32)), .val (.ref b12_0), .val (.int (1 : Int32)), .unset, .unset] [])) _
        refine XS.aload X16.here hx rfl (hb hby at_288) rfl rfl ?_
        show Steps p.tables e below (T16.setTop (mkF m 290 #[.val (.int p1), .val (.int p2), .val (.int p3), .val (.int p4), .val (.int p5), .val (.int j1), .val (.int j2), .val (.int j3), .val (.int j4), .val (.int j5), .val (.int j7), .val (.ref b9), .val (.int j11), .val (.int (0 : Int32)), .val (.int (0 : Int32)), .val (.ref b12_0), .val (.int (1 : Int32)), .unset, .unset] [(.ref b12_0)])) _
        refine XS.iload X16.here hx rfl (hb hby at_290) rfl ?_
        exact k
      obtain ⟨cq17, kq17, q17a, q17b, q17c⟩ := isOf hZ e16 E_b12_0
      obtain ⟨_, _, ⟨T17, L17, k17, n17⟩, -, X17, ⟨Lc17, hQ17, l17, y17, z17⟩, st17⟩ := X16.virtualBack hx (y := (⟨"com/example/capd/capd/status/Bitstring", "set", "(I)V"⟩ : MethodName)) (z := (⟨"com/example/capd/capd/status/Bitstring", "set", "(I)V"⟩ : MethodName)) hown (mvT hZ (hw _ (List.mem_of_getElem? (i := 64) rfl))) (mvT hZ (hw _ (List.mem_of_getElem? (i := 65) rfl))) (notFace_of_selects (args := #[]) (mvT hZ (hw _ (List.mem_of_getElem? (i := 67) rfl)))) (mvT hZ (hw _ (List.mem_of_getElem? (i := 67) rfl))) (mvT hZ (hw _ (List.mem_of_getElem? (i := 66) rfl))) (by decide) (backOf (W := 0) (rm11 l Z a0 hw [] b12_0 j3 (131072 : Int32) b12_1 k10_1 (fun _ => 0) (0 : Int32) T12.heap n0 Z0 F_b12_0_size hhhhc1_3_5_273 hhhhc6_3_5_273 hhhhc1_3_5_273 hhhhc6_3_5_273 F_b12_0_words V_b12_1 hhlo17_273 hhhi17_273 E_b12_0 hhlo17_273 hhhi17_273 hhlo17_273 hhhi17_273 ne_b12_0_b12_1 g_b12_1 F_b12_0_count g_b12_0) hZ (hw _ (List.mem_of_getElem? (i := 68) rfl)) (hw _ (List.mem_of_getElem? (i := 3) rfl)) (by decide) (by decide)) q17a q17c (g := (mkF m 292 #[.val (.int p1), .val (.int p2), .val (.int p3), .val (.int p4), .val (.int p5), .val (.int j1), .val (.int j2), .val (.int j3), .val (.int j4), .val (.int j5), .val (.int j7), .val (.ref b9), .val (.int j11), .val (.int (0 : Int32)), .val (.int (0 : Int32)), .val (.ref b12_0), .val (.int (1 : Int32)), .unset, .unset] [(.int j3), (.ref b12_0)])) rfl (by rw [hml]; rfl) (Steps.refl _) (argsL := [(.int j3)]) (rest := []) (lenOf pd_9 rfl) rfl (by show 2 * 0 + _ ≤ _; exact Nat.le_of_eq rfl) (hb hby at_292) (fun _ _ => ⟨rfl, e16, (by decide : 4 + 0 ≤ _), (by decide : 4102 + 0 ≤ _)⟩)
      dsimp only [Pt.U, Pt.locs, Pt.cells, Pt.slots] at X17 l17 y17 z17 st17 hQ17
      subst l17 y17 z17
      obtain ⟨rfl, N17q, K17, Q17_0, Q17_1, Q17_2, Q17_3, Q17_4⟩ := hQ17
      have E_b9 := E_b9.keep K17
      have F_b9_words := F_b9_words.keep K17 (ninS ne_b9_b12_1 (ninS ne_b9_b12_0 nin0))
      have F_b9_size := F_b9_size.keep K17 (ninS ne_b9_b12_1 (ninS ne_b9_b12_0 nin0))
      have F_b9_count := F_b9_count.keep K17 (ninS ne_b9_b12_1 (ninS ne_b9_b12_0 nin0))
      have E_b10_0 := E_b10_0.keep K17
      have V_b10_0 := V_b10_0.keep K17 (ninS ne_b10_0_b12_1 (ninS ne_b10_0_b12_0 nin0))
      have E_b12_1 := E_b12_1.keep K17
      have V_b12_1 := Q17_0
      have E_b12_0 := Q17_1
      have F_b12_0_size := Q17_2
      have F_b12_0_words := Q17_3
      have F_b12_0_count := Q17_4
      have Z0 := Nat.le_trans Z0 K17.1
      have KK := KK.trans K17 (allS (Or.inr sz_b12_1) (allS (Or.inr sz_b12_0) all0))
      have NN := Fr.app NN N17q
      refine own_go (fun t k => st17.trans k) ?_
      show own_Go p.tables e below _ T17 (mkF m 295 #[.val (.int p1), .val (.int p2), .val (.int p3), .val (.int p4), .val (.int p5), .val (.int j1), .val (.int j2), .val (.int j3), .val (.int j4), .val (.int j5), .val (.int j7), .val (.ref b9), .val (.int j11), .val (.int (0 : Int32)), .val (.int (0 : Int32)), .val (.ref b12_0), .val (.int (1 : Int32)), .unset, .unset] [])
      refine own_go (T' := T17) (g' := (mkF m 297 #[.val (.int p1), .val (.int p2), .val (.int p3), .val (.int p4), .val (.int p5), .val (.int j1), .val (.int j2), .val (.int j3), .val (.int j4), .val (.int j5), .val (.int j7), .val (.ref b9), .val (.int j11), .val (.int (0 : Int32)), .val (.int (0 : Int32)), .val (.ref b12_0), .val (.int (1 : Int32)), .unset, .unset] [(.int (1 : Int32))])) (fun t k => ?_) ?_
      · show Steps p.tables e below (T17.setTop (mkF m 295 #[.val (.int p1), .val (.int p2), .val (.int p3), .val (.int p4), .val (.int p5), .val (.int j1), .val (.int j2), .val (.int j3), .val (.int j4), .val (.int j5), .val (.int j7), .val (.ref b9), .val (.int j11), .val (.int (0 : Int32)), .val (.int (0 : Int32)), .val (.ref b12_0), .val (.int (1 : Int32)), .unset, .unset] [])) _
        refine XS.iload X17.here hx rfl (hb hby at_295) rfl ?_
        exact k
      refine own_go (T' := T17) (g' := (mkF m 304 #[.val (.int p1), .val (.int p2), .val (.int p3), .val (.int p4), .val (.int p5), .val (.int j1), .val (.int j2), .val (.int j3), .val (.int j4), .val (.int j5), .val (.int j7), .val (.ref b9), .val (.int j11), .val (.int (0 : Int32)), .val (.int (0 : Int32)), .val (.ref b12_0), .val (.int (1 : Int32)), .unset, .unset] [(.int j3), (.ref b9)])) (fun t k => ?_) ?_
      · show Steps p.tables e below (T17.setTop (mkF m 297 #[.val (.int p1), .val (.int p2), .val (.int p3), .val (.int p4), .val (.int p5), .val (.int j1), .val (.int j2), .val (.int j3), .val (.int j4), .val (.int j5), .val (.int j7), .val (.ref b9), .val (.int j11), .val (.int (0 : Int32)), .val (.int (0 : Int32)), .val (.ref b12_0), .val (.int (1 : Int32)), .unset, .unset] [(.int (1 : Int32))])) _
        refine XS.ifNo X17.here hx rfl (hb hby at_297) rfl ((if0 _ _).trans (feq (by decide : ¬ ((1 : Int32) = (0 : Int32)))).1) ?_
        show Steps p.tables e below (T17.setTop (mkF m 300 #[.val (.int p1), .val (.int p2), .val (.int p3), .val (.int p4), .val (.int p5), .val (.int j1), .val (.int j2), .val (.int j3), .val (.int j4), .val (.int j5), .val (.int j7), .val (.ref b9), .val (.int j11), .val (.int (0 : Int32)), .val (.int (0 : Int32)), .val (.ref b12_0), .val (.int (1 : Int32)), .unset, .unset] [])) _
        refine XS.aload X17.here hx rfl (hb hby at_300) rfl rfl ?_
        show Steps p.tables e below (T17.setTop (mkF m 302 #[.val (.int p1), .val (.int p2), .val (.int p3), .val (.int p4), .val (.int p5), .val (.int j1), .val (.int j2), .val (.int j3), .val (.int j4), .val (.int j5), .val (.int j7), .val (.ref b9), .val (.int j11), .val (.int (0 : Int32)), .val (.int (0 : Int32)), .val (.ref b12_0), .val (.int (1 : Int32)), .unset, .unset] [(.ref b9)])) _
        refine XS.iload X17.here hx rfl (hb hby at_302) rfl ?_
        exact k
      obtain ⟨cq18, kq18, q18a, q18b, q18c⟩ := isOf hZ rfl E_b9
      obtain ⟨_, _, ⟨T18, L18, k18, n18⟩, -, X18, ⟨Lc18, hQ18, l18, y18, z18⟩, st18⟩ := X17.virtualBack hx (y := (⟨"com/example/capd/capd/status/Bitstring", "get", "(I)Z"⟩ : MethodName)) (z := (⟨"com/example/capd/capd/status/Bitstring", "get", "(I)Z"⟩ : MethodName)) hown (mvT hZ (hw _ (List.mem_of_getElem? (i := 47) rfl))) (mvT hZ (hw _ (List.mem_of_getElem? (i := 48) rfl))) (notFace_of_selects (args := #[]) (mvT hZ (hw _ (List.mem_of_getElem? (i := 50) rfl)))) (mvT hZ (hw _ (List.mem_of_getElem? (i := 50) rfl))) (mvT hZ (hw _ (List.mem_of_getElem? (i := 49) rfl))) (by decide) (backOf (W := 0) (rm7 l Z a0 hw [] b9 j3 (131072 : Int32) b10_0 k10_1 (fun _ => 0) T17.heap n0 Z0 F_b9_size hhhhc1_3_5_273 hhhhc6_3_5_273 F_b9_words V_b10_0 hhlo17_273 hhhi17_273) hZ (hw _ (List.mem_of_getElem? (i := 51) rfl)) (hw _ (List.mem_of_getElem? (i := 3) rfl)) (by decide) (by decide)) q18a q18c (g := (mkF m 304 #[.val (.int p1), .val (.int p2), .val (.int p3), .val (.int p4), .val (.int p5), .val (.int j1), .val (.int j2), .val (.int j3), .val (.int j4), .val (.int j5), .val (.int j7), .val (.ref b9), .val (.int j11), .val (.int (0 : Int32)), .val (.int (0 : Int32)), .val (.ref b12_0), .val (.int (1 : Int32)), .unset, .unset] [(.int j3), (.ref b9)])) rfl (by rw [hml]; rfl) (Steps.refl _) (argsL := [(.int j3)]) (rest := []) (lenOf pd_5 rfl) rfl (by show 2 * 0 + _ ≤ _; exact Nat.le_of_eq rfl) (hb hby at_304) (fun _ _ => ⟨rfl, rfl, (by decide : 4 + 0 ≤ _), (by decide : 4102 + 0 ≤ _)⟩)
      dsimp only [Pt.U, Pt.locs, Pt.cells, Pt.slots] at X18 l18 y18 z18 st18 hQ18
      subst l18 y18 z18
      obtain ⟨rfl, N18q, e18⟩ := hQ18
      have NN := Fr.app NN N18q
      refine own_go (fun t k => st18.trans k) ?_
      show own_Go p.tables e below _ T18 (mkF m 307 #[.val (.int p1), .val (.int p2), .val (.int p3), .val (.int p4), .val (.int p5), .val (.int j1), .val (.int j2), .val (.int j3), .val (.int j4), .val (.int j5), .val (.int j7), .val (.ref b9), .val (.int j11), .val (.int (0 : Int32)), .val (.int (0 : Int32)), .val (.ref b12_0), .val (.int (1 : Int32)), .unset, .unset] [(.int (r_7 j3 (131072 : Int32) (fun _ => 0)))])
      refine own_go (T' := T18) (g' := (mkF m 309 #[.val (.int p1), .val (.int p2), .val (.int p3), .val (.int p4), .val (.int p5), .val (.int j1), .val (.int j2), .val (.int j3), .val (.int j4), .val (.int j5), .val (.int j7), .val (.ref b9), .val (.int j11), .val (.int (0 : Int32)), .val (.int (0 : Int32)), .val (.ref b12_0), .val (.int (1 : Int32)), .unset, .unset] [(.int (0 : Int32)), (.int (r_7 j3 (131072 : Int32) (fun _ => 0)))])) (fun t k => ?_) ?_
      · show Steps p.tables e below (T18.setTop (mkF m 307 #[.val (.int p1), .val (.int p2), .val (.int p3), .val (.int p4), .val (.int p5), .val (.int j1), .val (.int j2), .val (.int j3), .val (.int j4), .val (.int j5), .val (.int j7), .val (.ref b9), .val (.int j11), .val (.int (0 : Int32)), .val (.int (0 : Int32)), .val (.ref b12_0), .val (.int (1 : Int32)), .unset, .unset] [(.int (r_7 j3 (131072 : Int32) (fun _ => 0)))])) _
        refine XS.iload X18.here hx rfl (hb hby at_307) rfl ?_
        exact k
      refine own_go (T' := T18) (g' := (mkF m 323 #[.val (.int p1), .val (.int p2), .val (.int p3), .val (.int p4), .val (.int p5), .val (.int j1), .val (.int j2), .val (.int j3), .val (.int j4), .val (.int j5), .val (.int j7), .val (.ref b9), .val (.int j11), .val (.int (0 : Int32)), .val (.int (0 : Int32)), .val (.ref b12_0), .val (.int (1 : Int32)), .unset, .unset] [(.int (0 : Int32)), (.int j11)])) (fun t k => ?_) ?_
      · show Steps p.tables e below (T18.setTop (mkF m 309 #[.val (.int p1), .val (.int p2), .val (.int p3), .val (.int p4), .val (.int p5), .val (.int j1), .val (.int j2), .val (.int j3), .val (.int j4), .val (.int j5), .val (.int j7), .val (.ref b9), .val (.int j11), .val (.int (0 : Int32)), .val (.int (0 : Int32)), .val (.ref b12_0), .val (.int (1 : Int32)), .unset, .unset] [(.int (0 : Int32)), (.int (r_7 j3 (131072 : Int32) (fun _ => 0)))])) _
        refine XS.icmpNo X18.here hx rfl (hb hby at_309) rfl (teq hs278).2 ?_
        show Steps p.tables e below (T18.setTop (mkF m 312 #[.val (.int p1), .val (.int p2), .val (.int p3), .val (.int p4), .val (.int p5), .val (.int j1), .val (.int j2), .val (.int j3), .val (.int j4), .val (.int j5), .val (.int j7), .val (.ref b9), .val (.int j11), .val (.int (0 : Int32)), .val (.int (0 : Int32)), .val (.ref b12_0), .val (.int (1 : Int32)), .unset, .unset] [])) _
        refine XS.iconst X18.here hx rfl (hb hby at_312) ?_
        show Steps p.tables e below (T18.setTop (mkF m 313 #[.val (.int p1), .val (.int p2), .val (.int p3), .val (.int p4), .val (.int p5), .val (.int j1), .val (.int j2), .val (.int j3), .val (.int j4), .val (.int j5), .val (.int j7), .val (.ref b9), .val (.int j11), .val (.int (0 : Int32)), .val (.int (0 : Int32)), .val (.ref b12_0), .val (.int (1 : Int32)), .unset, .unset] [(.int (1 : Int32))])) _
        refine XS.goto X18.here hx rfl (pc0 := 313) (pc' := 317) rfl (hb hby at_313) (by decide) (by decide) ?_
        show Steps p.tables e below (T18.setTop (mkF m 317 #[.val (.int p1), .val (.int p2), .val (.int p3), .val (.int p4), .val (.int p5), .val (.int j1), .val (.int j2), .val (.int j3), .val (.int j4), .val (.int j5), .val (.int j7), .val (.ref b9), .val (.int j11), .val (.int (0 : Int32)), .val (.int (0 : Int32)), .val (.ref b12_0), .val (.int (1 : Int32)), .unset, .unset] [(.int (1 : Int32))])) _
        refine XS.istore X18.here hx rfl (hb hby at_317) rfl (l' := #[.val (.int p1), .val (.int p2), .val (.int p3), .val (.int p4), .val (.int p5), .val (.int j1), .val (.int j2), .val (.int j3), .val (.int j4), .val (.int j5), .val (.int j7), .val (.ref b9), .val (.int j11), .val (.int (0 : Int32)), .val (.int (0 : Int32)), .val (.ref b12_0), .val (.int (1 : Int32)), .unset, .unset]) rfl ?_
        show Steps p.tables e below (T18.setTop (mkF m 319 #[.val (.int p1), .val (.int p2), .val (.int p3), .val (.int p4), .val (.int p5), .val (.int j1), .val (.int j2), .val (.int j3), .val (.int j4), .val (.int j5), .val (.int j7), .val (.ref b9), .val (.int j11), .val (.int (0 : Int32)), .val (.int (0 : Int32)), .val (.ref b12_0), .val (.int (1 : Int32)), .unset, .unset] [])) _
        refine XS.iload X18.here hx rfl (hb hby at_319) rfl ?_
        show Steps p.tables e below (T18.setTop (mkF m 321 #[.val (.int p1), .val (.int p2), .val (.int p3), .val (.int p4), .val (.int p5), .val (.int j1), .val (.int j2), .val (.int j3), .val (.int j4), .val (.int j5), .val (.int j7), .val (.ref b9), .val (.int j11), .val (.int (0 : Int32)), .val (.int (0 : Int32)), .val (.ref b12_0), .val (.int (1 : Int32)), .unset, .unset] [(.int j11)])) _
        refine XS.iload X18.here hx rfl (hb hby at_321) rfl ?_
        exact k
      refine own_go (T' := T18) (g' := (mkF m 334 #[.val (.int p1), .val (.int p2), .val (.int p3), .val (.int p4), .val (.int p5), .val (.int j1), .val (.int j2), .val (.int j3), .val (.int j4), .val (.int j5), .val (.int j7), .val (.ref b9), .val (.int j11), .val (.int (0 : Int32)), .val (.int (0 : Int32)), .val (.ref b12_0), .val (.int (1 : Int32)), .val (.int (j11 + (1 : Int32))), .unset] [])) (fun t k => ?_) ?_
      · show Steps p.tables e below (T18.setTop (mkF m 323 #[.val (.int p1), .val (.int p2), .val (.int p3), .val (.int p4), .val (.int p5), .val (.int j1), .val (.int j2), .val (.int j3), .val (.int j4), .val (.int j5), .val (.int j7), .val (.ref b9), .val (.int j11), .val (.int (0 : Int32)), .val (.int (0 : Int32)), .val (.ref b12_0), .val (.int (1 : Int32)), .unset, .unset] [(.int (0 : Int32)), (.int j11)])) _
        refine XS.ifYes X18.here hx rfl (pc0 := 323) (pc' := 330) rfl (hb hby at_323) rfl ((if0 _ _).trans (teq (rfl : (0 : Int32) = (0 : Int32))).1) (by decide) (by decide) ?_
        show Steps p.tables e below (T18.setTop (mkF m 330 #[.val (.int p1), .val (.int p2), .val (.int p3), .val (.int p4), .val (.int p5), .val (.int j1), .val (.int j2), .val (.int j3), .val (.int j4), .val (.int j5), .val (.int j7), .val (.ref b9), .val (.int j11), .val (.int (0 : Int32)), .val (.int (0 : Int32)), .val (.ref b12_0), .val (.int (1 : Int32)), .unset, .unset] [(.int j11)])) _
        refine XS.iconst X18.here hx rfl (hb hby at_330) ?_
        show Steps p.tables e below (T18.setTop (mkF m 331 #[.val (.int p1), .val (.int p2), .val (.int p3), .val (.int p4), .val (.int p5), .val (.int j1), .val (.int j2), .val (.int j3), .val (.int j4), .val (.int j5), .val (.int j7), .val (.ref b9), .val (.int j11), .val (.int (0 : Int32)), .val (.int (0 : Int32)), .val (.ref b12_0), .val (.int (1 : Int32)), .unset, .unset] [(.int (1 : Int32)), (.int j11)])) _
        refine XS.iadd X18.here hx rfl (hb hby at_331) rfl ?_
        show Steps p.tables e below (T18.setTop (mkF m 332 #[.val (.int p1), .val (.int p2), .val (.int p3), .val (.int p4), .val (.int p5), .val (.int j1), .val (.int j2), .val (.int j3), .val (.int j4), .val (.int j5), .val (.int j7), .val (.ref b9), .val (.int j11), .val (.int (0 : Int32)), .val (.int (0 : Int32)), .val (.ref b12_0), .val (.int (1 : Int32)), .unset, .unset] [(.int (j11 + (1 : Int32)))])) _
        refine XS.istore X18.here hx rfl (hb hby at_332) rfl (l' := #[.val (.int p1), .val (.int p2), .val (.int p3), .val (.int p4), .val (.int p5), .val (.int j1), .val (.int j2), .val (.int j3), .val (.int j4), .val (.int j5), .val (.int j7), .val (.ref b9), .val (.int j11), .val (.int (0 : Int32)), .val (.int (0 : Int32)), .val (.ref b12_0), .val (.int (1 : Int32)), .val (.int (j11 + (1 : Int32))), .unset]) rfl ?_
        exact k
      show own_Go p.tables e below _ T18 (mkF m 334 #[.val (.int p1), .val (.int p2), .val (.int p3), .val (.int p4), .val (.int p5), .val (.int j1), .val (.int j2), .val (.int j3), .val (.int j4), .val (.int j5), .val (.int j7), .val (.ref b9), .val (.int j11), .val (.int (0 : Int32)), .val (.int (0 : Int32)), .val (.ref b12_0), .val (.int (1 : Int32)), .val (.int (j11 + (1 : Int32))), .unset] [])
      obtain ⟨j19, hj19⟩ : ∃ z : Int32, z = (j11 + (1 : Int32)) := ⟨_, rfl⟩
      rw [← hj19]
      show own_Go p.tables e below _ T18 (mkF m 334 #[.val (.int p1), .val (.int p2), .val (.int p3), .val (.int p4), .val (.int p5), .val (.int j1), .val (.int j2), .val (.int j3), .val (.int j4), .val (.int j5), .val (.int j7), .val (.ref b9), .val (.int j11), .val (.int (0 : Int32)), .val (.int (0 : Int32)), .val (.ref b12_0), .val (.int (1 : Int32)), .val (.int j19), .unset] [])
      refine own_go (T' := T18) (g' := (mkF m 336 #[.val (.int p1), .val (.int p2), .val (.int p3), .val (.int p4), .val (.int p5), .val (.int j1), .val (.int j2), .val (.int j3), .val (.int j4), .val (.int j5), .val (.int j7), .val (.ref b9), .val (.int j11), .val (.int (0 : Int32)), .val (.int (0 : Int32)), .val (.ref b12_0), .val (.int (1 : Int32)), .val (.int j19), .unset] [(.int (1 : Int32))])) (fun t k => ?_) ?_
      · show Steps p.tables e below (T18.setTop (mkF m 334 #[.val (.int p1), .val (.int p2), .val (.int p3), .val (.int p4), .val (.int p5), .val (.int j1), .val (.int j2), .val (.int j3), .val (.int j4), .val (.int j5), .val (.int j7), .val (.ref b9), .val (.int j11), .val (.int (0 : Int32)), .val (.int (0 : Int32)), .val (.ref b12_0), .val (.int (1 : Int32)), .val (.int j19), .unset] [])) _
        refine XS.iload X18.here hx rfl (hb hby at_334) rfl ?_
        exact k
      refine own_go (T' := T18) (g' := (mkF m 341 #[.val (.int p1), .val (.int p2), .val (.int p3), .val (.int p4), .val (.int p5), .val (.int j1), .val (.int j2), .val (.int j3), .val (.int j4), .val (.int j5), .val (.int j7), .val (.ref b9), .val (.int j11), .val (.int (0 : Int32)), .val (.int (0 : Int32)), .val (.ref b12_0), .val (.int (1 : Int32)), .val (.int j19), .unset] [(.ref b12_0)])) (fun t k => ?_) ?_
      · show Steps p.tables e below (T18.setTop (mkF m 336 #[.val (.int p1), .val (.int p2), .val (.int p3), .val (.int p4), .val (.int p5), .val (.int j1), .val (.int j2), .val (.int j3), .val (.int j4), .val (.int j5), .val (.int j7), .val (.ref b9), .val (.int j11), .val (.int (0 : Int32)), .val (.int (0 : Int32)), .val (.ref b12_0), .val (.int (1 : Int32)), .val (.int j19), .unset] [(.int (1 : Int32))])) _
        refine XS.ifNo X18.here hx rfl (hb hby at_336) rfl ((if0 _ _).trans (feq (by decide : ¬ ((1 : Int32) = (0 : Int32)))).1) ?_
        show Steps p.tables e below (T18.setTop (mkF m 339 #[.val (.int p1), .val (.int p2), .val (.int p3), .val (.int p4), .val (.int p5), .val (.int j1), .val (.int j2), .val (.int j3), .val (.int j4), .val (.int j5), .val (.int j7), .val (.ref b9), .val (.int j11), .val (.int (0 : Int32)), .val (.int (0 : Int32)), .val (.ref b12_0), .val (.int (1 : Int32)), .val (.int j19), .unset] [])) _
        refine XS.aload X18.here hx rfl (hb hby at_339) rfl rfl ?_
        exact k
      obtain ⟨cq20, kq20, q20a, q20b, q20c⟩ := isOf hZ e18 E_b12_0
      obtain ⟨_, _, ⟨T20, L20, k20, n20⟩, -, X20, ⟨Lc20, hQ20, l20, y20, z20⟩, st20⟩ := X18.virtualBack hx (y := (⟨"com/example/capd/capd/status/Bitstring", "count", "()I"⟩ : MethodName)) (z := (⟨"com/example/capd/capd/status/Bitstring", "count", "()I"⟩ : MethodName)) hown (mvT hZ (hw _ (List.mem_of_getElem? (i := 42) rfl))) (mvT hZ (hw _ (List.mem_of_getElem? (i := 43) rfl))) (notFace_of_selects (args := #[]) (mvT hZ (hw _ (List.mem_of_getElem? (i := 45) rfl)))) (mvT hZ (hw _ (List.mem_of_getElem? (i := 45) rfl))) (mvT hZ (hw _ (List.mem_of_getElem? (i := 44) rfl))) (by decide) (backOf (W := 0) (rm6 l Z a0 hw [] b12_0 (u_11_a1_count j3 (131072 : Int32) (fun _ => 0) (0 : Int32)) T17.heap n0 Z0 F_b12_0_count) hZ (hw _ (List.mem_of_getElem? (i := 46) rfl)) (hw _ (List.mem_of_getElem? (i := 3) rfl)) (by decide) (by decide)) q20a q20c (g := (mkF m 341 #[.val (.int p1), .val (.int p2), .val (.int p3), .val (.int p4), .val (.int p5), .val (.int j1), .val (.int j2), .val (.int j3), .val (.int j4), .val (.int j5), .val (.int j7), .val (.ref b9), .val (.int j11), .val (.int (0 : Int32)), .val (.int (0 : Int32)), .val (.ref b12_0), .val (.int (1 : Int32)), .val (.int j19), .unset] [(.ref b12_0)])) rfl (by rw [hml]; rfl) (Steps.refl _) (argsL := []) (rest := []) (lenOf pd_4 rfl) rfl (by show 2 * 0 + _ ≤ _; exact Nat.le_of_eq rfl) (hb hby at_341) (fun _ _ => ⟨rfl, e18, (by decide : 4 + 0 ≤ _), (by decide : 4102 + 0 ≤ _)⟩)
      dsimp only [Pt.U, Pt.locs, Pt.cells, Pt.slots] at X20 l20 y20 z20 st20 hQ20
      subst l20 y20 z20
      obtain ⟨rfl, N20q, e20⟩ := hQ20
      have NN := Fr.app NN N20q
      refine own_go (fun t k => st20.trans k) ?_
      show own_Go p.tables e below _ T20 (mkF m 344 #[.val (.int p1), .val (.int p2), .val (.int p3), .val (.int p4), .val (.int p5), .val (.int j1), .val (.int j2), .val (.int j3), .val (.int j4), .val (.int j5), .val (.int j7), .val (.ref b9), .val (.int j11), .val (.int (0 : Int32)), .val (.int (0 : Int32)), .val (.ref b12_0), .val (.int (1 : Int32)), .val (.int j19), .unset] [(.int (r_6 (u_11_a1_count j3 (131072 : Int32) (fun _ => 0) (0 : Int32))))])
      refine own_go (T' := T20) (g' := (mkF m 346 #[.val (.int p1), .val (.int p2), .val (.int p3), .val (.int p4), .val (.int p5), .val (.int j1), .val (.int j2), .val (.int j3), .val (.int j4), .val (.int j5), .val (.int j7), .val (.ref b9), .val (.int j11), .val (.int (0 : Int32)), .val (.int (0 : Int32)), .val (.ref b12_0), .val (.int (1 : Int32)), .val (.int j19), .unset] [(.int j19), (.int (r_6 (u_11_a1_count j3 (131072 : Int32) (fun _ => 0) (0 : Int32))))])) (fun t k => ?_) ?_
      · show Steps p.tables e below (T20.setTop (mkF m 344 #[.val (.int p1), .val (.int p2), .val (.int p3), .val (.int p4), .val (.int p5), .val (.int j1), .val (.int j2), .val (.int j3), .val (.int j4), .val (.int j5), .val (.int j7), .val (.ref b9), .val (.int j11), .val (.int (0 : Int32)), .val (.int (0 : Int32)), .val (.ref b12_0), .val (.int (1 : Int32)), .val (.int j19), .unset] [(.int (r_6 (u_11_a1_count j3 (131072 : Int32) (fun _ => 0) (0 : Int32))))])) _
        refine XS.iload X20.here hx rfl (hb hby at_344) rfl ?_
        exact k
      have hs346 : (r_6 (u_11_a1_count j3 (131072 : Int32) (fun _ => 0) (0 : Int32))) = j19 := own_at_hs346_tt p1 p3 p5 j1 j3 j5 j7 j11 j19 hj1 hj3 hj5 hj7 hj11 hj19 hc63_3 hc75_4 hs208 hs230 hhhhc1_3_5_249 hhhhc6_3_5_249 hhlo17_249 hhhi17_249 hs254 hhhhc1_3_5_273 hhhhc6_3_5_273 hhlo17_273 hhhi17_273 hs278
      refine own_go (T' := T20) (g' := (mkF m 358 #[.val (.int p1), .val (.int p2), .val (.int p3), .val (.int p4), .val (.int p5), .val (.int j1), .val (.int j2), .val (.int j3), .val (.int j4), .val (.int j5), .val (.int j7), .val (.ref b9), .val (.int j11), .val (.int (0 : Int32)), .val (.int (0 : Int32)), .val (.ref b12_0), .val (.int (1 : Int32)), .val (.int j19), .unset] [(.int j5)])) (fun t k => ?_) ?_
      · show Steps p.tables e below (T20.setTop (mkF m 346 #[.val (.int p1), .val (.int p2), .val (.int p3), .val (.int p4), .val (.int p5), .val (.int j1), .val (.int j2), .val (.int j3), .val (.int j4), .val (.int j5), .val (.int j7), .val (.ref b9), .val (.int j11), .val (.int (0 : Int32)), .val (.int (0 : Int32)), .val (.ref b12_0), .val (.int (1 : Int32)), .val (.int j19), .unset] [(.int j19), (.int (r_6 (u_11_a1_count j3 (131072 : Int32) (fun _ => 0) (0 : Int32))))])) _
        refine XS.icmpNo X20.here hx rfl (hb hby at_346) rfl (teq hs346).2 ?_
        show Steps p.tables e below (T20.setTop (mkF m 349 #[.val (.int p1), .val (.int p2), .val (.int p3), .val (.int p4), .val (.int p5), .val (.int j1), .val (.int j2), .val (.int j3), .val (.int j4), .val (.int j5), .val (.int j7), .val (.ref b9), .val (.int j11), .val (.int (0 : Int32)), .val (.int (0 : Int32)), .val (.ref b12_0), .val (.int (1 : Int32)), .val (.int j19), .unset] [])) _
        refine XS.iconst X20.here hx rfl (hb hby at_349) ?_
        show Steps p.tables e below (T20.setTop (mkF m 350 #[.val (.int p1), .val (.int p2), .val (.int p3), .val (.int p4), .val (.int p5), .val (.int j1), .val (.int j2), .val (.int j3), .val (.int j4), .val (.int j5), .val (.int j7), .val (.ref b9), .val (.int j11), .val (.int (0 : Int32)), .val (.int (0 : Int32)), .val (.ref b12_0), .val (.int (1 : Int32)), .val (.int j19), .unset] [(.int (1 : Int32))])) _
        refine XS.goto X20.here hx rfl (pc0 := 350) (pc' := 354) rfl (hb hby at_350) (by decide) (by decide) ?_
        show Steps p.tables e below (T20.setTop (mkF m 354 #[.val (.int p1), .val (.int p2), .val (.int p3), .val (.int p4), .val (.int p5), .val (.int j1), .val (.int j2), .val (.int j3), .val (.int j4), .val (.int j5), .val (.int j7), .val (.ref b9), .val (.int j11), .val (.int (0 : Int32)), .val (.int (0 : Int32)), .val (.ref b12_0), .val (.int (1 : Int32)), .val (.int j19), .unset] [(.int (1 : Int32))])) _
        refine XS.istore X20.here hx rfl (hb hby at_354) rfl (l' := #[.val (.int p1), .val (.int p2), .val (.int p3), .val (.int p4), .val (.int p5), .val (.int j1), .val (.int j2), .val (.int j3), .val (.int j4), .val (.int j5), .val (.int j7), .val (.ref b9), .val (.int j11), .val (.int (0 : Int32)), .val (.int (0 : Int32)), .val (.ref b12_0), .val (.int (1 : Int32)), .val (.int j19), .unset]) rfl ?_
        show Steps p.tables e below (T20.setTop (mkF m 356 #[.val (.int p1), .val (.int p2), .val (.int p3), .val (.int p4), .val (.int p5), .val (.int j1), .val (.int j2), .val (.int j3), .val (.int j4), .val (.int j5), .val (.int j7), .val (.ref b9), .val (.int j11), .val (.int (0 : Int32)), .val (.int (0 : Int32)), .val (.ref b12_0), .val (.int (1 : Int32)), .val (.int j19), .unset] [])) _
        refine XS.iload X20.here hx rfl (hb hby at_356) rfl ?_
        exact k
      refine own_go (T' := T20) (g' := (mkF m 370 #[.val (.int p1), .val (.int p2), .val (.int p3), .val (.int p4), .val (.int p5), .val (.int j1), .val (.int j2), .val (.int j3), .val (.int j4), .val (.int j5), .val (.int j7), .val (.ref b9), .val (.int j11), .val (.int (0 : Int32)), .val (.int (0 : Int32)), .val (.ref b12_0), .val (.int (1 : Int32)), .val (.int j19), .unset] [(.int j7)])) (fun t k => ?_) ?_
      · show Steps p.tables e below (T20.setTop (mkF m 358 #[.val (.int p1), .val (.int p2), .val (.int p3), .val (.int p4), .val (.int p5), .val (.int j1), .val (.int j2), .val (.int j3), .val (.int j4), .val (.int j5), .val (.int j7), .val (.ref b9), .val (.int j11), .val (.int (0 : Int32)), .val (.int (0 : Int32)), .val (.ref b12_0), .val (.int (1 : Int32)), .val (.int j19), .unset] [(.int j5)])) _
        refine XS.ifYes X20.here hx rfl (pc0 := 358) (pc' := 368) rfl (hb hby at_358) rfl ((if0 _ _).trans (teq hc63_3).1) (by decide) (by decide) ?_
        show Steps p.tables e below (T20.setTop (mkF m 368 #[.val (.int p1), .val (.int p2), .val (.int p3), .val (.int p4), .val (.int p5), .val (.int j1), .val (.int j2), .val (.int j3), .val (.int j4), .val (.int j5), .val (.int j7), .val (.ref b9), .val (.int j11), .val (.int (0 : Int32)), .val (.int (0 : Int32)), .val (.ref b12_0), .val (.int (1 : Int32)), .val (.int j19), .unset] [])) _
        refine XS.iload X20.here hx rfl (hb hby at_368) rfl ?_
        exact k
      refine own_go (T' := T20) (g' := (mkF m 384 #[.val (.int p1), .val (.int p2), .val (.int p3), .val (.int p4), .val (.int p5), .val (.int j1), .val (.int j2), .val (.int j3), .val (.int j4), .val (.int j5), .val (.int j7), .val (.ref b9), .val (.int j11), .val (.int (0 : Int32)), .val (.int (0 : Int32)), .val (.ref b12_0), .val (.int (1 : Int32)), .val (.int j19), .unset] [(.int j3), (.int j4)])) (fun t k => ?_) ?_
      · show Steps p.tables e below (T20.setTop (mkF m 370 #[.val (.int p1), .val (.int p2), .val (.int p3), .val (.int p4), .val (.int p5), .val (.int j1), .val (.int j2), .val (.int j3), .val (.int j4), .val (.int j5), .val (.int j7), .val (.ref b9), .val (.int j11), .val (.int (0 : Int32)), .val (.int (0 : Int32)), .val (.ref b12_0), .val (.int (1 : Int32)), .val (.int j19), .unset] [(.int j7)])) _
        refine XS.ifYes X20.here hx rfl (pc0 := 370) (pc' := 380) rfl (hb hby at_370) rfl ((if0 _ _).trans (teq hc75_4).1) (by decide) (by decide) ?_
        show Steps p.tables e below (T20.setTop (mkF m 380 #[.val (.int p1), .val (.int p2), .val (.int p3), .val (.int p4), .val (.int p5), .val (.int j1), .val (.int j2), .val (.int j3), .val (.int j4), .val (.int j5), .val (.int j7), .val (.ref b9), .val (.int j11), .val (.int (0 : Int32)), .val (.int (0 : Int32)), .val (.ref b12_0), .val (.int (1 : Int32)), .val (.int j19), .unset] [])) _
        refine XS.iload X20.here hx rfl (hb hby at_380) rfl ?_
        show Steps p.tables e below (T20.setTop (mkF m 382 #[.val (.int p1), .val (.int p2), .val (.int p3), .val (.int p4), .val (.int p5), .val (.int j1), .val (.int j2), .val (.int j3), .val (.int j4), .val (.int j5), .val (.int j7), .val (.ref b9), .val (.int j11), .val (.int (0 : Int32)), .val (.int (0 : Int32)), .val (.ref b12_0), .val (.int (1 : Int32)), .val (.int j19), .unset] [(.int j4)])) _
        refine XS.iload X20.here hx rfl (hb hby at_382) rfl ?_
        exact k
      obtain ⟨j21, hj21, st22⟩ : ∃ (j21 : Int32), j21 = (if j4 = j3 then (1 : Int32) else (0 : Int32)) ∧ ∀ t, Steps p.tables e below (T20.setTop (mkF m 392 #[.val (.int p1), .val (.int p2), .val (.int p3), .val (.int p4), .val (.int p5), .val (.int j1), .val (.int j2), .val (.int j3), .val (.int j4), .val (.int j5), .val (.int j7), .val (.ref b9), .val (.int j11), .val (.int (0 : Int32)), .val (.int (0 : Int32)), .val (.ref b12_0), .val (.int (1 : Int32)), .val (.int j19), .unset] [(.int j21)])) t → Steps p.tables e below (T20.setTop (mkF m 384 #[.val (.int p1), .val (.int p2), .val (.int p3), .val (.int p4), .val (.int p5), .val (.int j1), .val (.int j2), .val (.int j3), .val (.int j4), .val (.int j5), .val (.int j7), .val (.ref b9), .val (.int j11), .val (.int (0 : Int32)), .val (.int (0 : Int32)), .val (.ref b12_0), .val (.int (1 : Int32)), .val (.int j19), .unset] [(.int j3), (.int j4)])) t := by
        by_cases hc384_5 : j4 = j3
        · skip
          refine ⟨(1 : Int32), (by simp only [if_pos hc384_5]), fun t k => ?_⟩
          show Steps p.tables e below (T20.setTop (mkF m 384 #[.val (.int p1), .val (.int p2), .val (.int p3), .val (.int p4), .val (.int p5), .val (.int j1), .val (.int j2), .val (.int j3), .val (.int j4), .val (.int j5), .val (.int j7), .val (.ref b9), .val (.int j11), .val (.int (0 : Int32)), .val (.int (0 : Int32)), .val (.ref b12_0), .val (.int (1 : Int32)), .val (.int j19), .unset] [(.int j3), (.int j4)])) _
          refine XS.icmpNo X20.here hx rfl (hb hby at_384) rfl (teq hc384_5).2 ?_
          show Steps p.tables e below (T20.setTop (mkF m 387 #[.val (.int p1), .val (.int p2), .val (.int p3), .val (.int p4), .val (.int p5), .val (.int j1), .val (.int j2), .val (.int j3), .val (.int j4), .val (.int j5), .val (.int j7), .val (.ref b9), .val (.int j11), .val (.int (0 : Int32)), .val (.int (0 : Int32)), .val (.ref b12_0), .val (.int (1 : Int32)), .val (.int j19), .unset] [])) _
          refine XS.iconst X20.here hx rfl (hb hby at_387) ?_
          show Steps p.tables e below (T20.setTop (mkF m 388 #[.val (.int p1), .val (.int p2), .val (.int p3), .val (.int p4), .val (.int p5), .val (.int j1), .val (.int j2), .val (.int j3), .val (.int j4), .val (.int j5), .val (.int j7), .val (.ref b9), .val (.int j11), .val (.int (0 : Int32)), .val (.int (0 : Int32)), .val (.ref b12_0), .val (.int (1 : Int32)), .val (.int j19), .unset] [(.int (1 : Int32))])) _
          refine XS.goto X20.here hx rfl (pc0 := 388) (pc' := 392) rfl (hb hby at_388) (by decide) (by decide) ?_
          exact k
        · skip
          refine ⟨(0 : Int32), (by simp only [if_neg hc384_5]), fun t k => ?_⟩
          show Steps p.tables e below (T20.setTop (mkF m 384 #[.val (.int p1), .val (.int p2), .val (.int p3), .val (.int p4), .val (.int p5), .val (.int j1), .val (.int j2), .val (.int j3), .val (.int j4), .val (.int j5), .val (.int j7), .val (.ref b9), .val (.int j11), .val (.int (0 : Int32)), .val (.int (0 : Int32)), .val (.ref b12_0), .val (.int (1 : Int32)), .val (.int j19), .unset] [(.int j3), (.int j4)])) _
          refine XS.icmpYes X20.here hx rfl (pc0 := 384) (pc' := 391) rfl (hb hby at_384) rfl (feq hc384_5).2 (by decide) (by decide) ?_
          show Steps p.tables e below (T20.setTop (mkF m 391 #[.val (.int p1), .val (.int p2), .val (.int p3), .val (.int p4), .val (.int p5), .val (.int j1), .val (.int j2), .val (.int j3), .val (.int j4), .val (.int j5), .val (.int j7), .val (.ref b9), .val (.int j11), .val (.int (0 : Int32)), .val (.int (0 : Int32)), .val (.ref b12_0), .val (.int (1 : Int32)), .val (.int j19), .unset] [])) _
          refine XS.iconst X20.here hx rfl (hb hby at_391) ?_
          exact k
      refine own_go st22 ?_
      show own_Go p.tables e below _ T20 (mkF m 392 #[.val (.int p1), .val (.int p2), .val (.int p3), .val (.int p4), .val (.int p5), .val (.int j1), .val (.int j2), .val (.int j3), .val (.int j4), .val (.int j5), .val (.int j7), .val (.ref b9), .val (.int j11), .val (.int (0 : Int32)), .val (.int (0 : Int32)), .val (.ref b12_0), .val (.int (1 : Int32)), .val (.int j19), .unset] [(.int j21)])
      refine own_go (T' := T20) (g' := (mkF m 398 #[.val (.int p1), .val (.int p2), .val (.int p3), .val (.int p4), .val (.int p5), .val (.int j1), .val (.int j2), .val (.int j3), .val (.int j4), .val (.int j5), .val (.int j7), .val (.ref b9), .val (.int j11), .val (.int (0 : Int32)), .val (.int (0 : Int32)), .val (.ref b12_0), .val (.int (1 : Int32)), .val (.int j19), .val (.int j21)] [(.int j4), (.ref b9)])) (fun t k => ?_) ?_
      · show Steps p.tables e below (T20.setTop (mkF m 392 #[.val (.int p1), .val (.int p2), .val (.int p3), .val (.int p4), .val (.int p5), .val (.int j1), .val (.int j2), .val (.int j3), .val (.int j4), .val (.int j5), .val (.int j7), .val (.ref b9), .val (.int j11), .val (.int (0 : Int32)), .val (.int (0 : Int32)), .val (.ref b12_0), .val (.int (1 : Int32)), .val (.int j19), .unset] [(.int j21)])) _
        refine XS.istore X20.here hx rfl (hb hby at_392) rfl (l' := #[.val (.int p1), .val (.int p2), .val (.int p3), .val (.int p4), .val (.int p5), .val (.int j1), .val (.int j2), .val (.int j3), .val (.int j4), .val (.int j5), .val (.int j7), .val (.ref b9), .val (.int j11), .val (.int (0 : Int32)), .val (.int (0 : Int32)), .val (.ref b12_0), .val (.int (1 : Int32)), .val (.int j19), .val (.int j21)]) rfl ?_
        show Steps p.tables e below (T20.setTop (mkF m 394 #[.val (.int p1), .val (.int p2), .val (.int p3), .val (.int p4), .val (.int p5), .val (.int j1), .val (.int j2), .val (.int j3), .val (.int j4), .val (.int j5), .val (.int j7), .val (.ref b9), .val (.int j11), .val (.int (0 : Int32)), .val (.int (0 : Int32)), .val (.ref b12_0), .val (.int (1 : Int32)), .val (.int j19), .val (.int j21)] [])) _
        refine XS.aload X20.here hx rfl (hb hby at_394) rfl rfl ?_
        show Steps p.tables e below (T20.setTop (mkF m 396 #[.val (.int p1), .val (.int p2), .val (.int p3), .val (.int p4), .val (.int p5), .val (.int j1), .val (.int j2), .val (.int j3), .val (.int j4), .val (.int j5), .val (.int j7), .val (.ref b9), .val (.int j11), .val (.int (0 : Int32)), .val (.int (0 : Int32)), .val (.ref b12_0), .val (.int (1 : Int32)), .val (.int j19), .val (.int j21)] [(.ref b9)])) _
        refine XS.iload X20.here hx rfl (hb hby at_396) rfl ?_
        exact k
      have hhhhc1_3_5_398 : ¬ (j4 < (0 : Int32)) := own_at_hhhhc1_3_5_398_tt p1 p3 p4 p5 j1 j3 j4 j5 j7 j11 j19 hj1 hj3 hj4 hj5 hj7 hj11 hj19 hc63_3 hc75_4 hs208 hs230 hhhhc1_3_5_249 hhhhc6_3_5_249 hhlo17_249 hhhi17_249 hs254 hhhhc1_3_5_273 hhhhc6_3_5_273 hhlo17_273 hhhi17_273 hs278 hs346
      have hhhhc6_3_5_398 : j4 < (131072 : Int32) := own_at_hhhhc6_3_5_398_tt p1 p3 p4 p5 j1 j3 j4 j5 j7 j11 j19 hj1 hj3 hj4 hj5 hj7 hj11 hj19 hc63_3 hc75_4 hs208 hs230 hhhhc1_3_5_249 hhhhc6_3_5_249 hhlo17_249 hhhi17_249 hs254 hhhhc1_3_5_273 hhhhc6_3_5_273 hhlo17_273 hhhi17_273 hs278 hs346 hhhhc1_3_5_398
      have hhhlo17_11_398 : ¬ ((j4 / (64 : Int32)) < (0 : Int32)) := own_at_hhhlo17_11_398_tt p1 p3 p4 p5 j1 j3 j4 j5 j7 j11 j19 hj1 hj3 hj4 hj5 hj7 hj11 hj19 hc63_3 hc75_4 hs208 hs230 hhhhc1_3_5_249 hhhhc6_3_5_249 hhlo17_249 hhhi17_249 hs254 hhhhc1_3_5_273 hhhhc6_3_5_273 hhlo17_273 hhhi17_273 hs278 hs346 hhhhc1_3_5_398 hhhhc6_3_5_398
      have hhhhi17_11_398 : (j4 / (64 : Int32)) < (2048 : Int32) := own_at_hhhhi17_11_398_tt p1 p3 p4 p5 j1 j3 j4 j5 j7 j11 j19 hj1 hj3 hj4 hj5 hj7 hj11 hj19 hc63_3 hc75_4 hs208 hs230 hhhhc1_3_5_249 hhhhc6_3_5_249 hhlo17_249 hhhi17_249 hs254 hhhhc1_3_5_273 hhhhc6_3_5_273 hhlo17_273 hhhi17_273 hs278 hs346 hhhhc1_3_5_398 hhhhc6_3_5_398 hhhlo17_11_398
      obtain ⟨cq23, kq23, q23a, q23b, q23c⟩ := isOf hZ e20 E_b9
      obtain ⟨_, _, ⟨T23, L23, k23, n23⟩, -, X23, ⟨Lc23, hQ23, l23, y23, z23⟩, st23⟩ := X20.virtualBack hx (y := (⟨"com/example/capd/capd/status/Bitstring", "set", "(I)V"⟩ : MethodName)) (z := (⟨"com/example/capd/capd/status/Bitstring", "set", "(I)V"⟩ : MethodName)) hown (mvT hZ (hw _ (List.mem_of_getElem? (i := 64) rfl))) (mvT hZ (hw _ (List.mem_of_getElem? (i := 65) rfl))) (notFace_of_selects (args := #[]) (mvT hZ (hw _ (List.mem_of_getElem? (i := 67) rfl)))) (mvT hZ (hw _ (List.mem_of_getElem? (i := 67) rfl))) (mvT hZ (hw _ (List.mem_of_getElem? (i := 66) rfl))) (by decide) (backOf (W := 0) (rm11 l Z a0 hw [] b9 j4 (131072 : Int32) b10_0 k10_1 (fun _ => 0) (0 : Int32) T17.heap n0 Z0 F_b9_size hhhhc1_3_5_398 hhhhc6_3_5_398 hhhhc1_3_5_398 hhhhc6_3_5_398 F_b9_words V_b10_0 hhhlo17_11_398 hhhhi17_11_398 E_b9 hhhlo17_11_398 hhhhi17_11_398 hhhlo17_11_398 hhhhi17_11_398 ne_b9_b10_0 g_b10_0 F_b9_count g_b9) hZ (hw _ (List.mem_of_getElem? (i := 68) rfl)) (hw _ (List.mem_of_getElem? (i := 3) rfl)) (by decide) (by decide)) q23a q23c (g := (mkF m 398 #[.val (.int p1), .val (.int p2), .val (.int p3), .val (.int p4), .val (.int p5), .val (.int j1), .val (.int j2), .val (.int j3), .val (.int j4), .val (.int j5), .val (.int j7), .val (.ref b9), .val (.int j11), .val (.int (0 : Int32)), .val (.int (0 : Int32)), .val (.ref b12_0), .val (.int (1 : Int32)), .val (.int j19), .val (.int j21)] [(.int j4), (.ref b9)])) rfl (by rw [hml]; rfl) (Steps.refl _) (argsL := [(.int j4)]) (rest := []) (lenOf pd_9 rfl) rfl (by show 2 * 0 + _ ≤ _; exact Nat.le_of_eq rfl) (hb hby at_398) (fun _ _ => ⟨rfl, e20, (by decide : 4 + 0 ≤ _), (by decide : 4102 + 0 ≤ _)⟩)
      dsimp only [Pt.U, Pt.locs, Pt.cells, Pt.slots] at X23 l23 y23 z23 st23 hQ23
      subst l23 y23 z23
      obtain ⟨rfl, N23q, K23, Q23_0, Q23_1, Q23_2, Q23_3, Q23_4⟩ := hQ23
      have E_b10_0 := E_b10_0.keep K23
      have E_b12_0 := E_b12_0.keep K23
      have F_b12_0_words := F_b12_0_words.keep K23 (ninS (Ne.symm ne_b10_0_b12_0) (ninS (Ne.symm ne_b9_b12_0) nin0))
      have F_b12_0_size := F_b12_0_size.keep K23 (ninS (Ne.symm ne_b10_0_b12_0) (ninS (Ne.symm ne_b9_b12_0) nin0))
      have F_b12_0_count := F_b12_0_count.keep K23 (ninS (Ne.symm ne_b10_0_b12_0) (ninS (Ne.symm ne_b9_b12_0) nin0))
      have E_b12_1 := E_b12_1.keep K23
      have V_b12_1 := V_b12_1.keep K23 (ninS (Ne.symm ne_b10_0_b12_1) (ninS (Ne.symm ne_b9_b12_1) nin0))
      have V_b10_0 := Q23_0
      have E_b9 := Q23_1
      have F_b9_size := Q23_2
      have F_b9_words := Q23_3
      have F_b9_count := Q23_4
      have Z0 := Nat.le_trans Z0 K23.1
      have KK := KK.trans K23 (allS (Or.inr sz_b10_0) (allS (Or.inr sz_b9) all0))
      have NN := Fr.app NN N23q
      refine own_go (fun t k => st23.trans k) ?_
      show own_Go p.tables e below _ T23 (mkF m 401 #[.val (.int p1), .val (.int p2), .val (.int p3), .val (.int p4), .val (.int p5), .val (.int j1), .val (.int j2), .val (.int j3), .val (.int j4), .val (.int j5), .val (.int j7), .val (.ref b9), .val (.int j11), .val (.int (0 : Int32)), .val (.int (0 : Int32)), .val (.ref b12_0), .val (.int (1 : Int32)), .val (.int j19), .val (.int j21)] [])
      refine own_go (T' := T23) (g' := (mkF m 403 #[.val (.int p1), .val (.int p2), .val (.int p3), .val (.int p4), .val (.int p5), .val (.int j1), .val (.int j2), .val (.int j3), .val (.int j4), .val (.int j5), .val (.int j7), .val (.ref b9), .val (.int j11), .val (.int (0 : Int32)), .val (.int (0 : Int32)), .val (.ref b12_0), .val (.int (1 : Int32)), .val (.int j19), .val (.int j21)] [(.int (1 : Int32))])) (fun t k => ?_) ?_
      · show Steps p.tables e below (T23.setTop (mkF m 401 #[.val (.int p1), .val (.int p2), .val (.int p3), .val (.int p4), .val (.int p5), .val (.int j1), .val (.int j2), .val (.int j3), .val (.int j4), .val (.int j5), .val (.int j7), .val (.ref b9), .val (.int j11), .val (.int (0 : Int32)), .val (.int (0 : Int32)), .val (.ref b12_0), .val (.int (1 : Int32)), .val (.int j19), .val (.int j21)] [])) _
        refine XS.iload X23.here hx rfl (hb hby at_401) rfl ?_
        exact k
      refine own_go (T' := T23) (g' := (mkF m 410 #[.val (.int p1), .val (.int p2), .val (.int p3), .val (.int p4), .val (.int p5), .val (.int j1), .val (.int j2), .val (.int j3), .val (.int j4), .val (.int j5), .val (.int j7), .val (.ref b9), .val (.int j11), .val (.int (0 : Int32)), .val (.int (0 : Int32)), .val (.ref b12_0), .val (.int (1 : Int32)), .val (.int j19), .val (.int j21)] [(.int j4), (.ref b12_0)])) (fun t k => ?_) ?_
      · show Steps p.tables e below (T23.setTop (mkF m 403 #[.val (.int p1), .val (.int p2), .val (.int p3), .val (.int p4), .val (.int p5), .val (.int j1), .val (.int j2), .val (.int j3), .val (.int j4), .val (.int j5), .val (.int j7), .val (.ref b9), .val (.int j11), .val (.int (0 : Int32)), .val (.int (0 : Int32)), .val (.ref b12_0), .val (.int (1 : Int32)), .val (.int j19), .val (.int j21)] [(.int (1 : Int32))])) _
        refine XS.ifNo X23.here hx rfl (hb hby at_403) rfl ((if0 _ _).trans (feq (by decide : ¬ ((1 : Int32) = (0 : Int32)))).1) ?_
        show Steps p.tables e below (T23.setTop (mkF m 406 #[.val (.int p1), .val (.int p2), .val (.int p3), .val (.int p4), .val (.int p5), .val (.int j1), .val (.int j2), .val (.int j3), .val (.int j4), .val (.int j5), .val (.int j7), .val (.ref b9), .val (.int j11), .val (.int (0 : Int32)), .val (.int (0 : Int32)), .val (.ref b12_0), .val (.int (1 : Int32)), .val (.int j19), .val (.int j21)] [])) _
        refine XS.aload X23.here hx rfl (hb hby at_406) rfl rfl ?_
        show Steps p.tables e below (T23.setTop (mkF m 408 #[.val (.int p1), .val (.int p2), .val (.int p3), .val (.int p4), .val (.int p5), .val (.int j1), .val (.int j2), .val (.int j3), .val (.int j4), .val (.int j5), .val (.int j7), .val (.ref b9), .val (.int j11), .val (.int (0 : Int32)), .val (.int (0 : Int32)), .val (.ref b12_0), .val (.int (1 : Int32)), .val (.int j19), .val (.int j21)] [(.ref b12_0)])) _
        refine XS.iload X23.here hx rfl (hb hby at_408) rfl ?_
        exact k
      obtain ⟨cq24, kq24, q24a, q24b, q24c⟩ := isOf hZ rfl E_b12_0
      obtain ⟨_, _, ⟨T24, L24, k24, n24⟩, -, X24, ⟨Lc24, hQ24, l24, y24, z24⟩, st24⟩ := X23.virtualBack hx (y := (⟨"com/example/capd/capd/status/Bitstring", "get", "(I)Z"⟩ : MethodName)) (z := (⟨"com/example/capd/capd/status/Bitstring", "get", "(I)Z"⟩ : MethodName)) hown (mvT hZ (hw _ (List.mem_of_getElem? (i := 47) rfl))) (mvT hZ (hw _ (List.mem_of_getElem? (i := 48) rfl))) (notFace_of_selects (args := #[]) (mvT hZ (hw _ (List.mem_of_getElem? (i := 50) rfl)))) (mvT hZ (hw _ (List.mem_of_getElem? (i := 50) rfl))) (mvT hZ (hw _ (List.mem_of_getElem? (i := 49) rfl))) (by decide) (backOf (W := 0) (rm7 l Z a0 hw [] b12_0 j4 (131072 : Int32) b12_1 k10_1 (u_11_w_words_a1_fn j3 (131072 : Int32) (fun _ => 0) (0 : Int32)) T23.heap n0 Z0 F_b12_0_size hhhhc1_3_5_398 hhhhc6_3_5_398 F_b12_0_words V_b12_1 hhhlo17_11_398 hhhhi17_11_398) hZ (hw _ (List.mem_of_getElem? (i := 51) rfl)) (hw _ (List.mem_of_getElem? (i := 3) rfl)) (by decide) (by decide)) q24a q24c (g := (mkF m 410 #[.val (.int p1), .val (.int p2), .val (.int p3), .val (.int p4), .val (.int p5), .val (.int j1), .val (.int j2), .val (.int j3), .val (.int j4), .val (.int j5), .val (.int j7), .val (.ref b9), .val (.int j11), .val (.int (0 : Int32)), .val (.int (0 : Int32)), .val (.ref b12_0), .val (.int (1 : Int32)), .val (.int j19), .val (.int j21)] [(.int j4), (.ref b12_0)])) rfl (by rw [hml]; rfl) (Steps.refl _) (argsL := [(.int j4)]) (rest := []) (lenOf pd_5 rfl) rfl (by show 2 * 0 + _ ≤ _; exact Nat.le_of_eq rfl) (hb hby at_410) (fun _ _ => ⟨rfl, rfl, (by decide : 4 + 0 ≤ _), (by decide : 4102 + 0 ≤ _)⟩)
      dsimp only [Pt.U, Pt.locs, Pt.cells, Pt.slots] at X24 l24 y24 z24 st24 hQ24
      subst l24 y24 z24
      obtain ⟨rfl, N24q, e24⟩ := hQ24
      have NN := Fr.app NN N24q
      refine own_go (fun t k => st24.trans k) ?_
      show own_Go p.tables e below _ T24 (mkF m 413 #[.val (.int p1), .val (.int p2), .val (.int p3), .val (.int p4), .val (.int p5), .val (.int j1), .val (.int j2), .val (.int j3), .val (.int j4), .val (.int j5), .val (.int j7), .val (.ref b9), .val (.int j11), .val (.int (0 : Int32)), .val (.int (0 : Int32)), .val (.ref b12_0), .val (.int (1 : Int32)), .val (.int j19), .val (.int j21)] [(.int (r_7 j4 (131072 : Int32) (u_11_w_words_a1_fn j3 (131072 : Int32) (fun _ => 0) (0 : Int32))))])
      refine own_go (T' := T24) (g' := (mkF m 415 #[.val (.int p1), .val (.int p2), .val (.int p3), .val (.int p4), .val (.int p5), .val (.int j1), .val (.int j2), .val (.int j3), .val (.int j4), .val (.int j5), .val (.int j7), .val (.ref b9), .val (.int j11), .val (.int (0 : Int32)), .val (.int (0 : Int32)), .val (.ref b12_0), .val (.int (1 : Int32)), .val (.int j19), .val (.int j21)] [(.int j21), (.int (r_7 j4 (131072 : Int32) (u_11_w_words_a1_fn j3 (131072 : Int32) (fun _ => 0) (0 : Int32))))])) (fun t k => ?_) ?_
      · show Steps p.tables e below (T24.setTop (mkF m 413 #[.val (.int p1), .val (.int p2), .val (.int p3), .val (.int p4), .val (.int p5), .val (.int j1), .val (.int j2), .val (.int j3), .val (.int j4), .val (.int j5), .val (.int j7), .val (.ref b9), .val (.int j11), .val (.int (0 : Int32)), .val (.int (0 : Int32)), .val (.ref b12_0), .val (.int (1 : Int32)), .val (.int j19), .val (.int j21)] [(.int (r_7 j4 (131072 : Int32) (u_11_w_words_a1_fn j3 (131072 : Int32) (fun _ => 0) (0 : Int32))))])) _
        refine XS.iload X24.here hx rfl (hb hby at_413) rfl ?_
        exact k
      have hs415 : (r_7 j4 (131072 : Int32) (u_11_w_words_a1_fn j3 (131072 : Int32) (fun _ => 0) (0 : Int32))) = j21 := own_at_hs415_tt p1 p3 p4 p5 j1 j3 j4 j5 j7 j11 j19 j21 hj1 hj3 hj4 hj5 hj7 hj11 hj19 hj21 hc63_3 hc75_4 hs208 hs230 hhhhc1_3_5_249 hhhhc6_3_5_249 hhlo17_249 hhhi17_249 hs254 hhhhc1_3_5_273 hhhhc6_3_5_273 hhlo17_273 hhhi17_273 hs278 hs346 hhhhc1_3_5_398 hhhhc6_3_5_398 hhhlo17_11_398 hhhhi17_11_398
      refine own_go (T' := T24) (g' := (mkF m 427 #[.val (.int p1), .val (.int p2), .val (.int p3), .val (.int p4), .val (.int p5), .val (.int j1), .val (.int j2), .val (.int j3), .val (.int j4), .val (.int j5), .val (.int j7), .val (.ref b9), .val (.int j11), .val (.int (0 : Int32)), .val (.int (0 : Int32)), .val (.ref b12_0), .val (.int (1 : Int32)), .val (.int j19), .val (.int j21)] [(.int (1 : Int32))])) (fun t k => ?_) ?_
      · show Steps p.tables e below (T24.setTop (mkF m 415 #[.val (.int p1), .val (.int p2), .val (.int p3), .val (.int p4), .val (.int p5), .val (.int j1), .val (.int j2), .val (.int j3), .val (.int j4), .val (.int j5), .val (.int j7), .val (.ref b9), .val (.int j11), .val (.int (0 : Int32)), .val (.int (0 : Int32)), .val (.ref b12_0), .val (.int (1 : Int32)), .val (.int j19), .val (.int j21)] [(.int j21), (.int (r_7 j4 (131072 : Int32) (u_11_w_words_a1_fn j3 (131072 : Int32) (fun _ => 0) (0 : Int32))))])) _
        refine XS.icmpNo X24.here hx rfl (hb hby at_415) rfl (teq hs415).2 ?_
        show Steps p.tables e below (T24.setTop (mkF m 418 #[.val (.int p1), .val (.int p2), .val (.int p3), .val (.int p4), .val (.int p5), .val (.int j1), .val (.int j2), .val (.int j3), .val (.int j4), .val (.int j5), .val (.int j7), .val (.ref b9), .val (.int j11), .val (.int (0 : Int32)), .val (.int (0 : Int32)), .val (.ref b12_0), .val (.int (1 : Int32)), .val (.int j19), .val (.int j21)] [])) _
        refine XS.iconst X24.here hx rfl (hb hby at_418) ?_
        show Steps p.tables e below (T24.setTop (mkF m 419 #[.val (.int p1), .val (.int p2), .val (.int p3), .val (.int p4), .val (.int p5), .val (.int j1), .val (.int j2), .val (.int j3), .val (.int j4), .val (.int j5), .val (.int j7), .val (.ref b9), .val (.int j11), .val (.int (0 : Int32)), .val (.int (0 : Int32)), .val (.ref b12_0), .val (.int (1 : Int32)), .val (.int j19), .val (.int j21)] [(.int (1 : Int32))])) _
        refine XS.goto X24.here hx rfl (pc0 := 419) (pc' := 423) rfl (hb hby at_419) (by decide) (by decide) ?_
        show Steps p.tables e below (T24.setTop (mkF m 423 #[.val (.int p1), .val (.int p2), .val (.int p3), .val (.int p4), .val (.int p5), .val (.int j1), .val (.int j2), .val (.int j3), .val (.int j4), .val (.int j5), .val (.int j7), .val (.ref b9), .val (.int j11), .val (.int (0 : Int32)), .val (.int (0 : Int32)), .val (.ref b12_0), .val (.int (1 : Int32)), .val (.int j19), .val (.int j21)] [(.int (1 : Int32))])) _
        refine XS.istore X24.here hx rfl (hb hby at_423) rfl (l' := #[.val (.int p1), .val (.int p2), .val (.int p3), .val (.int p4), .val (.int p5), .val (.int j1), .val (.int j2), .val (.int j3), .val (.int j4), .val (.int j5), .val (.int j7), .val (.ref b9), .val (.int j11), .val (.int (0 : Int32)), .val (.int (0 : Int32)), .val (.ref b12_0), .val (.int (1 : Int32)), .val (.int j19), .val (.int j21)]) rfl ?_
        show Steps p.tables e below (T24.setTop (mkF m 425 #[.val (.int p1), .val (.int p2), .val (.int p3), .val (.int p4), .val (.int p5), .val (.int j1), .val (.int j2), .val (.int j3), .val (.int j4), .val (.int j5), .val (.int j7), .val (.ref b9), .val (.int j11), .val (.int (0 : Int32)), .val (.int (0 : Int32)), .val (.ref b12_0), .val (.int (1 : Int32)), .val (.int j19), .val (.int j21)] [])) _
        refine XS.iload X24.here hx rfl (hb hby at_425) rfl ?_
        exact k
      obtain ⟨fs, hr, hrun, hended, hW, hsame⟩ := X24.leave (v := some (.int (1 : Int32))) (fun h => by rw [Bd.returns] at h; cases h)
      refine ⟨_, _, ?_, hrun, hended, _, _, rfl, ?_, ⟨_, rfl⟩, hW, hsame.mono (by decide) (by decide)⟩
      · exact retN X24 hx (t := .boolean) Bd.returns (by simp) (hb hby at_427) hr
      · show Q0 Z p1 p2 p3 p4 p5 h0 n0 _ T24.heap _
        rw [e24]
        exact ⟨rfl, NN⟩
    · skip
      refine own_go (T' := T10) (g' := (mkF m 82 #[.val (.int p1), .val (.int p2), .val (.int p3), .val (.int p4), .val (.int p5), .val (.int j1), .val (.int j2), .val (.int j3), .val (.int j4), .val (.int j5), .val (.int j7), .val (.ref b9), .unset, .unset, .unset, .unset, .unset, .unset, .unset] [(.int j2), (.ref b9)])) (fun t k => ?_) ?_
      · show Steps p.tables e below (T10.setTop (mkF m 75 #[.val (.int p1), .val (.int p2), .val (.int p3), .val (.int p4), .val (.int p5), .val (.int j1), .val (.int j2), .val (.int j3), .val (.int j4), .val (.int j5), .val (.int j7), .val (.ref b9), .unset, .unset, .unset, .unset, .unset, .unset, .unset] [(.int j7)])) _
        refine XS.ifNo X10.here hx rfl (hb hby at_75) rfl ((if0 _ _).trans (feq hc75_4).1) ?_
        show Steps p.tables e below (T10.setTop (mkF m 78 #[.val (.int p1), .val (.int p2), .val (.int p3), .val (.int p4), .val (.int p5), .val (.int j1), .val (.int j2), .val (.int j3), .val (.int j4), .val (.int j5), .val (.int j7), .val (.ref b9), .unset, .unset, .unset, .unset, .unset, .unset, .unset] [])) _
        refine XS.aload X10.here hx rfl (hb hby at_78) rfl rfl ?_
        show Steps p.tables e below (T10.setTop (mkF m 80 #[.val (.int p1), .val (.int p2), .val (.int p3), .val (.int p4), .val (.int p5), .val (.int j1), .val (.int j2), .val (.int j3), .val (.int j4), .val (.int j5), .val (.int j7), .val (.ref b9), .unset, .unset, .unset, .unset, .unset, .unset, .unset] [(.ref b9)])) _
        refine XS.iload X10.here hx rfl (hb hby at_80) rfl ?_
        exact k
      have hhhhc1_3_5_82 : ¬ (j2 < (0 : Int32)) := own_at_hhhhc1_3_5_82_tf p2 p5 j2 j5 j7 hj2 hj5 hj7 hc63_3 hc75_4
      have hhhhc6_3_5_82 : j2 < (131072 : Int32) := own_at_hhhhc6_3_5_82_tf p2 p5 j2 j5 j7 hj2 hj5 hj7 hc63_3 hc75_4 hhhhc1_3_5_82
      have hhhlo17_11_82 : ¬ ((j2 / (64 : Int32)) < (0 : Int32)) := own_at_hhhlo17_11_82_tf p2 p5 j2 j5 j7 hj2 hj5 hj7 hc63_3 hc75_4 hhhhc1_3_5_82 hhhhc6_3_5_82
      have hhhhi17_11_82 : (j2 / (64 : Int32)) < (2048 : Int32) := own_at_hhhhi17_11_82_tf p2 p5 j2 j5 j7 hj2 hj5 hj7 hc63_3 hc75_4 hhhhc1_3_5_82 hhhhc6_3_5_82 hhhlo17_11_82
      obtain ⟨cq25, kq25, q25a, q25b, q25c⟩ := isOf hZ rfl E_b9
      obtain ⟨_, _, ⟨T25, L25, k25, n25⟩, -, X25, ⟨Lc25, hQ25, l25, y25, z25⟩, st25⟩ := X10.virtualBack hx (y := (⟨"com/example/capd/capd/status/Bitstring", "set", "(I)V"⟩ : MethodName)) (z := (⟨"com/example/capd/capd/status/Bitstring", "set", "(I)V"⟩ : MethodName)) hown (mvT hZ (hw _ (List.mem_of_getElem? (i := 64) rfl))) (mvT hZ (hw _ (List.mem_of_getElem? (i := 65) rfl))) (notFace_of_selects (args := #[]) (mvT hZ (hw _ (List.mem_of_getElem? (i := 67) rfl)))) (mvT hZ (hw _ (List.mem_of_getElem? (i := 67) rfl))) (mvT hZ (hw _ (List.mem_of_getElem? (i := 66) rfl))) (by decide) (backOf (W := 0) (rm11 l Z a0 hw [] b9 j2 (131072 : Int32) b10_0 k10_1 (fun _ => 0) (0 : Int32) T10.heap n0 Z0 F_b9_size hhhhc1_3_5_82 hhhhc6_3_5_82 hhhhc1_3_5_82 hhhhc6_3_5_82 F_b9_words V_b10_0 hhhlo17_11_82 hhhhi17_11_82 E_b9 hhhlo17_11_82 hhhhi17_11_82 hhhlo17_11_82 hhhhi17_11_82 ne_b9_b10_0 g_b10_0 F_b9_count g_b9) hZ (hw _ (List.mem_of_getElem? (i := 68) rfl)) (hw _ (List.mem_of_getElem? (i := 3) rfl)) (by decide) (by decide)) q25a q25c (g := (mkF m 82 #[.val (.int p1), .val (.int p2), .val (.int p3), .val (.int p4), .val (.int p5), .val (.int j1), .val (.int j2), .val (.int j3), .val (.int j4), .val (.int j5), .val (.int j7), .val (.ref b9), .unset, .unset, .unset, .unset, .unset, .unset, .unset] [(.int j2), (.ref b9)])) rfl (by rw [hml]; rfl) (Steps.refl _) (argsL := [(.int j2)]) (rest := []) (lenOf pd_9 rfl) rfl (by show 2 * 0 + _ ≤ _; exact Nat.le_of_eq rfl) (hb hby at_82) (fun _ _ => ⟨rfl, rfl, (by decide : 2 + 0 ≤ _), (by decide : 2051 + 0 ≤ _)⟩)
      dsimp only [Pt.U, Pt.locs, Pt.cells, Pt.slots] at X25 l25 y25 z25 st25 hQ25
      subst l25 y25 z25
      obtain ⟨rfl, N25q, K25, Q25_0, Q25_1, Q25_2, Q25_3, Q25_4⟩ := hQ25
      have E_b10_0 := E_b10_0.keep K25
      have V_b10_0 := Q25_0
      have E_b9 := Q25_1
      have F_b9_size := Q25_2
      have F_b9_words := Q25_3
      have F_b9_count := Q25_4
      have Z0 := Nat.le_trans Z0 K25.1
      have KK := KK.trans K25 (allS (Or.inr sz_b10_0) (allS (Or.inr sz_b9) all0))
      have NN := Fr.app NN N25q
      refine own_go (fun t k => st25.trans k) ?_
      show own_Go p.tables e below _ T25 (mkF m 85 #[.val (.int p1), .val (.int p2), .val (.int p3), .val (.int p4), .val (.int p5), .val (.int j1), .val (.int j2), .val (.int j3), .val (.int j4), .val (.int j5), .val (.int j7), .val (.ref b9), .unset, .unset, .unset, .unset, .unset, .unset, .unset] [])
      refine own_go (T' := T25) (g' := (mkF m 87 #[.val (.int p1), .val (.int p2), .val (.int p3), .val (.int p4), .val (.int p5), .val (.int j1), .val (.int j2), .val (.int j3), .val (.int j4), .val (.int j5), .val (.int j7), .val (.ref b9), .unset, .unset, .unset, .unset, .unset, .unset, .unset] [(.int j5)])) (fun t k => ?_) ?_
      · show Steps p.tables e below (T25.setTop (mkF m 85 #[.val (.int p1), .val (.int p2), .val (.int p3), .val (.int p4), .val (.int p5), .val (.int j1), .val (.int j2), .val (.int j3), .val (.int j4), .val (.int j5), .val (.int j7), .val (.ref b9), .unset, .unset, .unset, .unset, .unset, .unset, .unset] [])) _
        refine XS.iload X25.here hx rfl (hb hby at_85) rfl ?_
        exact k
      refine own_go (T' := T25) (g' := (mkF m 97 #[.val (.int p1), .val (.int p2), .val (.int p3), .val (.int p4), .val (.int p5), .val (.int j1), .val (.int j2), .val (.int j3), .val (.int j4), .val (.int j5), .val (.int j7), .val (.ref b9), .unset, .unset, .unset, .unset, .unset, .unset, .unset] [(.int j7), (.int (0 : Int32))])) (fun t k => ?_) ?_
      · show Steps p.tables e below (T25.setTop (mkF m 87 #[.val (.int p1), .val (.int p2), .val (.int p3), .val (.int p4), .val (.int p5), .val (.int j1), .val (.int j2), .val (.int j3), .val (.int j4), .val (.int j5), .val (.int j7), .val (.ref b9), .unset, .unset, .unset, .unset, .unset, .unset, .unset] [(.int j5)])) _
        refine XS.ifYes X25.here hx rfl (pc0 := 87) (pc' := 94) rfl (hb hby at_87) rfl ((if0 _ _).trans (teq hc63_3).1) (by decide) (by decide) ?_
        show Steps p.tables e below (T25.setTop (mkF m 94 #[.val (.int p1), .val (.int p2), .val (.int p3), .val (.int p4), .val (.int p5), .val (.int j1), .val (.int j2), .val (.int j3), .val (.int j4), .val (.int j5), .val (.int j7), .val (.ref b9), .unset, .unset, .unset, .unset, .unset, .unset, .unset] [])) _
        refine XS.iconst X25.here hx rfl (hb hby at_94) ?_
        show Steps p.tables e below (T25.setTop (mkF m 95 #[.val (.int p1), .val (.int p2), .val (.int p3), .val (.int p4), .val (.int p5), .val (.int j1), .val (.int j2), .val (.int j3), .val (.int j4), .val (.int j5), .val (.int j7), .val (.ref b9), .unset, .unset, .unset, .unset, .unset, .unset, .unset] [(.int (0 : Int32))])) _
        refine XS.iload X25.here hx rfl (hb hby at_95) rfl ?_
        exact k
      refine own_go (T' := T25) (g' := (mkF m 102 #[.val (.int p1), .val (.int p2), .val (.int p3), .val (.int p4), .val (.int p5), .val (.int j1), .val (.int j2), .val (.int j3), .val (.int j4), .val (.int j5), .val (.int j7), .val (.ref b9), .unset, .unset, .unset, .unset, .unset, .unset, .unset] [(.int j5), (.int (0 : Int32))])) (fun t k => ?_) ?_
      · show Steps p.tables e below (T25.setTop (mkF m 97 #[.val (.int p1), .val (.int p2), .val (.int p3), .val (.int p4), .val (.int p5), .val (.int j1), .val (.int j2), .val (.int j3), .val (.int j4), .val (.int j5), .val (.int j7), .val (.ref b9), .unset, .unset, .unset, .unset, .unset, .unset, .unset] [(.int j7), (.int (0 : Int32))])) _
        refine XS.ifNo X25.here hx rfl (hb hby at_97) rfl ((if0 _ _).trans (feq hc75_4).1) ?_
        show Steps p.tables e below (T25.setTop (mkF m 100 #[.val (.int p1), .val (.int p2), .val (.int p3), .val (.int p4), .val (.int p5), .val (.int j1), .val (.int j2), .val (.int j3), .val (.int j4), .val (.int j5), .val (.int j7), .val (.ref b9), .unset, .unset, .unset, .unset, .unset, .unset, .unset] [(.int (0 : Int32))])) _
        refine XS.iload X25.here hx rfl (hb hby at_100) rfl ?_
        exact k
      refine own_go (T' := T25) (g' := (mkF m 120 #[.val (.int p1), .val (.int p2), .val (.int p3), .val (.int p4), .val (.int p5), .val (.int j1), .val (.int j2), .val (.int j3), .val (.int j4), .val (.int j5), .val (.int j7), .val (.ref b9), .val (.int ((0 : Int32) + (1 : Int32))), .unset, .unset, .unset, .unset, .unset, .unset] [])) (fun t k => ?_) ?_
      · show Steps p.tables e below (T25.setTop (mkF m 102 #[.val (.int p1), .val (.int p2), .val (.int p3), .val (.int p4), .val (.int p5), .val (.int j1), .val (.int j2), .val (.int j3), .val (.int j4), .val (.int j5), .val (.int j7), .val (.ref b9), .unset, .unset, .unset, .unset, .unset, .unset, .unset] [(.int j5), (.int (0 : Int32))])) _
        refine XS.ifYes X25.here hx rfl (pc0 := 102) (pc' := 112) rfl (hb hby at_102) rfl ((if0 _ _).trans (teq hc63_3).1) (by decide) (by decide) ?_
        show Steps p.tables e below (T25.setTop (mkF m 112 #[.val (.int p1), .val (.int p2), .val (.int p3), .val (.int p4), .val (.int p5), .val (.int j1), .val (.int j2), .val (.int j3), .val (.int j4), .val (.int j5), .val (.int j7), .val (.ref b9), .unset, .unset, .unset, .unset, .unset, .unset, .unset] [(.int (0 : Int32))])) _
        refine XS.iconst X25.here hx rfl (hb hby at_112) ?_
        show Steps p.tables e below (T25.setTop (mkF m 113 #[.val (.int p1), .val (.int p2), .val (.int p3), .val (.int p4), .val (.int p5), .val (.int j1), .val (.int j2), .val (.int j3), .val (.int j4), .val (.int j5), .val (.int j7), .val (.ref b9), .unset, .unset, .unset, .unset, .unset, .unset, .unset] [(.int (1 : Int32)), (.int (0 : Int32))])) _
        refine XS.goto X25.here hx rfl (pc0 := 113) (pc' := 117) rfl (hb hby at_113) (by decide) (by decide) ?_
        show Steps p.tables e below (T25.setTop (mkF m 117 #[.val (.int p1), .val (.int p2), .val (.int p3), .val (.int p4), .val (.int p5), .val (.int j1), .val (.int j2), .val (.int j3), .val (.int j4), .val (.int j5), .val (.int j7), .val (.ref b9), .unset, .unset, .unset, .unset, .unset, .unset, .unset] [(.int (1 : Int32)), (.int (0 : Int32))])) _
        refine XS.iadd X25.here hx rfl (hb hby at_117) rfl ?_
        show Steps p.tables e below (T25.setTop (mkF m 118 #[.val (.int p1), .val (.int p2), .val (.int p3), .val (.int p4), .val (.int p5), .val (.int j1), .val (.int j2), .val (.int j3), .val (.int j4), .val (.int j5), .val (.int j7), .val (.ref b9), .unset, .unset, .unset, .unset, .unset, .unset, .unset] [(.int ((0 : Int32) + (1 : Int32)))])) _
        refine XS.istore X25.here hx rfl (hb hby at_118) rfl (l' := #[.val (.int p1), .val (.int p2), .val (.int p3), .val (.int p4), .val (.int p5), .val (.int j1), .val (.int j2), .val (.int j3), .val (.int j4), .val (.int j5), .val (.int j7), .val (.ref b9), .val (.int ((0 : Int32) + (1 : Int32))), .unset, .unset, .unset, .unset, .unset, .unset]) rfl ?_
        exact k
      show own_Go p.tables e below _ T25 (mkF m 120 #[.val (.int p1), .val (.int p2), .val (.int p3), .val (.int p4), .val (.int p5), .val (.int j1), .val (.int j2), .val (.int j3), .val (.int j4), .val (.int j5), .val (.int j7), .val (.ref b9), .val (.int ((0 : Int32) + (1 : Int32))), .unset, .unset, .unset, .unset, .unset, .unset] [])
      obtain ⟨j26, hj26⟩ : ∃ z : Int32, z = ((0 : Int32) + (1 : Int32)) := ⟨_, rfl⟩
      rw [← hj26]
      show own_Go p.tables e below _ T25 (mkF m 120 #[.val (.int p1), .val (.int p2), .val (.int p3), .val (.int p4), .val (.int p5), .val (.int j1), .val (.int j2), .val (.int j3), .val (.int j4), .val (.int j5), .val (.int j7), .val (.ref b9), .val (.int j26), .unset, .unset, .unset, .unset, .unset, .unset] [])
      refine own_go (T' := T25) (g' := (mkF m 122 #[.val (.int p1), .val (.int p2), .val (.int p3), .val (.int p4), .val (.int p5), .val (.int j1), .val (.int j2), .val (.int j3), .val (.int j4), .val (.int j5), .val (.int j7), .val (.ref b9), .val (.int j26), .unset, .unset, .unset, .unset, .unset, .unset] [(.int j5)])) (fun t k => ?_) ?_
      · show Steps p.tables e below (T25.setTop (mkF m 120 #[.val (.int p1), .val (.int p2), .val (.int p3), .val (.int p4), .val (.int p5), .val (.int j1), .val (.int j2), .val (.int j3), .val (.int j4), .val (.int j5), .val (.int j7), .val (.ref b9), .val (.int j26), .unset, .unset, .unset, .unset, .unset, .unset] [])) _
        refine XS.iload X25.here hx rfl (hb hby at_120) rfl ?_
        exact k
      refine own_go (T' := T25) (g' := (mkF m 127 #[.val (.int p1), .val (.int p2), .val (.int p3), .val (.int p4), .val (.int p5), .val (.int j1), .val (.int j2), .val (.int j3), .val (.int j4), .val (.int j5), .val (.int j7), .val (.ref b9), .val (.int j26), .unset, .unset, .unset, .unset, .unset, .unset] [(.int j7)])) (fun t k => ?_) ?_
      · show Steps p.tables e below (T25.setTop (mkF m 122 #[.val (.int p1), .val (.int p2), .val (.int p3), .val (.int p4), .val (.int p5), .val (.int j1), .val (.int j2), .val (.int j3), .val (.int j4), .val (.int j5), .val (.int j7), .val (.ref b9), .val (.int j26), .unset, .unset, .unset, .unset, .unset, .unset] [(.int j5)])) _
        refine XS.ifNo X25.here hx rfl (hb hby at_122) rfl ((if0 _ _).trans (teq hc63_3).2) ?_
        show Steps p.tables e below (T25.setTop (mkF m 125 #[.val (.int p1), .val (.int p2), .val (.int p3), .val (.int p4), .val (.int p5), .val (.int j1), .val (.int j2), .val (.int j3), .val (.int j4), .val (.int j5), .val (.int j7), .val (.ref b9), .val (.int j26), .unset, .unset, .unset, .unset, .unset, .unset] [])) _
        refine XS.iload X25.here hx rfl (hb hby at_125) rfl ?_
        exact k
      refine own_go (T' := T25) (g' := (mkF m 134 #[.val (.int p1), .val (.int p2), .val (.int p3), .val (.int p4), .val (.int p5), .val (.int j1), .val (.int j2), .val (.int j3), .val (.int j4), .val (.int j5), .val (.int j7), .val (.ref b9), .val (.int j26), .unset, .unset, .unset, .unset, .unset, .unset] [(.int j2), (.int j1)])) (fun t k => ?_) ?_
      · show Steps p.tables e below (T25.setTop (mkF m 127 #[.val (.int p1), .val (.int p2), .val (.int p3), .val (.int p4), .val (.int p5), .val (.int j1), .val (.int j2), .val (.int j3), .val (.int j4), .val (.int j5), .val (.int j7), .val (.ref b9), .val (.int j26), .unset, .unset, .unset, .unset, .unset, .unset] [(.int j7)])) _
        refine XS.ifNo X25.here hx rfl (hb hby at_127) rfl ((if0 _ _).trans (feq hc75_4).1) ?_
        show Steps p.tables e below (T25.setTop (mkF m 130 #[.val (.int p1), .val (.int p2), .val (.int p3), .val (.int p4), .val (.int p5), .val (.int j1), .val (.int j2), .val (.int j3), .val (.int j4), .val (.int j5), .val (.int j7), .val (.ref b9), .val (.int j26), .unset, .unset, .unset, .unset, .unset, .unset] [])) _
        refine XS.iload X25.here hx rfl (hb hby at_130) rfl ?_
        show Steps p.tables e below (T25.setTop (mkF m 132 #[.val (.int p1), .val (.int p2), .val (.int p3), .val (.int p4), .val (.int p5), .val (.int j1), .val (.int j2), .val (.int j3), .val (.int j4), .val (.int j5), .val (.int j7), .val (.ref b9), .val (.int j26), .unset, .unset, .unset, .unset, .unset, .unset] [(.int j1)])) _
        refine XS.iload X25.here hx rfl (hb hby at_132) rfl ?_
        exact k
      obtain ⟨j27, hj27, st28⟩ : ∃ (j27 : Int32), j27 = (if j1 = j2 then (1 : Int32) else (0 : Int32)) ∧ ∀ t, Steps p.tables e below (T25.setTop (mkF m 142 #[.val (.int p1), .val (.int p2), .val (.int p3), .val (.int p4), .val (.int p5), .val (.int j1), .val (.int j2), .val (.int j3), .val (.int j4), .val (.int j5), .val (.int j7), .val (.ref b9), .val (.int j26), .unset, .unset, .unset, .unset, .unset, .unset] [(.int j27)])) t → Steps p.tables e below (T25.setTop (mkF m 134 #[.val (.int p1), .val (.int p2), .val (.int p3), .val (.int p4), .val (.int p5), .val (.int j1), .val (.int j2), .val (.int j3), .val (.int j4), .val (.int j5), .val (.int j7), .val (.ref b9), .val (.int j26), .unset, .unset, .unset, .unset, .unset, .unset] [(.int j2), (.int j1)])) t := by
        by_cases hc134_6 : j1 = j2
        · skip
          refine ⟨(1 : Int32), (by simp only [if_pos hc134_6]), fun t k => ?_⟩
          show Steps p.tables e below (T25.setTop (mkF m 134 #[.val (.int p1), .val (.int p2), .val (.int p3), .val (.int p4), .val (.int p5), .val (.int j1), .val (.int j2), .val (.int j3), .val (.int j4), .val (.int j5), .val (.int j7), .val (.ref b9), .val (.int j26), .unset, .unset, .unset, .unset, .unset, .unset] [(.int j2), (.int j1)])) _
          refine XS.icmpNo X25.here hx rfl (hb hby at_134) rfl (teq hc134_6).2 ?_
          show Steps p.tables e below (T25.setTop (mkF m 137 #[.val (.int p1), .val (.int p2), .val (.int p3), .val (.int p4), .val (.int p5), .val (.int j1), .val (.int j2), .val (.int j3), .val (.int j4), .val (.int j5), .val (.int j7), .val (.ref b9), .val (.int j26), .unset, .unset, .unset, .unset, .unset, .unset] [])) _
          refine XS.iconst X25.here hx rfl (hb hby at_137) ?_
          show Steps p.tables e below (T25.setTop (mkF m 138 #[.val (.int p1), .val (.int p2), .val (.int p3), .val (.int p4), .val (.int p5), .val (.int j1), .val (.int j2), .val (.int j3), .val (.int j4), .val (.int j5), .val (.int j7), .val (.ref b9), .val (.int j26), .unset, .unset, .unset, .unset, .unset, .unset] [(.int (1 : Int32))])) _
          refine XS.goto X25.here hx rfl (pc0 := 138) (pc' := 142) rfl (hb hby at_138) (by decide) (by decide) ?_
          exact k
        · skip
          refine ⟨(0 : Int32), (by simp only [if_neg hc134_6]), fun t k => ?_⟩
          show Steps p.tables e below (T25.setTop (mkF m 134 #[.val (.int p1), .val (.int p2), .val (.int p3), .val (.int p4), .val (.int p5), .val (.int j1), .val (.int j2), .val (.int j3), .val (.int j4), .val (.int j5), .val (.int j7), .val (.ref b9), .val (.int j26), .unset, .unset, .unset, .unset, .unset, .unset] [(.int j2), (.int j1)])) _
          refine XS.icmpYes X25.here hx rfl (pc0 := 134) (pc' := 141) rfl (hb hby at_134) rfl (feq hc134_6).2 (by decide) (by decide) ?_
          show Steps p.tables e below (T25.setTop (mkF m 141 #[.val (.int p1), .val (.int p2), .val (.int p3), .val (.int p4), .val (.int p5), .val (.int j1), .val (.int j2), .val (.int j3), .val (.int j4), .val (.int j5), .val (.int j7), .val (.ref b9), .val (.int j26), .unset, .unset, .unset, .unset, .unset, .unset] [])) _
          refine XS.iconst X25.here hx rfl (hb hby at_141) ?_
          exact k
      refine own_go st28 ?_
      show own_Go p.tables e below _ T25 (mkF m 142 #[.val (.int p1), .val (.int p2), .val (.int p3), .val (.int p4), .val (.int p5), .val (.int j1), .val (.int j2), .val (.int j3), .val (.int j4), .val (.int j5), .val (.int j7), .val (.ref b9), .val (.int j26), .unset, .unset, .unset, .unset, .unset, .unset] [(.int j27)])
      refine own_go (T' := T25) (g' := (mkF m 146 #[.val (.int p1), .val (.int p2), .val (.int p3), .val (.int p4), .val (.int p5), .val (.int j1), .val (.int j2), .val (.int j3), .val (.int j4), .val (.int j5), .val (.int j7), .val (.ref b9), .val (.int j26), .val (.int j27), .unset, .unset, .unset, .unset, .unset] [(.int j5)])) (fun t k => ?_) ?_
      · show Steps p.tables e below (T25.setTop (mkF m 142 #[.val (.int p1), .val (.int p2), .val (.int p3), .val (.int p4), .val (.int p5), .val (.int j1), .val (.int j2), .val (.int j3), .val (.int j4), .val (.int j5), .val (.int j7), .val (.ref b9), .val (.int j26), .unset, .unset, .unset, .unset, .unset, .unset] [(.int j27)])) _
        refine XS.istore X25.here hx rfl (hb hby at_142) rfl (l' := #[.val (.int p1), .val (.int p2), .val (.int p3), .val (.int p4), .val (.int p5), .val (.int j1), .val (.int j2), .val (.int j3), .val (.int j4), .val (.int j5), .val (.int j7), .val (.ref b9), .val (.int j26), .val (.int j27), .unset, .unset, .unset, .unset, .unset]) rfl ?_
        show Steps p.tables e below (T25.setTop (mkF m 144 #[.val (.int p1), .val (.int p2), .val (.int p3), .val (.int p4), .val (.int p5), .val (.int j1), .val (.int j2), .val (.int j3), .val (.int j4), .val (.int j5), .val (.int j7), .val (.ref b9), .val (.int j26), .val (.int j27), .unset, .unset, .unset, .unset, .unset] [])) _
        refine XS.iload X25.here hx rfl (hb hby at_144) rfl ?_
        exact k
      refine own_go (T' := T25) (g' := (mkF m 158 #[.val (.int p1), .val (.int p2), .val (.int p3), .val (.int p4), .val (.int p5), .val (.int j1), .val (.int j2), .val (.int j3), .val (.int j4), .val (.int j5), .val (.int j7), .val (.ref b9), .val (.int j26), .val (.int j27), .unset, .unset, .unset, .unset, .unset] [(.int j7)])) (fun t k => ?_) ?_
      · show Steps p.tables e below (T25.setTop (mkF m 146 #[.val (.int p1), .val (.int p2), .val (.int p3), .val (.int p4), .val (.int p5), .val (.int j1), .val (.int j2), .val (.int j3), .val (.int j4), .val (.int j5), .val (.int j7), .val (.ref b9), .val (.int j26), .val (.int j27), .unset, .unset, .unset, .unset, .unset] [(.int j5)])) _
        refine XS.ifYes X25.here hx rfl (pc0 := 146) (pc' := 156) rfl (hb hby at_146) rfl ((if0 _ _).trans (teq hc63_3).1) (by decide) (by decide) ?_
        show Steps p.tables e below (T25.setTop (mkF m 156 #[.val (.int p1), .val (.int p2), .val (.int p3), .val (.int p4), .val (.int p5), .val (.int j1), .val (.int j2), .val (.int j3), .val (.int j4), .val (.int j5), .val (.int j7), .val (.ref b9), .val (.int j26), .val (.int j27), .unset, .unset, .unset, .unset, .unset] [])) _
        refine XS.iload X25.here hx rfl (hb hby at_156) rfl ?_
        exact k
      refine own_go (T' := T25) (g' := (mkF m 165 #[.val (.int p1), .val (.int p2), .val (.int p3), .val (.int p4), .val (.int p5), .val (.int j1), .val (.int j2), .val (.int j3), .val (.int j4), .val (.int j5), .val (.int j7), .val (.ref b9), .val (.int j26), .val (.int j27), .unset, .unset, .unset, .unset, .unset] [(.int j2), (.int j3)])) (fun t k => ?_) ?_
      · show Steps p.tables e below (T25.setTop (mkF m 158 #[.val (.int p1), .val (.int p2), .val (.int p3), .val (.int p4), .val (.int p5), .val (.int j1), .val (.int j2), .val (.int j3), .val (.int j4), .val (.int j5), .val (.int j7), .val (.ref b9), .val (.int j26), .val (.int j27), .unset, .unset, .unset, .unset, .unset] [(.int j7)])) _
        refine XS.ifNo X25.here hx rfl (hb hby at_158) rfl ((if0 _ _).trans (feq hc75_4).1) ?_
        show Steps p.tables e below (T25.setTop (mkF m 161 #[.val (.int p1), .val (.int p2), .val (.int p3), .val (.int p4), .val (.int p5), .val (.int j1), .val (.int j2), .val (.int j3), .val (.int j4), .val (.int j5), .val (.int j7), .val (.ref b9), .val (.int j26), .val (.int j27), .unset, .unset, .unset, .unset, .unset] [])) _
        refine XS.iload X25.here hx rfl (hb hby at_161) rfl ?_
        show Steps p.tables e below (T25.setTop (mkF m 163 #[.val (.int p1), .val (.int p2), .val (.int p3), .val (.int p4), .val (.int p5), .val (.int j1), .val (.int j2), .val (.int j3), .val (.int j4), .val (.int j5), .val (.int j7), .val (.ref b9), .val (.int j26), .val (.int j27), .unset, .unset, .unset, .unset, .unset] [(.int j3)])) _
        refine XS.iload X25.here hx rfl (hb hby at_163) rfl ?_
        exact k
      obtain ⟨j29, hj29, st30⟩ : ∃ (j29 : Int32), j29 = (if j3 = j2 then (1 : Int32) else (0 : Int32)) ∧ ∀ t, Steps p.tables e below (T25.setTop (mkF m 173 #[.val (.int p1), .val (.int p2), .val (.int p3), .val (.int p4), .val (.int p5), .val (.int j1), .val (.int j2), .val (.int j3), .val (.int j4), .val (.int j5), .val (.int j7), .val (.ref b9), .val (.int j26), .val (.int j27), .unset, .unset, .unset, .unset, .unset] [(.int j29)])) t → Steps p.tables e below (T25.setTop (mkF m 165 #[.val (.int p1), .val (.int p2), .val (.int p3), .val (.int p4), .val (.int p5), .val (.int j1), .val (.int j2), .val (.int j3), .val (.int j4), .val (.int j5), .val (.int j7), .val (.ref b9), .val (.int j26), .val (.int j27), .unset, .unset, .unset, .unset, .unset] [(.int j2), (.int j3)])) t := by
        by_cases hc165_7 : j3 = j2
        · skip
          refine ⟨(1 : Int32), (by simp only [if_pos hc165_7]), fun t k => ?_⟩
          show Steps p.tables e below (T25.setTop (mkF m 165 #[.val (.int p1), .val (.int p2), .val (.int p3), .val (.int p4), .val (.int p5), .val (.int j1), .val (.int j2), .val (.int j3), .val (.int j4), .val (.int j5), .val (.int j7), .val (.ref b9), .val (.int j26), .val (.int j27), .unset, .unset, .unset, .unset, .unset] [(.int j2), (.int j3)])) _
          refine XS.icmpNo X25.here hx rfl (hb hby at_165) rfl (teq hc165_7).2 ?_
          show Steps p.tables e below (T25.setTop (mkF m 168 #[.val (.int p1), .val (.int p2), .val (.int p3), .val (.int p4), .val (.int p5), .val (.int j1), .val (.int j2), .val (.int j3), .val (.int j4), .val (.int j5), .val (.int j7), .val (.ref b9), .val (.int j26), .val (.int j27), .unset, .unset, .unset, .unset, .unset] [])) _
          refine XS.iconst X25.here hx rfl (hb hby at_168) ?_
          show Steps p.tables e below (T25.setTop (mkF m 169 #[.val (.int p1), .val (.int p2), .val (.int p3), .val (.int p4), .val (.int p5), .val (.int j1), .val (.int j2), .val (.int j3), .val (.int j4), .val (.int j5), .val (.int j7), .val (.ref b9), .val (.int j26), .val (.int j27), .unset, .unset, .unset, .unset, .unset] [(.int (1 : Int32))])) _
          refine XS.goto X25.here hx rfl (pc0 := 169) (pc' := 173) rfl (hb hby at_169) (by decide) (by decide) ?_
          exact k
        · skip
          refine ⟨(0 : Int32), (by simp only [if_neg hc165_7]), fun t k => ?_⟩
          show Steps p.tables e below (T25.setTop (mkF m 165 #[.val (.int p1), .val (.int p2), .val (.int p3), .val (.int p4), .val (.int p5), .val (.int j1), .val (.int j2), .val (.int j3), .val (.int j4), .val (.int j5), .val (.int j7), .val (.ref b9), .val (.int j26), .val (.int j27), .unset, .unset, .unset, .unset, .unset] [(.int j2), (.int j3)])) _
          refine XS.icmpYes X25.here hx rfl (pc0 := 165) (pc' := 172) rfl (hb hby at_165) rfl (feq hc165_7).2 (by decide) (by decide) ?_
          show Steps p.tables e below (T25.setTop (mkF m 172 #[.val (.int p1), .val (.int p2), .val (.int p3), .val (.int p4), .val (.int p5), .val (.int j1), .val (.int j2), .val (.int j3), .val (.int j4), .val (.int j5), .val (.int j7), .val (.ref b9), .val (.int j26), .val (.int j27), .unset, .unset, .unset, .unset, .unset] [])) _
          refine XS.iconst X25.here hx rfl (hb hby at_172) ?_
          exact k
      refine own_go st30 ?_
      show own_Go p.tables e below _ T25 (mkF m 173 #[.val (.int p1), .val (.int p2), .val (.int p3), .val (.int p4), .val (.int p5), .val (.int j1), .val (.int j2), .val (.int j3), .val (.int j4), .val (.int j5), .val (.int j7), .val (.ref b9), .val (.int j26), .val (.int j27), .unset, .unset, .unset, .unset, .unset] [(.int j29)])
      refine own_go (T' := T25) (g' := (mkF m 177 #[.val (.int p1), .val (.int p2), .val (.int p3), .val (.int p4), .val (.int p5), .val (.int j1), .val (.int j2), .val (.int j3), .val (.int j4), .val (.int j5), .val (.int j7), .val (.ref b9), .val (.int j26), .val (.int j27), .val (.int j29), .unset, .unset, .unset, .unset] [(.ref b9)])) (fun t k => ?_) ?_
      · show Steps p.tables e below (T25.setTop (mkF m 173 #[.val (.int p1), .val (.int p2), .val (.int p3), .val (.int p4), .val (.int p5), .val (.int j1), .val (.int j2), .val (.int j3), .val (.int j4), .val (.int j5), .val (.int j7), .val (.ref b9), .val (.int j26), .val (.int j27), .unset, .unset, .unset, .unset, .unset] [(.int j29)])) _
        refine XS.istore X25.here hx rfl (hb hby at_173) rfl (l' := #[.val (.int p1), .val (.int p2), .val (.int p3), .val (.int p4), .val (.int p5), .val (.int j1), .val (.int j2), .val (.int j3), .val (.int j4), .val (.int j5), .val (.int j7), .val (.ref b9), .val (.int j26), .val (.int j27), .val (.int j29), .unset, .unset, .unset, .unset]) rfl ?_
        show Steps p.tables e below (T25.setTop (mkF m 175 #[.val (.int p1), .val (.int p2), .val (.int p3), .val (.int p4), .val (.int p5), .val (.int j1), .val (.int j2), .val (.int j3), .val (.int j4), .val (.int j5), .val (.int j7), .val (.ref b9), .val (.int j26), .val (.int j27), .val (.int j29), .unset, .unset, .unset, .unset] [])) _
        refine XS.aload X25.here hx rfl (hb hby at_175) rfl rfl ?_
        exact k
      obtain ⟨cq31, kq31, q31a, q31b, q31c⟩ := isOf hZ rfl E_b9
      obtain ⟨_, _, ⟨T31, L31, k31, n31⟩, -, X31, ⟨Lc31, hQ31, l31, y31, z31⟩, st31⟩ := X25.virtualBack hx (y := (⟨"com/example/capd/capd/status/Bitstring", "copy", "()Lcom/example/capd/capd/status/Bitstring;"⟩ : MethodName)) (z := (⟨"com/example/capd/capd/status/Bitstring", "copy", "()Lcom/example/capd/capd/status/Bitstring;"⟩ : MethodName)) hown (mvT hZ (hw _ (List.mem_of_getElem? (i := 21) rfl))) (mvT hZ (hw _ (List.mem_of_getElem? (i := 22) rfl))) (notFace_of_selects (args := #[]) (mvT hZ (hw _ (List.mem_of_getElem? (i := 24) rfl)))) (mvT hZ (hw _ (List.mem_of_getElem? (i := 24) rfl))) (mvT hZ (hw _ (List.mem_of_getElem? (i := 23) rfl))) (by decide) (backOf (W := 0) (rm4 l Z a0 hw [] b9 b10_0 k10_1 (u_11_w_words_a1_fn j2 (131072 : Int32) (fun _ => 0) (0 : Int32)) (131072 : Int32) (u_11_a1_count j2 (131072 : Int32) (fun _ => 0) (0 : Int32)) T25.heap n0 Z0 F_b9_words V_b10_0 E_b10_0 F_b9_size F_b9_count) hZ (hw _ (List.mem_of_getElem? (i := 25) rfl)) (hw _ (List.mem_of_getElem? (i := 3) rfl)) (by decide) (by decide)) q31a q31c (g := (mkF m 177 #[.val (.int p1), .val (.int p2), .val (.int p3), .val (.int p4), .val (.int p5), .val (.int j1), .val (.int j2), .val (.int j3), .val (.int j4), .val (.int j5), .val (.int j7), .val (.ref b9), .val (.int j26), .val (.int j27), .val (.int j29), .unset, .unset, .unset, .unset] [(.ref b9)])) rfl (by rw [hml]; rfl) (Steps.refl _) (argsL := []) (rest := []) (lenOf pd_2 rfl) rfl (by show 2 * 0 + _ ≤ _; exact Nat.le_of_eq rfl) (hb hby at_177) (fun _ _ => ⟨rfl, rfl, (by decide : 2 + 2 ≤ _), (by decide : 2051 + 2051 ≤ _)⟩)
      dsimp only [Pt.U, Pt.locs, Pt.cells, Pt.slots] at X31 l31 y31 z31 st31 hQ31
      subst l31 y31 z31
      obtain ⟨b31_0, b31_1, rfl, N31q, K31, R31_0, R31_1, R31_2, R31_3, R31_4, R31_5, R31_6, R31_7, R31_8, R31_9, R31_10⟩ := hQ31
      have ne_b9_b31_0 : b9 ≠ b31_0 := Nat.ne_of_lt (Nat.lt_of_lt_of_le E_b9.lt R31_1)
      have ne_b10_0_b31_0 : b10_0 ≠ b31_0 := Nat.ne_of_lt (Nat.lt_of_lt_of_le E_b10_0.lt R31_1)
      have ne_b9_b31_1 : b9 ≠ b31_1 := Nat.ne_of_lt (Nat.lt_of_lt_of_le E_b9.lt R31_8)
      have ne_b10_0_b31_1 : b10_0 ≠ b31_1 := Nat.ne_of_lt (Nat.lt_of_lt_of_le E_b10_0.lt R31_8)
      have E_b9 := E_b9.keep K31
      have F_b9_words := F_b9_words.keep K31 nin0
      have F_b9_size := F_b9_size.keep K31 nin0
      have F_b9_count := F_b9_count.keep K31 nin0
      have E_b10_0 := E_b10_0.keep K31
      have V_b10_0 := V_b10_0.keep K31 nin0
      have g_b31_0 := R31_0
      have sz_b31_0 : h0.size ≤ b31_0 := Nat.le_trans KK.1 R31_1
      have E_b31_0 := R31_2
      have F_b31_0_words := R31_3
      have F_b31_0_size := R31_4
      have F_b31_0_count := R31_5
      have ne_b31_0_b31_1 := R31_6
      have g_b31_1 := R31_7
      have sz_b31_1 : h0.size ≤ b31_1 := Nat.le_trans KK.1 R31_8
      have E_b31_1 := R31_9
      have V_b31_1 := R31_10
      have Z0 := Nat.le_trans Z0 K31.1
      have KK := KK.trans K31 all0
      have NN := Fr.app NN N31q
      refine own_go (fun t k => st31.trans k) ?_
      show own_Go p.tables e below _ T31 (mkF m 180 #[.val (.int p1), .val (.int p2), .val (.int p3), .val (.int p4), .val (.int p5), .val (.int j1), .val (.int j2), .val (.int j3), .val (.int j4), .val (.int j5), .val (.int j7), .val (.ref b9), .val (.int j26), .val (.int j27), .val (.int j29), .unset, .unset, .unset, .unset] [(.ref b31_0)])
      refine own_go (T' := T31) (g' := (mkF m 186 #[.val (.int p1), .val (.int p2), .val (.int p3), .val (.int p4), .val (.int p5), .val (.int j1), .val (.int j2), .val (.int j3), .val (.int j4), .val (.int j5), .val (.int j7), .val (.ref b9), .val (.int j26), .val (.int j27), .val (.int j29), .val (.ref b31_0), .unset, .unset, .unset] [(.ref b9), (.ref b31_0)])) (fun t k => ?_) ?_
      · show Steps p.tables e below (T31.setTop (mkF m 180 #[.val (.int p1), .val (.int p2), .val (.int p3), .val (.int p4), .val (.int p5), .val (.int j1), .val (.int j2), .val (.int j3), .val (.int j4), .val (.int j5), .val (.int j7), .val (.ref b9), .val (.int j26), .val (.int j27), .val (.int j29), .unset, .unset, .unset, .unset] [(.ref b31_0)])) _
        refine XS.astore X31.here hx rfl (hb hby at_180) rfl rfl (l' := #[.val (.int p1), .val (.int p2), .val (.int p3), .val (.int p4), .val (.int p5), .val (.int j1), .val (.int j2), .val (.int j3), .val (.int j4), .val (.int j5), .val (.int j7), .val (.ref b9), .val (.int j26), .val (.int j27), .val (.int j29), .val (.ref b31_0), .unset, .unset, .unset]) rfl ?_
        show Steps p.tables e below (T31.setTop (mkF m 182 #[.val (.int p1), .val (.int p2), .val (.int p3), .val (.int p4), .val (.int p5), .val (.int j1), .val (.int j2), .val (.int j3), .val (.int j4), .val (.int j5), .val (.int j7), .val (.ref b9), .val (.int j26), .val (.int j27), .val (.int j29), .val (.ref b31_0), .unset, .unset, .unset] [])) _
        refine XS.aload X31.here hx rfl (hb hby at_182) rfl rfl ?_
        show Steps p.tables e below (T31.setTop (mkF m 184 #[.val (.int p1), .val (.int p2), .val (.int p3), .val (.int p4), .val (.int p5), .val (.int j1), .val (.int j2), .val (.int j3), .val (.int j4), .val (.int j5), .val (.int j7), .val (.ref b9), .val (.int j26), .val (.int j27), .val (.int j29), .val (.ref b31_0), .unset, .unset, .unset] [(.ref b31_0)])) _
        refine XS.aload X31.here hx rfl (hb hby at_184) rfl rfl ?_
        exact k
      refine own_go (fun t k => Jvm.RoadKit.acmp (g := (mkF m 186 #[.val (.int p1), .val (.int p2), .val (.int p3), .val (.int p4), .val (.int p5), .val (.int j1), .val (.int j2), .val (.int j3), .val (.int j4), .val (.int j5), .val (.int j7), .val (.ref b9), .val (.int j26), .val (.int j27), .val (.int j29), .val (.ref b31_0), .unset, .unset, .unset] [(.ref b9), (.ref b31_0)])) X31 hx rfl rfl rfl (pc0 := 186) (pc' := 189) (same := false) rfl (hb hby at_186) rfl (decide_eq_false fun q => (Ne.symm ne_b9_b31_0) (Value.ref.inj q)) (by decide) (by decide) k) ?_
      show own_Go p.tables e below _ T31 (mkF m 189 #[.val (.int p1), .val (.int p2), .val (.int p3), .val (.int p4), .val (.int p5), .val (.int j1), .val (.int j2), .val (.int j3), .val (.int j4), .val (.int j5), .val (.int j7), .val (.ref b9), .val (.int j26), .val (.int j27), .val (.int j29), .val (.ref b31_0), .unset, .unset, .unset] [])
      refine own_go (T' := T31) (g' := (mkF m 198 #[.val (.int p1), .val (.int p2), .val (.int p3), .val (.int p4), .val (.int p5), .val (.int j1), .val (.int j2), .val (.int j3), .val (.int j4), .val (.int j5), .val (.int j7), .val (.ref b9), .val (.int j26), .val (.int j27), .val (.int j29), .val (.ref b31_0), .val (.int (1 : Int32)), .unset, .unset] [(.int (1 : Int32))])) (fun t k => ?_) ?_
      · show Steps p.tables e below (T31.setTop (mkF m 189 #[.val (.int p1), .val (.int p2), .val (.int p3), .val (.int p4), .val (.int p5), .val (.int j1), .val (.int j2), .val (.int j3), .val (.int j4), .val (.int j5), .val (.int j7), .val (.ref b9), .val (.int j26), .val (.int j27), .val (.int j29), .val (.ref b31_0), .unset, .unset, .unset] [])) _
        refine XS.iconst X31.here hx rfl (hb hby at_189) ?_
        show Steps p.tables e below (T31.setTop (mkF m 190 #[.val (.int p1), .val (.int p2), .val (.int p3), .val (.int p4), .val (.int p5), .val (.int j1), .val (.int j2), .val (.int j3), .val (.int j4), .val (.int j5), .val (.int j7), .val (.ref b9), .val (.int j26), .val (.int j27), .val (.int j29), .val (.ref b31_0), .unset, .unset, .unset] [(.int (1 : Int32))])) _
        refine XS.goto X31.here hx rfl (pc0 := 190) (pc' := 194) rfl (hb hby at_190) (by decide) (by decide) ?_
        show Steps p.tables e below (T31.setTop (mkF m 194 #[.val (.int p1), .val (.int p2), .val (.int p3), .val (.int p4), .val (.int p5), .val (.int j1), .val (.int j2), .val (.int j3), .val (.int j4), .val (.int j5), .val (.int j7), .val (.ref b9), .val (.int j26), .val (.int j27), .val (.int j29), .val (.ref b31_0), .unset, .unset, .unset] [(.int (1 : Int32))])) _
        refine XS.istore X31.here hx rfl (hb hby at_194) rfl (l' := #[.val (.int p1), .val (.int p2), .val (.int p3), .val (.int p4), .val (.int p5), .val (.int j1), .val (.int j2), .val (.int j3), .val (.int j4), .val (.int j5), .val (.int j7), .val (.ref b9), .val (.int j26), .val (.int j27), .val (.int j29), .val (.ref b31_0), .val (.int (1 : Int32)), .unset, .unset]) rfl ?_
        show Steps p.tables e below (T31.setTop (mkF m 196 #[.val (.int p1), .val (.int p2), .val (.int p3), .val (.int p4), .val (.int p5), .val (.int j1), .val (.int j2), .val (.int j3), .val (.int j4), .val (.int j5), .val (.int j7), .val (.ref b9), .val (.int j26), .val (.int j27), .val (.int j29), .val (.ref b31_0), .val (.int (1 : Int32)), .unset, .unset] [])) _
        refine XS.iload X31.here hx rfl (hb hby at_196) rfl ?_
        exact k
      refine own_go (T' := T31) (g' := (mkF m 203 #[.val (.int p1), .val (.int p2), .val (.int p3), .val (.int p4), .val (.int p5), .val (.int j1), .val (.int j2), .val (.int j3), .val (.int j4), .val (.int j5), .val (.int j7), .val (.ref b9), .val (.int j26), .val (.int j27), .val (.int j29), .val (.ref b31_0), .val (.int (1 : Int32)), .unset, .unset] [(.ref b31_0)])) (fun t k => ?_) ?_
      · show Steps p.tables e below (T31.setTop (mkF m 198 #[.val (.int p1), .val (.int p2), .val (.int p3), .val (.int p4), .val (.int p5), .val (.int j1), .val (.int j2), .val (.int j3), .val (.int j4), .val (.int j5), .val (.int j7), .val (.ref b9), .val (.int j26), .val (.int j27), .val (.int j29), .val (.ref b31_0), .val (.int (1 : Int32)), .unset, .unset] [(.int (1 : Int32))])) _
        refine XS.ifNo X31.here hx rfl (hb hby at_198) rfl ((if0 _ _).trans (feq (by decide : ¬ ((1 : Int32) = (0 : Int32)))).1) ?_
        show Steps p.tables e below (T31.setTop (mkF m 201 #[.val (.int p1), .val (.int p2), .val (.int p3), .val (.int p4), .val (.int p5), .val (.int j1), .val (.int j2), .val (.int j3), .val (.int j4), .val (.int j5), .val (.int j7), .val (.ref b9), .val (.int j26), .val (.int j27), .val (.int j29), .val (.ref b31_0), .val (.int (1 : Int32)), .unset, .unset] [])) _
        refine XS.aload X31.here hx rfl (hb hby at_201) rfl rfl ?_
        exact k
      obtain ⟨cq32, kq32, q32a, q32b, q32c⟩ := isOf hZ rfl E_b31_0
      obtain ⟨_, _, ⟨T32, L32, k32, n32⟩, -, X32, ⟨Lc32, hQ32, l32, y32, z32⟩, st32⟩ := X31.virtualBack hx (y := (⟨"com/example/capd/capd/status/Bitstring", "size", "()I"⟩ : MethodName)) (z := (⟨"com/example/capd/capd/status/Bitstring", "size", "()I"⟩ : MethodName)) hown (mvT hZ (hw _ (List.mem_of_getElem? (i := 36) rfl))) (mvT hZ (hw _ (List.mem_of_getElem? (i := 37) rfl))) (notFace_of_selects (args := #[]) (mvT hZ (hw _ (List.mem_of_getElem? (i := 39) rfl)))) (mvT hZ (hw _ (List.mem_of_getElem? (i := 39) rfl))) (mvT hZ (hw _ (List.mem_of_getElem? (i := 38) rfl))) (by decide) (backOf (W := 0) (rm5 l Z a0 hw [] b31_0 (131072 : Int32) T31.heap n0 Z0 F_b31_0_size) hZ (hw _ (List.mem_of_getElem? (i := 40) rfl)) (hw _ (List.mem_of_getElem? (i := 3) rfl)) (by decide) (by decide)) q32a q32c (g := (mkF m 203 #[.val (.int p1), .val (.int p2), .val (.int p3), .val (.int p4), .val (.int p5), .val (.int j1), .val (.int j2), .val (.int j3), .val (.int j4), .val (.int j5), .val (.int j7), .val (.ref b9), .val (.int j26), .val (.int j27), .val (.int j29), .val (.ref b31_0), .val (.int (1 : Int32)), .unset, .unset] [(.ref b31_0)])) rfl (by rw [hml]; rfl) (Steps.refl _) (argsL := []) (rest := []) (lenOf pd_4 rfl) rfl (by show 2 * 0 + _ ≤ _; exact Nat.le_of_eq rfl) (hb hby at_203) (fun _ _ => ⟨rfl, rfl, (by decide : 4 + 0 ≤ _), (by decide : 4102 + 0 ≤ _)⟩)
      dsimp only [Pt.U, Pt.locs, Pt.cells, Pt.slots] at X32 l32 y32 z32 st32 hQ32
      subst l32 y32 z32
      obtain ⟨rfl, N32q, e32⟩ := hQ32
      have NN := Fr.app NN N32q
      refine own_go (fun t k => st32.trans k) ?_
      show own_Go p.tables e below _ T32 (mkF m 206 #[.val (.int p1), .val (.int p2), .val (.int p3), .val (.int p4), .val (.int p5), .val (.int j1), .val (.int j2), .val (.int j3), .val (.int j4), .val (.int j5), .val (.int j7), .val (.ref b9), .val (.int j26), .val (.int j27), .val (.int j29), .val (.ref b31_0), .val (.int (1 : Int32)), .unset, .unset] [(.int (r_5 (131072 : Int32)))])
      refine own_go (T' := T32) (g' := (mkF m 208 #[.val (.int p1), .val (.int p2), .val (.int p3), .val (.int p4), .val (.int p5), .val (.int j1), .val (.int j2), .val (.int j3), .val (.int j4), .val (.int j5), .val (.int j7), .val (.ref b9), .val (.int j26), .val (.int j27), .val (.int j29), .val (.ref b31_0), .val (.int (1 : Int32)), .unset, .unset] [(.int (131072 : Int32)), (.int (r_5 (131072 : Int32)))])) (fun t k => ?_) ?_
      · show Steps p.tables e below (T32.setTop (mkF m 206 #[.val (.int p1), .val (.int p2), .val (.int p3), .val (.int p4), .val (.int p5), .val (.int j1), .val (.int j2), .val (.int j3), .val (.int j4), .val (.int j5), .val (.int j7), .val (.ref b9), .val (.int j26), .val (.int j27), .val (.int j29), .val (.ref b31_0), .val (.int (1 : Int32)), .unset, .unset] [(.int (r_5 (131072 : Int32)))])) _
        refine X32.ldcInt hx hown (mvT hZ (hw _ (List.mem_of_getElem? (i := 41) rfl))) (g := (mkF m 206 #[.val (.int p1), .val (.int p2), .val (.int p3), .val (.int p4), .val (.int p5), .val (.int j1), .val (.int j2), .val (.int j3), .val (.int j4), .val (.int j5), .val (.int j7), .val (.ref b9), .val (.int j26), .val (.int j27), .val (.int j29), .val (.ref b31_0), .val (.int (1 : Int32)), .unset, .unset] [(.int (r_5 (131072 : Int32)))])) rfl (hb hby at_206) _ ?_
        exact k
      have hs208 : (r_5 (131072 : Int32)) = (131072 : Int32) := own_at_hs208_tf p2 p5 j2 j5 j7 hj2 hj5 hj7 hc63_3 hc75_4 hhhhc1_3_5_82 hhhhc6_3_5_82 hhhlo17_11_82 hhhhi17_11_82
      refine own_go (T' := T32) (g' := (mkF m 220 #[.val (.int p1), .val (.int p2), .val (.int p3), .val (.int p4), .val (.int p5), .val (.int j1), .val (.int j2), .val (.int j3), .val (.int j4), .val (.int j5), .val (.int j7), .val (.ref b9), .val (.int j26), .val (.int j27), .val (.int j29), .val (.ref b31_0), .val (.int (1 : Int32)), .unset, .unset] [(.int (1 : Int32))])) (fun t k => ?_) ?_
      · show Steps p.tables e below (T32.setTop (mkF m 208 #[.val (.int p1), .val (.int p2), .val (.int p3), .val (.int p4), .val (.int p5), .val (.int j1), .val (.int j2), .val (.int j3), .val (.int j4), .val (.int j5), .val (.int j7), .val (.ref b9), .val (.int j26), .val (.int j27), .val (.int j29), .val (.ref b31_0), .val (.int (1 : Int32)), .unset, .unset] [(.int (131072 : Int32)), (.int (r_5 (131072 : Int32)))])) _
        refine XS.icmpNo X32.here hx rfl (hb hby at_208) rfl (teq hs208).2 ?_
        show Steps p.tables e below (T32.setTop (mkF m 211 #[.val (.int p1), .val (.int p2), .val (.int p3), .val (.int p4), .val (.int p5), .val (.int j1), .val (.int j2), .val (.int j3), .val (.int j4), .val (.int j5), .val (.int j7), .val (.ref b9), .val (.int j26), .val (.int j27), .val (.int j29), .val (.ref b31_0), .val (.int (1 : Int32)), .unset, .unset] [])) _
        refine XS.iconst X32.here hx rfl (hb hby at_211) ?_
        show Steps p.tables e below (T32.setTop (mkF m 212 #[.val (.int p1), .val (.int p2), .val (.int p3), .val (.int p4), .val (.int p5), .val (.int j1), .val (.int j2), .val (.int j3), .val (.int j4), .val (.int j5), .val (.int j7), .val (.ref b9), .val (.int j26), .val (.int j27), .val (.int j29), .val (.ref b31_0), .val (.int (1 : Int32)), .unset, .unset] [(.int (1 : Int32))])) _
        refine XS.goto X32.here hx rfl (pc0 := 212) (pc' := 216) rfl (hb hby at_212) (by decide) (by decide) ?_
        show Steps p.tables e below (T32.setTop (mkF m 216 #[.val (.int p1), .val (.int p2), .val (.int p3), .val (.int p4), .val (.int p5), .val (.int j1), .val (.int j2), .val (.int j3), .val (.int j4), .val (.int j5), .val (.int j7), .val (.ref b9), .val (.int j26), .val (.int j27), .val (.int j29), .val (.ref b31_0), .val (.int (1 : Int32)), .unset, .unset] [(.int (1 : Int32))])) _
        refine XS.istore X32.here hx rfl (hb hby at_216) rfl (l' := #[.val (.int p1), .val (.int p2), .val (.int p3), .val (.int p4), .val (.int p5), .val (.int j1), .val (.int j2), .val (.int j3), .val (.int j4), .val (.int j5), .val (.int j7), .val (.ref b9), .val (.int j26), .val (.int j27), .val (.int j29), .val (.ref b31_0), .val (.int (1 : Int32)), .unset, .unset]) rfl ?_
        show Steps p.tables e below (T32.setTop (mkF m 218 #[.val (.int p1), .val (.int p2), .val (.int p3), .val (.int p4), .val (.int p5), .val (.int j1), .val (.int j2), .val (.int j3), .val (.int j4), .val (.int j5), .val (.int j7), .val (.ref b9), .val (.int j26), .val (.int j27), .val (.int j29), .val (.ref b31_0), .val (.int (1 : Int32)), .unset, .unset] [])) _
        refine XS.iload X32.here hx rfl (hb hby at_218) rfl ?_
        exact k
      refine own_go (T' := T32) (g' := (mkF m 225 #[.val (.int p1), .val (.int p2), .val (.int p3), .val (.int p4), .val (.int p5), .val (.int j1), .val (.int j2), .val (.int j3), .val (.int j4), .val (.int j5), .val (.int j7), .val (.ref b9), .val (.int j26), .val (.int j27), .val (.int j29), .val (.ref b31_0), .val (.int (1 : Int32)), .unset, .unset] [(.ref b31_0)])) (fun t k => ?_) ?_
      · show Steps p.tables e below (T32.setTop (mkF m 220 #[.val (.int p1), .val (.int p2), .val (.int p3), .val (.int p4), .val (.int p5), .val (.int j1), .val (.int j2), .val (.int j3), .val (.int j4), .val (.int j5), .val (.int j7), .val (.ref b9), .val (.int j26), .val (.int j27), .val (.int j29), .val (.ref b31_0), .val (.int (1 : Int32)), .unset, .unset] [(.int (1 : Int32))])) _
        refine XS.ifNo X32.here hx rfl (hb hby at_220) rfl ((if0 _ _).trans (feq (by decide : ¬ ((1 : Int32) = (0 : Int32)))).1) ?_
        show Steps p.tables e below (T32.setTop (mkF m 223 #[.val (.int p1), .val (.int p2), .val (.int p3), .val (.int p4), .val (.int p5), .val (.int j1), .val (.int j2), .val (.int j3), .val (.int j4), .val (.int j5), .val (.int j7), .val (.ref b9), .val (.int j26), .val (.int j27), .val (.int j29), .val (.ref b31_0), .val (.int (1 : Int32)), .unset, .unset] [])) _
        refine XS.aload X32.here hx rfl (hb hby at_223) rfl rfl ?_
        exact k
      obtain ⟨cq33, kq33, q33a, q33b, q33c⟩ := isOf hZ e32 E_b31_0
      obtain ⟨_, _, ⟨T33, L33, k33, n33⟩, -, X33, ⟨Lc33, hQ33, l33, y33, z33⟩, st33⟩ := X32.virtualBack hx (y := (⟨"com/example/capd/capd/status/Bitstring", "count", "()I"⟩ : MethodName)) (z := (⟨"com/example/capd/capd/status/Bitstring", "count", "()I"⟩ : MethodName)) hown (mvT hZ (hw _ (List.mem_of_getElem? (i := 42) rfl))) (mvT hZ (hw _ (List.mem_of_getElem? (i := 43) rfl))) (notFace_of_selects (args := #[]) (mvT hZ (hw _ (List.mem_of_getElem? (i := 45) rfl)))) (mvT hZ (hw _ (List.mem_of_getElem? (i := 45) rfl))) (mvT hZ (hw _ (List.mem_of_getElem? (i := 44) rfl))) (by decide) (backOf (W := 0) (rm6 l Z a0 hw [] b31_0 (u_11_a1_count j2 (131072 : Int32) (fun _ => 0) (0 : Int32)) T31.heap n0 Z0 F_b31_0_count) hZ (hw _ (List.mem_of_getElem? (i := 46) rfl)) (hw _ (List.mem_of_getElem? (i := 3) rfl)) (by decide) (by decide)) q33a q33c (g := (mkF m 225 #[.val (.int p1), .val (.int p2), .val (.int p3), .val (.int p4), .val (.int p5), .val (.int j1), .val (.int j2), .val (.int j3), .val (.int j4), .val (.int j5), .val (.int j7), .val (.ref b9), .val (.int j26), .val (.int j27), .val (.int j29), .val (.ref b31_0), .val (.int (1 : Int32)), .unset, .unset] [(.ref b31_0)])) rfl (by rw [hml]; rfl) (Steps.refl _) (argsL := []) (rest := []) (lenOf pd_4 rfl) rfl (by show 2 * 0 + _ ≤ _; exact Nat.le_of_eq rfl) (hb hby at_225) (fun _ _ => ⟨rfl, e32, (by decide : 4 + 0 ≤ _), (by decide : 4102 + 0 ≤ _)⟩)
      dsimp only [Pt.U, Pt.locs, Pt.cells, Pt.slots] at X33 l33 y33 z33 st33 hQ33
      subst l33 y33 z33
      obtain ⟨rfl, N33q, e33⟩ := hQ33
      have NN := Fr.app NN N33q
      refine own_go (fun t k => st33.trans k) ?_
      show own_Go p.tables e below _ T33 (mkF m 228 #[.val (.int p1), .val (.int p2), .val (.int p3), .val (.int p4), .val (.int p5), .val (.int j1), .val (.int j2), .val (.int j3), .val (.int j4), .val (.int j5), .val (.int j7), .val (.ref b9), .val (.int j26), .val (.int j27), .val (.int j29), .val (.ref b31_0), .val (.int (1 : Int32)), .unset, .unset] [(.int (r_6 (u_11_a1_count j2 (131072 : Int32) (fun _ => 0) (0 : Int32))))])
      refine own_go (T' := T33) (g' := (mkF m 230 #[.val (.int p1), .val (.int p2), .val (.int p3), .val (.int p4), .val (.int p5), .val (.int j1), .val (.int j2), .val (.int j3), .val (.int j4), .val (.int j5), .val (.int j7), .val (.ref b9), .val (.int j26), .val (.int j27), .val (.int j29), .val (.ref b31_0), .val (.int (1 : Int32)), .unset, .unset] [(.int j26), (.int (r_6 (u_11_a1_count j2 (131072 : Int32) (fun _ => 0) (0 : Int32))))])) (fun t k => ?_) ?_
      · show Steps p.tables e below (T33.setTop (mkF m 228 #[.val (.int p1), .val (.int p2), .val (.int p3), .val (.int p4), .val (.int p5), .val (.int j1), .val (.int j2), .val (.int j3), .val (.int j4), .val (.int j5), .val (.int j7), .val (.ref b9), .val (.int j26), .val (.int j27), .val (.int j29), .val (.ref b31_0), .val (.int (1 : Int32)), .unset, .unset] [(.int (r_6 (u_11_a1_count j2 (131072 : Int32) (fun _ => 0) (0 : Int32))))])) _
        refine XS.iload X33.here hx rfl (hb hby at_228) rfl ?_
        exact k
      have hs230 : (r_6 (u_11_a1_count j2 (131072 : Int32) (fun _ => 0) (0 : Int32))) = j26 := own_at_hs230_tf p2 p5 j2 j5 j7 j26 hj2 hj5 hj7 hj26 hc63_3 hc75_4 hhhhc1_3_5_82 hhhhc6_3_5_82 hhhlo17_11_82 hhhhi17_11_82 hs208
      refine own_go (T' := T33) (g' := (mkF m 242 #[.val (.int p1), .val (.int p2), .val (.int p3), .val (.int p4), .val (.int p5), .val (.int j1), .val (.int j2), .val (.int j3), .val (.int j4), .val (.int j5), .val (.int j7), .val (.ref b9), .val (.int j26), .val (.int j27), .val (.int j29), .val (.ref b31_0), .val (.int (1 : Int32)), .unset, .unset] [(.int (1 : Int32))])) (fun t k => ?_) ?_
      · show Steps p.tables e below (T33.setTop (mkF m 230 #[.val (.int p1), .val (.int p2), .val (.int p3), .val (.int p4), .val (.int p5), .val (.int j1), .val (.int j2), .val (.int j3), .val (.int j4), .val (.int j5), .val (.int j7), .val (.ref b9), .val (.int j26), .val (.int j27), .val (.int j29), .val (.ref b31_0), .val (.int (1 : Int32)), .unset, .unset] [(.int j26), (.int (r_6 (u_11_a1_count j2 (131072 : Int32) (fun _ => 0) (0 : Int32))))])) _
        refine XS.icmpNo X33.here hx rfl (hb hby at_230) rfl (teq hs230).2 ?_
        show Steps p.tables e below (T33.setTop (mkF m 233 #[.val (.int p1), .val (.int p2), .val (.int p3), .val (.int p4), .val (.int p5), .val (.int j1), .val (.int j2), .val (.int j3), .val (.int j4), .val (.int j5), .val (.int j7), .val (.ref b9), .val (.int j26), .val (.int j27), .val (.int j29), .val (.ref b31_0), .val (.int (1 : Int32)), .unset, .unset] [])) _
        refine XS.iconst X33.here hx rfl (hb hby at_233) ?_
        show Steps p.tables e below (T33.setTop (mkF m 234 #[.val (.int p1), .val (.int p2), .val (.int p3), .val (.int p4), .val (.int p5), .val (.int j1), .val (.int j2), .val (.int j3), .val (.int j4), .val (.int j5), .val (.int j7), .val (.ref b9), .val (.int j26), .val (.int j27), .val (.int j29), .val (.ref b31_0), .val (.int (1 : Int32)), .unset, .unset] [(.int (1 : Int32))])) _
        refine XS.goto X33.here hx rfl (pc0 := 234) (pc' := 238) rfl (hb hby at_234) (by decide) (by decide) ?_
        show Steps p.tables e below (T33.setTop (mkF m 238 #[.val (.int p1), .val (.int p2), .val (.int p3), .val (.int p4), .val (.int p5), .val (.int j1), .val (.int j2), .val (.int j3), .val (.int j4), .val (.int j5), .val (.int j7), .val (.ref b9), .val (.int j26), .val (.int j27), .val (.int j29), .val (.ref b31_0), .val (.int (1 : Int32)), .unset, .unset] [(.int (1 : Int32))])) _
        refine XS.istore X33.here hx rfl (hb hby at_238) rfl (l' := #[.val (.int p1), .val (.int p2), .val (.int p3), .val (.int p4), .val (.int p5), .val (.int j1), .val (.int j2), .val (.int j3), .val (.int j4), .val (.int j5), .val (.int j7), .val (.ref b9), .val (.int j26), .val (.int j27), .val (.int j29), .val (.ref b31_0), .val (.int (1 : Int32)), .unset, .unset]) rfl ?_
        show Steps p.tables e below (T33.setTop (mkF m 240 #[.val (.int p1), .val (.int p2), .val (.int p3), .val (.int p4), .val (.int p5), .val (.int j1), .val (.int j2), .val (.int j3), .val (.int j4), .val (.int j5), .val (.int j7), .val (.ref b9), .val (.int j26), .val (.int j27), .val (.int j29), .val (.ref b31_0), .val (.int (1 : Int32)), .unset, .unset] [])) _
        refine XS.iload X33.here hx rfl (hb hby at_240) rfl ?_
        exact k
      refine own_go (T' := T33) (g' := (mkF m 249 #[.val (.int p1), .val (.int p2), .val (.int p3), .val (.int p4), .val (.int p5), .val (.int j1), .val (.int j2), .val (.int j3), .val (.int j4), .val (.int j5), .val (.int j7), .val (.ref b9), .val (.int j26), .val (.int j27), .val (.int j29), .val (.ref b31_0), .val (.int (1 : Int32)), .unset, .unset] [(.int j1), (.ref b31_0)])) (fun t k => ?_) ?_
      · show Steps p.tables e below (T33.setTop (mkF m 242 #[.val (.int p1), .val (.int p2), .val (.int p3), .val (.int p4), .val (.int p5), .val (.int j1), .val (.int j2), .val (.int j3), .val (.int j4), .val (.int j5), .val (.int j7), .val (.ref b9), .val (.int j26), .val (.int j27), .val (.int j29), .val (.ref b31_0), .val (.int (1 : Int32)), .unset, .unset] [(.int (1 : Int32))])) _
        refine XS.ifNo X33.here hx rfl (hb hby at_242) rfl ((if0 _ _).trans (feq (by decide : ¬ ((1 : Int32) = (0 : Int32)))).1) ?_
        show Steps p.tables e below (T33.setTop (mkF m 245 #[.val (.int p1), .val (.int p2), .val (.int p3), .val (.int p4), .val (.int p5), .val (.int j1), .val (.int j2), .val (.int j3), .val (.int j4), .val (.int j5), .val (.int j7), .val (.ref b9), .val (.int j26), .val (.int j27), .val (.int j29), .val (.ref b31_0), .val (.int (1 : Int32)), .unset, .unset] [])) _
        refine XS.aload X33.here hx rfl (hb hby at_245) rfl rfl ?_
        show Steps p.tables e below (T33.setTop (mkF m 247 #[.val (.int p1), .val (.int p2), .val (.int p3), .val (.int p4), .val (.int p5), .val (.int j1), .val (.int j2), .val (.int j3), .val (.int j4), .val (.int j5), .val (.int j7), .val (.ref b9), .val (.int j26), .val (.int j27), .val (.int j29), .val (.ref b31_0), .val (.int (1 : Int32)), .unset, .unset] [(.ref b31_0)])) _
        refine XS.iload X33.here hx rfl (hb hby at_247) rfl ?_
        exact k
      have hhhhc1_3_5_249 : ¬ (j1 < (0 : Int32)) := own_at_hhhhc1_3_5_249_tf p1 p2 p5 j1 j2 j5 j7 j26 hj1 hj2 hj5 hj7 hj26 hc63_3 hc75_4 hhhhc1_3_5_82 hhhhc6_3_5_82 hhhlo17_11_82 hhhhi17_11_82 hs208 hs230
      have hhhhc6_3_5_249 : j1 < (131072 : Int32) := own_at_hhhhc6_3_5_249_tf p1 p2 p5 j1 j2 j5 j7 j26 hj1 hj2 hj5 hj7 hj26 hc63_3 hc75_4 hhhhc1_3_5_82 hhhhc6_3_5_82 hhhlo17_11_82 hhhhi17_11_82 hs208 hs230 hhhhc1_3_5_249
      have hhlo17_249 : ¬ ((j1 / (64 : Int32)) < (0 : Int32)) := own_at_hhlo17_249_tf p1 p2 p5 j1 j2 j5 j7 j26 hj1 hj2 hj5 hj7 hj26 hc63_3 hc75_4 hhhhc1_3_5_82 hhhhc6_3_5_82 hhhlo17_11_82 hhhhi17_11_82 hs208 hs230 hhhhc1_3_5_249 hhhhc6_3_5_249
      have hhhi17_249 : (j1 / (64 : Int32)) < (2048 : Int32) := own_at_hhhi17_249_tf p1 p2 p5 j1 j2 j5 j7 j26 hj1 hj2 hj5 hj7 hj26 hc63_3 hc75_4 hhhhc1_3_5_82 hhhhc6_3_5_82 hhhlo17_11_82 hhhhi17_11_82 hs208 hs230 hhhhc1_3_5_249 hhhhc6_3_5_249 hhlo17_249
      obtain ⟨cq34, kq34, q34a, q34b, q34c⟩ := isOf hZ e33 E_b31_0
      obtain ⟨_, _, ⟨T34, L34, k34, n34⟩, -, X34, ⟨Lc34, hQ34, l34, y34, z34⟩, st34⟩ := X33.virtualBack hx (y := (⟨"com/example/capd/capd/status/Bitstring", "get", "(I)Z"⟩ : MethodName)) (z := (⟨"com/example/capd/capd/status/Bitstring", "get", "(I)Z"⟩ : MethodName)) hown (mvT hZ (hw _ (List.mem_of_getElem? (i := 47) rfl))) (mvT hZ (hw _ (List.mem_of_getElem? (i := 48) rfl))) (notFace_of_selects (args := #[]) (mvT hZ (hw _ (List.mem_of_getElem? (i := 50) rfl)))) (mvT hZ (hw _ (List.mem_of_getElem? (i := 50) rfl))) (mvT hZ (hw _ (List.mem_of_getElem? (i := 49) rfl))) (by decide) (backOf (W := 0) (rm7 l Z a0 hw [] b31_0 j1 (131072 : Int32) b31_1 k10_1 (u_11_w_words_a1_fn j2 (131072 : Int32) (fun _ => 0) (0 : Int32)) T31.heap n0 Z0 F_b31_0_size hhhhc1_3_5_249 hhhhc6_3_5_249 F_b31_0_words V_b31_1 hhlo17_249 hhhi17_249) hZ (hw _ (List.mem_of_getElem? (i := 51) rfl)) (hw _ (List.mem_of_getElem? (i := 3) rfl)) (by decide) (by decide)) q34a q34c (g := (mkF m 249 #[.val (.int p1), .val (.int p2), .val (.int p3), .val (.int p4), .val (.int p5), .val (.int j1), .val (.int j2), .val (.int j3), .val (.int j4), .val (.int j5), .val (.int j7), .val (.ref b9), .val (.int j26), .val (.int j27), .val (.int j29), .val (.ref b31_0), .val (.int (1 : Int32)), .unset, .unset] [(.int j1), (.ref b31_0)])) rfl (by rw [hml]; rfl) (Steps.refl _) (argsL := [(.int j1)]) (rest := []) (lenOf pd_5 rfl) rfl (by show 2 * 0 + _ ≤ _; exact Nat.le_of_eq rfl) (hb hby at_249) (fun _ _ => ⟨rfl, e33, (by decide : 4 + 0 ≤ _), (by decide : 4102 + 0 ≤ _)⟩)
      dsimp only [Pt.U, Pt.locs, Pt.cells, Pt.slots] at X34 l34 y34 z34 st34 hQ34
      subst l34 y34 z34
      obtain ⟨rfl, N34q, e34⟩ := hQ34
      have NN := Fr.app NN N34q
      refine own_go (fun t k => st34.trans k) ?_
      show own_Go p.tables e below _ T34 (mkF m 252 #[.val (.int p1), .val (.int p2), .val (.int p3), .val (.int p4), .val (.int p5), .val (.int j1), .val (.int j2), .val (.int j3), .val (.int j4), .val (.int j5), .val (.int j7), .val (.ref b9), .val (.int j26), .val (.int j27), .val (.int j29), .val (.ref b31_0), .val (.int (1 : Int32)), .unset, .unset] [(.int (r_7 j1 (131072 : Int32) (u_11_w_words_a1_fn j2 (131072 : Int32) (fun _ => 0) (0 : Int32))))])
      refine own_go (T' := T34) (g' := (mkF m 254 #[.val (.int p1), .val (.int p2), .val (.int p3), .val (.int p4), .val (.int p5), .val (.int j1), .val (.int j2), .val (.int j3), .val (.int j4), .val (.int j5), .val (.int j7), .val (.ref b9), .val (.int j26), .val (.int j27), .val (.int j29), .val (.ref b31_0), .val (.int (1 : Int32)), .unset, .unset] [(.int j27), (.int (r_7 j1 (131072 : Int32) (u_11_w_words_a1_fn j2 (131072 : Int32) (fun _ => 0) (0 : Int32))))])) (fun t k => ?_) ?_
      · show Steps p.tables e below (T34.setTop (mkF m 252 #[.val (.int p1), .val (.int p2), .val (.int p3), .val (.int p4), .val (.int p5), .val (.int j1), .val (.int j2), .val (.int j3), .val (.int j4), .val (.int j5), .val (.int j7), .val (.ref b9), .val (.int j26), .val (.int j27), .val (.int j29), .val (.ref b31_0), .val (.int (1 : Int32)), .unset, .unset] [(.int (r_7 j1 (131072 : Int32) (u_11_w_words_a1_fn j2 (131072 : Int32) (fun _ => 0) (0 : Int32))))])) _
        refine XS.iload X34.here hx rfl (hb hby at_252) rfl ?_
        exact k
      have hs254 : (r_7 j1 (131072 : Int32) (u_11_w_words_a1_fn j2 (131072 : Int32) (fun _ => 0) (0 : Int32))) = j27 := own_at_hs254_tf p1 p2 p5 j1 j2 j5 j7 j26 j27 hj1 hj2 hj5 hj7 hj26 hj27 hc63_3 hc75_4 hhhhc1_3_5_82 hhhhc6_3_5_82 hhhlo17_11_82 hhhhi17_11_82 hs208 hs230 hhhhc1_3_5_249 hhhhc6_3_5_249 hhlo17_249 hhhi17_249
      refine own_go (T' := T34) (g' := (mkF m 266 #[.val (.int p1), .val (.int p2), .val (.int p3), .val (.int p4), .val (.int p5), .val (.int j1), .val (.int j2), .val (.int j3), .val (.int j4), .val (.int j5), .val (.int j7), .val (.ref b9), .val (.int j26), .val (.int j27), .val (.int j29), .val (.ref b31_0), .val (.int (1 : Int32)), .unset, .unset] [(.int (1 : Int32))])) (fun t k => ?_) ?_
      · show Steps p.tables e below (T34.setTop (mkF m 254 #[.val (.int p1), .val (.int p2), .val (.int p3), .val (.int p4), .val (.int p5), .val (.int j1), .val (.int j2), .val (.int j3), .val (.int j4), .val (.int j5), .val (.int j7), .val (.ref b9), .val (.int j26), .val (.int j27), .val (.int j29), .val (.ref b31_0), .val (.int (1 : Int32)), .unset, .unset] [(.int j27), (.int (r_7 j1 (131072 : Int32) (u_11_w_words_a1_fn j2 (131072 : Int32) (fun _ => 0) (0 : Int32))))])) _
        refine XS.icmpNo X34.here hx rfl (hb hby at_254) rfl (teq hs254).2 ?_
        show Steps p.tables e below (T34.setTop (mkF m 257 #[.val (.int p1), .val (.int p2), .val (.int p3), .val (.int p4), .val (.int p5), .val (.int j1), .val (.int j2), .val (.int j3), .val (.int j4), .val (.int j5), .val (.int j7), .val (.ref b9), .val (.int j26), .val (.int j27), .val (.int j29), .val (.ref b31_0), .val (.int (1 : Int32)), .unset, .unset] [])) _
        refine XS.iconst X34.here hx rfl (hb hby at_257) ?_
        show Steps p.tables e below (T34.setTop (mkF m 258 #[.val (.int p1), .val (.int p2), .val (.int p3), .val (.int p4), .val (.int p5), .val (.int j1), .val (.int j2), .val (.int j3), .val (.int j4), .val (.int j5), .val (.int j7), .val (.ref b9), .val (.int j26), .val (.int j27), .val (.int j29), .val (.ref b31_0), .val (.int (1 : Int32)), .unset, .unset] [(.int (1 : Int32))])) _
        refine XS.goto X34.here hx rfl (pc0 := 258) (pc' := 262) rfl (hb hby at_258) (by decide) (by decide) ?_
        show Steps p.tables e below (T34.setTop (mkF m 262 #[.val (.int p1), .val (.int p2), .val (.int p3), .val (.int p4), .val (.int p5), .val (.int j1), .val (.int j2), .val (.int j3), .val (.int j4), .val (.int j5), .val (.int j7), .val (.ref b9), .val (.int j26), .val (.int j27), .val (.int j29), .val (.ref b31_0), .val (.int (1 : Int32)), .unset, .unset] [(.int (1 : Int32))])) _
        refine XS.istore X34.here hx rfl (hb hby at_262) rfl (l' := #[.val (.int p1), .val (.int p2), .val (.int p3), .val (.int p4), .val (.int p5), .val (.int j1), .val (.int j2), .val (.int j3), .val (.int j4), .val (.int j5), .val (.int j7), .val (.ref b9), .val (.int j26), .val (.int j27), .val (.int j29), .val (.ref b31_0), .val (.int (1 : Int32)), .unset, .unset]) rfl ?_
        show Steps p.tables e below (T34.setTop (mkF m 264 #[.val (.int p1), .val (.int p2), .val (.int p3), .val (.int p4), .val (.int p5), .val (.int j1), .val (.int j2), .val (.int j3), .val (.int j4), .val (.int j5), .val (.int j7), .val (.ref b9), .val (.int j26), .val (.int j27), .val (.int j29), .val (.ref b31_0), .val (.int (1 : Int32)), .unset, .unset] [])) _
        refine XS.iload X34.here hx rfl (hb hby at_264) rfl ?_
        exact k
      refine own_go (T' := T34) (g' := (mkF m 273 #[.val (.int p1), .val (.int p2), .val (.int p3), .val (.int p4), .val (.int p5), .val (.int j1), .val (.int j2), .val (.int j3), .val (.int j4), .val (.int j5), .val (.int j7), .val (.ref b9), .val (.int j26), .val (.int j27), .val (.int j29), .val (.ref b31_0), .val (.int (1 : Int32)), .unset, .unset] [(.int j3), (.ref b31_0)])) (fun t k => ?_) ?_
      · show Steps p.tables e below (T34.setTop (mkF m 266 #[.val (.int p1), .val (.int p2), .val (.int p3), .val (.int p4), .val (.int p5), .val (.int j1), .val (.int j2), .val (.int j3), .val (.int j4), .val (.int j5), .val (.int j7), .val (.ref b9), .val (.int j26), .val (.int j27), .val (.int j29), .val (.ref b31_0), .val (.int (1 : Int32)), .unset, .unset] [(.int (1 : Int32))])) _
        refine XS.ifNo X34.here hx rfl (hb hby at_266) rfl ((if0 _ _).trans (feq (by decide : ¬ ((1 : Int32) = (0 : Int32)))).1) ?_
        show Steps p.tables e below (T34.setTop (mkF m 269 #[.val (.int p1), .val (.int p2), .val (.int p3), .val (.int p4), .val (.int p5), .val (.int j1), .val (.int j2), .val (.int j3), .val (.int j4), .val (.int j5), .val (.int j7), .val (.ref b9), .val (.int j26), .val (.int j27), .val (.int j29), .val (.ref b31_0), .val (.int (1 : Int32)), .unset, .unset] [])) _
        refine XS.aload X34.here hx rfl (hb hby at_269) rfl rfl ?_
        show Steps p.tables e below (T34.setTop (mkF m 271 #[.val (.int p1), .val (.int p2), .val (.int p3), .val (.int p4), .val (.int p5), .val (.int j1), .val (.int j2), .val (.int j3), .val (.int j4), .val (.int j5), .val (.int j7), .val (.ref b9), .val (.int j26), .val (.int j27), .val (.int j29), .val (.ref b31_0), .val (.int (1 : Int32)), .unset, .unset] [(.ref b31_0)])) _
        refine XS.iload X34.here hx rfl (hb hby at_271) rfl ?_
        exact k
      have hhhhc1_3_5_273 : ¬ (j3 < (0 : Int32)) := own_at_hhhhc1_3_5_273_tf p1 p2 p3 p5 j1 j2 j3 j5 j7 j26 j27 hj1 hj2 hj3 hj5 hj7 hj26 hj27 hc63_3 hc75_4 hhhhc1_3_5_82 hhhhc6_3_5_82 hhhlo17_11_82 hhhhi17_11_82 hs208 hs230 hhhhc1_3_5_249 hhhhc6_3_5_249 hhlo17_249 hhhi17_249 hs254
      have hhhhc6_3_5_273 : j3 < (131072 : Int32) := own_at_hhhhc6_3_5_273_tf p1 p2 p3 p5 j1 j2 j3 j5 j7 j26 j27 hj1 hj2 hj3 hj5 hj7 hj26 hj27 hc63_3 hc75_4 hhhhc1_3_5_82 hhhhc6_3_5_82 hhhlo17_11_82 hhhhi17_11_82 hs208 hs230 hhhhc1_3_5_249 hhhhc6_3_5_249 hhlo17_249 hhhi17_249 hs254 hhhhc1_3_5_273
      have hhlo17_273 : ¬ ((j3 / (64 : Int32)) < (0 : Int32)) := own_at_hhlo17_273_tf p1 p2 p3 p5 j1 j2 j3 j5 j7 j26 j27 hj1 hj2 hj3 hj5 hj7 hj26 hj27 hc63_3 hc75_4 hhhhc1_3_5_82 hhhhc6_3_5_82 hhhlo17_11_82 hhhhi17_11_82 hs208 hs230 hhhhc1_3_5_249 hhhhc6_3_5_249 hhlo17_249 hhhi17_249 hs254 hhhhc1_3_5_273 hhhhc6_3_5_273
      have hhhi17_273 : (j3 / (64 : Int32)) < (2048 : Int32) := own_at_hhhi17_273_tf p1 p2 p3 p5 j1 j2 j3 j5 j7 j26 j27 hj1 hj2 hj3 hj5 hj7 hj26 hj27 hc63_3 hc75_4 hhhhc1_3_5_82 hhhhc6_3_5_82 hhhlo17_11_82 hhhhi17_11_82 hs208 hs230 hhhhc1_3_5_249 hhhhc6_3_5_249 hhlo17_249 hhhi17_249 hs254 hhhhc1_3_5_273 hhhhc6_3_5_273 hhlo17_273
      obtain ⟨cq35, kq35, q35a, q35b, q35c⟩ := isOf hZ e34 E_b31_0
      obtain ⟨_, _, ⟨T35, L35, k35, n35⟩, -, X35, ⟨Lc35, hQ35, l35, y35, z35⟩, st35⟩ := X34.virtualBack hx (y := (⟨"com/example/capd/capd/status/Bitstring", "get", "(I)Z"⟩ : MethodName)) (z := (⟨"com/example/capd/capd/status/Bitstring", "get", "(I)Z"⟩ : MethodName)) hown (mvT hZ (hw _ (List.mem_of_getElem? (i := 47) rfl))) (mvT hZ (hw _ (List.mem_of_getElem? (i := 48) rfl))) (notFace_of_selects (args := #[]) (mvT hZ (hw _ (List.mem_of_getElem? (i := 50) rfl)))) (mvT hZ (hw _ (List.mem_of_getElem? (i := 50) rfl))) (mvT hZ (hw _ (List.mem_of_getElem? (i := 49) rfl))) (by decide) (backOf (W := 0) (rm7 l Z a0 hw [] b31_0 j3 (131072 : Int32) b31_1 k10_1 (u_11_w_words_a1_fn j2 (131072 : Int32) (fun _ => 0) (0 : Int32)) T31.heap n0 Z0 F_b31_0_size hhhhc1_3_5_273 hhhhc6_3_5_273 F_b31_0_words V_b31_1 hhlo17_273 hhhi17_273) hZ (hw _ (List.mem_of_getElem? (i := 51) rfl)) (hw _ (List.mem_of_getElem? (i := 3) rfl)) (by decide) (by decide)) q35a q35c (g := (mkF m 273 #[.val (.int p1), .val (.int p2), .val (.int p3), .val (.int p4), .val (.int p5), .val (.int j1), .val (.int j2), .val (.int j3), .val (.int j4), .val (.int j5), .val (.int j7), .val (.ref b9), .val (.int j26), .val (.int j27), .val (.int j29), .val (.ref b31_0), .val (.int (1 : Int32)), .unset, .unset] [(.int j3), (.ref b31_0)])) rfl (by rw [hml]; rfl) (Steps.refl _) (argsL := [(.int j3)]) (rest := []) (lenOf pd_5 rfl) rfl (by show 2 * 0 + _ ≤ _; exact Nat.le_of_eq rfl) (hb hby at_273) (fun _ _ => ⟨rfl, e34, (by decide : 4 + 0 ≤ _), (by decide : 4102 + 0 ≤ _)⟩)
      dsimp only [Pt.U, Pt.locs, Pt.cells, Pt.slots] at X35 l35 y35 z35 st35 hQ35
      subst l35 y35 z35
      obtain ⟨rfl, N35q, e35⟩ := hQ35
      have NN := Fr.app NN N35q
      refine own_go (fun t k => st35.trans k) ?_
      show own_Go p.tables e below _ T35 (mkF m 276 #[.val (.int p1), .val (.int p2), .val (.int p3), .val (.int p4), .val (.int p5), .val (.int j1), .val (.int j2), .val (.int j3), .val (.int j4), .val (.int j5), .val (.int j7), .val (.ref b9), .val (.int j26), .val (.int j27), .val (.int j29), .val (.ref b31_0), .val (.int (1 : Int32)), .unset, .unset] [(.int (r_7 j3 (131072 : Int32) (u_11_w_words_a1_fn j2 (131072 : Int32) (fun _ => 0) (0 : Int32))))])
      refine own_go (T' := T35) (g' := (mkF m 278 #[.val (.int p1), .val (.int p2), .val (.int p3), .val (.int p4), .val (.int p5), .val (.int j1), .val (.int j2), .val (.int j3), .val (.int j4), .val (.int j5), .val (.int j7), .val (.ref b9), .val (.int j26), .val (.int j27), .val (.int j29), .val (.ref b31_0), .val (.int (1 : Int32)), .unset, .unset] [(.int j29), (.int (r_7 j3 (131072 : Int32) (u_11_w_words_a1_fn j2 (131072 : Int32) (fun _ => 0) (0 : Int32))))])) (fun t k => ?_) ?_
      · show Steps p.tables e below (T35.setTop (mkF m 276 #[.val (.int p1), .val (.int p2), .val (.int p3), .val (.int p4), .val (.int p5), .val (.int j1), .val (.int j2), .val (.int j3), .val (.int j4), .val (.int j5), .val (.int j7), .val (.ref b9), .val (.int j26), .val (.int j27), .val (.int j29), .val (.ref b31_0), .val (.int (1 : Int32)), .unset, .unset] [(.int (r_7 j3 (131072 : Int32) (u_11_w_words_a1_fn j2 (131072 : Int32) (fun _ => 0) (0 : Int32))))])) _
        refine XS.iload X35.here hx rfl (hb hby at_276) rfl ?_
        exact k
      have hs278 : (r_7 j3 (131072 : Int32) (u_11_w_words_a1_fn j2 (131072 : Int32) (fun _ => 0) (0 : Int32))) = j29 := own_at_hs278_tf p1 p2 p3 p5 j1 j2 j3 j5 j7 j26 j27 j29 hj1 hj2 hj3 hj5 hj7 hj26 hj27 hj29 hc63_3 hc75_4 hhhhc1_3_5_82 hhhhc6_3_5_82 hhhlo17_11_82 hhhhi17_11_82 hs208 hs230 hhhhc1_3_5_249 hhhhc6_3_5_249 hhlo17_249 hhhi17_249 hs254 hhhhc1_3_5_273 hhhhc6_3_5_273 hhlo17_273 hhhi17_273
      refine own_go (T' := T35) (g' := (mkF m 292 #[.val (.int p1), .val (.int p2), .val (.int p3), .val (.int p4), .val (.int p5), .val (.int j1), .val (.int j2), .val (.int j3), .val (.int j4), .val (.int j5), .val (.int j7), .val (.ref b9), .val (.int j26), .val (.int j27), .val (.int j29), .val (.ref b31_0), .val (.int (1 : Int32)), .unset, .unset] [(.int j3), (.ref b31_0)])) (fun t k => ?_) ?_
      · show Steps p.tables e below (T35.setTop (mkF m 278 #[.val (.int p1), .val (.int p2), .val (.int p3), .val (.int p4), .val (.int p5), .val (.int j1), .val (.int j2), .val (.int j3), .val (.int j4), .val (.int j5), .val (.int j7), .val (.ref b9), .val (.int j26), .val (.int j27), .val (.int j29), .val (.ref b31_0), .val (.int (1 : Int32)), .unset, .unset] [(.int j29), (.int (r_7 j3 (131072 : Int32) (u_11_w_words_a1_fn j2 (131072 : Int32) (fun _ => 0) (0 : Int32))))])) _
        refine XS.icmpNo X35.here hx rfl (hb hby at_278) rfl (teq hs278).2 ?_
        show Steps p.tables e below (T35.setTop (mkF m 281 #[.val (.int p1), .val (.int p2), .val (.int p3), .val (.int p4), .val (.int p5), .val (.int j1), .val (.int j2), .val (.int j3), .val (.int j4), .val (.int j5), .val (.int j7), .val (.ref b9), .val (.int j26), .val (.int j27), .val (.int j29), .val (.ref b31_0), .val (.int (1 : Int32)), .unset, .unset] [])) _
        refine XS.iconst X35.here hx rfl (hb hby at_281) ?_
        show Steps p.tables e below (T35.setTop (mkF m 282 #[.val (.int p1), .val (.int p2), .val (.int p3), .val (.int p4), .val (.int p5), .val (.int j1), .val (.int j2), .val (.int j3), .val (.int j4), .val (.int j5), .val (.int j7), .val (.ref b9), .val (.int j26), .val (.int j27), .val (.int j29), .val (.ref b31_0), .val (.int (1 : Int32)), .unset, .unset] [(.int (1 : Int32))])) _
        refine XS.goto X35.here hx rfl (pc0 := 282) (pc' := 286) rfl (hb hby at_282) (by decide) (by decide) ?_
        show Steps p.tables e below (T35.setTop (mkF m 286 #[.val (.int p1), .val (.int p2), .val (.int p3), .val (.int p4), .val (.int p5), .val (.int j1), .val (.int j2), .val (.int j3), .val (.int j4), .val (.int j5), .val (.int j7), .val (.ref b9), .val (.int j26), .val (.int j27), .val (.int j29), .val (.ref b31_0), .val (.int (1 : Int32)), .unset, .unset] [(.int (1 : Int32))])) _
        refine XS.istore X35.here hx rfl (hb hby at_286) rfl (l' := #[.val (.int p1), .val (.int p2), .val (.int p3), .val (.int p4), .val (.int p5), .val (.int j1), .val (.int j2), .val (.int j3), .val (.int j4), .val (.int j5), .val (.int j7), .val (.ref b9), .val (.int j26), .val (.int j27), .val (.int j29), .val (.ref b31_0), .val (.int (1 : Int32)), .unset, .unset]) rfl ?_
        show Steps p.tables e below (T35.setTop (mkF m 288 #[.val (.int p1), .val (.int p2), .val (.int p3), .val (.int p4), .val (.int p5), .val (.int j1), .val (.int j2), .val (.int j3), .val (.int j4), .val (.int j5), .val (.int j7), .val (.ref b9), .val (.int j26), .val (.int j27), .val (.int j29), .val (.ref b31_0), .val (.int (1 : Int32)), .unset, .unset] [])) _
        refine XS.aload X35.here hx rfl (hb hby at_288) rfl rfl ?_
        show Steps p.tables e below (T35.setTop (mkF m 290 #[.val (.int p1), .val (.int p2), .val (.int p3), .val (.int p4), .val (.int p5), .val (.int j1), .val (.int j2), .val (.int j3), .val (.int j4), .val (.int j5), .val (.int j7), .val (.ref b9), .val (.int j26), .val (.int j27), .val (.int j29), .val (.ref b31_0), .val (.int (1 : Int32)), .unset, .unset] [(.ref b31_0)])) _
        refine XS.iload X35.here hx rfl (hb hby at_290) rfl ?_
        exact k
      obtain ⟨cq36, kq36, q36a, q36b, q36c⟩ := isOf hZ e35 E_b31_0
      obtain ⟨_, _, ⟨T36, L36, k36, n36⟩, -, X36, ⟨Lc36, hQ36, l36, y36, z36⟩, st36⟩ := X35.virtualBack hx (y := (⟨"com/example/capd/capd/status/Bitstring", "set", "(I)V"⟩ : MethodName)) (z := (⟨"com/example/capd/capd/status/Bitstring", "set", "(I)V"⟩ : MethodName)) hown (mvT hZ (hw _ (List.mem_of_getElem? (i := 64) rfl))) (mvT hZ (hw _ (List.mem_of_getElem? (i := 65) rfl))) (notFace_of_selects (args := #[]) (mvT hZ (hw _ (List.mem_of_getElem? (i := 67) rfl)))) (mvT hZ (hw _ (List.mem_of_getElem? (i := 67) rfl))) (mvT hZ (hw _ (List.mem_of_getElem? (i := 66) rfl))) (by decide) (backOf (W := 0) (rm11 l Z a0 hw [] b31_0 j3 (131072 : Int32) b31_1 k10_1 (u_11_w_words_a1_fn j2 (131072 : Int32) (fun _ => 0) (0 : Int32)) (u_11_a1_count j2 (131072 : Int32) (fun _ => 0) (0 : Int32)) T31.heap n0 Z0 F_b31_0_size hhhhc1_3_5_273 hhhhc6_3_5_273 hhhhc1_3_5_273 hhhhc6_3_5_273 F_b31_0_words V_b31_1 hhlo17_273 hhhi17_273 E_b31_0 hhlo17_273 hhhi17_273 hhlo17_273 hhhi17_273 ne_b31_0_b31_1 g_b31_1 F_b31_0_count g_b31_0) hZ (hw _ (List.mem_of_getElem? (i := 68) rfl)) (hw _ (List.mem_of_getElem? (i := 3) rfl)) (by decide) (by decide)) q36a q36c (g := (mkF m 292 #[.val (.int p1), .val (.int p2), .val (.int p3), .val (.int p4), .val (.int p5), .val (.int j1), .val (.int j2), .val (.int j3), .val (.int j4), .val (.int j5), .val (.int j7), .val (.ref b9), .val (.int j26), .val (.int j27), .val (.int j29), .val (.ref b31_0), .val (.int (1 : Int32)), .unset, .unset] [(.int j3), (.ref b31_0)])) rfl (by rw [hml]; rfl) (Steps.refl _) (argsL := [(.int j3)]) (rest := []) (lenOf pd_9 rfl) rfl (by show 2 * 0 + _ ≤ _; exact Nat.le_of_eq rfl) (hb hby at_292) (fun _ _ => ⟨rfl, e35, (by decide : 4 + 0 ≤ _), (by decide : 4102 + 0 ≤ _)⟩)
      dsimp only [Pt.U, Pt.locs, Pt.cells, Pt.slots] at X36 l36 y36 z36 st36 hQ36
      subst l36 y36 z36
      obtain ⟨rfl, N36q, K36, Q36_0, Q36_1, Q36_2, Q36_3, Q36_4⟩ := hQ36
      have E_b9 := E_b9.keep K36
      have F_b9_words := F_b9_words.keep K36 (ninS ne_b9_b31_1 (ninS ne_b9_b31_0 nin0))
      have F_b9_size := F_b9_size.keep K36 (ninS ne_b9_b31_1 (ninS ne_b9_b31_0 nin0))
      have F_b9_count := F_b9_count.keep K36 (ninS ne_b9_b31_1 (ninS ne_b9_b31_0 nin0))
      have E_b10_0 := E_b10_0.keep K36
      have V_b10_0 := V_b10_0.keep K36 (ninS ne_b10_0_b31_1 (ninS ne_b10_0_b31_0 nin0))
      have E_b31_1 := E_b31_1.keep K36
      have V_b31_1 := Q36_0
      have E_b31_0 := Q36_1
      have F_b31_0_size := Q36_2
      have F_b31_0_words := Q36_3
      have F_b31_0_count := Q36_4
      have Z0 := Nat.le_trans Z0 K36.1
      have KK := KK.trans K36 (allS (Or.inr sz_b31_1) (allS (Or.inr sz_b31_0) all0))
      have NN := Fr.app NN N36q
      refine own_go (fun t k => st36.trans k) ?_
      show own_Go p.tables e below _ T36 (mkF m 295 #[.val (.int p1), .val (.int p2), .val (.int p3), .val (.int p4), .val (.int p5), .val (.int j1), .val (.int j2), .val (.int j3), .val (.int j4), .val (.int j5), .val (.int j7), .val (.ref b9), .val (.int j26), .val (.int j27), .val (.int j29), .val (.ref b31_0), .val (.int (1 : Int32)), .unset, .unset] [])
      refine own_go (T' := T36) (g' := (mkF m 297 #[.val (.int p1), .val (.int p2), .val (.int p3), .val (.int p4), .val (.int p5), .val (.int j1), .val (.int j2), .val (.int j3), .val (.int j4), .val (.int j5), .val (.int j7), .val (.ref b9), .val (.int j26), .val (.int j27), .val (.int j29), .val (.ref b31_0), .val (.int (1 : Int32)), .unset, .unset] [(.int (1 : Int32))])) (fun t k => ?_) ?_
      · show Steps p.tables e below (T36.setTop (mkF m 295 #[.val (.int p1), .val (.int p2), .val (.int p3), .val (.int p4), .val (.int p5), .val (.int j1), .val (.int j2), .val (.int j3), .val (.int j4), .val (.int j5), .val (.int j7), .val (.ref b9), .val (.int j26), .val (.int j27), .val (.int j29), .val (.ref b31_0), .val (.int (1 : Int32)), .unset, .unset] [])) _
        refine XS.iload X36.here hx rfl (hb hby at_295) rfl ?_
        exact k
      refine own_go (T' := T36) (g' := (mkF m 304 #[.val (.int p1), .val (.int p2), .val (.int p3), .val (.int p4), .val (.int p5), .val (.int j1), .val (.int j2), .val (.int j3), .val (.int j4), .val (.int j5), .val (.int j7), .val (.ref b9), .val (.int j26), .val (.int j27), .val (.int j29), .val (.ref b31_0), .val (.int (1 : Int32)), .unset, .unset] [(.int j3), (.ref b9)])) (fun t k => ?_) ?_
      · show Steps p.tables e below (T36.setTop (mkF m 297 #[.val (.int p1), .val (.int p2), .val (.int p3), .val (.int p4), .val (.int p5), .val (.int j1), .val (.int j2), .val (.int j3), .val (.int j4), .val (.int j5), .val (.int j7), .val (.ref b9), .val (.int j26), .val (.int j27), .val (.int j29), .val (.ref b31_0), .val (.int (1 : Int32)), .unset, .unset] [(.int (1 : Int32))])) _
        refine XS.ifNo X36.here hx rfl (hb hby at_297) rfl ((if0 _ _).trans (feq (by decide : ¬ ((1 : Int32) = (0 : Int32)))).1) ?_
        show Steps p.tables e below (T36.setTop (mkF m 300 #[.val (.int p1), .val (.int p2), .val (.int p3), .val (.int p4), .val (.int p5), .val (.int j1), .val (.int j2), .val (.int j3), .val (.int j4), .val (.int j5), .val (.int j7), .val (.ref b9), .val (.int j26), .val (.int j27), .val (.int j29), .val (.ref b31_0), .val (.int (1 : Int32)), .unset, .unset] [])) _
        refine XS.aload X36.here hx rfl (hb hby at_300) rfl rfl ?_
        show Steps p.tables e below (T36.setTop (mkF m 302 #[.val (.int p1), .val (.int p2), .val (.int p3), .val (.int p4), .val (.int p5), .val (.int j1), .val (.int j2), .val (.int j3), .val (.int j4), .val (.int j5), .val (.int j7), .val (.ref b9), .val (.int j26), .val (.int j27), .val (.int j29), .val (.ref b31_0), .val (.int (1 : Int32)), .unset, .unset] [(.ref b9)])) _
        refine XS.iload X36.here hx rfl (hb hby at_302) rfl ?_
        exact k
      obtain ⟨cq37, kq37, q37a, q37b, q37c⟩ := isOf hZ rfl E_b9
      obtain ⟨_, _, ⟨T37, L37, k37, n37⟩, -, X37, ⟨Lc37, hQ37, l37, y37, z37⟩, st37⟩ := X36.virtualBack hx (y := (⟨"com/example/capd/capd/status/Bitstring", "get", "(I)Z"⟩ : MethodName)) (z := (⟨"com/example/capd/capd/status/Bitstring", "get", "(I)Z"⟩ : MethodName)) hown (mvT hZ (hw _ (List.mem_of_getElem? (i := 47) rfl))) (mvT hZ (hw _ (List.mem_of_getElem? (i := 48) rfl))) (notFace_of_selects (args := #[]) (mvT hZ (hw _ (List.mem_of_getElem? (i := 50) rfl)))) (mvT hZ (hw _ (List.mem_of_getElem? (i := 50) rfl))) (mvT hZ (hw _ (List.mem_of_getElem? (i := 49) rfl))) (by decide) (backOf (W := 0) (rm7 l Z a0 hw [] b9 j3 (131072 : Int32) b10_0 k10_1 (u_11_w_words_a1_fn j2 (131072 : Int32) (fun _ => 0) (0 : Int32)) T36.heap n0 Z0 F_b9_size hhhhc1_3_5_273 hhhhc6_3_5_273 F_b9_words V_b10_0 hhlo17_273 hhhi17_273) hZ (hw _ (List.mem_of_getElem? (i := 51) rfl)) (hw _ (List.mem_of_getElem? (i := 3) rfl)) (by decide) (by decide)) q37a q37c (g := (mkF m 304 #[.val (.int p1), .val (.int p2), .val (.int p3), .val (.int p4), .val (.int p5), .val (.int j1), .val (.int j2), .val (.int j3), .val (.int j4), .val (.int j5), .val (.int j7), .val (.ref b9), .val (.int j26), .val (.int j27), .val (.int j29), .val (.ref b31_0), .val (.int (1 : Int32)), .unset, .unset] [(.int j3), (.ref b9)])) rfl (by rw [hml]; rfl) (Steps.refl _) (argsL := [(.int j3)]) (rest := []) (lenOf pd_5 rfl) rfl (by show 2 * 0 + _ ≤ _; exact Nat.le_of_eq rfl) (hb hby at_304) (fun _ _ => ⟨rfl, rfl, (by decide : 4 + 0 ≤ _), (by decide : 4102 + 0 ≤ _)⟩)
      dsimp only [Pt.U, Pt.locs, Pt.cells, Pt.slots] at X37 l37 y37 z37 st37 hQ37
      subst l37 y37 z37
      obtain ⟨rfl, N37q, e37⟩ := hQ37
      have NN := Fr.app NN N37q
      refine own_go (fun t k => st37.trans k) ?_
      show own_Go p.tables e below _ T37 (mkF m 307 #[.val (.int p1), .val (.int p2), .val (.int p3), .val (.int p4), .val (.int p5), .val (.int j1), .val (.int j2), .val (.int j3), .val (.int j4), .val (.int j5), .val (.int j7), .val (.ref b9), .val (.int j26), .val (.int j27), .val (.int j29), .val (.ref b31_0), .val (.int (1 : Int32)), .unset, .unset] [(.int (r_7 j3 (131072 : Int32) (u_11_w_words_a1_fn j2 (131072 : Int32) (fun _ => 0) (0 : Int32))))])
      refine own_go (T' := T37) (g' := (mkF m 309 #[.val (.int p1), .val (.int p2), .val (.int p3), .val (.int p4), .val (.int p5), .val (.int j1), .val (.int j2), .val (.int j3), .val (.int j4), .val (.int j5), .val (.int j7), .val (.ref b9), .val (.int j26), .val (.int j27), .val (.int j29), .val (.ref b31_0), .val (.int (1 : Int32)), .unset, .unset] [(.int j29), (.int (r_7 j3 (131072 : Int32) (u_11_w_words_a1_fn j2 (131072 : Int32) (fun _ => 0) (0 : Int32))))])) (fun t k => ?_) ?_
      · show Steps p.tables e below (T37.setTop (mkF m 307 #[.val (.int p1), .val (.int p2), .val (.int p3), .val (.int p4), .val (.int p5), .val (.int j1), .val (.int j2), .val (.int j3), .val (.int j4), .val (.int j5), .val (.int j7), .val (.ref b9), .val (.int j26), .val (.int j27), .val (.int j29), .val (.ref b31_0), .val (.int (1 : Int32)), .unset, .unset] [(.int (r_7 j3 (131072 : Int32) (u_11_w_words_a1_fn j2 (131072 : Int32) (fun _ => 0) (0 : Int32))))])) _
        refine XS.iload X37.here hx rfl (hb hby at_307) rfl ?_
        exact k
      refine own_go (T' := T37) (g' := (mkF m 323 #[.val (.int p1), .val (.int p2), .val (.int p3), .val (.int p4), .val (.int p5), .val (.int j1), .val (.int j2), .val (.int j3), .val (.int j4), .val (.int j5), .val (.int j7), .val (.ref b9), .val (.int j26), .val (.int j27), .val (.int j29), .val (.ref b31_0), .val (.int (1 : Int32)), .unset, .unset] [(.int j29), (.int j26)])) (fun t k => ?_) ?_
      · show Steps p.tables e below (T37.setTop (mkF m 309 #[.val (.int p1), .val (.int p2), .val (.int p3), .val (.int p4), .val (.int p5), .val (.int j1), .val (.int j2), .val (.int j3), .val (.int j4), .val (.int j5), .val (.int j7), .val (.ref b9), .val (.int j26), .val (.int j27), .val (.int j29), .val (.ref b31_0), .val (.int (1 : Int32)), .unset, .unset] [(.int j29), (.int (r_7 j3 (131072 : Int32) (u_11_w_words_a1_fn j2 (131072 : Int32) (fun _ => 0) (0 : Int32))))])) _
        refine XS.icmpNo X37.here hx rfl (hb hby at_309) rfl (teq hs278).2 ?_
        show Steps p.tables e below (T37.setTop (mkF m 312 #[.val (.int p1), .val (.int p2), .val (.int p3), .val (.int p4), .val (.int p5), .val (.int j1), .val (.int j2), .val (.int j3), .val (.int j4), .val (.int j5), .val (.int j7), .val (.ref b9), .val (.int j26), .val (.int j27), .val (.int j29), .val (.ref b31_0), .val (.int (1 : Int32)), .unset, .unset] [])) _
        refine XS.iconst X37.here hx rfl (hb hby at_312) ?_
        show Steps p.tables e below (T37.setTop (mkF m 313 #[.val (.int p1), .val (.int p2), .val (.int p3), .val (.int p4), .val (.int p5), .val (.int j1), .val (.int j2), .val (.int j3), .val (.int j4), .val (.int j5), .val (.int j7), .val (.ref b9), .val (.int j26), .val (.int j27), .val (.int j29), .val (.ref b31_0), .val (.int (1 : Int32)), .unset, .unset] [(.int (1 : Int32))])) _
        refine XS.goto X37.here hx rfl (pc0 := 313) (pc' := 317) rfl (hb hby at_313) (by decide) (by decide) ?_
        show Steps p.tables e below (T37.setTop (mkF m 317 #[.val (.int p1), .val (.int p2), .val (.int p3), .val (.int p4), .val (.int p5), .val (.int j1), .val (.int j2), .val (.int j3), .val (.int j4), .val (.int j5), .val (.int j7), .val (.ref b9), .val (.int j26), .val (.int j27), .val (.int j29), .val (.ref b31_0), .val (.int (1 : Int32)), .unset, .unset] [(.int (1 : Int32))])) _
        refine XS.istore X37.here hx rfl (hb hby at_317) rfl (l' := #[.val (.int p1), .val (.int p2), .val (.int p3), .val (.int p4), .val (.int p5), .val (.int j1), .val (.int j2), .val (.int j3), .val (.int j4), .val (.int j5), .val (.int j7), .val (.ref b9), .val (.int j26), .val (.int j27), .val (.int j29), .val (.ref b31_0), .val (.int (1 : Int32)), .unset, .unset]) rfl ?_
        show Steps p.tables e below (T37.setTop (mkF m 319 #[.val (.int p1), .val (.int p2), .val (.int p3), .val (.int p4), .val (.int p5), .val (.int j1), .val (.int j2), .val (.int j3), .val (.int j4), .val (.int j5), .val (.int j7), .val (.ref b9), .val (.int j26), .val (.int j27), .val (.int j29), .val (.ref b31_0), .val (.int (1 : Int32)), .unset, .unset] [])) _
        refine XS.iload X37.here hx rfl (hb hby at_319) rfl ?_
        show Steps p.tables e below (T37.setTop (mkF m 321 #[.val (.int p1), .val (.int p2), .val (.int p3), .val (.int p4), .val (.int p5), .val (.int j1), .val (.int j2), .val (.int j3), .val (.int j4), .val (.int j5), .val (.int j7), .val (.ref b9), .val (.int j26), .val (.int j27), .val (.int j29), .val (.ref b31_0), .val (.int (1 : Int32)), .unset, .unset] [(.int j26)])) _
        refine XS.iload X37.here hx rfl (hb hby at_321) rfl ?_
        exact k
      obtain ⟨j38, hj38, st39⟩ : ∃ (j38 : Int32), j38 = (if j29 = (0 : Int32) then (1 : Int32) else (0 : Int32)) ∧ ∀ t, Steps p.tables e below (T37.setTop (mkF m 331 #[.val (.int p1), .val (.int p2), .val (.int p3), .val (.int p4), .val (.int p5), .val (.int j1), .val (.int j2), .val (.int j3), .val (.int j4), .val (.int j5), .val (.int j7), .val (.ref b9), .val (.int j26), .val (.int j27), .val (.int j29), .val (.ref b31_0), .val (.int (1 : Int32)), .unset, .unset] [(.int j38), (.int j26)])) t → Steps p.tables e below (T37.setTop (mkF m 323 #[.val (.int p1), .val (.int p2), .val (.int p3), .val (.int p4), .val (.int p5), .val (.int j1), .val (.int j2), .val (.int j3), .val (.int j4), .val (.int j5), .val (.int j7), .val (.ref b9), .val (.int j26), .val (.int j27), .val (.int j29), .val (.ref b31_0), .val (.int (1 : Int32)), .unset, .unset] [(.int j29), (.int j26)])) t := by
        by_cases hc323_8 : j29 = (0 : Int32)
        · skip
          refine ⟨(1 : Int32), (by simp only [if_pos hc323_8]), fun t k => ?_⟩
          show Steps p.tables e below (T37.setTop (mkF m 323 #[.val (.int p1), .val (.int p2), .val (.int p3), .val (.int p4), .val (.int p5), .val (.int j1), .val (.int j2), .val (.int j3), .val (.int j4), .val (.int j5), .val (.int j7), .val (.ref b9), .val (.int j26), .val (.int j27), .val (.int j29), .val (.ref b31_0), .val (.int (1 : Int32)), .unset, .unset] [(.int j29), (.int j26)])) _
          refine XS.ifYes X37.here hx rfl (pc0 := 323) (pc' := 330) rfl (hb hby at_323) rfl ((if0 _ _).trans (teq hc323_8).1) (by decide) (by decide) ?_
          show Steps p.tables e below (T37.setTop (mkF m 330 #[.val (.int p1), .val (.int p2), .val (.int p3), .val (.int p4), .val (.int p5), .val (.int j1), .val (.int j2), .val (.int j3), .val (.int j4), .val (.int j5), .val (.int j7), .val (.ref b9), .val (.int j26), .val (.int j27), .val (.int j29), .val (.ref b31_0), .val (.int (1 : Int32)), .unset, .unset] [(.int j26)])) _
          refine XS.iconst X37.here hx rfl (hb hby at_330) ?_
          exact k
        · skip
          refine ⟨(0 : Int32), (by simp only [if_neg hc323_8]), fun t k => ?_⟩
          show Steps p.tables e below (T37.setTop (mkF m 323 #[.val (.int p1), .val (.int p2), .val (.int p3), .val (.int p4), .val (.int p5), .val (.int j1), .val (.int j2), .val (.int j3), .val (.int j4), .val (.int j5), .val (.int j7), .val (.ref b9), .val (.int j26), .val (.int j27), .val (.int j29), .val (.ref b31_0), .val (.int (1 : Int32)), .unset, .unset] [(.int j29), (.int j26)])) _
          refine XS.ifNo X37.here hx rfl (hb hby at_323) rfl ((if0 _ _).trans (feq hc323_8).1) ?_
          show Steps p.tables e below (T37.setTop (mkF m 326 #[.val (.int p1), .val (.int p2), .val (.int p3), .val (.int p4), .val (.int p5), .val (.int j1), .val (.int j2), .val (.int j3), .val (.int j4), .val (.int j5), .val (.int j7), .val (.ref b9), .val (.int j26), .val (.int j27), .val (.int j29), .val (.ref b31_0), .val (.int (1 : Int32)), .unset, .unset] [(.int j26)])) _
          refine XS.iconst X37.here hx rfl (hb hby at_326) ?_
          show Steps p.tables e below (T37.setTop (mkF m 327 #[.val (.int p1), .val (.int p2), .val (.int p3), .val (.int p4), .val (.int p5), .val (.int j1), .val (.int j2), .val (.int j3), .val (.int j4), .val (.int j5), .val (.int j7), .val (.ref b9), .val (.int j26), .val (.int j27), .val (.int j29), .val (.ref b31_0), .val (.int (1 : Int32)), .unset, .unset] [(.int (0 : Int32)), (.int j26)])) _
          refine XS.goto X37.here hx rfl (pc0 := 327) (pc' := 331) rfl (hb hby at_327) (by decide) (by decide) ?_
          exact k
      refine own_go st39 ?_
      show own_Go p.tables e below _ T37 (mkF m 331 #[.val (.int p1), .val (.int p2), .val (.int p3), .val (.int p4), .val (.int p5), .val (.int j1), .val (.int j2), .val (.int j3), .val (.int j4), .val (.int j5), .val (.int j7), .val (.ref b9), .val (.int j26), .val (.int j27), .val (.int j29), .val (.ref b31_0), .val (.int (1 : Int32)), .unset, .unset] [(.int j38), (.int j26)])
      refine own_go (T' := T37) (g' := (mkF m 334 #[.val (.int p1), .val (.int p2), .val (.int p3), .val (.int p4), .val (.int p5), .val (.int j1), .val (.int j2), .val (.int j3), .val (.int j4), .val (.int j5), .val (.int j7), .val (.ref b9), .val (.int j26), .val (.int j27), .val (.int j29), .val (.ref b31_0), .val (.int (1 : Int32)), .val (.int (j26 + j38)), .unset] [])) (fun t k => ?_) ?_
      · show Steps p.tables e below (T37.setTop (mkF m 331 #[.val (.int p1), .val (.int p2), .val (.int p3), .val (.int p4), .val (.int p5), .val (.int j1), .val (.int j2), .val (.int j3), .val (.int j4), .val (.int j5), .val (.int j7), .val (.ref b9), .val (.int j26), .val (.int j27), .val (.int j29), .val (.ref b31_0), .val (.int (1 : Int32)), .unset, .unset] [(.int j38), (.int j26)])) _
        refine XS.iadd X37.here hx rfl (hb hby at_331) rfl ?_
        show Steps p.tables e below (T37.setTop (mkF m 332 #[.val (.int p1), .val (.int p2), .val (.int p3), .val (.int p4), .val (.int p5), .val (.int j1), .val (.int j2), .val (.int j3), .val (.int j4), .val (.int j5), .val (.int j7), .val (.ref b9), .val (.int j26), .val (.int j27), .val (.int j29), .val (.ref b31_0), .val (.int (1 : Int32)), .unset, .unset] [(.int (j26 + j38))])) _
        refine XS.istore X37.here hx rfl (hb hby at_332) rfl (l' := #[.val (.int p1), .val (.int p2), .val (.int p3), .val (.int p4), .val (.int p5), .val (.int j1), .val (.int j2), .val (.int j3), .val (.int j4), .val (.int j5), .val (.int j7), .val (.ref b9), .val (.int j26), .val (.int j27), .val (.int j29), .val (.ref b31_0), .val (.int (1 : Int32)), .val (.int (j26 + j38)), .unset]) rfl ?_
        exact k
      show own_Go p.tables e below _ T37 (mkF m 334 #[.val (.int p1), .val (.int p2), .val (.int p3), .val (.int p4), .val (.int p5), .val (.int j1), .val (.int j2), .val (.int j3), .val (.int j4), .val (.int j5), .val (.int j7), .val (.ref b9), .val (.int j26), .val (.int j27), .val (.int j29), .val (.ref b31_0), .val (.int (1 : Int32)), .val (.int (j26 + j38)), .unset] [])
      obtain ⟨j40, hj40⟩ : ∃ z : Int32, z = (j26 + j38) := ⟨_, rfl⟩
      rw [← hj40]
      show own_Go p.tables e below _ T37 (mkF m 334 #[.val (.int p1), .val (.int p2), .val (.int p3), .val (.int p4), .val (.int p5), .val (.int j1), .val (.int j2), .val (.int j3), .val (.int j4), .val (.int j5), .val (.int j7), .val (.ref b9), .val (.int j26), .val (.int j27), .val (.int j29), .val (.ref b31_0), .val (.int (1 : Int32)), .val (.int j40), .unset] [])
      refine own_go (T' := T37) (g' := (mkF m 336 #[.val (.int p1), .val (.int p2), .val (.int p3), .val (.int p4), .val (.int p5), .val (.int j1), .val (.int j2), .val (.int j3), .val (.int j4), .val (.int j5), .val (.int j7), .val (.ref b9), .val (.int j26), .val (.int j27), .val (.int j29), .val (.ref b31_0), .val (.int (1 : Int32)), .val (.int j40), .unset] [(.int (1 : Int32))])) (fun t k => ?_) ?_
      · show Steps p.tables e below (T37.setTop (mkF m 334 #[.val (.int p1), .val (.int p2), .val (.int p3), .val (.int p4), .val (.int p5), .val (.int j1), .val (.int j2), .val (.int j3), .val (.int j4), .val (.int j5), .val (.int j7), .val (.ref b9), .val (.int j26), .val (.int j27), .val (.int j29), .val (.ref b31_0), .val (.int (1 : Int32)), .val (.int j40), .unset] [])) _
        refine XS.iload X37.here hx rfl (hb hby at_334) rfl ?_
        exact k
      refine own_go (T' := T37) (g' := (mkF m 341 #[.val (.int p1), .val (.int p2), .val (.int p3), .val (.int p4), .val (.int p5), .val (.int j1), .val (.int j2), .val (.int j3), .val (.int j4), .val (.int j5), .val (.int j7), .val (.ref b9), .val (.int j26), .val (.int j27), .val (.int j29), .val (.ref b31_0), .val (.int (1 : Int32)), .val (.int j40), .unset] [(.ref b31_0)])) (fun t k => ?_) ?_
      · show Steps p.tables e below (T37.setTop (mkF m 336 #[.val (.int p1), .val (.int p2), .val (.int p3), .val (.int p4), .val (.int p5), .val (.int j1), .val (.int j2), .val (.int j3), .val (.int j4), .val (.int j5), .val (.int j7), .val (.ref b9), .val (.int j26), .val (.int j27), .val (.int j29), .val (.ref b31_0), .val (.int (1 : Int32)), .val (.int j40), .unset] [(.int (1 : Int32))])) _
        refine XS.ifNo X37.here hx rfl (hb hby at_336) rfl ((if0 _ _).trans (feq (by decide : ¬ ((1 : Int32) = (0 : Int32)))).1) ?_
        show Steps p.tables e below (T37.setTop (mkF m 339 #[.val (.int p1), .val (.int p2), .val (.int p3), .val (.int p4), .val (.int p5), .val (.int j1), .val (.int j2), .val (.int j3), .val (.int j4), .val (.int j5), .val (.int j7), .val (.ref b9), .val (.int j26), .val (.int j27), .val (.int j29), .val (.ref b31_0), .val (.int (1 : Int32)), .val (.int j40), .unset] [])) _
        refine XS.aload X37.here hx rfl (hb hby at_339) rfl rfl ?_
        exact k
      obtain ⟨cq41, kq41, q41a, q41b, q41c⟩ := isOf hZ e37 E_b31_0
      obtain ⟨_, _, ⟨T41, L41, k41, n41⟩, -, X41, ⟨Lc41, hQ41, l41, y41, z41⟩, st41⟩ := X37.virtualBack hx (y := (⟨"com/example/capd/capd/status/Bitstring", "count", "()I"⟩ : MethodName)) (z := (⟨"com/example/capd/capd/status/Bitstring", "count", "()I"⟩ : MethodName)) hown (mvT hZ (hw _ (List.mem_of_getElem? (i := 42) rfl))) (mvT hZ (hw _ (List.mem_of_getElem? (i := 43) rfl))) (notFace_of_selects (args := #[]) (mvT hZ (hw _ (List.mem_of_getElem? (i := 45) rfl)))) (mvT hZ (hw _ (List.mem_of_getElem? (i := 45) rfl))) (mvT hZ (hw _ (List.mem_of_getElem? (i := 44) rfl))) (by decide) (backOf (W := 0) (rm6 l Z a0 hw [] b31_0 (u_11_a1_count j3 (131072 : Int32) (u_11_w_words_a1_fn j2 (131072 : Int32) (fun _ => 0) (0 : Int32)) (u_11_a1_count j2 (131072 : Int32) (fun _ => 0) (0 : Int32))) T36.heap n0 Z0 F_b31_0_count) hZ (hw _ (List.mem_of_getElem? (i := 46) rfl)) (hw _ (List.mem_of_getElem? (i := 3) rfl)) (by decide) (by decide)) q41a q41c (g := (mkF m 341 #[.val (.int p1), .val (.int p2), .val (.int p3), .val (.int p4), .val (.int p5), .val (.int j1), .val (.int j2), .val (.int j3), .val (.int j4), .val (.int j5), .val (.int j7), .val (.ref b9), .val (.int j26), .val (.int j27), .val (.int j29), .val (.ref b31_0), .val (.int (1 : Int32)), .val (.int j40), .unset] [(.ref b31_0)])) rfl (by rw [hml]; rfl) (Steps.refl _) (argsL := []) (rest := []) (lenOf pd_4 rfl) rfl (by show 2 * 0 + _ ≤ _; exact Nat.le_of_eq rfl) (hb hby at_341) (fun _ _ => ⟨rfl, e37, (by decide : 4 + 0 ≤ _), (by decide : 4102 + 0 ≤ _)⟩)
      dsimp only [Pt.U, Pt.locs, Pt.cells, Pt.slots] at X41 l41 y41 z41 st41 hQ41
      subst l41 y41 z41
      obtain ⟨rfl, N41q, e41⟩ := hQ41
      have NN := Fr.app NN N41q
      refine own_go (fun t k => st41.trans k) ?_
      show own_Go p.tables e below _ T41 (mkF m 344 #[.val (.int p1), .val (.int p2), .val (.int p3), .val (.int p4), .val (.int p5), .val (.int j1), .val (.int j2), .val (.int j3), .val (.int j4), .val (.int j5), .val (.int j7), .val (.ref b9), .val (.int j26), .val (.int j27), .val (.int j29), .val (.ref b31_0), .val (.int (1 : Int32)), .val (.int j40), .unset] [(.int (r_6 (u_11_a1_count j3 (131072 : Int32) (u_11_w_words_a1_fn j2 (131072 : Int32) (fun _ => 0) (0 : Int32)) (u_11_a1_count j2 (131072 : Int32) (fun _ => 0) (0 : Int32)))))])
      refine own_go (T' := T41) (g' := (mkF m 346 #[.val (.int p1), .val (.int p2), .val (.int p3), .val (.int p4), .val (.int p5), .val (.int j1), .val (.int j2), .val (.int j3), .val (.int j4), .val (.int j5), .val (.int j7), .val (.ref b9), .val (.int j26), .val (.int j27), .val (.int j29), .val (.ref b31_0), .val (.int (1 : Int32)), .val (.int j40), .unset] [(.int j40), (.int (r_6 (u_11_a1_count j3 (131072 : Int32) (u_11_w_words_a1_fn j2 (131072 : Int32) (fun _ => 0) (0 : Int32)) (u_11_a1_count j2 (131072 : Int32) (fun _ => 0) (0 : Int32)))))])) (fun t k => ?_) ?_
      · show Steps p.tables e below (T41.setTop (mkF m 344 #[.val (.int p1), .val (.int p2), .val (.int p3), .val (.int p4), .val (.int p5), .val (.int j1), .val (.int j2), .val (.int j3), .val (.int j4), .val (.int j5), .val (.int j7), .val (.ref b9), .val (.int j26), .val (.int j27), .val (.int j29), .val (.ref b31_0), .val (.int (1 : Int32)), .val (.int j40), .unset] [(.int (r_6 (u_11_a1_count j3 (131072 : Int32) (u_11_w_words_a1_fn j2 (131072 : Int32) (fun _ => 0) (0 : Int32)) (u_11_a1_count j2 (131072 : Int32) (fun _ => 0) (0 : Int32)))))])) _
        refine XS.iload X41.here hx rfl (hb hby at_344) rfl ?_
        exact k
      have hs346 : (r_6 (u_11_a1_count j3 (131072 : Int32) (u_11_w_words_a1_fn j2 (131072 : Int32) (fun _ => 0) (0 : Int32)) (u_11_a1_count j2 (131072 : Int32) (fun _ => 0) (0 : Int32)))) = j40 := own_at_hs346_tf p1 p2 p3 p5 j1 j2 j3 j5 j7 j26 j27 j29 j38 j40 hj1 hj2 hj3 hj5 hj7 hj26 hj27 hj29 hj38 hj40 hc63_3 hc75_4 hhhhc1_3_5_82 hhhhc6_3_5_82 hhhlo17_11_82 hhhhi17_11_82 hs208 hs230 hhhhc1_3_5_249 hhhhc6_3_5_249 hhlo17_249 hhhi17_249 hs254 hhhhc1_3_5_273 hhhhc6_3_5_273 hhlo17_273 hhhi17_273 hs278
      refine own_go (T' := T41) (g' := (mkF m 358 #[.val (.int p1), .val (.int p2), .val (.int p3), .val (.int p4), .val (.int p5), .val (.int j1), .val (.int j2), .val (.int j3), .val (.int j4), .val (.int j5), .val (.int j7), .val (.ref b9), .val (.int j26), .val (.int j27), .val (.int j29), .val (.ref b31_0), .val (.int (1 : Int32)), .val (.int j40), .unset] [(.int j5)])) (fun t k => ?_) ?_
      · show Steps p.tables e below (T41.setTop (mkF m 346 #[.val (.int p1), .val (.int p2), .val (.int p3), .val (.int p4), .val (.int p5), .val (.int j1), .val (.int j2), .val (.int j3), .val (.int j4), .val (.int j5), .val (.int j7), .val (.ref b9), .val (.int j26), .val (.int j27), .val (.int j29), .val (.ref b31_0), .val (.int (1 : Int32)), .val (.int j40), .unset] [(.int j40), (.int (r_6 (u_11_a1_count j3 (131072 : Int32) (u_11_w_words_a1_fn j2 (131072 : Int32) (fun _ => 0) (0 : Int32)) (u_11_a1_count j2 (131072 : Int32) (fun _ => 0) (0 : Int32)))))])) _
        refine XS.icmpNo X41.here hx rfl (hb hby at_346) rfl (teq hs346).2 ?_
        show Steps p.tables e below (T41.setTop (mkF m 349 #[.val (.int p1), .val (.int p2), .val (.int p3), .val (.int p4), .val (.int p5), .val (.int j1), .val (.int j2), .val (.int j3), .val (.int j4), .val (.int j5), .val (.int j7), .val (.ref b9), .val (.int j26), .val (.int j27), .val (.int j29), .val (.ref b31_0), .val (.int (1 : Int32)), .val (.int j40), .unset] [])) _
        refine XS.iconst X41.here hx rfl (hb hby at_349) ?_
        show Steps p.tables e below (T41.setTop (mkF m 350 #[.val (.int p1), .val (.int p2), .val (.int p3), .val (.int p4), .val (.int p5), .val (.int j1), .val (.int j2), .val (.int j3), .val (.int j4), .val (.int j5), .val (.int j7), .val (.ref b9), .val (.int j26), .val (.int j27), .val (.int j29), .val (.ref b31_0), .val (.int (1 : Int32)), .val (.int j40), .unset] [(.int (1 : Int32))])) _
        refine XS.goto X41.here hx rfl (pc0 := 350) (pc' := 354) rfl (hb hby at_350) (by decide) (by decide) ?_
        show Steps p.tables e below (T41.setTop (mkF m 354 #[.val (.int p1), .val (.int p2), .val (.int p3), .val (.int p4), .val (.int p5), .val (.int j1), .val (.int j2), .val (.int j3), .val (.int j4), .val (.int j5), .val (.int j7), .val (.ref b9), .val (.int j26), .val (.int j27), .val (.int j29), .val (.ref b31_0), .val (.int (1 : Int32)), .val (.int j40), .unset] [(.int (1 : Int32))])) _
        refine XS.istore X41.here hx rfl (hb hby at_354) rfl (l' := #[.val (.int p1), .val (.int p2), .val (.int p3), .val (.int p4), .val (.int p5), .val (.int j1), .val (.int j2), .val (.int j3), .val (.int j4), .val (.int j5), .val (.int j7), .val (.ref b9), .val (.int j26), .val (.int j27), .val (.int j29), .val (.ref b31_0), .val (.int (1 : Int32)), .val (.int j40), .unset]) rfl ?_
        show Steps p.tables e below (T41.setTop (mkF m 356 #[.val (.int p1), .val (.int p2), .val (.int p3), .val (.int p4), .val (.int p5), .val (.int j1), .val (.int j2), .val (.int j3), .val (.int j4), .val (.int j5), .val (.int j7), .val (.ref b9), .val (.int j26), .val (.int j27), .val (.int j29), .val (.ref b31_0), .val (.int (1 : Int32)), .val (.int j40), .unset] [])) _
        refine XS.iload X41.here hx rfl (hb hby at_356) rfl ?_
        exact k
      refine own_go (T' := T41) (g' := (mkF m 370 #[.val (.int p1), .val (.int p2), .val (.int p3), .val (.int p4), .val (.int p5), .val (.int j1), .val (.int j2), .val (.int j3), .val (.int j4), .val (.int j5), .val (.int j7), .val (.ref b9), .val (.int j26), .val (.int j27), .val (.int j29), .val (.ref b31_0), .val (.int (1 : Int32)), .val (.int j40), .unset] [(.int j7)])) (fun t k => ?_) ?_
      · show Steps p.tables e below (T41.setTop (mkF m 358 #[.val (.int p1), .val (.int p2), .val (.int p3), .val (.int p4), .val (.int p5), .val (.int j1), .val (.int j2), .val (.int j3), .val (.int j4), .val (.int j5), .val (.int j7), .val (.ref b9), .val (.int j26), .val (.int j27), .val (.int j29), .val (.ref b31_0), .val (.int (1 : Int32)), .val (.int j40), .unset] [(.int j5)])) _
        refine XS.ifYes X41.here hx rfl (pc0 := 358) (pc' := 368) rfl (hb hby at_358) rfl ((if0 _ _).trans (teq hc63_3).1) (by decide) (by decide) ?_
        show Steps p.tables e below (T41.setTop (mkF m 368 #[.val (.int p1), .val (.int p2), .val (.int p3), .val (.int p4), .val (.int p5), .val (.int j1), .val (.int j2), .val (.int j3), .val (.int j4), .val (.int j5), .val (.int j7), .val (.ref b9), .val (.int j26), .val (.int j27), .val (.int j29), .val (.ref b31_0), .val (.int (1 : Int32)), .val (.int j40), .unset] [])) _
        refine XS.iload X41.here hx rfl (hb hby at_368) rfl ?_
        exact k
      refine own_go (T' := T41) (g' := (mkF m 377 #[.val (.int p1), .val (.int p2), .val (.int p3), .val (.int p4), .val (.int p5), .val (.int j1), .val (.int j2), .val (.int j3), .val (.int j4), .val (.int j5), .val (.int j7), .val (.ref b9), .val (.int j26), .val (.int j27), .val (.int j29), .val (.ref b31_0), .val (.int (1 : Int32)), .val (.int j40), .unset] [(.int j2), (.int j4)])) (fun t k => ?_) ?_
      · show Steps p.tables e below (T41.setTop (mkF m 370 #[.val (.int p1), .val (.int p2), .val (.int p3), .val (.int p4), .val (.int p5), .val (.int j1), .val (.int j2), .val (.int j3), .val (.int j4), .val (.int j5), .val (.int j7), .val (.ref b9), .val (.int j26), .val (.int j27), .val (.int j29), .val (.ref b31_0), .val (.int (1 : Int32)), .val (.int j40), .unset] [(.int j7)])) _
        refine XS.ifNo X41.here hx rfl (hb hby at_370) rfl ((if0 _ _).trans (feq hc75_4).1) ?_
        show Steps p.tables e below (T41.setTop (mkF m 373 #[.val (.int p1), .val (.int p2), .val (.int p3), .val (.int p4), .val (.int p5), .val (.int j1), .val (.int j2), .val (.int j3), .val (.int j4), .val (.int j5), .val (.int j7), .val (.ref b9), .val (.int j26), .val (.int j27), .val (.int j29), .val (.ref b31_0), .val (.int (1 : Int32)), .val (.int j40), .unset] [])) _
        refine XS.iload X41.here hx rfl (hb hby at_373) rfl ?_
        show Steps p.tables e below (T41.setTop (mkF m 375 #[.val (.int p1), .val (.int p2), .val (.int p3), .val (.int p4), .val (.int p5), .val (.int j1), .val (.int j2), .val (.int j3), .val (.int j4), .val (.int j5), .val (.int j7), .val (.ref b9), .val (.int j26), .val (.int j27), .val (.int j29), .val (.ref b31_0), .val (.int (1 : Int32)), .val (.int j40), .unset] [(.int j4)])) _
        refine XS.iload X41.here hx rfl (hb hby at_375) rfl ?_
        exact k
      obtain ⟨j42, hj42, st43⟩ : ∃ (j42 : Int32), j42 = (if j4 = j2 then (1 : Int32) else (if j4 = j3 then (1 : Int32) else (0 : Int32))) ∧ ∀ t, Steps p.tables e below (T41.setTop (mkF m 392 #[.val (.int p1), .val (.int p2), .val (.int p3), .val (.int p4), .val (.int p5), .val (.int j1), .val (.int j2), .val (.int j3), .val (.int j4), .val (.int j5), .val (.int j7), .val (.ref b9), .val (.int j26), .val (.int j27), .val (.int j29), .val (.ref b31_0), .val (.int (1 : Int32)), .val (.int j40), .unset] [(.int j42)])) t → Steps p.tables e below (T41.setTop (mkF m 377 #[.val (.int p1), .val (.int p2), .val (.int p3), .val (.int p4), .val (.int p5), .val (.int j1), .val (.int j2), .val (.int j3), .val (.int j4), .val (.int j5), .val (.int j7), .val (.ref b9), .val (.int j26), .val (.int j27), .val (.int j29), .val (.ref b31_0), .val (.int (1 : Int32)), .val (.int j40), .unset] [(.int j2), (.int j4)])) t := by
        by_cases hc377_9 : j4 = j2
        · skip
          refine ⟨(1 : Int32), (by simp only [if_pos hc377_9]), fun t k => ?_⟩
          show Steps p.tables e below (T41.setTop (mkF m 377 #[.val (.int p1), .val (.int p2), .val (.int p3), .val (.int p4), .val (.int p5), .val (.int j1), .val (.int j2), .val (.int j3), .val (.int j4), .val (.int j5), .val (.int j7), .val (.ref b9), .val (.int j26), .val (.int j27), .val (.int j29), .val (.ref b31_0), .val (.int (1 : Int32)), .val (.int j40), .unset] [(.int j2), (.int j4)])) _
          refine XS.icmpYes X41.here hx rfl (pc0 := 377) (pc' := 387) rfl (hb hby at_377) rfl (teq hc377_9).1 (by decide) (by decide) ?_
          show Steps p.tables e below (T41.setTop (mkF m 387 #[.val (.int p1), .val (.int p2), .val (.int p3), .val (.int p4), .val (.int p5), .val (.int j1), .val (.int j2), .val (.int j3), .val (.int j4), .val (.int j5), .val (.int j7), .val (.ref b9), .val (.int j26), .val (.int j27), .val (.int j29), .val (.ref b31_0), .val (.int (1 : Int32)), .val (.int j40), .unset] [])) _
          refine XS.iconst X41.here hx rfl (hb hby at_387) ?_
          show Steps p.tables e below (T41.setTop (mkF m 388 #[.val (.int p1), .val (.int p2), .val (.int p3), .val (.int p4), .val (.int p5), .val (.int j1), .val (.int j2), .val (.int j3), .val (.int j4), .val (.int j5), .val (.int j7), .val (.ref b9), .val (.int j26), .val (.int j27), .val (.int j29), .val (.ref b31_0), .val (.int (1 : Int32)), .val (.int j40), .unset] [(.int (1 : Int32))])) _
          refine XS.goto X41.here hx rfl (pc0 := 388) (pc' := 392) rfl (hb hby at_388) (by decide) (by decide) ?_
          exact k
        · skip
          by_cases hc384_10 : j4 = j3
          · skip
            refine ⟨(1 : Int32), (by simp only [if_neg hc377_9, if_pos hc384_10]), fun t k => ?_⟩
            show Steps p.tables e below (T41.setTop (mkF m 377 #[.val (.int p1), .val (.int p2), .val (.int p3), .val (.int p4), .val (.int p5), .val (.int j1), .val (.int j2), .val (.int j3), .val (.int j4), .val (.int j5), .val (.int j7), .val (.ref b9), .val (.int j26), .val (.int j27), .val (.int j29), .val (.ref b31_0), .val (.int (1 : Int32)), .val (.int j40), .unset] [(.int j2), (.int j4)])) _
            refine XS.icmpNo X41.here hx rfl (hb hby at_377) rfl (feq hc377_9).1 ?_
            show Steps p.tables e below (T41.setTop (mkF m 380 #[.val (.int p1), .val (.int p2), .val (.int p3), .val (.int p4), .val (.int p5), .val (.int j1), .val (.int j2), .val (.int j3), .val (.int j4), .val (.int j5), .val (.int j7), .val (.ref b9), .val (.int j26), .val (.int j27), .val (.int j29), .val (.ref b31_0), .val (.int (1 : Int32)), .val (.int j40), .unset] [])) _
            refine XS.iload X41.here hx rfl (hb hby at_380) rfl ?_
            show Steps p.tables e below (T41.setTop (mkF m 382 #[.val (.int p1), .val (.int p2), .val (.int p3), .val (.int p4), .val (.int p5), .val (.int j1), .val (.int j2), .val (.int j3), .val (.int j4), .val (.int j5), .val (.int j7), .val (.ref b9), .val (.int j26), .val (.int j27), .val (.int j29), .val (.ref b31_0), .val (.int (1 : Int32)), .val (.int j40), .unset] [(.int j4)])) _
            refine XS.iload X41.here hx rfl (hb hby at_382) rfl ?_
            show Steps p.tables e below (T41.setTop (mkF m 384 #[.val (.int p1), .val (.int p2), .val (.int p3), .val (.int p4), .val (.int p5), .val (.int j1), .val (.int j2), .val (.int j3), .val (.int j4), .val (.int j5), .val (.int j7), .val (.ref b9), .val (.int j26), .val (.int j27), .val (.int j29), .val (.ref b31_0), .val (.int (1 : Int32)), .val (.int j40), .unset] [(.int j3), (.int j4)])) _
            refine XS.icmpNo X41.here hx rfl (hb hby at_384) rfl (teq hc384_10).2 ?_
            show Steps p.tables e below (T41.setTop (mkF m 387 #[.val (.int p1), .val (.int p2), .val (.int p3), .val (.int p4), .val (.int p5), .val (.int j1), .val (.int j2), .val (.int j3), .val (.int j4), .val (.int j5), .val (.int j7), .val (.ref b9), .val (.int j26), .val (.int j27), .val (.int j29), .val (.ref b31_0), .val (.int (1 : Int32)), .val (.int j40), .unset] [])) _
            refine XS.iconst X41.here hx rfl (hb hby at_387) ?_
            show Steps p.tables e below (T41.setTop (mkF m 388 #[.val (.int p1), .val (.int p2), .val (.int p3), .val (.int p4), .val (.int p5), .val (.int j1), .val (.int j2), .val (.int j3), .val (.int j4), .val (.int j5), .val (.int j7), .val (.ref b9), .val (.int j26), .val (.int j27), .val (.int j29), .val (.ref b31_0), .val (.int (1 : Int32)), .val (.int j40), .unset] [(.int (1 : Int32))])) _
            refine XS.goto X41.here hx rfl (pc0 := 388) (pc' := 392) rfl (hb hby at_388) (by decide) (by decide) ?_
            exact k
          · skip
            refine ⟨(0 : Int32), (by simp only [if_neg hc377_9, if_neg hc384_10]), fun t k => ?_⟩
            show Steps p.tables e below (T41.setTop (mkF m 377 #[.val (.int p1), .val (.int p2), .val (.int p3), .val (.int p4), .val (.int p5), .val (.int j1), .val (.int j2), .val (.int j3), .val (.int j4), .val (.int j5), .val (.int j7), .val (.ref b9), .val (.int j26), .val (.int j27), .val (.int j29), .val (.ref b31_0), .val (.int (1 : Int32)), .val (.int j40), .unset] [(.int j2), (.int j4)])) _
            refine XS.icmpNo X41.here hx rfl (hb hby at_377) rfl (feq hc377_9).1 ?_
            show Steps p.tables e below (T41.setTop (mkF m 380 #[.val (.int p1), .val (.int p2), .val (.int p3), .val (.int p4), .val (.int p5), .val (.int j1), .val (.int j2), .val (.int j3), .val (.int j4), .val (.int j5), .val (.int j7), .val (.ref b9), .val (.int j26), .val (.int j27), .val (.int j29), .val (.ref b31_0), .val (.int (1 : Int32)), .val (.int j40), .unset] [])) _
            refine XS.iload X41.here hx rfl (hb hby at_380) rfl ?_
            show Steps p.tables e below (T41.setTop (mkF m 382 #[.val (.int p1), .val (.int p2), .val (.int p3), .val (.int p4), .val (.int p5), .val (.int j1), .val (.int j2), .val (.int j3), .val (.int j4), .val (.int j5), .val (.int j7), .val (.ref b9), .val (.int j26), .val (.int j27), .val (.int j29), .val (.ref b31_0), .val (.int (1 : Int32)), .val (.int j40), .unset] [(.int j4)])) _
            refine XS.iload X41.here hx rfl (hb hby at_382) rfl ?_
            show Steps p.tables e below (T41.setTop (mkF m 384 #[.val (.int p1), .val (.int p2), .val (.int p3), .val (.int p4), .val (.int p5), .val (.int j1), .val (.int j2), .val (.int j3), .val (.int j4), .val (.int j5), .val (.int j7), .val (.ref b9), .val (.int j26), .val (.int j27), .val (.int j29), .val (.ref b31_0), .val (.int (1 : Int32)), .val (.int j40), .unset] [(.int j3), (.int j4)])) _
            refine XS.icmpYes X41.here hx rfl (pc0 := 384) (pc' := 391) rfl (hb hby at_384) rfl (feq hc384_10).2 (by decide) (by decide) ?_
            show Steps p.tables e below (T41.setTop (mkF m 391 #[.val (.int p1), .val (.int p2), .val (.int p3), .val (.int p4), .val (.int p5), .val (.int j1), .val (.int j2), .val (.int j3), .val (.int j4), .val (.int j5), .val (.int j7), .val (.ref b9), .val (.int j26), .val (.int j27), .val (.int j29), .val (.ref b31_0), .val (.int (1 : Int32)), .val (.int j40), .unset] [])) _
            refine XS.iconst X41.here hx rfl (hb hby at_391) ?_
            exact k
      refine own_go st43 ?_
      show own_Go p.tables e below _ T41 (mkF m 392 #[.val (.int p1), .val (.int p2), .val (.int p3), .val (.int p4), .val (.int p5), .val (.int j1), .val (.int j2), .val (.int j3), .val (.int j4), .val (.int j5), .val (.int j7), .val (.ref b9), .val (.int j26), .val (.int j27), .val (.int j29), .val (.ref b31_0), .val (.int (1 : Int32)), .val (.int j40), .unset] [(.int j42)])
      refine own_go (T' := T41) (g' := (mkF m 398 #[.val (.int p1), .val (.int p2), .val (.int p3), .val (.int p4), .val (.int p5), .val (.int j1), .val (.int j2), .val (.int j3), .val (.int j4), .val (.int j5), .val (.int j7), .val (.ref b9), .val (.int j26), .val (.int j27), .val (.int j29), .val (.ref b31_0), .val (.int (1 : Int32)), .val (.int j40), .val (.int j42)] [(.int j4), (.ref b9)])) (fun t k => ?_) ?_
      · show Steps p.tables e below (T41.setTop (mkF m 392 #[.val (.int p1), .val (.int p2), .val (.int p3), .val (.int p4), .val (.int p5), .val (.int j1), .val (.int j2), .val (.int j3), .val (.int j4), .val (.int j5), .val (.int j7), .val (.ref b9), .val (.int j26), .val (.int j27), .val (.int j29), .val (.ref b31_0), .val (.int (1 : Int32)), .val (.int j40), .unset] [(.int j42)])) _
        refine XS.istore X41.here hx rfl (hb hby at_392) rfl (l' := #[.val (.int p1), .val (.int p2), .val (.int p3), .val (.int p4), .val (.int p5), .val (.int j1), .val (.int j2), .val (.int j3), .val (.int j4), .val (.int j5), .val (.int j7), .val (.ref b9), .val (.int j26), .val (.int j27), .val (.int j29), .val (.ref b31_0), .val (.int (1 : Int32)), .val (.int j40), .val (.int j42)]) rfl ?_
        show Steps p.tables e below (T41.setTop (mkF m 394 #[.val (.int p1), .val (.int p2), .val (.int p3), .val (.int p4), .val (.int p5), .val (.int j1), .val (.int j2), .val (.int j3), .val (.int j4), .val (.int j5), .val (.int j7), .val (.ref b9), .val (.int j26), .val (.int j27), .val (.int j29), .val (.ref b31_0), .val (.int (1 : Int32)), .val (.int j40), .val (.int j42)] [])) _
        refine XS.aload X41.here hx rfl (hb hby at_394) rfl rfl ?_
        show Steps p.tables e below (T41.setTop (mkF m 396 #[.val (.int p1), .val (.int p2), .val (.int p3), .val (.int p4), .val (.int p5), .val (.int j1), .val (.int j2), .val (.int j3), .val (.int j4), .val (.int j5), .val (.int j7), .val (.ref b9), .val (.int j26), .val (.int j27), .val (.int j29), .val (.ref b31_0), .val (.int (1 : Int32)), .val (.int j40), .val (.int j42)] [(.ref b9)])) _
        refine XS.iload X41.here hx rfl (hb hby at_396) rfl ?_
        exact k
      have hhhhc1_3_5_398 : ¬ (j4 < (0 : Int32)) := own_at_hhhhc1_3_5_398_tf p1 p2 p3 p4 p5 j1 j2 j3 j4 j5 j7 j26 j27 j29 j38 j40 hj1 hj2 hj3 hj4 hj5 hj7 hj26 hj27 hj29 hj38 hj40 hc63_3 hc75_4 hhhhc1_3_5_82 hhhhc6_3_5_82 hhhlo17_11_82 hhhhi17_11_82 hs208 hs230 hhhhc1_3_5_249 hhhhc6_3_5_249 hhlo17_249 hhhi17_249 hs254 hhhhc1_3_5_273 hhhhc6_3_5_273 hhlo17_273 hhhi17_273 hs278 hs346
      have hhhhc6_3_5_398 : j4 < (131072 : Int32) := own_at_hhhhc6_3_5_398_tf p1 p2 p3 p4 p5 j1 j2 j3 j4 j5 j7 j26 j27 j29 j38 j40 hj1 hj2 hj3 hj4 hj5 hj7 hj26 hj27 hj29 hj38 hj40 hc63_3 hc75_4 hhhhc1_3_5_82 hhhhc6_3_5_82 hhhlo17_11_82 hhhhi17_11_82 hs208 hs230 hhhhc1_3_5_249 hhhhc6_3_5_249 hhlo17_249 hhhi17_249 hs254 hhhhc1_3_5_273 hhhhc6_3_5_273 hhlo17_273 hhhi17_273 hs278 hs346 hhhhc1_3_5_398
      have hhhlo17_11_398 : ¬ ((j4 / (64 : Int32)) < (0 : Int32)) := own_at_hhhlo17_11_398_tf p1 p2 p3 p4 p5 j1 j2 j3 j4 j5 j7 j26 j27 j29 j38 j40 hj1 hj2 hj3 hj4 hj5 hj7 hj26 hj27 hj29 hj38 hj40 hc63_3 hc75_4 hhhhc1_3_5_82 hhhhc6_3_5_82 hhhlo17_11_82 hhhhi17_11_82 hs208 hs230 hhhhc1_3_5_249 hhhhc6_3_5_249 hhlo17_249 hhhi17_249 hs254 hhhhc1_3_5_273 hhhhc6_3_5_273 hhlo17_273 hhhi17_273 hs278 hs346 hhhhc1_3_5_398 hhhhc6_3_5_398
      have hhhhi17_11_398 : (j4 / (64 : Int32)) < (2048 : Int32) := own_at_hhhhi17_11_398_tf p1 p2 p3 p4 p5 j1 j2 j3 j4 j5 j7 j26 j27 j29 j38 j40 hj1 hj2 hj3 hj4 hj5 hj7 hj26 hj27 hj29 hj38 hj40 hc63_3 hc75_4 hhhhc1_3_5_82 hhhhc6_3_5_82 hhhlo17_11_82 hhhhi17_11_82 hs208 hs230 hhhhc1_3_5_249 hhhhc6_3_5_249 hhlo17_249 hhhi17_249 hs254 hhhhc1_3_5_273 hhhhc6_3_5_273 hhlo17_273 hhhi17_273 hs278 hs346 hhhhc1_3_5_398 hhhhc6_3_5_398 hhhlo17_11_398
      obtain ⟨cq44, kq44, q44a, q44b, q44c⟩ := isOf hZ e41 E_b9
      obtain ⟨_, _, ⟨T44, L44, k44, n44⟩, -, X44, ⟨Lc44, hQ44, l44, y44, z44⟩, st44⟩ := X41.virtualBack hx (y := (⟨"com/example/capd/capd/status/Bitstring", "set", "(I)V"⟩ : MethodName)) (z := (⟨"com/example/capd/capd/status/Bitstring", "set", "(I)V"⟩ : MethodName)) hown (mvT hZ (hw _ (List.mem_of_getElem? (i := 64) rfl))) (mvT hZ (hw _ (List.mem_of_getElem? (i := 65) rfl))) (notFace_of_selects (args := #[]) (mvT hZ (hw _ (List.mem_of_getElem? (i := 67) rfl)))) (mvT hZ (hw _ (List.mem_of_getElem? (i := 67) rfl))) (mvT hZ (hw _ (List.mem_of_getElem? (i := 66) rfl))) (by decide) (backOf (W := 0) (rm11 l Z a0 hw [] b9 j4 (131072 : Int32) b10_0 k10_1 (u_11_w_words_a1_fn j2 (131072 : Int32) (fun _ => 0) (0 : Int32)) (u_11_a1_count j2 (131072 : Int32) (fun _ => 0) (0 : Int32)) T36.heap n0 Z0 F_b9_size hhhhc1_3_5_398 hhhhc6_3_5_398 hhhhc1_3_5_398 hhhhc6_3_5_398 F_b9_words V_b10_0 hhhlo17_11_398 hhhhi17_11_398 E_b9 hhhlo17_11_398 hhhhi17_11_398 hhhlo17_11_398 hhhhi17_11_398 ne_b9_b10_0 g_b10_0 F_b9_count g_b9) hZ (hw _ (List.mem_of_getElem? (i := 68) rfl)) (hw _ (List.mem_of_getElem? (i := 3) rfl)) (by decide) (by decide)) q44a q44c (g := (mkF m 398 #[.val (.int p1), .val (.int p2), .val (.int p3), .val (.int p4), .val (.int p5), .val (.int j1), .val (.int j2), .val (.int j3), .val (.int j4), .val (.int j5), .val (.int j7), .val (.ref b9), .val (.int j26), .val (.int j27), .val (.int j29), .val (.ref b31_0), .val (.int (1 : Int32)), .val (.int j40), .val (.int j42)] [(.int j4), (.ref b9)])) rfl (by rw [hml]; rfl) (Steps.refl _) (argsL := [(.int j4)]) (rest := []) (lenOf pd_9 rfl) rfl (by show 2 * 0 + _ ≤ _; exact Nat.le_of_eq rfl) (hb hby at_398) (fun _ _ => ⟨rfl, e41, (by decide : 4 + 0 ≤ _), (by decide : 4102 + 0 ≤ _)⟩)
      dsimp only [Pt.U, Pt.locs, Pt.cells, Pt.slots] at X44 l44 y44 z44 st44 hQ44
      subst l44 y44 z44
      obtain ⟨rfl, N44q, K44, Q44_0, Q44_1, Q44_2, Q44_3, Q44_4⟩ := hQ44
      have E_b10_0 := E_b10_0.keep K44
      have E_b31_0 := E_b31_0.keep K44
      have F_b31_0_words := F_b31_0_words.keep K44 (ninS (Ne.symm ne_b10_0_b31_0) (ninS (Ne.symm ne_b9_b31_0) nin0))
      have F_b31_0_size := F_b31_0_size.keep K44 (ninS (Ne.symm ne_b10_0_b31_0) (ninS (Ne.symm ne_b9_b31_0) nin0))
      have F_b31_0_count := F_b31_0_count.keep K44 (ninS (Ne.symm ne_b10_0_b31_0) (ninS (Ne.symm ne_b9_b31_0) nin0))
      have E_b31_1 := E_b31_1.keep K44
      have V_b31_1 := V_b31_1.keep K44 (ninS (Ne.symm ne_b10_0_b31_1) (ninS (Ne.symm ne_b9_b31_1) nin0))
      have V_b10_0 := Q44_0
      have E_b9 := Q44_1
      have F_b9_size := Q44_2
      have F_b9_words := Q44_3
      have F_b9_count := Q44_4
      have Z0 := Nat.le_trans Z0 K44.1
      have KK := KK.trans K44 (allS (Or.inr sz_b10_0) (allS (Or.inr sz_b9) all0))
      have NN := Fr.app NN N44q
      refine own_go (fun t k => st44.trans k) ?_
      show own_Go p.tables e below _ T44 (mkF m 401 #[.val (.int p1), .val (.int p2), .val (.int p3), .val (.int p4), .val (.int p5), .val (.int j1), .val (.int j2), .val (.int j3), .val (.int j4), .val (.int j5), .val (.int j7), .val (.ref b9), .val (.int j26), .val (.int j27), .val (.int j29), .val (.ref b31_0), .val (.int (1 : Int32)), .val (.int j40), .val (.int j42)] [])
      refine own_go (T' := T44) (g' := (mkF m 403 #[.val (.int p1), .val (.int p2), .val (.int p3), .val (.int p4), .val (.int p5), .val (.int j1), .val (.int j2), .val (.int j3), .val (.int j4), .val (.int j5), .val (.int j7), .val (.ref b9), .val (.int j26), .val (.int j27), .val (.int j29), .val (.ref b31_0), .val (.int (1 : Int32)), .val (.int j40), .val (.int j42)] [(.int (1 : Int32))])) (fun t k => ?_) ?_
      · show Steps p.tables e below (T44.setTop (mkF m 401 #[.val (.int p1), .val (.int p2), .val (.int p3), .val (.int p4), .val (.int p5), .val (.int j1), .val (.int j2), .val (.int j3), .val (.int j4), .val (.int j5), .val (.int j7), .val (.ref b9), .val (.int j26), .val (.int j27), .val (.int j29), .val (.ref b31_0), .val (.int (1 : Int32)), .val (.int j40), .val (.int j42)] [])) _
        refine XS.iload X44.here hx rfl (hb hby at_401) rfl ?_
        exact k
      refine own_go (T' := T44) (g' := (mkF m 410 #[.val (.int p1), .val (.int p2), .val (.int p3), .val (.int p4), .val (.int p5), .val (.int j1), .val (.int j2), .val (.int j3), .val (.int j4), .val (.int j5), .val (.int j7), .val (.ref b9), .val (.int j26), .val (.int j27), .val (.int j29), .val (.ref b31_0), .val (.int (1 : Int32)), .val (.int j40), .val (.int j42)] [(.int j4), (.ref b31_0)])) (fun t k => ?_) ?_
      · show Steps p.tables e below (T44.setTop (mkF m 403 #[.val (.int p1), .val (.int p2), .val (.int p3), .val (.int p4), .val (.int p5), .val (.int j1), .val (.int j2), .val (.int j3), .val (.int j4), .val (.int j5), .val (.int j7), .val (.ref b9), .val (.int j26), .val (.int j27), .val (.int j29), .val (.ref b31_0), .val (.int (1 : Int32)), .val (.int j40), .val (.int j42)] [(.int (1 : Int32))])) _
        refine XS.ifNo X44.here hx rfl (hb hby at_403) rfl ((if0 _ _).trans (feq (by decide : ¬ ((1 : Int32) = (0 : Int32)))).1) ?_
        show Steps p.tables e below (T44.setTop (mkF m 406 #[.val (.int p1), .val (.int p2), .val (.int p3), .val (.int p4), .val (.int p5), .val (.int j1), .val (.int j2), .val (.int j3), .val (.int j4), .val (.int j5), .val (.int j7), .val (.ref b9), .val (.int j26), .val (.int j27), .val (.int j29), .val (.ref b31_0), .val (.int (1 : Int32)), .val (.int j40), .val (.int j42)] [])) _
        refine XS.aload X44.here hx rfl (hb hby at_406) rfl rfl ?_
        show Steps p.tables e below (T44.setTop (mkF m 408 #[.val (.int p1), .val (.int p2), .val (.int p3), .val (.int p4), .val (.int p5), .val (.int j1), .val (.int j2), .val (.int j3), .val (.int j4), .val (.int j5), .val (.int j7), .val (.ref b9), .val (.int j26), .val (.int j27), .val (.int j29), .val (.ref b31_0), .val (.int (1 : Int32)), .val (.int j40), .val (.int j42)] [(.ref b31_0)])) _
        refine XS.iload X44.here hx rfl (hb hby at_408) rfl ?_
        exact k
      obtain ⟨cq45, kq45, q45a, q45b, q45c⟩ := isOf hZ rfl E_b31_0
      obtain ⟨_, _, ⟨T45, L45, k45, n45⟩, -, X45, ⟨Lc45, hQ45, l45, y45, z45⟩, st45⟩ := X44.virtualBack hx (y := (⟨"com/example/capd/capd/status/Bitstring", "get", "(I)Z"⟩ : MethodName)) (z := (⟨"com/example/capd/capd/status/Bitstring", "get", "(I)Z"⟩ : MethodName)) hown (mvT hZ (hw _ (List.mem_of_getElem? (i := 47) rfl))) (mvT hZ (hw _ (List.mem_of_getElem? (i := 48) rfl))) (notFace_of_selects (args := #[]) (mvT hZ (hw _ (List.mem_of_getElem? (i := 50) rfl)))) (mvT hZ (hw _ (List.mem_of_getElem? (i := 50) rfl))) (mvT hZ (hw _ (List.mem_of_getElem? (i := 49) rfl))) (by decide) (backOf (W := 0) (rm7 l Z a0 hw [] b31_0 j4 (131072 : Int32) b31_1 k10_1 (u_11_w_words_a1_fn j3 (131072 : Int32) (u_11_w_words_a1_fn j2 (131072 : Int32) (fun _ => 0) (0 : Int32)) (u_11_a1_count j2 (131072 : Int32) (fun _ => 0) (0 : Int32))) T44.heap n0 Z0 F_b31_0_size hhhhc1_3_5_398 hhhhc6_3_5_398 F_b31_0_words V_b31_1 hhhlo17_11_398 hhhhi17_11_398) hZ (hw _ (List.mem_of_getElem? (i := 51) rfl)) (hw _ (List.mem_of_getElem? (i := 3) rfl)) (by decide) (by decide)) q45a q45c (g := (mkF m 410 #[.val (.int p1), .val (.int p2), .val (.int p3), .val (.int p4), .val (.int p5), .val (.int j1), .val (.int j2), .val (.int j3), .val (.int j4), .val (.int j5), .val (.int j7), .val (.ref b9), .val (.int j26), .val (.int j27), .val (.int j29), .val (.ref b31_0), .val (.int (1 : Int32)), .val (.int j40), .val (.int j42)] [(.int j4), (.ref b31_0)])) rfl (by rw [hml]; rfl) (Steps.refl _) (argsL := [(.int j4)]) (rest := []) (lenOf pd_5 rfl) rfl (by show 2 * 0 + _ ≤ _; exact Nat.le_of_eq rfl) (hb hby at_410) (fun _ _ => ⟨rfl, rfl, (by decide : 4 + 0 ≤ _), (by decide : 4102 + 0 ≤ _)⟩)
      dsimp only [Pt.U, Pt.locs, Pt.cells, Pt.slots] at X45 l45 y45 z45 st45 hQ45
      subst l45 y45 z45
      obtain ⟨rfl, N45q, e45⟩ := hQ45
      have NN := Fr.app NN N45q
      refine own_go (fun t k => st45.trans k) ?_
      show own_Go p.tables e below _ T45 (mkF m 413 #[.val (.int p1), .val (.int p2), .val (.int p3), .val (.int p4), .val (.int p5), .val (.int j1), .val (.int j2), .val (.int j3), .val (.int j4), .val (.int j5), .val (.int j7), .val (.ref b9), .val (.int j26), .val (.int j27), .val (.int j29), .val (.ref b31_0), .val (.int (1 : Int32)), .val (.int j40), .val (.int j42)] [(.int (r_7 j4 (131072 : Int32) (u_11_w_words_a1_fn j3 (131072 : Int32) (u_11_w_words_a1_fn j2 (131072 : Int32) (fun _ => 0) (0 : Int32)) (u_11_a1_count j2 (131072 : Int32) (fun _ => 0) (0 : Int32)))))])
      refine own_go (T' := T45) (g' := (mkF m 415 #[.val (.int p1), .val (.int p2), .val (.int p3), .val (.int p4), .val (.int p5), .val (.int j1), .val (.int j2), .val (.int j3), .val (.int j4), .val (.int j5), .val (.int j7), .val (.ref b9), .val (.int j26), .val (.int j27), .val (.int j29), .val (.ref b31_0), .val (.int (1 : Int32)), .val (.int j40), .val (.int j42)] [(.int j42), (.int (r_7 j4 (131072 : Int32) (u_11_w_words_a1_fn j3 (131072 : Int32) (u_11_w_words_a1_fn j2 (131072 : Int32) (fun _ => 0) (0 : Int32)) (u_11_a1_count j2 (131072 : Int32) (fun _ => 0) (0 : Int32)))))])) (fun t k => ?_) ?_
      · show Steps p.tables e below (T45.setTop (mkF m 413 #[.val (.int p1), .val (.int p2), .val (.int p3), .val (.int p4), .val (.int p5), .val (.int j1), .val (.int j2), .val (.int j3), .val (.int j4), .val (.int j5), .val (.int j7), .val (.ref b9), .val (.int j26), .val (.int j27), .val (.int j29), .val (.ref b31_0), .val (.int (1 : Int32)), .val (.int j40), .val (.int j42)] [(.int (r_7 j4 (131072 : Int32) (u_11_w_words_a1_fn j3 (131072 : Int32) (u_11_w_words_a1_fn j2 (131072 : Int32) (fun _ => 0) (0 : Int32)) (u_11_a1_count j2 (131072 : Int32) (fun _ => 0) (0 : Int32)))))])) _
        refine XS.iload X45.here hx rfl (hb hby at_413) rfl ?_
        exact k
      have hs415 : (r_7 j4 (131072 : Int32) (u_11_w_words_a1_fn j3 (131072 : Int32) (u_11_w_words_a1_fn j2 (131072 : Int32) (fun _ => 0) (0 : Int32)) (u_11_a1_count j2 (131072 : Int32) (fun _ => 0) (0 : Int32)))) = j42 := own_at_hs415_tf p1 p2 p3 p4 p5 j1 j2 j3 j4 j5 j7 j26 j27 j29 j38 j40 j42 hj1 hj2 hj3 hj4 hj5 hj7 hj26 hj27 hj29 hj38 hj40 hj42 hc63_3 hc75_4 hhhhc1_3_5_82 hhhhc6_3_5_82 hhhlo17_11_82 hhhhi17_11_82 hs208 hs230 hhhhc1_3_5_249 hhhhc6_3_5_249 hhlo17_249 hhhi17_249 hs254 hhhhc1_3_5_273 hhhhc6_3_5_273 hhlo17_273 hhhi17_273 hs278 hs346 hhhhc1_3_5_398 hhhhc6_3_5_398 hhhlo17_11_398 hhhhi17_11_398
      refine own_go (T' := T45) (g' := (mkF m 427 #[.val (.int p1), .val (.int p2), .val (.int p3), .val (.int p4), .val (.int p5), .val (.int j1), .val (.int j2), .val (.int j3), .val (.int j4), .val (.int j5), .val (.int j7), .val (.ref b9), .val (.int j26), .val (.int j27), .val (.int j29), .val (.ref b31_0), .val (.int (1 : Int32)), .val (.int j40), .val (.int j42)] [(.int (1 : Int32))])) (fun t k => ?_) ?_
      · show Steps p.tables e below (T45.setTop (mkF m 415 #[.val (.int p1), .val (.int p2), .val (.int p3), .val (.int p4), .val (.int p5), .val (.int j1), .val (.int j2), .val (.int j3), .val (.int j4), .val (.int j5), .val (.int j7), .val (.ref b9), .val (.int j26), .val (.int j27), .val (.int j29), .val (.ref b31_0), .val (.int (1 : Int32)), .val (.int j40), .val (.int j42)] [(.int j42), (.int (r_7 j4 (131072 : Int32) (u_11_w_words_a1_fn j3 (131072 : Int32) (u_11_w_words_a1_fn j2 (131072 : Int32) (fun _ => 0) (0 : Int32)) (u_11_a1_count j2 (131072 : Int32) (fun _ => 0) (0 : Int32)))))])) _
        refine XS.icmpNo X45.here hx rfl (hb hby at_415) rfl (teq hs415).2 ?_
        show Steps p.tables e below (T45.setTop (mkF m 418 #[.val (.int p1), .val (.int p2), .val (.int p3), .val (.int p4), .val (.int p5), .val (.int j1), .val (.int j2), .val (.int j3), .val (.int j4), .val (.int j5), .val (.int j7), .val (.ref b9), .val (.int j26), .val (.int j27), .val (.int j29), .val (.ref b31_0), .val (.int (1 : Int32)), .val (.int j40), .val (.int j42)] [])) _
        refine XS.iconst X45.here hx rfl (hb hby at_418) ?_
        show Steps p.tables e below (T45.setTop (mkF m 419 #[.val (.int p1), .val (.int p2), .val (.int p3), .val (.int p4), .val (.int p5), .val (.int j1), .val (.int j2), .val (.int j3), .val (.int j4), .val (.int j5), .val (.int j7), .val (.ref b9), .val (.int j26), .val (.int j27), .val (.int j29), .val (.ref b31_0), .val (.int (1 : Int32)), .val (.int j40), .val (.int j42)] [(.int (1 : Int32))])) _
        refine XS.goto X45.here hx rfl (pc0 := 419) (pc' := 423) rfl (hb hby at_419) (by decide) (by decide) ?_
        show Steps p.tables e below (T45.setTop (mkF m 423 #[.val (.int p1), .val (.int p2), .val (.int p3), .val (.int p4), .val (.int p5), .val (.int j1), .val (.int j2), .val (.int j3), .val (.int j4), .val (.int j5), .val (.int j7), .val (.ref b9), .val (.int j26), .val (.int j27), .val (.int j29), .val (.ref b31_0), .val (.int (1 : Int32)), .val (.int j40), .val (.int j42)] [(.int (1 : Int32))])) _
        refine XS.istore X45.here hx rfl (hb hby at_423) rfl (l' := #[.val (.int p1), .val (.int p2), .val (.int p3), .val (.int p4), .val (.int p5), .val (.int j1), .val (.int j2), .val (.int j3), .val (.int j4), .val (.int j5), .val (.int j7), .val (.ref b9), .val (.int j26), .val (.int j27), .val (.int j29), .val (.ref b31_0), .val (.int (1 : Int32)), .val (.int j40), .val (.int j42)]) rfl ?_
        show Steps p.tables e below (T45.setTop (mkF m 425 #[.val (.int p1), .val (.int p2), .val (.int p3), .val (.int p4), .val (.int p5), .val (.int j1), .val (.int j2), .val (.int j3), .val (.int j4), .val (.int j5), .val (.int j7), .val (.ref b9), .val (.int j26), .val (.int j27), .val (.int j29), .val (.ref b31_0), .val (.int (1 : Int32)), .val (.int j40), .val (.int j42)] [])) _
        refine XS.iload X45.here hx rfl (hb hby at_425) rfl ?_
        exact k
      obtain ⟨fs, hr, hrun, hended, hW, hsame⟩ := X45.leave (v := some (.int (1 : Int32))) (fun h => by rw [Bd.returns] at h; cases h)
      refine ⟨_, _, ?_, hrun, hended, _, _, rfl, ?_, ⟨_, rfl⟩, hW, hsame.mono (by decide) (by decide)⟩
      · exact retN X45 hx (t := .boolean) Bd.returns (by simp) (hb hby at_427) hr
      · show Q0 Z p1 p2 p3 p4 p5 h0 n0 _ T45.heap _
        rw [e45]
        exact ⟨rfl, NN⟩
  · skip
    refine own_go (T' := T10) (g' := (mkF m 70 #[.val (.int p1), .val (.int p2), .val (.int p3), .val (.int p4), .val (.int p5), .val (.int j1), .val (.int j2), .val (.int j3), .val (.int j4), .val (.int j5), .val (.int j7), .val (.ref b9), .unset, .unset, .unset, .unset, .unset, .unset, .unset] [(.int j1), (.ref b9)])) (fun t k => ?_) ?_
    · show Steps p.tables e below (T10.setTop (mkF m 63 #[.val (.int p1), .val (.int p2), .val (.int p3), .val (.int p4), .val (.int p5), .val (.int j1), .val (.int j2), .val (.int j3), .val (.int j4), .val (.int j5), .val (.int j7), .val (.ref b9), .unset, .unset, .unset, .unset, .unset, .unset, .unset] [(.int j5)])) _
      refine XS.ifNo X10.here hx rfl (hb hby at_63) rfl ((if0 _ _).trans (feq hc63_3).1) ?_
      show Steps p.tables e below (T10.setTop (mkF m 66 #[.val (.int p1), .val (.int p2), .val (.int p3), .val (.int p4), .val (.int p5), .val (.int j1), .val (.int j2), .val (.int j3), .val (.int j4), .val (.int j5), .val (.int j7), .val (.ref b9), .unset, .unset, .unset, .unset, .unset, .unset, .unset] [])) _
      refine XS.aload X10.here hx rfl (hb hby at_66) rfl rfl ?_
      show Steps p.tables e below (T10.setTop (mkF m 68 #[.val (.int p1), .val (.int p2), .val (.int p3), .val (.int p4), .val (.int p5), .val (.int j1), .val (.int j2), .val (.int j3), .val (.int j4), .val (.int j5), .val (.int j7), .val (.ref b9), .unset, .unset, .unset, .unset, .unset, .unset, .unset] [(.ref b9)])) _
      refine XS.iload X10.here hx rfl (hb hby at_68) rfl ?_
      exact k
    have hhhhc1_3_5_70 : ¬ (j1 < (0 : Int32)) := own_at_hhhhc1_3_5_70_f p1 p5 j1 j5 hj1 hj5 hc63_3
    have hhhhc6_3_5_70 : j1 < (131072 : Int32) := own_at_hhhhc6_3_5_70_f p1 p5 j1 j5 hj1 hj5 hc63_3 hhhhc1_3_5_70
    have hhhlo17_11_70 : ¬ ((j1 / (64 : Int32)) < (0 : Int32)) := own_at_hhhlo17_11_70_f p1 p5 j1 j5 hj1 hj5 hc63_3 hhhhc1_3_5_70 hhhhc6_3_5_70
    have hhhhi17_11_70 : (j1 / (64 : Int32)) < (2048 : Int32) := own_at_hhhhi17_11_70_f p1 p5 j1 j5 hj1 hj5 hc63_3 hhhhc1_3_5_70 hhhhc6_3_5_70 hhhlo17_11_70
    obtain ⟨cq46, kq46, q46a, q46b, q46c⟩ := isOf hZ rfl E_b9
    obtain ⟨_, _, ⟨T46, L46, k46, n46⟩, -, X46, ⟨Lc46, hQ46, l46, y46, z46⟩, st46⟩ := X10.virtualBack hx (y := (⟨"com/example/capd/capd/status/Bitstring", "set", "(I)V"⟩ : MethodName)) (z := (⟨"com/example/capd/capd/status/Bitstring", "set", "(I)V"⟩ : MethodName)) hown (mvT hZ (hw _ (List.mem_of_getElem? (i := 64) rfl))) (mvT hZ (hw _ (List.mem_of_getElem? (i := 65) rfl))) (notFace_of_selects (args := #[]) (mvT hZ (hw _ (List.mem_of_getElem? (i := 67) rfl)))) (mvT hZ (hw _ (List.mem_of_getElem? (i := 67) rfl))) (mvT hZ (hw _ (List.mem_of_getElem? (i := 66) rfl))) (by decide) (backOf (W := 0) (rm11 l Z a0 hw [] b9 j1 (131072 : Int32) b10_0 k10_1 (fun _ => 0) (0 : Int32) T10.heap n0 Z0 F_b9_size hhhhc1_3_5_70 hhhhc6_3_5_70 hhhhc1_3_5_70 hhhhc6_3_5_70 F_b9_words V_b10_0 hhhlo17_11_70 hhhhi17_11_70 E_b9 hhhlo17_11_70 hhhhi17_11_70 hhhlo17_11_70 hhhhi17_11_70 ne_b9_b10_0 g_b10_0 F_b9_count g_b9) hZ (hw _ (List.mem_of_getElem? (i := 68) rfl)) (hw _ (List.mem_of_getElem? (i := 3) rfl)) (by decide) (by decide)) q46a q46c (g := (mkF m 70 #[.val (.int p1), .val (.int p2), .val (.int p3), .val (.int p4), .val (.int p5), .val (.int j1), .val (.int j2), .val (.int j3), .val (.int j4), .val (.int j5), .val (.int j7), .val (.ref b9), .unset, .unset, .unset, .unset, .unset, .unset, .unset] [(.int j1), (.ref b9)])) rfl (by rw [hml]; rfl) (Steps.refl _) (argsL := [(.int j1)]) (rest := []) (lenOf pd_9 rfl) rfl (by show 2 * 0 + _ ≤ _; exact Nat.le_of_eq rfl) (hb hby at_70) (fun _ _ => ⟨rfl, rfl, (by decide : 2 + 0 ≤ _), (by decide : 2051 + 0 ≤ _)⟩)
    dsimp only [Pt.U, Pt.locs, Pt.cells, Pt.slots] at X46 l46 y46 z46 st46 hQ46
    subst l46 y46 z46
    obtain ⟨rfl, N46q, K46, Q46_0, Q46_1, Q46_2, Q46_3, Q46_4⟩ := hQ46
    have E_b10_0 := E_b10_0.keep K46
    have V_b10_0 := Q46_0
    have E_b9 := Q46_1
    have F_b9_size := Q46_2
    have F_b9_words := Q46_3
    have F_b9_count := Q46_4
    have Z0 := Nat.le_trans Z0 K46.1
    have KK := KK.trans K46 (allS (Or.inr sz_b10_0) (allS (Or.inr sz_b9) all0))
    have NN := Fr.app NN N46q
    refine own_go (fun t k => st46.trans k) ?_
    show own_Go p.tables e below _ T46 (mkF m 73 #[.val (.int p1), .val (.int p2), .val (.int p3), .val (.int p4), .val (.int p5), .val (.int j1), .val (.int j2), .val (.int j3), .val (.int j4), .val (.int j5), .val (.int j7), .val (.ref b9), .unset, .unset, .unset, .unset, .unset, .unset, .unset] [])
    refine own_go (T' := T46) (g' := (mkF m 75 #[.val (.int p1), .val (.int p2), .val (.int p3), .val (.int p4), .val (.int p5), .val (.int j1), .val (.int j2), .val (.int j3), .val (.int j4), .val (.int j5), .val (.int j7), .val (.ref b9), .unset, .unset, .unset, .unset, .unset, .unset, .unset] [(.int j7)])) (fun t k => ?_) ?_
    · show Steps p.tables e below (T46.setTop (mkF m 73 #[.val (.int p1), .val (.int p2), .val (.int p3), .val (.int p4), .val (.int p5), .val (.int j1), .val (.int j2), .val (.int j3), .val (.int j4), .val (.int j5), .val (.int j7), .val (.ref b9), .unset, .unset, .unset, .unset, .unset, .unset, .unset] [])) _
      refine XS.iload X46.here hx rfl (hb hby at_73) rfl ?_
      exact k
    by_cases hc75_11 : j7 = (0 : Int32)
    · skip
      refine own_go (T' := T46) (g' := (mkF m 87 #[.val (.int p1), .val (.int p2), .val (.int p3), .val (.int p4), .val (.int p5), .val (.int j1), .val (.int j2), .val (.int j3), .val (.int j4), .val (.int j5), .val (.int j7), .val (.ref b9), .unset, .unset, .unset, .unset, .unset, .unset, .unset] [(.int j5)])) (fun t k => ?_) ?_
      · show Steps p.tables e below (T46.setTop (mkF m 75 #[.val (.int p1), .val (.int p2), .val (.int p3), .val (.int p4), .val (.int p5), .val (.int j1), .val (.int j2), .val (.int j3), .val (.int j4), .val (.int j5), .val (.int j7), .val (.ref b9), .unset, .unset, .unset, .unset, .unset, .unset, .unset] [(.int j7)])) _
        refine XS.ifYes X46.here hx rfl (pc0 := 75) (pc' := 85) rfl (hb hby at_75) rfl ((if0 _ _).trans (teq hc75_11).1) (by decide) (by decide) ?_
        show Steps p.tables e below (T46.setTop (mkF m 85 #[.val (.int p1), .val (.int p2), .val (.int p3), .val (.int p4), .val (.int p5), .val (.int j1), .val (.int j2), .val (.int j3), .val (.int j4), .val (.int j5), .val (.int j7), .val (.ref b9), .unset, .unset, .unset, .unset, .unset, .unset, .unset] [])) _
        refine XS.iload X46.here hx rfl (hb hby at_85) rfl ?_
        exact k
      refine own_go (T' := T46) (g' := (mkF m 97 #[.val (.int p1), .val (.int p2), .val (.int p3), .val (.int p4), .val (.int p5), .val (.int j1), .val (.int j2), .val (.int j3), .val (.int j4), .val (.int j5), .val (.int j7), .val (.ref b9), .unset, .unset, .unset, .unset, .unset, .unset, .unset] [(.int j7), (.int (1 : Int32))])) (fun t k => ?_) ?_
      · show Steps p.tables e below (T46.setTop (mkF m 87 #[.val (.int p1), .val (.int p2), .val (.int p3), .val (.int p4), .val (.int p5), .val (.int j1), .val (.int j2), .val (.int j3), .val (.int j4), .val (.int j5), .val (.int j7), .val (.ref b9), .unset, .unset, .unset, .unset, .unset, .unset, .unset] [(.int j5)])) _
        refine XS.ifNo X46.here hx rfl (hb hby at_87) rfl ((if0 _ _).trans (feq hc63_3).1) ?_
        show Steps p.tables e below (T46.setTop (mkF m 90 #[.val (.int p1), .val (.int p2), .val (.int p3), .val (.int p4), .val (.int p5), .val (.int j1), .val (.int j2), .val (.int j3), .val (.int j4), .val (.int j5), .val (.int j7), .val (.ref b9), .unset, .unset, .unset, .unset, .unset, .unset, .unset] [])) _
        refine XS.iconst X46.here hx rfl (hb hby at_90) ?_
        show Steps p.tables e below (T46.setTop (mkF m 91 #[.val (.int p1), .val (.int p2), .val (.int p3), .val (.int p4), .val (.int p5), .val (.int j1), .val (.int j2), .val (.int j3), .val (.int j4), .val (.int j5), .val (.int j7), .val (.ref b9), .unset, .unset, .unset, .unset, .unset, .unset, .unset] [(.int (1 : Int32))])) _
        refine XS.goto X46.here hx rfl (pc0 := 91) (pc' := 95) rfl (hb hby at_91) (by decide) (by decide) ?_
        show Steps p.tables e below (T46.setTop (mkF m 95 #[.val (.int p1), .val (.int p2), .val (.int p3), .val (.int p4), .val (.int p5), .val (.int j1), .val (.int j2), .val (.int j3), .val (.int j4), .val (.int j5), .val (.int j7), .val (.ref b9), .unset, .unset, .unset, .unset, .unset, .unset, .unset] [(.int (1 : Int32))])) _
        refine XS.iload X46.here hx rfl (hb hby at_95) rfl ?_
        exact k
      refine own_go (T' := T46) (g' := (mkF m 120 #[.val (.int p1), .val (.int p2), .val (.int p3), .val (.int p4), .val (.int p5), .val (.int j1), .val (.int j2), .val (.int j3), .val (.int j4), .val (.int j5), .val (.int j7), .val (.ref b9), .val (.int ((1 : Int32) + (0 : Int32))), .unset, .unset, .unset, .unset, .unset, .unset] [])) (fun t k => ?_) ?_
      · show Steps p.tables e below (T46.setTop (mkF m 97 #[.val (.int p1), .val (.int p2), .val (.int p3), .val (.int p4), .val (.int p5), .val (.int j1), .val (.int j2), .val (.int j3), .val (.int j4), .val (.int j5), .val (.int j7), .val (.ref b9), .unset, .unset, .unset, .unset, .unset, .unset, .unset] [(.int j7), (.int (1 : Int32))])) _
        refine XS.ifYes X46.here hx rfl (pc0 := 97) (pc' := 116) rfl (hb hby at_97) rfl ((if0 _ _).trans (teq hc75_11).1) (by decide) (by decide) ?_
        show Steps p.tables e below (T46.setTop (mkF m 116 #[.val (.int p1), .val (.int p2), .val (.int p3), .val (.int p4), .val (.int p5), .val (.int j1), .val (.int j2), .val (.int j3), .val (.int j4), .val (.int j5), .val (.int j7), .val (.ref b9), .unset, .unset, .unset, .unset, .unset, .unset, .unset] [(.int (1 : Int32))])) _
        refine XS.iconst X46.here hx rfl (hb hby at_116) ?_
        show Steps p.tables e below (T46.setTop (mkF m 117 #[.val (.int p1), .val (.int p2), .val (.int p3), .val (.int p4), .val (.int p5), .val (.int j1), .val (.int j2), .val (.int j3), .val (.int j4), .val (.int j5), .val (.int j7), .val (.ref b9), .unset, .unset, .unset, .unset, .unset, .unset, .unset] [(.int (0 : Int32)), (.int (1 : Int32))])) _
        refine XS.iadd X46.here hx rfl (hb hby at_117) rfl ?_
        show Steps p.tables e below (T46.setTop (mkF m 118 #[.val (.int p1), .val (.int p2), .val (.int p3), .val (.int p4), .val (.int p5), .val (.int j1), .val (.int j2), .val (.int j3), .val (.int j4), .val (.int j5), .val (.int j7), .val (.ref b9), .unset, .unset, .unset, .unset, .unset, .unset, .unset] [(.int ((1 : Int32) + (0 : Int32)))])) _
        refine XS.istore X46.here hx rfl (hb hby at_118) rfl (l' := #[.val (.int p1), .val (.int p2), .val (.int p3), .val (.int p4), .val (.int p5), .val (.int j1), .val (.int j2), .val (.int j3), .val (.int j4), .val (.int j5), .val (.int j7), .val (.ref b9), .val (.int ((1 : Int32) + (0 : Int32))), .unset, .unset, .unset, .unset, .unset, .unset]) rfl ?_
        exact k
      show own_Go p.tables e below _ T46 (mkF m 120 #[.val (.int p1), .val (.int p2), .val (.int p3), .val (.int p4), .val (.int p5), .val (.int j1), .val (.int j2), .val (.int j3), .val (.int j4), .val (.int j5), .val (.int j7), .val (.ref b9), .val (.int ((1 : Int32) + (0 : Int32))), .unset, .unset, .unset, .unset, .unset, .unset] [])
      obtain ⟨j47, hj47⟩ : ∃ z : Int32, z = ((1 : Int32) + (0 : Int32)) := ⟨_, rfl⟩
      rw [← hj47]
      show own_Go p.tables e below _ T46 (mkF m 120 #[.val (.int p1), .val (.int p2), .val (.int p3), .val (.int p4), .val (.int p5), .val (.int j1), .val (.int j2), .val (.int j3), .val (.int j4), .val (.int j5), .val (.int j7), .val (.ref b9), .val (.int j47), .unset, .unset, .unset, .unset, .unset, .unset] [])
      refine own_go (T' := T46) (g' := (mkF m 122 #[.val (.int p1), .val (.int p2), .val (.int p3), .val (.int p4), .val (.int p5), .val (.int j1), .val (.int j2), .val (.int j3), .val (.int j4), .val (.int j5), .val (.int j7), .val (.ref b9), .val (.int j47), .unset, .unset, .unset, .unset, .unset, .unset] [(.int j5)])) (fun t k => ?_) ?_
      · show Steps p.tables e below (T46.setTop (mkF m 120 #[.val (.int p1), .val (.int p2), .val (.int p3), .val (.int p4), .val (.int p5), .val (.int j1), .val (.int j2), .val (.int j3), .val (.int j4), .val (.int j5), .val (.int j7), .val (.ref b9), .val (.int j47), .unset, .unset, .unset, .unset, .unset, .unset] [])) _
        refine XS.iload X46.here hx rfl (hb hby at_120) rfl ?_
        exact k
      refine own_go (T' := T46) (g' := (mkF m 146 #[.val (.int p1), .val (.int p2), .val (.int p3), .val (.int p4), .val (.int p5), .val (.int j1), .val (.int j2), .val (.int j3), .val (.int j4), .val (.int j5), .val (.int j7), .val (.ref b9), .val (.int j47), .val (.int (1 : Int32)), .unset, .unset, .unset, .unset, .unset] [(.int j5)])) (fun t k => ?_) ?_
      · show Steps p.tables e below (T46.setTop (mkF m 122 #[.val (.int p1), .val (.int p2), .val (.int p3), .val (.int p4), .val (.int p5), .val (.int j1), .val (.int j2), .val (.int j3), .val (.int j4), .val (.int j5), .val (.int j7), .val (.ref b9), .val (.int j47), .unset, .unset, .unset, .unset, .unset, .unset] [(.int j5)])) _
        refine XS.ifYes X46.here hx rfl (pc0 := 122) (pc' := 137) rfl (hb hby at_122) rfl ((if0 _ _).trans (feq hc63_3).2) (by decide) (by decide) ?_
        show Steps p.tables e below (T46.setTop (mkF m 137 #[.val (.int p1), .val (.int p2), .val (.int p3), .val (.int p4), .val (.int p5), .val (.int j1), .val (.int j2), .val (.int j3), .val (.int j4), .val (.int j5), .val (.int j7), .val (.ref b9), .val (.int j47), .unset, .unset, .unset, .unset, .unset, .unset] [])) _
        refine XS.iconst X46.here hx rfl (hb hby at_137) ?_
        show Steps p.tables e below (T46.setTop (mkF m 138 #[.val (.int p1), .val (.int p2), .val (.int p3), .val (.int p4), .val (.int p5), .val (.int j1), .val (.int j2), .val (.int j3), .val (.int j4), .val (.int j5), .val (.int j7), .val (.ref b9), .val (.int j47), .unset, .unset, .unset, .unset, .unset, .unset] [(.int (1 : Int32))])) _
        refine XS.goto X46.here hx rfl (pc0 := 138) (pc' := 142) rfl (hb hby at_138) (by decide) (by decide) ?_
        show Steps p.tables e below (T46.setTop (mkF m 142 #[.val (.int p1), .val (.int p2), .val (.int p3), .val (.int p4), .val (.int p5), .val (.int j1), .val (.int j2), .val (.int j3), .val (.int j4), .val (.int j5), .val (.int j7), .val (.ref b9), .val (.int j47), .unset, .unset, .unset, .unset, .unset, .unset] [(.int (1 : Int32))])) _
        refine XS.istore X46.here hx rfl (hb hby at_142) rfl (l' := #[.val (.int p1), .val (.int p2), .val (.int p3), .val (.int p4), .val (.int p5), .val (.int j1), .val (.int j2), .val (.int j3), .val (.int j4), .val (.int j5), .val (.int j7), .val (.ref b9), .val (.int j47), .val (.int (1 : Int32)), .unset, .unset, .unset, .unset, .unset]) rfl ?_
        show Steps p.tables e below (T46.setTop (mkF m 144 #[.val (.int p1), .val (.int p2), .val (.int p3), .val (.int p4), .val (.int p5), .val (.int j1), .val (.int j2), .val (.int j3), .val (.int j4), .val (.int j5), .val (.int j7), .val (.ref b9), .val (.int j47), .val (.int (1 : Int32)), .unset, .unset, .unset, .unset, .unset] [])) _
        refine XS.iload X46.here hx rfl (hb hby at_144) rfl ?_
        exact k
      refine own_go (T' := T46) (g' := (mkF m 153 #[.val (.int p1), .val (.int p2), .val (.int p3), .val (.int p4), .val (.int p5), .val (.int j1), .val (.int j2), .val (.int j3), .val (.int j4), .val (.int j5), .val (.int j7), .val (.ref b9), .val (.int j47), .val (.int (1 : Int32)), .unset, .unset, .unset, .unset, .unset] [(.int j1), (.int j3)])) (fun t k => ?_) ?_
      · show Steps p.tables e below (T46.setTop (mkF m 146 #[.val (.int p1), .val (.int p2), .val (.int p3), .val (.int p4), .val (.int p5), .val (.int j1), .val (.int j2), .val (.int j3), .val (.int j4), .val (.int j5), .val (.int j7), .val (.ref b9), .val (.int j47), .val (.int (1 : Int32)), .unset, .unset, .unset, .unset, .unset] [(.int j5)])) _
        refine XS.ifNo X46.here hx rfl (hb hby at_146) rfl ((if0 _ _).trans (feq hc63_3).1) ?_
        show Steps p.tables e below (T46.setTop (mkF m 149 #[.val (.int p1), .val (.int p2), .val (.int p3), .val (.int p4), .val (.int p5), .val (.int j1), .val (.int j2), .val (.int j3), .val (.int j4), .val (.int j5), .val (.int j7), .val (.ref b9), .val (.int j47), .val (.int (1 : Int32)), .unset, .unset, .unset, .unset, .unset] [])) _
        refine XS.iload X46.here hx rfl (hb hby at_149) rfl ?_
        show Steps p.tables e below (T46.setTop (mkF m 151 #[.val (.int p1), .val (.int p2), .val (.int p3), .val (.int p4), .val (.int p5), .val (.int j1), .val (.int j2), .val (.int j3), .val (.int j4), .val (.int j5), .val (.int j7), .val (.ref b9), .val (.int j47), .val (.int (1 : Int32)), .unset, .unset, .unset, .unset, .unset] [(.int j3)])) _
        refine XS.iload X46.here hx rfl (hb hby at_151) rfl ?_
        exact k
      obtain ⟨j48, hj48, st49⟩ : ∃ (j48 : Int32), j48 = (if j3 = j1 then (1 : Int32) else (0 : Int32)) ∧ ∀ t, Steps p.tables e below (T46.setTop (mkF m 173 #[.val (.int p1), .val (.int p2), .val (.int p3), .val (.int p4), .val (.int p5), .val (.int j1), .val (.int j2), .val (.int j3), .val (.int j4), .val (.int j5), .val (.int j7), .val (.ref b9), .val (.int j47), .val (.int (1 : Int32)), .unset, .unset, .unset, .unset, .unset] [(.int j48)])) t → Steps p.tables e below (T46.setTop (mkF m 153 #[.val (.int p1), .val (.int p2), .val (.int p3), .val (.int p4), .val (.int p5), .val (.int j1), .val (.int j2), .val (.int j3), .val (.int j4), .val (.int j5), .val (.int j7), .val (.ref b9), .val (.int j47), .val (.int (1 : Int32)), .unset, .unset, .unset, .unset, .unset] [(.int j1), (.int j3)])) t := by
        by_cases hc153_12 : j3 = j1
        · skip
          refine ⟨(1 : Int32), (by simp only [if_pos hc153_12]), fun t k => ?_⟩
          show Steps p.tables e below (T46.setTop (mkF m 153 #[.val (.int p1), .val (.int p2), .val (.int p3), .val (.int p4), .val (.int p5), .val (.int j1), .val (.int j2), .val (.int j3), .val (.int j4), .val (.int j5), .val (.int j7), .val (.ref b9), .val (.int j47), .val (.int (1 : Int32)), .unset, .unset, .unset, .unset, .unset] [(.int j1), (.int j3)])) _
          refine XS.icmpYes X46.here hx rfl (pc0 := 153) (pc' := 168) rfl (hb hby at_153) rfl (teq hc153_12).1 (by decide) (by decide) ?_
          show Steps p.tables e below (T46.setTop (mkF m 168 #[.val (.int p1), .val (.int p2), .val (.int p3), .val (.int p4), .val (.int p5), .val (.int j1), .val (.int j2), .val (.int j3), .val (.int j4), .val (.int j5), .val (.int j7), .val (.ref b9), .val (.int j47), .val (.int (1 : Int32)), .unset, .unset, .unset, .unset, .unset] [])) _
          refine XS.iconst X46.here hx rfl (hb hby at_168) ?_
          show Steps p.tables e below (T46.setTop (mkF m 169 #[.val (.int p1), .val (.int p2), .val (.int p3), .val (.int p4), .val (.int p5), .val (.int j1), .val (.int j2), .val (.int j3), .val (.int j4), .val (.int j5), .val (.int j7), .val (.ref b9), .val (.int j47), .val (.int (1 : Int32)), .unset, .unset, .unset, .unset, .unset] [(.int (1 : Int32))])) _
          refine XS.goto X46.here hx rfl (pc0 := 169) (pc' := 173) rfl (hb hby at_169) (by decide) (by decide) ?_
          exact k
        · skip
          refine ⟨(0 : Int32), (by simp only [if_neg hc153_12]), fun t k => ?_⟩
          show Steps p.tables e below (T46.setTop (mkF m 153 #[.val (.int p1), .val (.int p2), .val (.int p3), .val (.int p4), .val (.int p5), .val (.int j1), .val (.int j2), .val (.int j3), .val (.int j4), .val (.int j5), .val (.int j7), .val (.ref b9), .val (.int j47), .val (.int (1 : Int32)), .unset, .unset, .unset, .unset, .unset] [(.int j1), (.int j3)])) _
          refine XS.icmpNo X46.here hx rfl (hb hby at_153) rfl (feq hc153_12).1 ?_
          show Steps p.tables e below (T46.setTop (mkF m 156 #[.val (.int p1), .val (.int p2), .val (.int p3), .val (.int p4), .val (.int p5), .val (.int j1), .val (.int j2), .val (.int j3), .val (.int j4), .val (.int j5), .val (.int j7), .val (.ref b9), .val (.int j47), .val (.int (1 : Int32)), .unset, .unset, .unset, .unset, .unset] [])) _
          refine XS.iload X46.here hx rfl (hb hby at_156) rfl ?_
          show Steps p.tables e below (T46.setTop (mkF m 158 #[.val (.int p1), .val (.int p2), .val (.int p3), .val (.int p4), .val (.int p5), .val (.int j1), .val (.int j2), .val (.int j3), .val (.int j4), .val (.int j5), .val (.int j7), .val (.ref b9), .val (.int j47), .val (.int (1 : Int32)), .unset, .unset, .unset, .unset, .unset] [(.int j7)])) _
          refine XS.ifYes X46.here hx rfl (pc0 := 158) (pc' := 172) rfl (hb hby at_158) rfl ((if0 _ _).trans (teq hc75_11).1) (by decide) (by decide) ?_
          show Steps p.tables e below (T46.setTop (mkF m 172 #[.val (.int p1), .val (.int p2), .val (.int p3), .val (.int p4), .val (.int p5), .val (.int j1), .val (.int j2), .val (.int j3), .val (.int j4), .val (.int j5), .val (.int j7), .val (.ref b9), .val (.int j47), .val (.int (1 : Int32)), .unset, .unset, .unset, .unset, .unset] [])) _
          refine XS.iconst X46.here hx rfl (hb hby at_172) ?_
          exact k
      refine own_go st49 ?_
      show own_Go p.tables e below _ T46 (mkF m 173 #[.val (.int p1), .val (.int p2), .val (.int p3), .val (.int p4), .val (.int p5), .val (.int j1), .val (.int j2), .val (.int j3), .val (.int j4), .val (.int j5), .val (.int j7), .val (.ref b9), .val (.int j47), .val (.int (1 : Int32)), .unset, .unset, .unset, .unset, .unset] [(.int j48)])
      refine own_go (T' := T46) (g' := (mkF m 177 #[.val (.int p1), .val (.int p2), .val (.int p3), .val (.int p4), .val (.int p5), .val (.int j1), .val (.int j2), .val (.int j3), .val (.int j4), .val (.int j5), .val (.int j7), .val (.ref b9), .val (.int j47), .val (.int (1 : Int32)), .val (.int j48), .unset, .unset, .unset, .unset] [(.ref b9)])) (fun t k => ?_) ?_
      · show Steps p.tables e below (T46.setTop (mkF m 173 #[.val (.int p1), .val (.int p2), .val (.int p3), .val (.int p4), .val (.int p5), .val (.int j1), .val (.int j2), .val (.int j3), .val (.int j4), .val (.int j5), .val (.int j7), .val (.ref b9), .val (.int j47), .val (.int (1 : Int32)), .unset, .unset, .unset, .unset, .unset] [(.int j48)])) _
        refine XS.istore X46.here hx rfl (hb hby at_173) rfl (l' := #[.val (.int p1), .val (.int p2), .val (.int p3), .val (.int p4), .val (.int p5), .val (.int j1), .val (.int j2), .val (.int j3), .val (.int j4), .val (.int j5), .val (.int j7), .val (.ref b9), .val (.int j47), .val (.int (1 : Int32)), .val (.int j48), .unset, .unset, .unset, .unset]) rfl ?_
        show Steps p.tables e below (T46.setTop (mkF m 175 #[.val (.int p1), .val (.int p2), .val (.int p3), .val (.int p4), .val (.int p5), .val (.int j1), .val (.int j2), .val (.int j3), .val (.int j4), .val (.int j5), .val (.int j7), .val (.ref b9), .val (.int j47), .val (.int (1 : Int32)), .val (.int j48), .unset, .unset, .unset, .unset] [])) _
        refine XS.aload X46.here hx rfl (hb hby at_175) rfl rfl ?_
        exact k
      obtain ⟨cq50, kq50, q50a, q50b, q50c⟩ := isOf hZ rfl E_b9
      obtain ⟨_, _, ⟨T50, L50, k50, n50⟩, -, X50, ⟨Lc50, hQ50, l50, y50, z50⟩, st50⟩ := X46.virtualBack hx (y := (⟨"com/example/capd/capd/status/Bitstring", "copy", "()Lcom/example/capd/capd/status/Bitstring;"⟩ : MethodName)) (z := (⟨"com/example/capd/capd/status/Bitstring", "copy", "()Lcom/example/capd/capd/status/Bitstring;"⟩ : MethodName)) hown (mvT hZ (hw _ (List.mem_of_getElem? (i := 21) rfl))) (mvT hZ (hw _ (List.mem_of_getElem? (i := 22) rfl))) (notFace_of_selects (args := #[]) (mvT hZ (hw _ (List.mem_of_getElem? (i := 24) rfl)))) (mvT hZ (hw _ (List.mem_of_getElem? (i := 24) rfl))) (mvT hZ (hw _ (List.mem_of_getElem? (i := 23) rfl))) (by decide) (backOf (W := 0) (rm4 l Z a0 hw [] b9 b10_0 k10_1 (u_11_w_words_a1_fn j1 (131072 : Int32) (fun _ => 0) (0 : Int32)) (131072 : Int32) (u_11_a1_count j1 (131072 : Int32) (fun _ => 0) (0 : Int32)) T46.heap n0 Z0 F_b9_words V_b10_0 E_b10_0 F_b9_size F_b9_count) hZ (hw _ (List.mem_of_getElem? (i := 25) rfl)) (hw _ (List.mem_of_getElem? (i := 3) rfl)) (by decide) (by decide)) q50a q50c (g := (mkF m 177 #[.val (.int p1), .val (.int p2), .val (.int p3), .val (.int p4), .val (.int p5), .val (.int j1), .val (.int j2), .val (.int j3), .val (.int j4), .val (.int j5), .val (.int j7), .val (.ref b9), .val (.int j47), .val (.int (1 : Int32)), .val (.int j48), .unset, .unset, .unset, .unset] [(.ref b9)])) rfl (by rw [hml]; rfl) (Steps.refl _) (argsL := []) (rest := []) (lenOf pd_2 rfl) rfl (by show 2 * 0 + _ ≤ _; exact Nat.le_of_eq rfl) (hb hby at_177) (fun _ _ => ⟨rfl, rfl, (by decide : 2 + 2 ≤ _), (by decide : 2051 + 2051 ≤ _)⟩)
      dsimp only [Pt.U, Pt.locs, Pt.cells, Pt.slots] at X50 l50 y50 z50 st50 hQ50
      subst l50 y50 z50
      obtain ⟨b50_0, b50_1, rfl, N50q, K50, R50_0, R50_1, R50_2, R50_3, R50_4, R50_5, R50_6, R50_7, R50_8, R50_9, R50_10⟩ := hQ50
      have ne_b9_b50_0 : b9 ≠ b50_0 := Nat.ne_of_lt (Nat.lt_of_lt_of_le E_b9.lt R50_1)
      have ne_b10_0_b50_0 : b10_0 ≠ b50_0 := Nat.ne_of_lt (Nat.lt_of_lt_of_le E_b10_0.lt R50_1)
      have ne_b9_b50_1 : b9 ≠ b50_1 := Nat.ne_of_lt (Nat.lt_of_lt_of_le E_b9.lt R50_8)
      have ne_b10_0_b50_1 : b10_0 ≠ b50_1 := Nat.ne_of_lt (Nat.lt_of_lt_of_le E_b10_0.lt R50_8)
      have E_b9 := E_b9.keep K50
      have F_b9_words := F_b9_words.keep K50 nin0
      have F_b9_size := F_b9_size.keep K50 nin0
      have F_b9_count := F_b9_count.keep K50 nin0
      have E_b10_0 := E_b10_0.keep K50
      have V_b10_0 := V_b10_0.keep K50 nin0
      have g_b50_0 := R50_0
      have sz_b50_0 : h0.size ≤ b50_0 := Nat.le_trans KK.1 R50_1
      have E_b50_0 := R50_2
      have F_b50_0_words := R50_3
      have F_b50_0_size := R50_4
      have F_b50_0_count := R50_5
      have ne_b50_0_b50_1 := R50_6
      have g_b50_1 := R50_7
      have sz_b50_1 : h0.size ≤ b50_1 := Nat.le_trans KK.1 R50_8
      have E_b50_1 := R50_9
      have V_b50_1 := R50_10
      have Z0 := Nat.le_trans Z0 K50.1
      have KK := KK.trans K50 all0
      have NN := Fr.app NN N50q
      refine own_go (fun t k => st50.trans k) ?_
      show own_Go p.tables e below _ T50 (mkF m 180 #[.val (.int p1), .val (.int p2), .val (.int p3), .val (.int p4), .val (.int p5), .val (.int j1), .val (.int j2), .val (.int j3), .val (.int j4), .val (.int j5), .val (.int j7), .val (.ref b9), .val (.int j47), .val (.int (1 : Int32)), .val (.int j48), .unset, .unset, .unset, .unset] [(.ref b50_0)])
      refine own_go (T' := T50) (g' := (mkF m 186 #[.val (.int p1), .val (.int p2), .val (.int p3), .val (.int p4), .val (.int p5), .val (.int j1), .val (.int j2), .val (.int j3), .val (.int j4), .val (.int j5), .val (.int j7), .val (.ref b9), .val (.int j47), .val (.int (1 : Int32)), .val (.int j48), .val (.ref b50_0), .unset, .unset, .unset] [(.ref b9), (.ref b50_0)])) (fun t k => ?_) ?_
      · show Steps p.tables e below (T50.setTop (mkF m 180 #[.val (.int p1), .val (.int p2), .val (.int p3), .val (.int p4), .val (.int p5), .val (.int j1), .val (.int j2), .val (.int j3), .val (.int j4), .val (.int j5), .val (.int j7), .val (.ref b9), .val (.int j47), .val (.int (1 : Int32)), .val (.int j48), .unset, .unset, .unset, .unset] [(.ref b50_0)])) _
        refine XS.astore X50.here hx rfl (hb hby at_180) rfl rfl (l' := #[.val (.int p1), .val (.int p2), .val (.int p3), .val (.int p4), .val (.int p5), .val (.int j1), .val (.int j2), .val (.int j3), .val (.int j4), .val (.int j5), .val (.int j7), .val (.ref b9), .val (.int j47), .val (.int (1 : Int32)), .val (.int j48), .val (.ref b50_0), .unset, .unset, .unset]) rfl ?_
        show Steps p.tables e below (T50.setTop (mkF m 182 #[.val (.int p1), .val (.int p2), .val (.int p3), .val (.int p4), .val (.int p5), .val (.int j1), .val (.int j2), .val (.int j3), .val (.int j4), .val (.int j5), .val (.int j7), .val (.ref b9), .val (.int j47), .val (.int (1 : Int32)), .val (.int j48), .val (.ref b50_0), .unset, .unset, .unset] [])) _
        refine XS.aload X50.here hx rfl (hb hby at_182) rfl rfl ?_
        show Steps p.tables e below (T50.setTop (mkF m 184 #[.val (.int p1), .val (.int p2), .val (.int p3), .val (.int p4), .val (.int p5), .val (.int j1), .val (.int j2), .val (.int j3), .val (.int j4), .val (.int j5), .val (.int j7), .val (.ref b9), .val (.int j47), .val (.int (1 : Int32)), .val (.int j48), .val (.ref b50_0), .unset, .unset, .unset] [(.ref b50_0)])) _
        refine XS.aload X50.here hx rfl (hb hby at_184) rfl rfl ?_
        exact k
      refine own_go (fun t k => Jvm.RoadKit.acmp (g := (mkF m 186 #[.val (.int p1), .val (.int p2), .val (.int p3), .val (.int p4), .val (.int p5), .val (.int j1), .val (.int j2), .val (.int j3), .val (.int j4), .val (.int j5), .val (.int j7), .val (.ref b9), .val (.int j47), .val (.int (1 : Int32)), .val (.int j48), .val (.ref b50_0), .unset, .unset, .unset] [(.ref b9), (.ref b50_0)])) X50 hx rfl rfl rfl (pc0 := 186) (pc' := 189) (same := false) rfl (hb hby at_186) rfl (decide_eq_false fun q => (Ne.symm ne_b9_b50_0) (Value.ref.inj q)) (by decide) (by decide) k) ?_
      show own_Go p.tables e below _ T50 (mkF m 189 #[.val (.int p1), .val (.int p2), .val (.int p3), .val (.int p4), .val (.int p5), .val (.int j1), .val (.int j2), .val (.int j3), .val (.int j4), .val (.int j5), .val (.int j7), .val (.ref b9), .val (.int j47), .val (.int (1 : Int32)), .val (.int j48), .val (.ref b50_0), .unset, .unset, .unset] [])
      refine own_go (T' := T50) (g' := (mkF m 198 #[.val (.int p1), .val (.int p2), .val (.int p3), .val (.int p4), .val (.int p5), .val (.int j1), .val (.int j2), .val (.int j3), .val (.int j4), .val (.int j5), .val (.int j7), .val (.ref b9), .val (.int j47), .val (.int (1 : Int32)), .val (.int j48), .val (.ref b50_0), .val (.int (1 : Int32)), .unset, .unset] [(.int (1 : Int32))])) (fun t k => ?_) ?_
      · show Steps p.tables e below (T50.setTop (mkF m 189 #[.val (.int p1), .val (.int p2), .val (.int p3), .val (.int p4), .val (.int p5), .val (.int j1), .val (.int j2), .val (.int j3), .val (.int j4), .val (.int j5), .val (.int j7), .val (.ref b9), .val (.int j47), .val (.int (1 : Int32)), .val (.int j48), .val (.ref b50_0), .unset, .unset, .unset] [])) _
        refine XS.iconst X50.here hx rfl (hb hby at_189) ?_
        show Steps p.tables e below (T50.setTop (mkF m 190 #[.val (.int p1), .val (.int p2), .val (.int p3), .val (.int p4), .val (.int p5), .val (.int j1), .val (.int j2), .val (.int j3), .val (.int j4), .val (.int j5), .val (.int j7), .val (.ref b9), .val (.int j47), .val (.int (1 : Int32)), .val (.int j48), .val (.ref b50_0), .unset, .unset, .unset] [(.int (1 : Int32))])) _
        refine XS.goto X50.here hx rfl (pc0 := 190) (pc' := 194) rfl (hb hby at_190) (by decide) (by decide) ?_
        show Steps p.tables e below (T50.setTop (mkF m 194 #[.val (.int p1), .val (.int p2), .val (.int p3), .val (.int p4), .val (.int p5), .val (.int j1), .val (.int j2), .val (.int j3), .val (.int j4), .val (.int j5), .val (.int j7), .val (.ref b9), .val (.int j47), .val (.int (1 : Int32)), .val (.int j48), .val (.ref b50_0), .unset, .unset, .unset] [(.int (1 : Int32))])) _
        refine XS.istore X50.here hx rfl (hb hby at_194) rfl (l' := #[.val (.int p1), .val (.int p2), .val (.int p3), .val (.int p4), .val (.int p5), .val (.int j1), .val (.int j2), .val (.int j3), .val (.int j4), .val (.int j5), .val (.int j7), .val (.ref b9), .val (.int j47), .val (.int (1 : Int32)), .val (.int j48), .val (.ref b50_0), .val (.int (1 : Int32)), .unset, .unset]) rfl ?_
        show Steps p.tables e below (T50.setTop (mkF m 196 #[.val (.int p1), .val (.int p2), .val (.int p3), .val (.int p4), .val (.int p5), .val (.int j1), .val (.int j2), .val (.int j3), .val (.int j4), .val (.int j5), .val (.int j7), .val (.ref b9), .val (.int j47), .val (.int (1 : Int32)), .val (.int j48), .val (.ref b50_0), .val (.int (1 : Int32)), .unset, .unset] [])) _
        refine XS.iload X50.here hx rfl (hb hby at_196) rfl ?_
        exact k
      refine own_go (T' := T50) (g' := (mkF m 203 #[.val (.int p1), .val (.int p2), .val (.int p3), .val (.int p4), .val (.int p5), .val (.int j1), .val (.int j2), .val (.int j3), .val (.int j4), .val (.int j5), .val (.int j7), .val (.ref b9), .val (.int j47), .val (.int (1 : Int32)), .val (.int j48), .val (.ref b50_0), .val (.int (1 : Int32)), .unset, .unset] [(.ref b50_0)])) (fun t k => ?_) ?_
      · show Steps p.tables e below (T50.setTop (mkF m 198 #[.val (.int p1), .val (.int p2), .val (.int p3), .val (.int p4), .val (.int p5), .val (.int j1), .val (.int j2), .val (.int j3), .val (.int j4), .val (.int j5), .val (.int j7), .val (.ref b9), .val (.int j47), .val (.int (1 : Int32)), .val (.int j48), .val (.ref b50_0), .val (.int (1 : Int32)), .unset, .unset] [(.int (1 : Int32))])) _
        refine XS.ifNo X50.here hx rfl (hb hby at_198) rfl ((if0 _ _).trans (feq (by decide : ¬ ((1 : Int32) = (0 : Int32)))).1) ?_
        show Steps p.tables e below (T50.setTop (mkF m 201 #[.val (.int p1), .val (.int p2), .val (.int p3), .val (.int p4), .val (.int p5), .val (.int j1), .val (.int j2), .val (.int j3), .val (.int j4), .val (.int j5), .val (.int j7), .val (.ref b9), .val (.int j47), .val (.int (1 : Int32)), .val (.int j48), .val (.ref b50_0), .val (.int (1 : Int32)), .unset, .unset] [])) _
        refine XS.aload X50.here hx rfl (hb hby at_201) rfl rfl ?_
        exact k
      obtain ⟨cq51, kq51, q51a, q51b, q51c⟩ := isOf hZ rfl E_b50_0
      obtain ⟨_, _, ⟨T51, L51, k51, n51⟩, -, X51, ⟨Lc51, hQ51, l51, y51, z51⟩, st51⟩ := X50.virtualBack hx (y := (⟨"com/example/capd/capd/status/Bitstring", "size", "()I"⟩ : MethodName)) (z := (⟨"com/example/capd/capd/status/Bitstring", "size", "()I"⟩ : MethodName)) hown (mvT hZ (hw _ (List.mem_of_getElem? (i := 36) rfl))) (mvT hZ (hw _ (List.mem_of_getElem? (i := 37) rfl))) (notFace_of_selects (args := #[]) (mvT hZ (hw _ (List.mem_of_getElem? (i := 39) rfl)))) (mvT hZ (hw _ (List.mem_of_getElem? (i := 39) rfl))) (mvT hZ (hw _ (List.mem_of_getElem? (i := 38) rfl))) (by decide) (backOf (W := 0) (rm5 l Z a0 hw [] b50_0 (131072 : Int32) T50.heap n0 Z0 F_b50_0_size) hZ (hw _ (List.mem_of_getElem? (i := 40) rfl)) (hw _ (List.mem_of_getElem? (i := 3) rfl)) (by decide) (by decide)) q51a q51c (g := (mkF m 203 #[.val (.int p1), .val (.int p2), .val (.int p3), .val (.int p4), .val (.int p5), .val (.int j1), .val (.int j2), .val (.int j3), .val (.int j4), .val (.int j5), .val (.int j7), .val (.ref b9), .val (.int j47), .val (.int (1 : Int32)), .val (.int j48), .val (.ref b50_0), .val (.int (1 : Int32)), .unset, .unset] [(.ref b50_0)])) rfl (by rw [hml]; rfl) (Steps.refl _) (argsL := []) (rest := []) (lenOf pd_4 rfl) rfl (by show 2 * 0 + _ ≤ _; exact Nat.le_of_eq rfl) (hb hby at_203) (fun _ _ => ⟨rfl, rfl, (by decide : 4 + 0 ≤ _), (by decide : 4102 + 0 ≤ _)⟩)
      dsimp only [Pt.U, Pt.locs, Pt.cells, Pt.slots] at X51 l51 y51 z51 st51 hQ51
      subst l51 y51 z51
      obtain ⟨rfl, N51q, e51⟩ := hQ51
      have NN := Fr.app NN N51q
      refine own_go (fun t k => st51.trans k) ?_
      show own_Go p.tables e below _ T51 (mkF m 206 #[.val (.int p1), .val (.int p2), .val (.int p3), .val (.int p4), .val (.int p5), .val (.int j1), .val (.int j2), .val (.int j3), .val (.int j4), .val (.int j5), .val (.int j7), .val (.ref b9), .val (.int j47), .val (.int (1 : Int32)), .val (.int j48), .val (.ref b50_0), .val (.int (1 : Int32)), .unset, .unset] [(.int (r_5 (131072 : Int32)))])
      refine own_go (T' := T51) (g' := (mkF m 208 #[.val (.int p1), .val (.int p2), .val (.int p3), .val (.int p4), .val (.int p5), .val (.int j1), .val (.int j2), .val (.int j3), .val (.int j4), .val (.int j5), .val (.int j7), .val (.ref b9), .val (.int j47), .val (.int (1 : Int32)), .val (.int j48), .val (.ref b50_0), .val (.int (1 : Int32)), .unset, .unset] [(.int (131072 : Int32)), (.int (r_5 (131072 : Int32)))])) (fun t k => ?_) ?_
      · show Steps p.tables e below (T51.setTop (mkF m 206 #[.val (.int p1), .val (.int p2), .val (.int p3), .val (.int p4), .val (.int p5), .val (.int j1), .val (.int j2), .val (.int j3), .val (.int j4), .val (.int j5), .val (.int j7), .val (.ref b9), .val (.int j47), .val (.int (1 : Int32)), .val (.int j48), .val (.ref b50_0), .val (.int (1 : Int32)), .unset, .unset] [(.int (r_5 (131072 : Int32)))])) _
        refine X51.ldcInt hx hown (mvT hZ (hw _ (List.mem_of_getElem? (i := 41) rfl))) (g := (mkF m 206 #[.val (.int p1), .val (.int p2), .val (.int p3), .val (.int p4), .val (.int p5), .val (.int j1), .val (.int j2), .val (.int j3), .val (.int j4), .val (.int j5), .val (.int j7), .val (.ref b9), .val (.int j47), .val (.int (1 : Int32)), .val (.int j48), .val (.ref b50_0), .val (.int (1 : Int32)), .unset, .unset] [(.int (r_5 (131072 : Int32)))])) rfl (hb hby at_206) _ ?_
        exact k
      have hs208 : (r_5 (131072 : Int32)) = (131072 : Int32) := own_at_hs208_ft p1 p5 j1 j5 j7 hj1 hj5 hj7 hc63_3 hhhhc1_3_5_70 hhhhc6_3_5_70 hhhlo17_11_70 hhhhi17_11_70 hc75_11
      refine own_go (T' := T51) (g' := (mkF m 220 #[.val (.int p1), .val (.int p2), .val (.int p3), .val (.int p4), .val (.int p5), .val (.int j1), .val (.int j2), .val (.int j3), .val (.int j4), .val (.int j5), .val (.int j7), .val (.ref b9), .val (.int j47), .val (.int (1 : Int32)), .val (.int j48), .val (.ref b50_0), .val (.int (1 : Int32)), .unset, .unset] [(.int (1 : Int32))])) (fun t k => ?_) ?_
      · show Steps p.tables e below (T51.setTop (mkF m 208 #[.val (.int p1), .val (.int p2), .val (.int p3), .val (.int p4), .val (.int p5), .val (.int j1), .val (.int j2), .val (.int j3), .val (.int j4), .val (.int j5), .val (.int j7), .val (.ref b9), .val (.int j47), .val (.int (1 : Int32)), .val (.int j48), .val (.ref b50_0), .val (.int (1 : Int32)), .unset, .unset] [(.int (131072 : Int32)), (.int (r_5 (131072 : Int32)))])) _
        refine XS.icmpNo X51.here hx rfl (hb hby at_208) rfl (teq hs208).2 ?_
        show Steps p.tables e below (T51.setTop (mkF m 211 #[.val (.int p1), .val (.int p2), .val (.int p3), .val (.int p4), .val (.int p5), .val (.int j1), .val (.int j2), .val (.int j3), .val (.int j4), .val (.int j5), .val (.int j7), .val (.ref b9), .val (.int j47), .val (.int (1 : Int32)), .val (.int j48), .val (.ref b50_0), .val (.int (1 : Int32)), .unset, .unset] [])) _
        refine XS.iconst X51.here hx rfl (hb hby at_211) ?_
        show Steps p.tables e below (T51.setTop (mkF m 212 #[.val (.int p1), .val (.int p2), .val (.int p3), .val (.int p4), .val (.int p5), .val (.int j1), .val (.int j2), .val (.int j3), .val (.int j4), .val (.int j5), .val (.int j7), .val (.ref b9), .val (.int j47), .val (.int (1 : Int32)), .val (.int j48), .val (.ref b50_0), .val (.int (1 : Int32)), .unset, .unset] [(.int (1 : Int32))])) _
        refine XS.goto X51.here hx rfl (pc0 := 212) (pc' := 216) rfl (hb hby at_212) (by decide) (by decide) ?_
        show Steps p.tables e below (T51.setTop (mkF m 216 #[.val (.int p1), .val (.int p2), .val (.int p3), .val (.int p4), .val (.int p5), .val (.int j1), .val (.int j2), .val (.int j3), .val (.int j4), .val (.int j5), .val (.int j7), .val (.ref b9), .val (.int j47), .val (.int (1 : Int32)), .val (.int j48), .val (.ref b50_0), .val (.int (1 : Int32)), .unset, .unset] [(.int (1 : Int32))])) _
        refine XS.istore X51.here hx rfl (hb hby at_216) rfl (l' := #[.val (.int p1), .val (.int p2), .val (.int p3), .val (.int p4), .val (.int p5), .val (.int j1), .val (.int j2), .val (.int j3), .val (.int j4), .val (.int j5), .val (.int j7), .val (.ref b9), .val (.int j47), .val (.int (1 : Int32)), .val (.int j48), .val (.ref b50_0), .val (.int (1 : Int32)), .unset, .unset]) rfl ?_
        show Steps p.tables e below (T51.setTop (mkF m 218 #[.val (.int p1), .val (.int p2), .val (.int p3), .val (.int p4), .val (.int p5), .val (.int j1), .val (.int j2), .val (.int j3), .val (.int j4), .val (.int j5), .val (.int j7), .val (.ref b9), .val (.int j47), .val (.int (1 : Int32)), .val (.int j48), .val (.ref b50_0), .val (.int (1 : Int32)), .unset, .unset] [])) _
        refine XS.iload X51.here hx rfl (hb hby at_218) rfl ?_
        exact k
      refine own_go (T' := T51) (g' := (mkF m 225 #[.val (.int p1), .val (.int p2), .val (.int p3), .val (.int p4), .val (.int p5), .val (.int j1), .val (.int j2), .val (.int j3), .val (.int j4), .val (.int j5), .val (.int j7), .val (.ref b9), .val (.int j47), .val (.int (1 : Int32)), .val (.int j48), .val (.ref b50_0), .val (.int (1 : Int32)), .unset, .unset] [(.ref b50_0)])) (fun t k => ?_) ?_
      · show Steps p.tables e below (T51.setTop (mkF m 220 #[.val (.int p1), .val (.int p2), .val (.int p3), .val (.int p4), .val (.int p5), .val (.int j1), .val (.int j2), .val (.int j3), .val (.int j4), .val (.int j5), .val (.int j7), .val (.ref b9), .val (.int j47), .val (.int (1 : Int32)), .val (.int j48), .val (.ref b50_0), .val (.int (1 : Int32)), .unset, .unset] [(.int (1 : Int32))])) _
        refine XS.ifNo X51.here hx rfl (hb hby at_220) rfl ((if0 _ _).trans (feq (by decide : ¬ ((1 : Int32) = (0 : Int32)))).1) ?_
        show Steps p.tables e below (T51.setTop (mkF m 223 #[.val (.int p1), .val (.int p2), .val (.int p3), .val (.int p4), .val (.int p5), .val (.int j1), .val (.int j2), .val (.int j3), .val (.int j4), .val (.int j5), .val (.int j7), .val (.ref b9), .val (.int j47), .val (.int (1 : Int32)), .val (.int j48), .val (.ref b50_0), .val (.int (1 : Int32)), .unset, .unset] [])) _
        refine XS.aload X51.here hx rfl (hb hby at_223) rfl rfl ?_
        exact k
      obtain ⟨cq52, kq52, q52a, q52b, q52c⟩ := isOf hZ e51 E_b50_0
      obtain ⟨_, _, ⟨T52, L52, k52, n52⟩, -, X52, ⟨Lc52, hQ52, l52, y52, z52⟩, st52⟩ := X51.virtualBack hx (y := (⟨"com/example/capd/capd/status/Bitstring", "count", "()I"⟩ : MethodName)) (z := (⟨"com/example/capd/capd/status/Bitstring", "count", "()I"⟩ : MethodName)) hown (mvT hZ (hw _ (List.mem_of_getElem? (i := 42) rfl))) (mvT hZ (hw _ (List.mem_of_getElem? (i := 43) rfl))) (notFace_of_selects (args := #[]) (mvT hZ (hw _ (List.mem_of_getElem? (i := 45) rfl)))) (mvT hZ (hw _ (List.mem_of_getElem? (i := 45) rfl))) (mvT hZ (hw _ (List.mem_of_getElem? (i := 44) rfl))) (by decide) (backOf (W := 0) (rm6 l Z a0 hw [] b50_0 (u_11_a1_count j1 (131072 : Int32) (fun _ => 0) (0 : Int32)) T50.heap n0 Z0 F_b50_0_count) hZ (hw _ (List.mem_of_getElem? (i := 46) rfl)) (hw _ (List.mem_of_getElem? (i := 3) rfl)) (by decide) (by decide)) q52a q52c (g := (mkF m 225 #[.val (.int p1), .val (.int p2), .val (.int p3), .val (.int p4), .val (.int p5), .val (.int j1), .val (.int j2), .val (.int j3), .val (.int j4), .val (.int j5), .val (.int j7), .val (.ref b9), .val (.int j47), .val (.int (1 : Int32)), .val (.int j48), .val (.ref b50_0), .val (.int (1 : Int32)), .unset, .unset] [(.ref b50_0)])) rfl (by rw [hml]; rfl) (Steps.refl _) (argsL := []) (rest := []) (lenOf pd_4 rfl) rfl (by show 2 * 0 + _ ≤ _; exact Nat.le_of_eq rfl) (hb hby at_225) (fun _ _ => ⟨rfl, e51, (by decide : 4 + 0 ≤ _), (by decide : 4102 + 0 ≤ _)⟩)
      dsimp only [Pt.U, Pt.locs, Pt.cells, Pt.slots] at X52 l52 y52 z52 st52 hQ52
      subst l52 y52 z52
      obtain ⟨rfl, N52q, e52⟩ := hQ52
      have NN := Fr.app NN N52q
      refine own_go (fun t k => st52.trans k) ?_
      show own_Go p.tables e below _ T52 (mkF m 228 #[.val (.int p1), .val (.int p2), .val (.int p3), .val (.int p4), .val (.int p5), .val (.int j1), .val (.int j2), .val (.int j3), .val (.int j4), .val (.int j5), .val (.int j7), .val (.ref b9), .val (.int j47), .val (.int (1 : Int32)), .val (.int j48), .val (.ref b50_0), .val (.int (1 : Int32)), .unset, .unset] [(.int (r_6 (u_11_a1_count j1 (131072 : Int32) (fun _ => 0) (0 : Int32))))])
      refine own_go (T' := T52) (g' := (mkF m 230 #[.val (.int p1), .val (.int p2), .val (.int p3), .val (.int p4), .val (.int p5), .val (.int j1), .val (.int j2), .val (.int j3), .val (.int j4), .val (.int j5), .val (.int j7), .val (.ref b9), .val (.int j47), .val (.int (1 : Int32)), .val (.int j48), .val (.ref b50_0), .val (.int (1 : Int32)), .unset, .unset] [(.int j47), (.int (r_6 (u_11_a1_count j1 (131072 : Int32) (fun _ => 0) (0 : Int32))))])) (fun t k => ?_) ?_
      · show Steps p.tables e below (T52.setTop (mkF m 228 #[.val (.int p1), .val (.int p2), .val (.int p3), .val (.int p4), .val (.int p5), .val (.int j1), .val (.int j2), .val (.int j3), .val (.int j4), .val (.int j5), .val (.int j7), .val (.ref b9), .val (.int j47), .val (.int (1 : Int32)), .val (.int j48), .val (.ref b50_0), .val (.int (1 : Int32)), .unset, .unset] [(.int (r_6 (u_11_a1_count j1 (131072 : Int32) (fun _ => 0) (0 : Int32))))])) _
        refine XS.iload X52.here hx rfl (hb hby at_228) rfl ?_
        exact k
      have hs230 : (r_6 (u_11_a1_count j1 (131072 : Int32) (fun _ => 0) (0 : Int32))) = j47 := own_at_hs230_ft p1 p5 j1 j5 j7 j47 hj1 hj5 hj7 hj47 hc63_3 hhhhc1_3_5_70 hhhhc6_3_5_70 hhhlo17_11_70 hhhhi17_11_70 hc75_11 hs208
      refine own_go (T' := T52) (g' := (mkF m 242 #[.val (.int p1), .val (.int p2), .val (.int p3), .val (.int p4), .val (.int p5), .val (.int j1), .val (.int j2), .val (.int j3), .val (.int j4), .val (.int j5), .val (.int j7), .val (.ref b9), .val (.int j47), .val (.int (1 : Int32)), .val (.int j48), .val (.ref b50_0), .val (.int (1 : Int32)), .unset, .unset] [(.int (1 : Int32))])) (fun t k => ?_) ?_
      · show Steps p.tables e below (T52.setTop (mkF m 230 #[.val (.int p1), .val (.int p2), .val (.int p3), .val (.int p4), .val (.int p5), .val (.int j1), .val (.int j2), .val (.int j3), .val (.int j4), .val (.int j5), .val (.int j7), .val (.ref b9), .val (.int j47), .val (.int (1 : Int32)), .val (.int j48), .val (.ref b50_0), .val (.int (1 : Int32)), .unset, .unset] [(.int j47), (.int (r_6 (u_11_a1_count j1 (131072 : Int32) (fun _ => 0) (0 : Int32))))])) _
        refine XS.icmpNo X52.here hx rfl (hb hby at_230) rfl (teq hs230).2 ?_
        show Steps p.tables e below (T52.setTop (mkF m 233 #[.val (.int p1), .val (.int p2), .val (.int p3), .val (.int p4), .val (.int p5), .val (.int j1), .val (.int j2), .val (.int j3), .val (.int j4), .val (.int j5), .val (.int j7), .val (.ref b9), .val (.int j47), .val (.int (1 : Int32)), .val (.int j48), .val (.ref b50_0), .val (.int (1 : Int32)), .unset, .unset] [])) _
        refine XS.iconst X52.here hx rfl (hb hby at_233) ?_
        show Steps p.tables e below (T52.setTop (mkF m 234 #[.val (.int p1), .val (.int p2), .val (.int p3), .val (.int p4), .val (.int p5), .val (.int j1), .val (.int j2), .val (.int j3), .val (.int j4), .val (.int j5), .val (.int j7), .val (.ref b9), .val (.int j47), .val (.int (1 : Int32)), .val (.int j48), .val (.ref b50_0), .val (.int (1 : Int32)), .unset, .unset] [(.int (1 : Int32))])) _
        refine XS.goto X52.here hx rfl (pc0 := 234) (pc' := 238) rfl (hb hby at_234) (by decide) (by decide) ?_
        show Steps p.tables e below (T52.setTop (mkF m 238 #[.val (.int p1), .val (.int p2), .val (.int p3), .val (.int p4), .val (.int p5), .val (.int j1), .val (.int j2), .val (.int j3), .val (.int j4), .val (.int j5), .val (.int j7), .val (.ref b9), .val (.int j47), .val (.int (1 : Int32)), .val (.int j48), .val (.ref b50_0), .val (.int (1 : Int32)), .unset, .unset] [(.int (1 : Int32))])) _
        refine XS.istore X52.here hx rfl (hb hby at_238) rfl (l' := #[.val (.int p1), .val (.int p2), .val (.int p3), .val (.int p4), .val (.int p5), .val (.int j1), .val (.int j2), .val (.int j3), .val (.int j4), .val (.int j5), .val (.int j7), .val (.ref b9), .val (.int j47), .val (.int (1 : Int32)), .val (.int j48), .val (.ref b50_0), .val (.int (1 : Int32)), .unset, .unset]) rfl ?_
        show Steps p.tables e below (T52.setTop (mkF m 240 #[.val (.int p1), .val (.int p2), .val (.int p3), .val (.int p4), .val (.int p5), .val (.int j1), .val (.int j2), .val (.int j3), .val (.int j4), .val (.int j5), .val (.int j7), .val (.ref b9), .val (.int j47), .val (.int (1 : Int32)), .val (.int j48), .val (.ref b50_0), .val (.int (1 : Int32)), .unset, .unset] [])) _
        refine XS.iload X52.here hx rfl (hb hby at_240) rfl ?_
        exact k
      refine own_go (T' := T52) (g' := (mkF m 249 #[.val (.int p1), .val (.int p2), .val (.int p3), .val (.int p4), .val (.int p5), .val (.int j1), .val (.int j2), .val (.int j3), .val (.int j4), .val (.int j5), .val (.int j7), .val (.ref b9), .val (.int j47), .val (.int (1 : Int32)), .val (.int j48), .val (.ref b50_0), .val (.int (1 : Int32)), .unset, .unset] [(.int j1), (.ref b50_0)])) (fun t k => ?_) ?_
      · show Steps p.tables e below (T52.setTop (mkF m 242 #[.val (.int p1), .val (.int p2), .val (.int p3), .val (.int p4), .val (.int p5), .val (.int j1), .val (.int j2), .val (.int j3), .val (.int j4), .val (.int j5), .val (.int j7), .val (.ref b9), .val (.int j47), .val (.int (1 : Int32)), .val (.int j48), .val (.ref b50_0), .val (.int (1 : Int32)), .unset, .unset] [(.int (1 : Int32))])) _
        refine XS.ifNo X52.here hx rfl (hb hby at_242) rfl ((if0 _ _).trans (feq (by decide : ¬ ((1 : Int32) = (0 : Int32)))).1) ?_
        show Steps p.tables e below (T52.setTop (mkF m 245 #[.val (.int p1), .val (.int p2), .val (.int p3), .val (.int p4), .val (.int p5), .val (.int j1), .val (.int j2), .val (.int j3), .val (.int j4), .val (.int j5), .val (.int j7), .val (.ref b9), .val (.int j47), .val (.int (1 : Int32)), .val (.int j48), .val (.ref b50_0), .val (.int (1 : Int32)), .unset, .unset] [])) _
        refine XS.aload X52.here hx rfl (hb hby at_245) rfl rfl ?_
        show Steps p.tables e below (T52.setTop (mkF m 247 #[.val (.int p1), .val (.int p2), .val (.int p3), .val (.int p4), .val (.int p5), .val (.int j1), .val (.int j2), .val (.int j3), .val (.int j4), .val (.int j5), .val (.int j7), .val (.ref b9), .val (.int j47), .val (.int (1 : Int32)), .val (.int j48), .val (.ref b50_0), .val (.int (1 : Int32)), .unset, .unset] [(.ref b50_0)])) _
        refine XS.iload X52.here hx rfl (hb hby at_247) rfl ?_
        exact k
      obtain ⟨cq53, kq53, q53a, q53b, q53c⟩ := isOf hZ e52 E_b50_0
      obtain ⟨_, _, ⟨T53, L53, k53, n53⟩, -, X53, ⟨Lc53, hQ53, l53, y53, z53⟩, st53⟩ := X52.virtualBack hx (y := (⟨"com/example/capd/capd/status/Bitstring", "get", "(I)Z"⟩ : MethodName)) (z := (⟨"com/example/capd/capd/status/Bitstring", "get", "(I)Z"⟩ : MethodName)) hown (mvT hZ (hw _ (List.mem_of_getElem? (i := 47) rfl))) (mvT hZ (hw _ (List.mem_of_getElem? (i := 48) rfl))) (notFace_of_selects (args := #[]) (mvT hZ (hw _ (List.mem_of_getElem? (i := 50) rfl)))) (mvT hZ (hw _ (List.mem_of_getElem? (i := 50) rfl))) (mvT hZ (hw _ (List.mem_of_getElem? (i := 49) rfl))) (by decide) (backOf (W := 0) (rm7 l Z a0 hw [] b50_0 j1 (131072 : Int32) b50_1 k10_1 (u_11_w_words_a1_fn j1 (131072 : Int32) (fun _ => 0) (0 : Int32)) T50.heap n0 Z0 F_b50_0_size hhhhc1_3_5_70 hhhhc6_3_5_70 F_b50_0_words V_b50_1 hhhlo17_11_70 hhhhi17_11_70) hZ (hw _ (List.mem_of_getElem? (i := 51) rfl)) (hw _ (List.mem_of_getElem? (i := 3) rfl)) (by decide) (by decide)) q53a q53c (g := (mkF m 249 #[.val (.int p1), .val (.int p2), .val (.int p3), .val (.int p4), .val (.int p5), .val (.int j1), .val (.int j2), .val (.int j3), .val (.int j4), .val (.int j5), .val (.int j7), .val (.ref b9), .val (.int j47), .val (.int (1 : Int32)), .val (.int j48), .val (.ref b50_0), .val (.int (1 : Int32)), .unset, .unset] [(.int j1), (.ref b50_0)])) rfl (by rw [hml]; rfl) (Steps.refl _) (argsL := [(.int j1)]) (rest := []) (lenOf pd_5 rfl) rfl (by show 2 * 0 + _ ≤ _; exact Nat.le_of_eq rfl) (hb hby at_249) (fun _ _ => ⟨rfl, e52, (by decide : 4 + 0 ≤ _), (by decide : 4102 + 0 ≤ _)⟩)
      dsimp only [Pt.U, Pt.locs, Pt.cells, Pt.slots] at X53 l53 y53 z53 st53 hQ53
      subst l53 y53 z53
      obtain ⟨rfl, N53q, e53⟩ := hQ53
      have NN := Fr.app NN N53q
      refine own_go (fun t k => st53.trans k) ?_
      show own_Go p.tables e below _ T53 (mkF m 252 #[.val (.int p1), .val (.int p2), .val (.int p3), .val (.int p4), .val (.int p5), .val (.int j1), .val (.int j2), .val (.int j3), .val (.int j4), .val (.int j5), .val (.int j7), .val (.ref b9), .val (.int j47), .val (.int (1 : Int32)), .val (.int j48), .val (.ref b50_0), .val (.int (1 : Int32)), .unset, .unset] [(.int (r_7 j1 (131072 : Int32) (u_11_w_words_a1_fn j1 (131072 : Int32) (fun _ => 0) (0 : Int32))))])
      refine own_go (T' := T53) (g' := (mkF m 254 #[.val (.int p1), .val (.int p2), .val (.int p3), .val (.int p4), .val (.int p5), .val (.int j1), .val (.int j2), .val (.int j3), .val (.int j4), .val (.int j5), .val (.int j7), .val (.ref b9), .val (.int j47), .val (.int (1 : Int32)), .val (.int j48), .val (.ref b50_0), .val (.int (1 : Int32)), .unset, .unset] [(.int (1 : Int32)), (.int (r_7 j1 (131072 : Int32) (u_11_w_words_a1_fn j1 (131072 : Int32) (fun _ => 0) (0 : Int32))))])) (fun t k => ?_) ?_
      · show Steps p.tables e below (T53.setTop (mkF m 252 #[.val (.int p1), .val (.int p2), .val (.int p3), .val (.int p4), .val (.int p5), .val (.int j1), .val (.int j2), .val (.int j3), .val (.int j4), .val (.int j5), .val (.int j7), .val (.ref b9), .val (.int j47), .val (.int (1 : Int32)), .val (.int j48), .val (.ref b50_0), .val (.int (1 : Int32)), .unset, .unset] [(.int (r_7 j1 (131072 : Int32) (u_11_w_words_a1_fn j1 (131072 : Int32) (fun _ => 0) (0 : Int32))))])) _
        refine XS.iload X53.here hx rfl (hb hby at_252) rfl ?_
        exact k
      have hs254 : (r_7 j1 (131072 : Int32) (u_11_w_words_a1_fn j1 (131072 : Int32) (fun _ => 0) (0 : Int32))) = (1 : Int32) := own_at_hs254_ft p1 p5 j1 j5 j7 j47 hj1 hj5 hj7 hj47 hc63_3 hhhhc1_3_5_70 hhhhc6_3_5_70 hhhlo17_11_70 hhhhi17_11_70 hc75_11 hs208 hs230
      refine own_go (T' := T53) (g' := (mkF m 266 #[.val (.int p1), .val (.int p2), .val (.int p3), .val (.int p4), .val (.int p5), .val (.int j1), .val (.int j2), .val (.int j3), .val (.int j4), .val (.int j5), .val (.int j7), .val (.ref b9), .val (.int j47), .val (.int (1 : Int32)), .val (.int j48), .val (.ref b50_0), .val (.int (1 : Int32)), .unset, .unset] [(.int (1 : Int32))])) (fun t k => ?_) ?_
      · show Steps p.tables e below (T53.setTop (mkF m 254 #[.val (.int p1), .val (.int p2), .val (.int p3), .val (.int p4), .val (.int p5), .val (.int j1), .val (.int j2), .val (.int j3), .val (.int j4), .val (.int j5), .val (.int j7), .val (.ref b9), .val (.int j47), .val (.int (1 : Int32)), .val (.int j48), .val (.ref b50_0), .val (.int (1 : Int32)), .unset, .unset] [(.int (1 : Int32)), (.int (r_7 j1 (131072 : Int32) (u_11_w_words_a1_fn j1 (131072 : Int32) (fun _ => 0) (0 : Int32))))])) _
        refine XS.icmpNo X53.here hx rfl (hb hby at_254) rfl (teq hs254).2 ?_
        show Steps p.tables e below (T53.setTop (mkF m 257 #[.val (.int p1), .val (.int p2), .val (.int p3), .val (.int p4), .val (.int p5), .val (.int j1), .val (.int j2), .val (.int j3), .val (.int j4), .val (.int j5), .val (.int j7), .val (.ref b9), .val (.int j47), .val (.int (1 : Int32)), .val (.int j48), .val (.ref b50_0), .val (.int (1 : Int32)), .unset, .unset] [])) _
        refine XS.iconst X53.here hx rfl (hb hby at_257) ?_
        show Steps p.tables e below (T53.setTop (mkF m 258 #[.val (.int p1), .val (.int p2), .val (.int p3), .val (.int p4), .val (.int p5), .val (.int j1), .val (.int j2), .val (.int j3), .val (.int j4), .val (.int j5), .val (.int j7), .val (.ref b9), .val (.int j47), .val (.int (1 : Int32)), .val (.int j48), .val (.ref b50_0), .val (.int (1 : Int32)), .unset, .unset] [(.int (1 : Int32))])) _
        refine XS.goto X53.here hx rfl (pc0 := 258) (pc' := 262) rfl (hb hby at_258) (by decide) (by decide) ?_
        show Steps p.tables e below (T53.setTop (mkF m 262 #[.val (.int p1), .val (.int p2), .val (.int p3), .val (.int p4), .val (.int p5), .val (.int j1), .val (.int j2), .val (.int j3), .val (.int j4), .val (.int j5), .val (.int j7), .val (.ref b9), .val (.int j47), .val (.int (1 : Int32)), .val (.int j48), .val (.ref b50_0), .val (.int (1 : Int32)), .unset, .unset] [(.int (1 : Int32))])) _
        refine XS.istore X53.here hx rfl (hb hby at_262) rfl (l' := #[.val (.int p1), .val (.int p2), .val (.int p3), .val (.int p4), .val (.int p5), .val (.int j1), .val (.int j2), .val (.int j3), .val (.int j4), .val (.int j5), .val (.int j7), .val (.ref b9), .val (.int j47), .val (.int (1 : Int32)), .val (.int j48), .val (.ref b50_0), .val (.int (1 : Int32)), .unset, .unset]) rfl ?_
        show Steps p.tables e below (T53.setTop (mkF m 264 #[.val (.int p1), .val (.int p2), .val (.int p3), .val (.int p4), .val (.int p5), .val (.int j1), .val (.int j2), .val (.int j3), .val (.int j4), .val (.int j5), .val (.int j7), .val (.ref b9), .val (.int j47), .val (.int (1 : Int32)), .val (.int j48), .val (.ref b50_0), .val (.int (1 : Int32)), .unset, .unset] [])) _
        refine XS.iload X53.here hx rfl (hb hby at_264) rfl ?_
        exact k
      refine own_go (T' := T53) (g' := (mkF m 273 #[.val (.int p1), .val (.int p2), .val (.int p3), .val (.int p4), .val (.int p5), .val (.int j1), .val (.int j2), .val (.int j3), .val (.int j4), .val (.int j5), .val (.int j7), .val (.ref b9), .val (.int j47), .val (.int (1 : Int32)), .val (.int j48), .val (.ref b50_0), .val (.int (1 : Int32)), .unset, .unset] [(.int j3), (.ref b50_0)])) (fun t k => ?_) ?_
      · show Steps p.tables e below (T53.setTop (mkF m 266 #[.val (.int p1), .val (.int p2), .val (.int p3), .val (.int p4), .val (.int p5), .val (.int j1), .val (.int j2), .val (.int j3), .val (.int j4), .val (.int j5), .val (.int j7), .val (.ref b9), .val (.int j47), .val (.int (1 : Int32)), .val (.int j48), .val (.ref b50_0), .val (.int (1 : Int32)), .unset, .unset] [(.int (1 : Int32))])) _
        refine XS.ifNo X53.here hx rfl (hb hby at_266) rfl ((if0 _ _).trans (feq (by decide : ¬ ((1 : Int32) = (0 : Int32)))).1) ?_
        show Steps p.tables e below (T53.setTop (mkF m 269 #[.val (.int p1), .val (.int p2), .val (.int p3), .val (.int p4), .val (.int p5), .val (.int j1), .val (.int j2), .val (.int j3), .val (.int j4), .val (.int j5), .val (.int j7), .val (.ref b9), .val (.int j47), .val (.int (1 : Int32)), .val (.int j48), .val (.ref b50_0), .val (.int (1 : Int32)), .unset, .unset] [])) _
        refine XS.aload X53.here hx rfl (hb hby at_269) rfl rfl ?_
        show Steps p.tables e below (T53.setTop (mkF m 271 #[.val (.int p1), .val (.int p2), .val (.int p3), .val (.int p4), .val (.int p5), .val (.int j1), .val (.int j2), .val (.int j3), .val (.int j4), .val (.int j5), .val (.int j7), .val (.ref b9), .val (.int j47), .val (.int (1 : Int32)), .val (.int j48), .val (.ref b50_0), .val (.int (1 : Int32)), .unset, .unset] [(.ref b50_0)])) _
        refine XS.iload X53.here hx rfl (hb hby at_271) rfl ?_
        exact k
      have hhhhc1_3_5_273 : ¬ (j3 < (0 : Int32)) := own_at_hhhhc1_3_5_273_ft p1 p3 p5 j1 j3 j5 j7 j47 hj1 hj3 hj5 hj7 hj47 hc63_3 hhhhc1_3_5_70 hhhhc6_3_5_70 hhhlo17_11_70 hhhhi17_11_70 hc75_11 hs208 hs230 hs254
      have hhhhc6_3_5_273 : j3 < (131072 : Int32) := own_at_hhhhc6_3_5_273_ft p1 p3 p5 j1 j3 j5 j7 j47 hj1 hj3 hj5 hj7 hj47 hc63_3 hhhhc1_3_5_70 hhhhc6_3_5_70 hhhlo17_11_70 hhhhi17_11_70 hc75_11 hs208 hs230 hs254 hhhhc1_3_5_273
      have hhlo17_273 : ¬ ((j3 / (64 : Int32)) < (0 : Int32)) := own_at_hhlo17_273_ft p1 p3 p5 j1 j3 j5 j7 j47 hj1 hj3 hj5 hj7 hj47 hc63_3 hhhhc1_3_5_70 hhhhc6_3_5_70 hhhlo17_11_70 hhhhi17_11_70 hc75_11 hs208 hs230 hs254 hhhhc1_3_5_273 hhhhc6_3_5_273
      have hhhi17_273 : (j3 / (64 : Int32)) < (2048 : Int32) := own_at_hhhi17_273_ft p1 p3 p5 j1 j3 j5 j7 j47 hj1 hj3 hj5 hj7 hj47 hc63_3 hhhhc1_3_5_70 hhhhc6_3_5_70 hhhlo17_11_70 hhhhi17_11_70 hc75_11 hs208 hs230 hs254 hhhhc1_3_5_273 hhhhc6_3_5_273 hhlo17_273
      obtain ⟨cq54, kq54, q54a, q54b, q54c⟩ := isOf hZ e53 E_b50_0
      obtain ⟨_, _, ⟨T54, L54, k54, n54⟩, -, X54, ⟨Lc54, hQ54, l54, y54, z54⟩, st54⟩ := X53.virtualBack hx (y := (⟨"com/example/capd/capd/status/Bitstring", "get", "(I)Z"⟩ : MethodName)) (z := (⟨"com/example/capd/capd/status/Bitstring", "get", "(I)Z"⟩ : MethodName)) hown (mvT hZ (hw _ (List.mem_of_getElem? (i := 47) rfl))) (mvT hZ (hw _ (List.mem_of_getElem? (i := 48) rfl))) (notFace_of_selects (args := #[]) (mvT hZ (hw _ (List.mem_of_getElem? (i := 50) rfl)))) (mvT hZ (hw _ (List.mem_of_getElem? (i := 50) rfl))) (mvT hZ (hw _ (List.mem_of_getElem? (i := 49) rfl))) (by decide) (backOf (W := 0) (rm7 l Z a0 hw [] b50_0 j3 (131072 : Int32) b50_1 k10_1 (u_11_w_words_a1_fn j1 (131072 : Int32) (fun _ => 0) (0 : Int32)) T50.heap n0 Z0 F_b50_0_size hhhhc1_3_5_273 hhhhc6_3_5_273 F_b50_0_words V_b50_1 hhlo17_273 hhhi17_273) hZ (hw _ (List.mem_of_getElem? (i := 51) rfl)) (hw _ (List.mem_of_getElem? (i := 3) rfl)) (by decide) (by decide)) q54a q54c (g := (mkF m 273 #[.val (.int p1), .val (.int p2), .val (.int p3), .val (.int p4), .val (.int p5), .val (.int j1), .val (.int j2), .val (.int j3), .val (.int j4), .val (.int j5), .val (.int j7), .val (.ref b9), .val (.int j47), .val (.int (1 : Int32)), .val (.int j48), .val (.ref b50_0), .val (.int (1 : Int32)), .unset, .unset] [(.int j3), (.ref b50_0)])) rfl (by rw [hml]; rfl) (Steps.refl _) (argsL := [(.int j3)]) (rest := []) (lenOf pd_5 rfl) rfl (by show 2 * 0 + _ ≤ _; exact Nat.le_of_eq rfl) (hb hby at_273) (fun _ _ => ⟨rfl, e53, (by decide : 4 + 0 ≤ _), (by decide : 4102 + 0 ≤ _)⟩)
      dsimp only [Pt.U, Pt.locs, Pt.cells, Pt.slots] at X54 l54 y54 z54 st54 hQ54
      subst l54 y54 z54
      obtain ⟨rfl, N54q, e54⟩ := hQ54
      have NN := Fr.app NN N54q
      refine own_go (fun t k => st54.trans k) ?_
      show own_Go p.tables e below _ T54 (mkF m 276 #[.val (.int p1), .val (.int p2), .val (.int p3), .val (.int p4), .val (.int p5), .val (.int j1), .val (.int j2), .val (.int j3), .val (.int j4), .val (.int j5), .val (.int j7), .val (.ref b9), .val (.int j47), .val (.int (1 : Int32)), .val (.int j48), .val (.ref b50_0), .val (.int (1 : Int32)), .unset, .unset] [(.int (r_7 j3 (131072 : Int32) (u_11_w_words_a1_fn j1 (131072 : Int32) (fun _ => 0) (0 : Int32))))])
      refine own_go (T' := T54) (g' := (mkF m 278 #[.val (.int p1), .val (.int p2), .val (.int p3), .val (.int p4), .val (.int p5), .val (.int j1), .val (.int j2), .val (.int j3), .val (.int j4), .val (.int j5), .val (.int j7), .val (.ref b9), .val (.int j47), .val (.int (1 : Int32)), .val (.int j48), .val (.ref b50_0), .val (.int (1 : Int32)), .unset, .unset] [(.int j48), (.int (r_7 j3 (131072 : Int32) (u_11_w_words_a1_fn j1 (131072 : Int32) (fun _ => 0) (0 : Int32))))])) (fun t k => ?_) ?_
      · show Steps p.tables e below (T54.setTop (mkF m 276 #[.val (.int p1), .val (.int p2), .val (.int p3), .val (.int p4), .val (.int p5), .val (.int j1), .val (.int j2), .val (.int j3), .val (.int j4), .val (.int j5), .val (.int j7), .val (.ref b9), .val (.int j47), .val (.int (1 : Int32)), .val (.int j48), .val (.ref b50_0), .val (.int (1 : Int32)), .unset, .unset] [(.int (r_7 j3 (131072 : Int32) (u_11_w_words_a1_fn j1 (131072 : Int32) (fun _ => 0) (0 : Int32))))])) _
        refine XS.iload X54.here hx rfl (hb hby at_276) rfl ?_
        exact k
      have hs278 : (r_7 j3 (131072 : Int32) (u_11_w_words_a1_fn j1 (131072 : Int32) (fun _ => 0) (0 : Int32))) = j48 := own_at_hs278_ft p1 p3 p5 j1 j3 j5 j7 j47 j48 hj1 hj3 hj5 hj7 hj47 hj48 hc63_3 hhhhc1_3_5_70 hhhhc6_3_5_70 hhhlo17_11_70 hhhhi17_11_70 hc75_11 hs208 hs230 hs254 hhhhc1_3_5_273 hhhhc6_3_5_273 hhlo17_273 hhhi17_273
      refine own_go (T' := T54) (g' := (mkF m 292 #[.val (.int p1), .val (.int p2), .val (.int p3), .val (.int p4), .val (.int p5), .val (.int j1), .val (.int j2), .val (.int j3), .val (.int j4), .val (.int j5), .val (.int j7), .val (.ref b9), .val (.int j47), .val (.int (1 : Int32)), .val (.int j48), .val (.ref b50_0), .val (.int (1 : Int32)), .unset, .unset] [(.int j3), (.ref b50_0)])) (fun t k => ?_) ?_
      · show Steps p.tables e below (T54.setTop (mkF m 278 #[.val (.int p1), .val (.int p2), .val (.int p3), .val (.int p4), .val (.int p5), .val (.int j1), .val (.int j2), .val (.int j3), .val (.int j4), .val (.int j5), .val (.int j7), .val (.ref b9), .val (.int j47), .val (.int (1 : Int32)), .val (.int j48), .val (.ref b50_0), .val (.int (1 : Int32)), .unset, .unset] [(.int j48), (.int (r_7 j3 (131072 : Int32) (u_11_w_words_a1_fn j1 (131072 : Int32) (fun _ => 0) (0 : Int32))))])) _
        refine XS.icmpNo X54.here hx rfl (hb hby at_278) rfl (teq hs278).2 ?_
        show Steps p.tables e below (T54.setTop (mkF m 281 #[.val (.int p1), .val (.int p2), .val (.int p3), .val (.int p4), .val (.int p5), .val (.int j1), .val (.int j2), .val (.int j3), .val (.int j4), .val (.int j5), .val (.int j7), .val (.ref b9), .val (.int j47), .val (.int (1 : Int32)), .val (.int j48), .val (.ref b50_0), .val (.int (1 : Int32)), .unset, .unset] [])) _
        refine XS.iconst X54.here hx rfl (hb hby at_281) ?_
        show Steps p.tables e below (T54.setTop (mkF m 282 #[.val (.int p1), .val (.int p2), .val (.int p3), .val (.int p4), .val (.int p5), .val (.int j1), .val (.int j2), .val (.int j3), .val (.int j4), .val (.int j5), .val (.int j7), .val (.ref b9), .val (.int j47), .val (.int (1 : Int32)), .val (.int j48), .val (.ref b50_0), .val (.int (1 : Int32)), .unset, .unset] [(.int (1 : Int32))])) _
        refine XS.goto X54.here hx rfl (pc0 := 282) (pc' := 286) rfl (hb hby at_282) (by decide) (by decide) ?_
        show Steps p.tables e below (T54.setTop (mkF m 286 #[.val (.int p1), .val (.int p2), .val (.int p3), .val (.int p4), .val (.int p5), .val (.int j1), .val (.int j2), .val (.int j3), .val (.int j4), .val (.int j5), .val (.int j7), .val (.ref b9), .val (.int j47), .val (.int (1 : Int32)), .val (.int j48), .val (.ref b50_0), .val (.int (1 : Int32)), .unset, .unset] [(.int (1 : Int32))])) _
        refine XS.istore X54.here hx rfl (hb hby at_286) rfl (l' := #[.val (.int p1), .val (.int p2), .val (.int p3), .val (.int p4), .val (.int p5), .val (.int j1), .val (.int j2), .val (.int j3), .val (.int j4), .val (.int j5), .val (.int j7), .val (.ref b9), .val (.int j47), .val (.int (1 : Int32)), .val (.int j48), .val (.ref b50_0), .val (.int (1 : Int32)), .unset, .unset]) rfl ?_
        show Steps p.tables e below (T54.setTop (mkF m 288 #[.val (.int p1), .val (.int p2), .val (.int p3), .val (.int p4), .val (.int p5), .val (.int j1), .val (.int j2), .val (.int j3), .val (.int j4), .val (.int j5), .val (.int j7), .val (.ref b9), .val (.int j47), .val (.int (1 : Int32)), .val (.int j48), .val (.ref b50_0), .val (.int (1 : Int32)), .unset, .unset] [])) _
        refine XS.aload X54.here hx rfl (hb hby at_288) rfl rfl ?_
        show Steps p.tables e below (T54.setTop (mkF m 290 #[.val (.int p1), .val (.int p2), .val (.int p3), .val (.int p4), .val (.int p5), .val (.int j1), .val (.int j2), .val (.int j3), .val (.int j4), .val (.int j5), .val (.int j7), .val (.ref b9), .val (.int j47), .val (.int (1 : Int32)), .val (.int j48), .val (.ref b50_0), .val (.int (1 : Int32)), .unset, .unset] [(.ref b50_0)])) _
        refine XS.iload X54.here hx rfl (hb hby at_290) rfl ?_
        exact k
      obtain ⟨cq55, kq55, q55a, q55b, q55c⟩ := isOf hZ e54 E_b50_0
      obtain ⟨_, _, ⟨T55, L55, k55, n55⟩, -, X55, ⟨Lc55, hQ55, l55, y55, z55⟩, st55⟩ := X54.virtualBack hx (y := (⟨"com/example/capd/capd/status/Bitstring", "set", "(I)V"⟩ : MethodName)) (z := (⟨"com/example/capd/capd/status/Bitstring", "set", "(I)V"⟩ : MethodName)) hown (mvT hZ (hw _ (List.mem_of_getElem? (i := 64) rfl))) (mvT hZ (hw _ (List.mem_of_getElem? (i := 65) rfl))) (notFace_of_selects (args := #[]) (mvT hZ (hw _ (List.mem_of_getElem? (i := 67) rfl)))) (mvT hZ (hw _ (List.mem_of_getElem? (i := 67) rfl))) (mvT hZ (hw _ (List.mem_of_getElem? (i := 66) rfl))) (by decide) (backOf (W := 0) (rm11 l Z a0 hw [] b50_0 j3 (131072 : Int32) b50_1 k10_1 (u_11_w_words_a1_fn j1 (131072 : Int32) (fun _ => 0) (0 : Int32)) (u_11_a1_count j1 (131072 : Int32) (fun _ => 0) (0 : Int32)) T50.heap n0 Z0 F_b50_0_size hhhhc1_3_5_273 hhhhc6_3_5_273 hhhhc1_3_5_273 hhhhc6_3_5_273 F_b50_0_words V_b50_1 hhlo17_273 hhhi17_273 E_b50_0 hhlo17_273 hhhi17_273 hhlo17_273 hhhi17_273 ne_b50_0_b50_1 g_b50_1 F_b50_0_count g_b50_0) hZ (hw _ (List.mem_of_getElem? (i := 68) rfl)) (hw _ (List.mem_of_getElem? (i := 3) rfl)) (by decide) (by decide)) q55a q55c (g := (mkF m 292 #[.val (.int p1), .val (.int p2), .val (.int p3), .val (.int p4), .val (.int p5), .val (.int j1), .val (.int j2), .val (.int j3), .val (.int j4), .val (.int j5), .val (.int j7), .val (.ref b9), .val (.int j47), .val (.int (1 : Int32)), .val (.int j48), .val (.ref b50_0), .val (.int (1 : Int32)), .unset, .unset] [(.int j3), (.ref b50_0)])) rfl (by rw [hml]; rfl) (Steps.refl _) (argsL := [(.int j3)]) (rest := []) (lenOf pd_9 rfl) rfl (by show 2 * 0 + _ ≤ _; exact Nat.le_of_eq rfl) (hb hby at_292) (fun _ _ => ⟨rfl, e54, (by decide : 4 + 0 ≤ _), (by decide : 4102 + 0 ≤ _)⟩)
      dsimp only [Pt.U, Pt.locs, Pt.cells, Pt.slots] at X55 l55 y55 z55 st55 hQ55
      subst l55 y55 z55
      obtain ⟨rfl, N55q, K55, Q55_0, Q55_1, Q55_2, Q55_3, Q55_4⟩ := hQ55
      have E_b9 := E_b9.keep K55
      have F_b9_words := F_b9_words.keep K55 (ninS ne_b9_b50_1 (ninS ne_b9_b50_0 nin0))
      have F_b9_size := F_b9_size.keep K55 (ninS ne_b9_b50_1 (ninS ne_b9_b50_0 nin0))
      have F_b9_count := F_b9_count.keep K55 (ninS ne_b9_b50_1 (ninS ne_b9_b50_0 nin0))
      have E_b10_0 := E_b10_0.keep K55
      have V_b10_0 := V_b10_0.keep K55 (ninS ne_b10_0_b50_1 (ninS ne_b10_0_b50_0 nin0))
      have E_b50_1 := E_b50_1.keep K55
      have V_b50_1 := Q55_0
      have E_b50_0 := Q55_1
      have F_b50_0_size := Q55_2
      have F_b50_0_words := Q55_3
      have F_b50_0_count := Q55_4
      have Z0 := Nat.le_trans Z0 K55.1
      have KK := KK.trans K55 (allS (Or.inr sz_b50_1) (allS (Or.inr sz_b50_0) all0))
      have NN := Fr.app NN N55q
      refine own_go (fun t k => st55.trans k) ?_
      show own_Go p.tables e below _ T55 (mkF m 295 #[.val (.int p1), .val (.int p2), .val (.int p3), .val (.int p4), .val (.int p5), .val (.int j1), .val (.int j2), .val (.int j3), .val (.int j4), .val (.int j5), .val (.int j7), .val (.ref b9), .val (.int j47), .val (.int (1 : Int32)), .val (.int j48), .val (.ref b50_0), .val (.int (1 : Int32)), .unset, .unset] [])
      refine own_go (T' := T55) (g' := (mkF m 297 #[.val (.int p1), .val (.int p2), .val (.int p3), .val (.int p4), .val (.int p5), .val (.int j1), .val (.int j2), .val (.int j3), .val (.int j4), .val (.int j5), .val (.int j7), .val (.ref b9), .val (.int j47), .val (.int (1 : Int32)), .val (.int j48), .val (.ref b50_0), .val (.int (1 : Int32)), .unset, .unset] [(.int (1 : Int32))])) (fun t k => ?_) ?_
      · show Steps p.tables e below (T55.setTop (mkF m 295 #[.val (.int p1), .val (.int p2), .val (.int p3), .val (.int p4), .val (.int p5), .val (.int j1), .val (.int j2), .val (.int j3), .val (.int j4), .val (.int j5), .val (.int j7), .val (.ref b9), .val (.int j47), .val (.int (1 : Int32)), .val (.int j48), .val (.ref b50_0), .val (.int (1 : Int32)), .unset, .unset] [])) _
        refine XS.iload X55.here hx rfl (hb hby at_295) rfl ?_
        exact k
      refine own_go (T' := T55) (g' := (mkF m 304 #[.val (.int p1), .val (.int p2), .val (.int p3), .val (.int p4), .val (.int p5), .val (.int j1), .val (.int j2), .val (.int j3), .val (.int j4), .val (.int j5), .val (.int j7), .val (.ref b9), .val (.int j47), .val (.int (1 : Int32)), .val (.int j48), .val (.ref b50_0), .val (.int (1 : Int32)), .unset, .unset] [(.int j3), (.ref b9)])) (fun t k => ?_) ?_
      · show Steps p.tables e below (T55.setTop (mkF m 297 #[.val (.int p1), .val (.int p2), .val (.int p3), .val (.int p4), .val (.int p5), .val (.int j1), .val (.int j2), .val (.int j3), .val (.int j4), .val (.int j5), .val (.int j7), .val (.ref b9), .val (.int j47), .val (.int (1 : Int32)), .val (.int j48), .val (.ref b50_0), .val (.int (1 : Int32)), .unset, .unset] [(.int (1 : Int32))])) _
        refine XS.ifNo X55.here hx rfl (hb hby at_297) rfl ((if0 _ _).trans (feq (by decide : ¬ ((1 : Int32) = (0 : Int32)))).1) ?_
        show Steps p.tables e below (T55.setTop (mkF m 300 #[.val (.int p1), .val (.int p2), .val (.int p3), .val (.int p4), .val (.int p5), .val (.int j1), .val (.int j2), .val (.int j3), .val (.int j4), .val (.int j5), .val (.int j7), .val (.ref b9), .val (.int j47), .val (.int (1 : Int32)), .val (.int j48), .val (.ref b50_0), .val (.int (1 : Int32)), .unset, .unset] [])) _
        refine XS.aload X55.here hx rfl (hb hby at_300) rfl rfl ?_
        show Steps p.tables e below (T55.setTop (mkF m 302 #[.val (.int p1), .val (.int p2), .val (.int p3), .val (.int p4), .val (.int p5), .val (.int j1), .val (.int j2), .val (.int j3), .val (.int j4), .val (.int j5), .val (.int j7), .val (.ref b9), .val (.int j47), .val (.int (1 : Int32)), .val (.int j48), .val (.ref b50_0), .val (.int (1 : Int32)), .unset, .unset] [(.ref b9)])) _
        refine XS.iload X55.here hx rfl (hb hby at_302) rfl ?_
        exact k
      obtain ⟨cq56, kq56, q56a, q56b, q56c⟩ := isOf hZ rfl E_b9
      obtain ⟨_, _, ⟨T56, L56, k56, n56⟩, -, X56, ⟨Lc56, hQ56, l56, y56, z56⟩, st56⟩ := X55.virtualBack hx (y := (⟨"com/example/capd/capd/status/Bitstring", "get", "(I)Z"⟩ : MethodName)) (z := (⟨"com/example/capd/capd/status/Bitstring", "get", "(I)Z"⟩ : MethodName)) hown (mvT hZ (hw _ (List.mem_of_getElem? (i := 47) rfl))) (mvT hZ (hw _ (List.mem_of_getElem? (i := 48) rfl))) (notFace_of_selects (args := #[]) (mvT hZ (hw _ (List.mem_of_getElem? (i := 50) rfl)))) (mvT hZ (hw _ (List.mem_of_getElem? (i := 50) rfl))) (mvT hZ (hw _ (List.mem_of_getElem? (i := 49) rfl))) (by decide) (backOf (W := 0) (rm7 l Z a0 hw [] b9 j3 (131072 : Int32) b10_0 k10_1 (u_11_w_words_a1_fn j1 (131072 : Int32) (fun _ => 0) (0 : Int32)) T55.heap n0 Z0 F_b9_size hhhhc1_3_5_273 hhhhc6_3_5_273 F_b9_words V_b10_0 hhlo17_273 hhhi17_273) hZ (hw _ (List.mem_of_getElem? (i := 51) rfl)) (hw _ (List.mem_of_getElem? (i := 3) rfl)) (by decide) (by decide)) q56a q56c (g := (mkF m 304 #[.val (.int p1), .val (.int p2), .val (.int p3), .val (.int p4), .val (.int p5), .val (.int j1), .val (.int j2), .val (.int j3), .val (.int j4), .val (.int j5), .val (.int j7), .val (.ref b9), .val (.int j47), .val (.int (1 : Int32)), .val (.int j48), .val (.ref b50_0), .val (.int (1 : Int32)), .unset, .unset] [(.int j3), (.ref b9)])) rfl (by rw [hml]; rfl) (Steps.refl _) (argsL := [(.int j3)]) (rest := []) (lenOf pd_5 rfl) rfl (by show 2 * 0 + _ ≤ _; exact Nat.le_of_eq rfl) (hb hby at_304) (fun _ _ => ⟨rfl, rfl, (by decide : 4 + 0 ≤ _), (by decide : 4102 + 0 ≤ _)⟩)
      dsimp only [Pt.U, Pt.locs, Pt.cells, Pt.slots] at X56 l56 y56 z56 st56 hQ56
      subst l56 y56 z56
      obtain ⟨rfl, N56q, e56⟩ := hQ56
      have NN := Fr.app NN N56q
      refine own_go (fun t k => st56.trans k) ?_
      show own_Go p.tables e below _ T56 (mkF m 307 #[.val (.int p1), .val (.int p2), .val (.int p3), .val (.int p4), .val (.int p5), .val (.int j1), .val (.int j2), .val (.int j3), .val (.int j4), .val (.int j5), .val (.int j7), .val (.ref b9), .val (.int j47), .val (.int (1 : Int32)), .val (.int j48), .val (.ref b50_0), .val (.int (1 : Int32)), .unset, .unset] [(.int (r_7 j3 (131072 : Int32) (u_11_w_words_a1_fn j1 (131072 : Int32) (fun _ => 0) (0 : Int32))))])
      refine own_go (T' := T56) (g' := (mkF m 309 #[.val (.int p1), .val (.int p2), .val (.int p3), .val (.int p4), .val (.int p5), .val (.int j1), .val (.int j2), .val (.int j3), .val (.int j4), .val (.int j5), .val (.int j7), .val (.ref b9), .val (.int j47), .val (.int (1 : Int32)), .val (.int j48), .val (.ref b50_0), .val (.int (1 : Int32)), .unset, .unset] [(.int j48), (.int (r_7 j3 (131072 : Int32) (u_11_w_words_a1_fn j1 (131072 : Int32) (fun _ => 0) (0 : Int32))))])) (fun t k => ?_) ?_
      · show Steps p.tables e below (T56.setTop (mkF m 307 #[.val (.int p1), .val (.int p2), .val (.int p3), .val (.int p4), .val (.int p5), .val (.int j1), .val (.int j2), .val (.int j3), .val (.int j4), .val (.int j5), .val (.int j7), .val (.ref b9), .val (.int j47), .val (.int (1 : Int32)), .val (.int j48), .val (.ref b50_0), .val (.int (1 : Int32)), .unset, .unset] [(.int (r_7 j3 (131072 : Int32) (u_11_w_words_a1_fn j1 (131072 : Int32) (fun _ => 0) (0 : Int32))))])) _
        refine XS.iload X56.here hx rfl (hb hby at_307) rfl ?_
        exact k
      refine own_go (T' := T56) (g' := (mkF m 323 #[.val (.int p1), .val (.int p2), .val (.int p3), .val (.int p4), .val (.int p5), .val (.int j1), .val (.int j2), .val (.int j3), .val (.int j4), .val (.int j5), .val (.int j7), .val (.ref b9), .val (.int j47), .val (.int (1 : Int32)), .val (.int j48), .val (.ref b50_0), .val (.int (1 : Int32)), .unset, .unset] [(.int j48), (.int j47)])) (fun t k => ?_) ?_
      · show Steps p.tables e below (T56.setTop (mkF m 309 #[.val (.int p1), .val (.int p2), .val (.int p3), .val (.int p4), .val (.int p5), .val (.int j1), .val (.int j2), .val (.int j3), .val (.int j4), .val (.int j5), .val (.int j7), .val (.ref b9), .val (.int j47), .val (.int (1 : Int32)), .val (.int j48), .val (.ref b50_0), .val (.int (1 : Int32)), .unset, .unset] [(.int j48), (.int (r_7 j3 (131072 : Int32) (u_11_w_words_a1_fn j1 (131072 : Int32) (fun _ => 0) (0 : Int32))))])) _
        refine XS.icmpNo X56.here hx rfl (hb hby at_309) rfl (teq hs278).2 ?_
        show Steps p.tables e below (T56.setTop (mkF m 312 #[.val (.int p1), .val (.int p2), .val (.int p3), .val (.int p4), .val (.int p5), .val (.int j1), .val (.int j2), .val (.int j3), .val (.int j4), .val (.int j5), .val (.int j7), .val (.ref b9), .val (.int j47), .val (.int (1 : Int32)), .val (.int j48), .val (.ref b50_0), .val (.int (1 : Int32)), .unset, .unset] [])) _
        refine XS.iconst X56.here hx rfl (hb hby at_312) ?_
        show Steps p.tables e below (T56.setTop (mkF m 313 #[.val (.int p1), .val (.int p2), .val (.int p3), .val (.int p4), .val (.int p5), .val (.int j1), .val (.int j2), .val (.int j3), .val (.int j4), .val (.int j5), .val (.int j7), .val (.ref b9), .val (.int j47), .val (.int (1 : Int32)), .val (.int j48), .val (.ref b50_0), .val (.int (1 : Int32)), .unset, .unset] [(.int (1 : Int32))])) _
        refine XS.goto X56.here hx rfl (pc0 := 313) (pc' := 317) rfl (hb hby at_313) (by decide) (by decide) ?_
        show Steps p.tables e below (T56.setTop (mkF m 317 #[.val (.int p1), .val (.int p2), .val (.int p3), .val (.int p4), .val (.int p5), .val (.int j1), .val (.int j2), .val (.int j3), .val (.int j4), .val (.int j5), .val (.int j7), .val (.ref b9), .val (.int j47), .val (.int (1 : Int32)), .val (.int j48), .val (.ref b50_0), .val (.int (1 : Int32)), .unset, .unset] [(.int (1 : Int32))])) _
        refine XS.istore X56.here hx rfl (hb hby at_317) rfl (l' := #[.val (.int p1), .val (.int p2), .val (.int p3), .val (.int p4), .val (.int p5), .val (.int j1), .val (.int j2), .val (.int j3), .val (.int j4), .val (.int j5), .val (.int j7), .val (.ref b9), .val (.int j47), .val (.int (1 : Int32)), .val (.int j48), .val (.ref b50_0), .val (.int (1 : Int32)), .unset, .unset]) rfl ?_
        show Steps p.tables e below (T56.setTop (mkF m 319 #[.val (.int p1), .val (.int p2), .val (.int p3), .val (.int p4), .val (.int p5), .val (.int j1), .val (.int j2), .val (.int j3), .val (.int j4), .val (.int j5), .val (.int j7), .val (.ref b9), .val (.int j47), .val (.int (1 : Int32)), .val (.int j48), .val (.ref b50_0), .val (.int (1 : Int32)), .unset, .unset] [])) _
        refine XS.iload X56.here hx rfl (hb hby at_319) rfl ?_
        show Steps p.tables e below (T56.setTop (mkF m 321 #[.val (.int p1), .val (.int p2), .val (.int p3), .val (.int p4), .val (.int p5), .val (.int j1), .val (.int j2), .val (.int j3), .val (.int j4), .val (.int j5), .val (.int j7), .val (.ref b9), .val (.int j47), .val (.int (1 : Int32)), .val (.int j48), .val (.ref b50_0), .val (.int (1 : Int32)), .unset, .unset] [(.int j47)])) _
        refine XS.iload X56.here hx rfl (hb hby at_321) rfl ?_
        exact k
      obtain ⟨j57, hj57, st58⟩ : ∃ (j57 : Int32), j57 = (if j48 = (0 : Int32) then (1 : Int32) else (0 : Int32)) ∧ ∀ t, Steps p.tables e below (T56.setTop (mkF m 331 #[.val (.int p1), .val (.int p2), .val (.int p3), .val (.int p4), .val (.int p5), .val (.int j1), .val (.int j2), .val (.int j3), .val (.int j4), .val (.int j5), .val (.int j7), .val (.ref b9), .val (.int j47), .val (.int (1 : Int32)), .val (.int j48), .val (.ref b50_0), .val (.int (1 : Int32)), .unset, .unset] [(.int j57), (.int j47)])) t → Steps p.tables e below (T56.setTop (mkF m 323 #[.val (.int p1), .val (.int p2), .val (.int p3), .val (.int p4), .val (.int p5), .val (.int j1), .val (.int j2), .val (.int j3), .val (.int j4), .val (.int j5), .val (.int j7), .val (.ref b9), .val (.int j47), .val (.int (1 : Int32)), .val (.int j48), .val (.ref b50_0), .val (.int (1 : Int32)), .unset, .unset] [(.int j48), (.int j47)])) t := by
        by_cases hc323_13 : j48 = (0 : Int32)
        · skip
          refine ⟨(1 : Int32), (by simp only [if_pos hc323_13]), fun t k => ?_⟩
          show Steps p.tables e below (T56.setTop (mkF m 323 #[.val (.int p1), .val (.int p2), .val (.int p3), .val (.int p4), .val (.int p5), .val (.int j1), .val (.int j2), .val (.int j3), .val (.int j4), .val (.int j5), .val (.int j7), .val (.ref b9), .val (.int j47), .val (.int (1 : Int32)), .val (.int j48), .val (.ref b50_0), .val (.int (1 : Int32)), .unset, .unset] [(.int j48), (.int j47)])) _
          refine XS.ifYes X56.here hx rfl (pc0 := 323) (pc' := 330) rfl (hb hby at_323) rfl ((if0 _ _).trans (teq hc323_13).1) (by decide) (by decide) ?_
          show Steps p.tables e below (T56.setTop (mkF m 330 #[.val (.int p1), .val (.int p2), .val (.int p3), .val (.int p4), .val (.int p5), .val (.int j1), .val (.int j2), .val (.int j3), .val (.int j4), .val (.int j5), .val (.int j7), .val (.ref b9), .val (.int j47), .val (.int (1 : Int32)), .val (.int j48), .val (.ref b50_0), .val (.int (1 : Int32)), .unset, .unset] [(.int j47)])) _
          refine XS.iconst X56.here hx rfl (hb hby at_330) ?_
          exact k
        · skip
          refine ⟨(0 : Int32), (by simp only [if_neg hc323_13]), fun t k => ?_⟩
          show Steps p.tables e below (T56.setTop (mkF m 323 #[.val (.int p1), .val (.int p2), .val (.int p3), .val (.int p4), .val (.int p5), .val (.int j1), .val (.int j2), .val (.int j3), .val (.int j4), .val (.int j5), .val (.int j7), .val (.ref b9), .val (.int j47), .val (.int (1 : Int32)), .val (.int j48), .val (.ref b50_0), .val (.int (1 : Int32)), .unset, .unset] [(.int j48), (.int j47)])) _
          refine XS.ifNo X56.here hx rfl (hb hby at_323) rfl ((if0 _ _).trans (feq hc323_13).1) ?_
          show Steps p.tables e below (T56.setTop (mkF m 326 #[.val (.int p1), .val (.int p2), .val (.int p3), .val (.int p4), .val (.int p5), .val (.int j1), .val (.int j2), .val (.int j3), .val (.int j4), .val (.int j5), .val (.int j7), .val (.ref b9), .val (.int j47), .val (.int (1 : Int32)), .val (.int j48), .val (.ref b50_0), .val (.int (1 : Int32)), .unset, .unset] [(.int j47)])) _
          refine XS.iconst X56.here hx rfl (hb hby at_326) ?_
          show Steps p.tables e below (T56.setTop (mkF m 327 #[.val (.int p1), .val (.int p2), .val (.int p3), .val (.int p4), .val (.int p5), .val (.int j1), .val (.int j2), .val (.int j3), .val (.int j4), .val (.int j5), .val (.int j7), .val (.ref b9), .val (.int j47), .val (.int (1 : Int32)), .val (.int j48), .val (.ref b50_0), .val (.int (1 : Int32)), .unset, .unset] [(.int (0 : Int32)), (.int j47)])) _
          refine XS.goto X56.here hx rfl (pc0 := 327) (pc' := 331) rfl (hb hby at_327) (by decide) (by decide) ?_
          exact k
      refine own_go st58 ?_
      show own_Go p.tables e below _ T56 (mkF m 331 #[.val (.int p1), .val (.int p2), .val (.int p3), .val (.int p4), .val (.int p5), .val (.int j1), .val (.int j2), .val (.int j3), .val (.int j4), .val (.int j5), .val (.int j7), .val (.ref b9), .val (.int j47), .val (.int (1 : Int32)), .val (.int j48), .val (.ref b50_0), .val (.int (1 : Int32)), .unset, .unset] [(.int j57), (.int j47)])
      refine own_go (T' := T56) (g' := (mkF m 334 #[.val (.int p1), .val (.int p2), .val (.int p3), .val (.int p4), .val (.int p5), .val (.int j1), .val (.int j2), .val (.int j3), .val (.int j4), .val (.int j5), .val (.int j7), .val (.ref b9), .val (.int j47), .val (.int (1 : Int32)), .val (.int j48), .val (.ref b50_0), .val (.int (1 : Int32)), .val (.int (j47 + j57)), .unset] [])) (fun t k => ?_) ?_
      · show Steps p.tables e below (T56.setTop (mkF m 331 #[.val (.int p1), .val (.int p2), .val (.int p3), .val (.int p4), .val (.int p5), .val (.int j1), .val (.int j2), .val (.int j3), .val (.int j4), .val (.int j5), .val (.int j7), .val (.ref b9), .val (.int j47), .val (.int (1 : Int32)), .val (.int j48), .val (.ref b50_0), .val (.int (1 : Int32)), .unset, .unset] [(.int j57), (.int j47)])) _
        refine XS.iadd X56.here hx rfl (hb hby at_331) rfl ?_
        show Steps p.tables e below (T56.setTop (mkF m 332 #[.val (.int p1), .val (.int p2), .val (.int p3), .val (.int p4), .val (.int p5), .val (.int j1), .val (.int j2), .val (.int j3), .val (.int j4), .val (.int j5), .val (.int j7), .val (.ref b9), .val (.int j47), .val (.int (1 : Int32)), .val (.int j48), .val (.ref b50_0), .val (.int (1 : Int32)), .unset, .unset] [(.int (j47 + j57))])) _
        refine XS.istore X56.here hx rfl (hb hby at_332) rfl (l' := #[.val (.int p1), .val (.int p2), .val (.int p3), .val (.int p4), .val (.int p5), .val (.int j1), .val (.int j2), .val (.int j3), .val (.int j4), .val (.int j5), .val (.int j7), .val (.ref b9), .val (.int j47), .val (.int (1 : Int32)), .val (.int j48), .val (.ref b50_0), .val (.int (1 : Int32)), .val (.int (j47 + j57)), .unset]) rfl ?_
        exact k
      show own_Go p.tables e below _ T56 (mkF m 334 #[.val (.int p1), .val (.int p2), .val (.int p3), .val (.int p4), .val (.int p5), .val (.int j1), .val (.int j2), .val (.int j3), .val (.int j4), .val (.int j5), .val (.int j7), .val (.ref b9), .val (.int j47), .val (.int (1 : Int32)), .val (.int j48), .val (.ref b50_0), .val (.int (1 : Int32)), .val (.int (j47 + j57)), .unset] [])
      obtain ⟨j59, hj59⟩ : ∃ z : Int32, z = (j47 + j57) := ⟨_, rfl⟩
      rw [← hj59]
      show own_Go p.tables e below _ T56 (mkF m 334 #[.val (.int p1), .val (.int p2), .val (.int p3), .val (.int p4), .val (.int p5), .val (.int j1), .val (.int j2), .val (.int j3), .val (.int j4), .val (.int j5), .val (.int j7), .val (.ref b9), .val (.int j47), .val (.int (1 : Int32)), .val (.int j48), .val (.ref b50_0), .val (.int (1 : Int32)), .val (.int j59), .unset] [])
      refine own_go (T' := T56) (g' := (mkF m 336 #[.val (.int p1), .val (.int p2), .val (.int p3), .val (.int p4), .val (.int p5), .val (.int j1), .val (.int j2), .val (.int j3), .val (.int j4), .val (.int j5), .val (.int j7), .val (.ref b9), .val (.int j47), .val (.int (1 : Int32)), .val (.int j48), .val (.ref b50_0), .val (.int (1 : Int32)), .val (.int j59), .unset] [(.int (1 : Int32))])) (fun t k => ?_) ?_
      · show Steps p.tables e below (T56.setTop (mkF m 334 #[.val (.int p1), .val (.int p2), .val (.int p3), .val (.int p4), .val (.int p5), .val (.int j1), .val (.int j2), .val (.int j3), .val (.int j4), .val (.int j5), .val (.int j7), .val (.ref b9), .val (.int j47), .val (.int (1 : Int32)), .val (.int j48), .val (.ref b50_0), .val (.int (1 : Int32)), .val (.int j59), .unset] [])) _
        refine XS.iload X56.here hx rfl (hb hby at_334) rfl ?_
        exact k
      refine own_go (T' := T56) (g' := (mkF m 341 #[.val (.int p1), .val (.int p2), .val (.int p3), .val (.int p4), .val (.int p5), .val (.int j1), .val (.int j2), .val (.int j3), .val (.int j4), .val (.int j5), .val (.int j7), .val (.ref b9), .val (.int j47), .val (.int (1 : Int32)), .val (.int j48), .val (.ref b50_0), .val (.int (1 : Int32)), .val (.int j59), .unset] [(.ref b50_0)])) (fun t k => ?_) ?_
      · show Steps p.tables e below (T56.setTop (mkF m 336 #[.val (.int p1), .val (.int p2), .val (.int p3), .val (.int p4), .val (.int p5), .val (.int j1), .val (.int j2), .val (.int j3), .val (.int j4), .val (.int j5), .val (.int j7), .val (.ref b9), .val (.int j47), .val (.int (1 : Int32)), .val (.int j48), .val (.ref b50_0), .val (.int (1 : Int32)), .val (.int j59), .unset] [(.int (1 : Int32))])) _
        refine XS.ifNo X56.here hx rfl (hb hby at_336) rfl ((if0 _ _).trans (feq (by decide : ¬ ((1 : Int32) = (0 : Int32)))).1) ?_
        show Steps p.tables e below (T56.setTop (mkF m 339 #[.val (.int p1), .val (.int p2), .val (.int p3), .val (.int p4), .val (.int p5), .val (.int j1), .val (.int j2), .val (.int j3), .val (.int j4), .val (.int j5), .val (.int j7), .val (.ref b9), .val (.int j47), .val (.int (1 : Int32)), .val (.int j48), .val (.ref b50_0), .val (.int (1 : Int32)), .val (.int j59), .unset] [])) _
        refine XS.aload X56.here hx rfl (hb hby at_339) rfl rfl ?_
        exact k
      obtain ⟨cq60, kq60, q60a, q60b, q60c⟩ := isOf hZ e56 E_b50_0
      obtain ⟨_, _, ⟨T60, L60, k60, n60⟩, -, X60, ⟨Lc60, hQ60, l60, y60, z60⟩, st60⟩ := X56.virtualBack hx (y := (⟨"com/example/capd/capd/status/Bitstring", "count", "()I"⟩ : MethodName)) (z := (⟨"com/example/capd/capd/status/Bitstring", "count", "()I"⟩ : MethodName)) hown (mvT hZ (hw _ (List.mem_of_getElem? (i := 42) rfl))) (mvT hZ (hw _ (List.mem_of_getElem? (i := 43) rfl))) (notFace_of_selects (args := #[]) (mvT hZ (hw _ (List.mem_of_getElem? (i := 45) rfl)))) (mvT hZ (hw _ (List.mem_of_getElem? (i := 45) rfl))) (mvT hZ (hw _ (List.mem_of_getElem? (i := 44) rfl))) (by decide) (backOf (W := 0) (rm6 l Z a0 hw [] b50_0 (u_11_a1_count j3 (131072 : Int32) (u_11_w_words_a1_fn j1 (131072 : Int32) (fun _ => 0) (0 : Int32)) (u_11_a1_count j1 (131072 : Int32) (fun _ => 0) (0 : Int32))) T55.heap n0 Z0 F_b50_0_count) hZ (hw _ (List.mem_of_getElem? (i := 46) rfl)) (hw _ (List.mem_of_getElem? (i := 3) rfl)) (by decide) (by decide)) q60a q60c (g := (mkF m 341 #[.val (.int p1), .val (.int p2), .val (.int p3), .val (.int p4), .val (.int p5), .val (.int j1), .val (.int j2), .val (.int j3), .val (.int j4), .val (.int j5), .val (.int j7), .val (.ref b9), .val (.int j47), .val (.int (1 : Int32)), .val (.int j48), .val (.ref b50_0), .val (.int (1 : Int32)), .val (.int j59), .unset] [(.ref b50_0)])) rfl (by rw [hml]; rfl) (Steps.refl _) (argsL := []) (rest := []) (lenOf pd_4 rfl) rfl (by show 2 * 0 + _ ≤ _; exact Nat.le_of_eq rfl) (hb hby at_341) (fun _ _ => ⟨rfl, e56, (by decide : 4 + 0 ≤ _), (by decide : 4102 + 0 ≤ _)⟩)
      dsimp only [Pt.U, Pt.locs, Pt.cells, Pt.slots] at X60 l60 y60 z60 st60 hQ60
      subst l60 y60 z60
      obtain ⟨rfl, N60q, e60⟩ := hQ60
      have NN := Fr.app NN N60q
      refine own_go (fun t k => st60.trans k) ?_
      show own_Go p.tables e below _ T60 (mkF m 344 #[.val (.int p1), .val (.int p2), .val (.int p3), .val (.int p4), .val (.int p5), .val (.int j1), .val (.int j2), .val (.int j3), .val (.int j4), .val (.int j5), .val (.int j7), .val (.ref b9), .val (.int j47), .val (.int (1 : Int32)), .val (.int j48), .val (.ref b50_0), .val (.int (1 : Int32)), .val (.int j59), .unset] [(.int (r_6 (u_11_a1_count j3 (131072 : Int32) (u_11_w_words_a1_fn j1 (131072 : Int32) (fun _ => 0) (0 : Int32)) (u_11_a1_count j1 (131072 : Int32) (fun _ => 0) (0 : Int32)))))])
      refine own_go (T' := T60) (g' := (mkF m 346 #[.val (.int p1), .val (.int p2), .val (.int p3), .val (.int p4), .val (.int p5), .val (.int j1), .val (.int j2), .val (.int j3), .val (.int j4), .val (.int j5), .val (.int j7), .val (.ref b9), .val (.int j47), .val (.int (1 : Int32)), .val (.int j48), .val (.ref b50_0), .val (.int (1 : Int32)), .val (.int j59), .unset] [(.int j59), (.int (r_6 (u_11_a1_count j3 (131072 : Int32) (u_11_w_words_a1_fn j1 (131072 : Int32) (fun _ => 0) (0 : Int32)) (u_11_a1_count j1 (131072 : Int32) (fun _ => 0) (0 : Int32)))))])) (fun t k => ?_) ?_
      · show Steps p.tables e below (T60.setTop (mkF m 344 #[.val (.int p1), .val (.int p2), .val (.int p3), .val (.int p4), .val (.int p5), .val (.int j1), .val (.int j2), .val (.int j3), .val (.int j4), .val (.int j5), .val (.int j7), .val (.ref b9), .val (.int j47), .val (.int (1 : Int32)), .val (.int j48), .val (.ref b50_0), .val (.int (1 : Int32)), .val (.int j59), .unset] [(.int (r_6 (u_11_a1_count j3 (131072 : Int32) (u_11_w_words_a1_fn j1 (131072 : Int32) (fun _ => 0) (0 : Int32)) (u_11_a1_count j1 (131072 : Int32) (fun _ => 0) (0 : Int32)))))])) _
        refine XS.iload X60.here hx rfl (hb hby at_344) rfl ?_
        exact k
      have hs346 : (r_6 (u_11_a1_count j3 (131072 : Int32) (u_11_w_words_a1_fn j1 (131072 : Int32) (fun _ => 0) (0 : Int32)) (u_11_a1_count j1 (131072 : Int32) (fun _ => 0) (0 : Int32)))) = j59 := own_at_hs346_ft p1 p3 p5 j1 j3 j5 j7 j47 j48 j57 j59 hj1 hj3 hj5 hj7 hj47 hj48 hj57 hj59 hc63_3 hhhhc1_3_5_70 hhhhc6_3_5_70 hhhlo17_11_70 hhhhi17_11_70 hc75_11 hs208 hs230 hs254 hhhhc1_3_5_273 hhhhc6_3_5_273 hhlo17_273 hhhi17_273 hs278
      refine own_go (T' := T60) (g' := (mkF m 358 #[.val (.int p1), .val (.int p2), .val (.int p3), .val (.int p4), .val (.int p5), .val (.int j1), .val (.int j2), .val (.int j3), .val (.int j4), .val (.int j5), .val (.int j7), .val (.ref b9), .val (.int j47), .val (.int (1 : Int32)), .val (.int j48), .val (.ref b50_0), .val (.int (1 : Int32)), .val (.int j59), .unset] [(.int j5)])) (fun t k => ?_) ?_
      · show Steps p.tables e below (T60.setTop (mkF m 346 #[.val (.int p1), .val (.int p2), .val (.int p3), .val (.int p4), .val (.int p5), .val (.int j1), .val (.int j2), .val (.int j3), .val (.int j4), .val (.int j5), .val (.int j7), .val (.ref b9), .val (.int j47), .val (.int (1 : Int32)), .val (.int j48), .val (.ref b50_0), .val (.int (1 : Int32)), .val (.int j59), .unset] [(.int j59), (.int (r_6 (u_11_a1_count j3 (131072 : Int32) (u_11_w_words_a1_fn j1 (131072 : Int32) (fun _ => 0) (0 : Int32)) (u_11_a1_count j1 (131072 : Int32) (fun _ => 0) (0 : Int32)))))])) _
        refine XS.icmpNo X60.here hx rfl (hb hby at_346) rfl (teq hs346).2 ?_
        show Steps p.tables e below (T60.setTop (mkF m 349 #[.val (.int p1), .val (.int p2), .val (.int p3), .val (.int p4), .val (.int p5), .val (.int j1), .val (.int j2), .val (.int j3), .val (.int j4), .val (.int j5), .val (.int j7), .val (.ref b9), .val (.int j47), .val (.int (1 : Int32)), .val (.int j48), .val (.ref b50_0), .val (.int (1 : Int32)), .val (.int j59), .unset] [])) _
        refine XS.iconst X60.here hx rfl (hb hby at_349) ?_
        show Steps p.tables e below (T60.setTop (mkF m 350 #[.val (.int p1), .val (.int p2), .val (.int p3), .val (.int p4), .val (.int p5), .val (.int j1), .val (.int j2), .val (.int j3), .val (.int j4), .val (.int j5), .val (.int j7), .val (.ref b9), .val (.int j47), .val (.int (1 : Int32)), .val (.int j48), .val (.ref b50_0), .val (.int (1 : Int32)), .val (.int j59), .unset] [(.int (1 : Int32))])) _
        refine XS.goto X60.here hx rfl (pc0 := 350) (pc' := 354) rfl (hb hby at_350) (by decide) (by decide) ?_
        show Steps p.tables e below (T60.setTop (mkF m 354 #[.val (.int p1), .val (.int p2), .val (.int p3), .val (.int p4), .val (.int p5), .val (.int j1), .val (.int j2), .val (.int j3), .val (.int j4), .val (.int j5), .val (.int j7), .val (.ref b9), .val (.int j47), .val (.int (1 : Int32)), .val (.int j48), .val (.ref b50_0), .val (.int (1 : Int32)), .val (.int j59), .unset] [(.int (1 : Int32))])) _
        refine XS.istore X60.here hx rfl (hb hby at_354) rfl (l' := #[.val (.int p1), .val (.int p2), .val (.int p3), .val (.int p4), .val (.int p5), .val (.int j1), .val (.int j2), .val (.int j3), .val (.int j4), .val (.int j5), .val (.int j7), .val (.ref b9), .val (.int j47), .val (.int (1 : Int32)), .val (.int j48), .val (.ref b50_0), .val (.int (1 : Int32)), .val (.int j59), .unset]) rfl ?_
        show Steps p.tables e below (T60.setTop (mkF m 356 #[.val (.int p1), .val (.int p2), .val (.int p3), .val (.int p4), .val (.int p5), .val (.int j1), .val (.int j2), .val (.int j3), .val (.int j4), .val (.int j5), .val (.int j7), .val (.ref b9), .val (.int j47), .val (.int (1 : Int32)), .val (.int j48), .val (.ref b50_0), .val (.int (1 : Int32)), .val (.int j59), .unset] [])) _
        refine XS.iload X60.here hx rfl (hb hby at_356) rfl ?_
        exact k
      refine own_go (T' := T60) (g' := (mkF m 365 #[.val (.int p1), .val (.int p2), .val (.int p3), .val (.int p4), .val (.int p5), .val (.int j1), .val (.int j2), .val (.int j3), .val (.int j4), .val (.int j5), .val (.int j7), .val (.ref b9), .val (.int j47), .val (.int (1 : Int32)), .val (.int j48), .val (.ref b50_0), .val (.int (1 : Int32)), .val (.int j59), .unset] [(.int j1), (.int j4)])) (fun t k => ?_) ?_
      · show Steps p.tables e below (T60.setTop (mkF m 358 #[.val (.int p1), .val (.int p2), .val (.int p3), .val (.int p4), .val (.int p5), .val (.int j1), .val (.int j2), .val (.int j3), .val (.int j4), .val (.int j5), .val (.int j7), .val (.ref b9), .val (.int j47), .val (.int (1 : Int32)), .val (.int j48), .val (.ref b50_0), .val (.int (1 : Int32)), .val (.int j59), .unset] [(.int j5)])) _
        refine XS.ifNo X60.here hx rfl (hb hby at_358) rfl ((if0 _ _).trans (feq hc63_3).1) ?_
        show Steps p.tables e below (T60.setTop (mkF m 361 #[.val (.int p1), .val (.int p2), .val (.int p3), .val (.int p4), .val (.int p5), .val (.int j1), .val (.int j2), .val (.int j3), .val (.int j4), .val (.int j5), .val (.int j7), .val (.ref b9), .val (.int j47), .val (.int (1 : Int32)), .val (.int j48), .val (.ref b50_0), .val (.int (1 : Int32)), .val (.int j59), .unset] [])) _
        refine XS.iload X60.here hx rfl (hb hby at_361) rfl ?_
        show Steps p.tables e below (T60.setTop (mkF m 363 #[.val (.int p1), .val (.int p2), .val (.int p3), .val (.int p4), .val (.int p5), .val (.int j1), .val (.int j2), .val (.int j3), .val (.int j4), .val (.int j5), .val (.int j7), .val (.ref b9), .val (.int j47), .val (.int (1 : Int32)), .val (.int j48), .val (.ref b50_0), .val (.int (1 : Int32)), .val (.int j59), .unset] [(.int j4)])) _
        refine XS.iload X60.here hx rfl (hb hby at_363) rfl ?_
        exact k
      obtain ⟨j61, hj61, st62⟩ : ∃ (j61 : Int32), j61 = (if j4 = j1 then (1 : Int32) else (if j4 = j3 then (1 : Int32) else (0 : Int32))) ∧ ∀ t, Steps p.tables e below (T60.setTop (mkF m 392 #[.val (.int p1), .val (.int p2), .val (.int p3), .val (.int p4), .val (.int p5), .val (.int j1), .val (.int j2), .val (.int j3), .val (.int j4), .val (.int j5), .val (.int j7), .val (.ref b9), .val (.int j47), .val (.int (1 : Int32)), .val (.int j48), .val (.ref b50_0), .val (.int (1 : Int32)), .val (.int j59), .unset] [(.int j61)])) t → Steps p.tables e below (T60.setTop (mkF m 365 #[.val (.int p1), .val (.int p2), .val (.int p3), .val (.int p4), .val (.int p5), .val (.int j1), .val (.int j2), .val (.int j3), .val (.int j4), .val (.int j5), .val (.int j7), .val (.ref b9), .val (.int j47), .val (.int (1 : Int32)), .val (.int j48), .val (.ref b50_0), .val (.int (1 : Int32)), .val (.int j59), .unset] [(.int j1), (.int j4)])) t := by
        by_cases hc365_14 : j4 = j1
        · skip
          refine ⟨(1 : Int32), (by simp only [if_pos hc365_14]), fun t k => ?_⟩
          show Steps p.tables e below (T60.setTop (mkF m 365 #[.val (.int p1), .val (.int p2), .val (.int p3), .val (.int p4), .val (.int p5), .val (.int j1), .val (.int j2), .val (.int j3), .val (.int j4), .val (.int j5), .val (.int j7), .val (.ref b9), .val (.int j47), .val (.int (1 : Int32)), .val (.int j48), .val (.ref b50_0), .val (.int (1 : Int32)), .val (.int j59), .unset] [(.int j1), (.int j4)])) _
          refine XS.icmpYes X60.here hx rfl (pc0 := 365) (pc' := 387) rfl (hb hby at_365) rfl (teq hc365_14).1 (by decide) (by decide) ?_
          show Steps p.tables e below (T60.setTop (mkF m 387 #[.val (.int p1), .val (.int p2), .val (.int p3), .val (.int p4), .val (.int p5), .val (.int j1), .val (.int j2), .val (.int j3), .val (.int j4), .val (.int j5), .val (.int j7), .val (.ref b9), .val (.int j47), .val (.int (1 : Int32)), .val (.int j48), .val (.ref b50_0), .val (.int (1 : Int32)), .val (.int j59), .unset] [])) _
          refine XS.iconst X60.here hx rfl (hb hby at_387) ?_
          show Steps p.tables e below (T60.setTop (mkF m 388 #[.val (.int p1), .val (.int p2), .val (.int p3), .val (.int p4), .val (.int p5), .val (.int j1), .val (.int j2), .val (.int j3), .val (.int j4), .val (.int j5), .val (.int j7), .val (.ref b9), .val (.int j47), .val (.int (1 : Int32)), .val (.int j48), .val (.ref b50_0), .val (.int (1 : Int32)), .val (.int j59), .unset] [(.int (1 : Int32))])) _
          refine XS.goto X60.here hx rfl (pc0 := 388) (pc' := 392) rfl (hb hby at_388) (by decide) (by decide) ?_
          exact k
        · skip
          by_cases hc384_15 : j4 = j3
          · skip
            refine ⟨(1 : Int32), (by simp only [if_neg hc365_14, if_pos hc384_15]), fun t k => ?_⟩
            show Steps p.tables e below (T60.setTop (mkF m 365 #[.val (.int p1), .val (.int p2), .val (.int p3), .val (.int p4), .val (.int p5), .val (.int j1), .val (.int j2), .val (.int j3), .val (.int j4), .val (.int j5), .val (.int j7), .val (.ref b9), .val (.int j47), .val (.int (1 : Int32)), .val (.int j48), .val (.ref b50_0), .val (.int (1 : Int32)), .val (.int j59), .unset] [(.int j1), (.int j4)])) _
            refine XS.icmpNo X60.here hx rfl (hb hby at_365) rfl (feq hc365_14).1 ?_
            show Steps p.tables e below (T60.setTop (mkF m 368 #[.val (.int p1), .val (.int p2), .val (.int p3), .val (.int p4), .val (.int p5), .val (.int j1), .val (.int j2), .val (.int j3), .val (.int j4), .val (.int j5), .val (.int j7), .val (.ref b9), .val (.int j47), .val (.int (1 : Int32)), .val (.int j48), .val (.ref b50_0), .val (.int (1 : Int32)), .val (.int j59), .unset] [])) _
            refine XS.iload X60.here hx rfl (hb hby at_368) rfl ?_
            show Steps p.tables e below (T60.setTop (mkF m 370 #[.val (.int p1), .val (.int p2), .val (.int p3), .val (.int p4), .val (.int p5), .val (.int j1), .val (.int j2), .val (.int j3), .val (.int j4), .val (.int j5), .val (.int j7), .val (.ref b9), .val (.int j47), .val (.int (1 : Int32)), .val (.int j48), .val (.ref b50_0), .val (.int (1 : Int32)), .val (.int j59), .unset] [(.int j7)])) _
            refine XS.ifYes X60.here hx rfl (pc0 := 370) (pc' := 380) rfl (hb hby at_370) rfl ((if0 _ _).trans (teq hc75_11).1) (by decide) (by decide) ?_
            show Steps p.tables e below (T60.setTop (mkF m 380 #[.val (.int p1), .val (.int p2), .val (.int p3), .val (.int p4), .val (.int p5), .val (.int j1), .val (.int j2), .val (.int j3), .val (.int j4), .val (.int j5), .val (.int j7), .val (.ref b9), .val (.int j47), .val (.int (1 : Int32)), .val (.int j48), .val (.ref b50_0), .val (.int (1 : Int32)), .val (.int j59), .unset] [])) _
            refine XS.iload X60.here hx rfl (hb hby at_380) rfl ?_
            show Steps p.tables e below (T60.setTop (mkF m 382 #[.val (.int p1), .val (.int p2), .val (.int p3), .val (.int p4), .val (.int p5), .val (.int j1), .val (.int j2), .val (.int j3), .val (.int j4), .val (.int j5), .val (.int j7), .val (.ref b9), .val (.int j47), .val (.int (1 : Int32)), .val (.int j48), .val (.ref b50_0), .val (.int (1 : Int32)), .val (.int j59), .unset] [(.int j4)])) _
            refine XS.iload X60.here hx rfl (hb hby at_382) rfl ?_
            show Steps p.tables e below (T60.setTop (mkF m 384 #[.val (.int p1), .val (.int p2), .val (.int p3), .val (.int p4), .val (.int p5), .val (.int j1), .val (.int j2), .val (.int j3), .val (.int j4), .val (.int j5), .val (.int j7), .val (.ref b9), .val (.int j47), .val (.int (1 : Int32)), .val (.int j48), .val (.ref b50_0), .val (.int (1 : Int32)), .val (.int j59), .unset] [(.int j3), (.int j4)])) _
            refine XS.icmpNo X60.here hx rfl (hb hby at_384) rfl (teq hc384_15).2 ?_
            show Steps p.tables e below (T60.setTop (mkF m 387 #[.val (.int p1), .val (.int p2), .val (.int p3), .val (.int p4), .val (.int p5), .val (.int j1), .val (.int j2), .val (.int j3), .val (.int j4), .val (.int j5), .val (.int j7), .val (.ref b9), .val (.int j47), .val (.int (1 : Int32)), .val (.int j48), .val (.ref b50_0), .val (.int (1 : Int32)), .val (.int j59), .unset] [])) _
            refine XS.iconst X60.here hx rfl (hb hby at_387) ?_
            show Steps p.tables e below (T60.setTop (mkF m 388 #[.val (.int p1), .val (.int p2), .val (.int p3), .val (.int p4), .val (.int p5), .val (.int j1), .val (.int j2), .val (.int j3), .val (.int j4), .val (.int j5), .val (.int j7), .val (.ref b9), .val (.int j47), .val (.int (1 : Int32)), .val (.int j48), .val (.ref b50_0), .val (.int (1 : Int32)), .val (.int j59), .unset] [(.int (1 : Int32))])) _
            refine XS.goto X60.here hx rfl (pc0 := 388) (pc' := 392) rfl (hb hby at_388) (by decide) (by decide) ?_
            exact k
          · skip
            refine ⟨(0 : Int32), (by simp only [if_neg hc365_14, if_neg hc384_15]), fun t k => ?_⟩
            show Steps p.tables e below (T60.setTop (mkF m 365 #[.val (.int p1), .val (.int p2), .val (.int p3), .val (.int p4), .val (.int p5), .val (.int j1), .val (.int j2), .val (.int j3), .val (.int j4), .val (.int j5), .val (.int j7), .val (.ref b9), .val (.int j47), .val (.int (1 : Int32)), .val (.int j48), .val (.ref b50_0), .val (.int (1 : Int32)), .val (.int j59), .unset] [(.int j1), (.int j4)])) _
            refine XS.icmpNo X60.here hx rfl (hb hby at_365) rfl (feq hc365_14).1 ?_
            show Steps p.tables e below (T60.setTop (mkF m 368 #[.val (.int p1), .val (.int p2), .val (.int p3), .val (.int p4), .val (.int p5), .val (.int j1), .val (.int j2), .val (.int j3), .val (.int j4), .val (.int j5), .val (.int j7), .val (.ref b9), .val (.int j47), .val (.int (1 : Int32)), .val (.int j48), .val (.ref b50_0), .val (.int (1 : Int32)), .val (.int j59), .unset] [])) _
            refine XS.iload X60.here hx rfl (hb hby at_368) rfl ?_
            show Steps p.tables e below (T60.setTop (mkF m 370 #[.val (.int p1), .val (.int p2), .val (.int p3), .val (.int p4), .val (.int p5), .val (.int j1), .val (.int j2), .val (.int j3), .val (.int j4), .val (.int j5), .val (.int j7), .val (.ref b9), .val (.int j47), .val (.int (1 : Int32)), .val (.int j48), .val (.ref b50_0), .val (.int (1 : Int32)), .val (.int j59), .unset] [(.int j7)])) _
            refine XS.ifYes X60.here hx rfl (pc0 := 370) (pc' := 380) rfl (hb hby at_370) rfl ((if0 _ _).trans (teq hc75_11).1) (by decide) (by decide) ?_
            show Steps p.tables e below (T60.setTop (mkF m 380 #[.val (.int p1), .val (.int p2), .val (.int p3), .val (.int p4), .val (.int p5), .val (.int j1), .val (.int j2), .val (.int j3), .val (.int j4), .val (.int j5), .val (.int j7), .val (.ref b9), .val (.int j47), .val (.int (1 : Int32)), .val (.int j48), .val (.ref b50_0), .val (.int (1 : Int32)), .val (.int j59), .unset] [])) _
            refine XS.iload X60.here hx rfl (hb hby at_380) rfl ?_
            show Steps p.tables e below (T60.setTop (mkF m 382 #[.val (.int p1), .val (.int p2), .val (.int p3), .val (.int p4), .val (.int p5), .val (.int j1), .val (.int j2), .val (.int j3), .val (.int j4), .val (.int j5), .val (.int j7), .val (.ref b9), .val (.int j47), .val (.int (1 : Int32)), .val (.int j48), .val (.ref b50_0), .val (.int (1 : Int32)), .val (.int j59), .unset] [(.int j4)])) _
            refine XS.iload X60.here hx rfl (hb hby at_382) rfl ?_
            show Steps p.tables e below (T60.setTop (mkF m 384 #[.val (.int p1), .val (.int p2), .val (.int p3), .val (.int p4), .val (.int p5), .val (.int j1), .val (.int j2), .val (.int j3), .val (.int j4), .val (.int j5), .val (.int j7), .val (.ref b9), .val (.int j47), .val (.int (1 : Int32)), .val (.int j48), .val (.ref b50_0), .val (.int (1 : Int32)), .val (.int j59), .unset] [(.int j3), (.int j4)])) _
            refine XS.icmpYes X60.here hx rfl (pc0 := 384) (pc' := 391) rfl (hb hby at_384) rfl (feq hc384_15).2 (by decide) (by decide) ?_
            show Steps p.tables e below (T60.setTop (mkF m 391 #[.val (.int p1), .val (.int p2), .val (.int p3), .val (.int p4), .val (.int p5), .val (.int j1), .val (.int j2), .val (.int j3), .val (.int j4), .val (.int j5), .val (.int j7), .val (.ref b9), .val (.int j47), .val (.int (1 : Int32)), .val (.int j48), .val (.ref b50_0), .val (.int (1 : Int32)), .val (.int j59), .unset] [])) _
            refine XS.iconst X60.here hx rfl (hb hby at_391) ?_
            exact k
      refine own_go st62 ?_
      show own_Go p.tables e below _ T60 (mkF m 392 #[.val (.int p1), .val (.int p2), .val (.int p3), .val (.int p4), .val (.int p5), .val (.int j1), .val (.int j2), .val (.int j3), .val (.int j4), .val (.int j5), .val (.int j7), .val (.ref b9), .val (.int j47), .val (.int (1 : Int32)), .val (.int j48), .val (.ref b50_0), .val (.int (1 : Int32)), .val (.int j59), .unset] [(.int j61)])
      refine own_go (T' := T60) (g' := (mkF m 398 #[.val (.int p1), .val (.int p2), .val (.int p3), .val (.int p4), .val (.int p5), .val (.int j1), .val (.int j2), .val (.int j3), .val (.int j4), .val (.int j5), .val (.int j7), .val (.ref b9), .val (.int j47), .val (.int (1 : Int32)), .val (.int j48), .val (.ref b50_0), .val (.int (1 : Int32)), .val (.int j59), .val (.int j61)] [(.int j4), (.ref b9)])) (fun t k => ?_) ?_
      · show Steps p.tables e below (T60.setTop (mkF m 392 #[.val (.int p1), .val (.int p2), .val (.int p3), .val (.int p4), .val (.int p5), .val (.int j1), .val (.int j2), .val (.int j3), .val (.int j4), .val (.int j5), .val (.int j7), .val (.ref b9), .val (.int j47), .val (.int (1 : Int32)), .val (.int j48), .val (.ref b50_0), .val (.int (1 : Int32)), .val (.int j59), .unset] [(.int j61)])) _
        refine XS.istore X60.here hx rfl (hb hby at_392) rfl (l' := #[.val (.int p1), .val (.int p2), .val (.int p3), .val (.int p4), .val (.int p5), .val (.int j1), .val (.int j2), .val (.int j3), .val (.int j4), .val (.int j5), .val (.int j7), .val (.ref b9), .val (.int j47), .val (.int (1 : Int32)), .val (.int j48), .val (.ref b50_0), .val (.int (1 : Int32)), .val (.int j59), .val (.int j61)]) rfl ?_
        show Steps p.tables e below (T60.setTop (mkF m 394 #[.val (.int p1), .val (.int p2), .val (.int p3), .val (.int p4), .val (.int p5), .val (.int j1), .val (.int j2), .val (.int j3), .val (.int j4), .val (.int j5), .val (.int j7), .val (.ref b9), .val (.int j47), .val (.int (1 : Int32)), .val (.int j48), .val (.ref b50_0), .val (.int (1 : Int32)), .val (.int j59), .val (.int j61)] [])) _
        refine XS.aload X60.here hx rfl (hb hby at_394) rfl rfl ?_
        show Steps p.tables e below (T60.setTop (mkF m 396 #[.val (.int p1), .val (.int p2), .val (.int p3), .val (.int p4), .val (.int p5), .val (.int j1), .val (.int j2), .val (.int j3), .val (.int j4), .val (.int j5), .val (.int j7), .val (.ref b9), .val (.int j47), .val (.int (1 : Int32)), .val (.int j48), .val (.ref b50_0), .val (.int (1 : Int32)), .val (.int j59), .val (.int j61)] [(.ref b9)])) _
        refine XS.iload X60.here hx rfl (hb hby at_396) rfl ?_
        exact k
      have hhhhc1_3_5_398 : ¬ (j4 < (0 : Int32)) := own_at_hhhhc1_3_5_398_ft p1 p3 p4 p5 j1 j3 j4 j5 j7 j47 j48 j57 j59 hj1 hj3 hj4 hj5 hj7 hj47 hj48 hj57 hj59 hc63_3 hhhhc1_3_5_70 hhhhc6_3_5_70 hhhlo17_11_70 hhhhi17_11_70 hc75_11 hs208 hs230 hs254 hhhhc1_3_5_273 hhhhc6_3_5_273 hhlo17_273 hhhi17_273 hs278 hs346
      have hhhhc6_3_5_398 : j4 < (131072 : Int32) := own_at_hhhhc6_3_5_398_ft p1 p3 p4 p5 j1 j3 j4 j5 j7 j47 j48 j57 j59 hj1 hj3 hj4 hj5 hj7 hj47 hj48 hj57 hj59 hc63_3 hhhhc1_3_5_70 hhhhc6_3_5_70 hhhlo17_11_70 hhhhi17_11_70 hc75_11 hs208 hs230 hs254 hhhhc1_3_5_273 hhhhc6_3_5_273 hhlo17_273 hhhi17_273 hs278 hs346 hhhhc1_3_5_398
      have hhhlo17_11_398 : ¬ ((j4 / (64 : Int32)) < (0 : Int32)) := own_at_hhhlo17_11_398_ft p1 p3 p4 p5 j1 j3 j4 j5 j7 j47 j48 j57 j59 hj1 hj3 hj4 hj5 hj7 hj47 hj48 hj57 hj59 hc63_3 hhhhc1_3_5_70 hhhhc6_3_5_70 hhhlo17_11_70 hhhhi17_11_70 hc75_11 hs208 hs230 hs254 hhhhc1_3_5_273 hhhhc6_3_5_273 hhlo17_273 hhhi17_273 hs278 hs346 hhhhc1_3_5_398 hhhhc6_3_5_398
      have hhhhi17_11_398 : (j4 / (64 : Int32)) < (2048 : Int32) := own_at_hhhhi17_11_398_ft p1 p3 p4 p5 j1 j3 j4 j5 j7 j47 j48 j57 j59 hj1 hj3 hj4 hj5 hj7 hj47 hj48 hj57 hj59 hc63_3 hhhhc1_3_5_70 hhhhc6_3_5_70 hhhlo17_11_70 hhhhi17_11_70 hc75_11 hs208 hs230 hs254 hhhhc1_3_5_273 hhhhc6_3_5_273 hhlo17_273 hhhi17_273 hs278 hs346 hhhhc1_3_5_398 hhhhc6_3_5_398 hhhlo17_11_398
      obtain ⟨cq63, kq63, q63a, q63b, q63c⟩ := isOf hZ e60 E_b9
      obtain ⟨_, _, ⟨T63, L63, k63, n63⟩, -, X63, ⟨Lc63, hQ63, l63, y63, z63⟩, st63⟩ := X60.virtualBack hx (y := (⟨"com/example/capd/capd/status/Bitstring", "set", "(I)V"⟩ : MethodName)) (z := (⟨"com/example/capd/capd/status/Bitstring", "set", "(I)V"⟩ : MethodName)) hown (mvT hZ (hw _ (List.mem_of_getElem? (i := 64) rfl))) (mvT hZ (hw _ (List.mem_of_getElem? (i := 65) rfl))) (notFace_of_selects (args := #[]) (mvT hZ (hw _ (List.mem_of_getElem? (i := 67) rfl)))) (mvT hZ (hw _ (List.mem_of_getElem? (i := 67) rfl))) (mvT hZ (hw _ (List.mem_of_getElem? (i := 66) rfl))) (by decide) (backOf (W := 0) (rm11 l Z a0 hw [] b9 j4 (131072 : Int32) b10_0 k10_1 (u_11_w_words_a1_fn j1 (131072 : Int32) (fun _ => 0) (0 : Int32)) (u_11_a1_count j1 (131072 : Int32) (fun _ => 0) (0 : Int32)) T55.heap n0 Z0 F_b9_size hhhhc1_3_5_398 hhhhc6_3_5_398 hhhhc1_3_5_398 hhhhc6_3_5_398 F_b9_words V_b10_0 hhhlo17_11_398 hhhhi17_11_398 E_b9 hhhlo17_11_398 hhhhi17_11_398 hhhlo17_11_398 hhhhi17_11_398 ne_b9_b10_0 g_b10_0 F_b9_count g_b9) hZ (hw _ (List.mem_of_getElem? (i := 68) rfl)) (hw _ (List.mem_of_getElem? (i := 3) rfl)) (by decide) (by decide)) q63a q63c (g := (mkF m 398 #[.val (.int p1), .val (.int p2), .val (.int p3), .val (.int p4), .val (.int p5), .val (.int j1), .val (.int j2), .val (.int j3), .val (.int j4), .val (.int j5), .val (.int j7), .val (.ref b9), .val (.int j47), .val (.int (1 : Int32)), .val (.int j48), .val (.ref b50_0), .val (.int (1 : Int32)), .val (.int j59), .val (.int j61)] [(.int j4), (.ref b9)])) rfl (by rw [hml]; rfl) (Steps.refl _) (argsL := [(.int j4)]) (rest := []) (lenOf pd_9 rfl) rfl (by show 2 * 0 + _ ≤ _; exact Nat.le_of_eq rfl) (hb hby at_398) (fun _ _ => ⟨rfl, e60, (by decide : 4 + 0 ≤ _), (by decide : 4102 + 0 ≤ _)⟩)
      dsimp only [Pt.U, Pt.locs, Pt.cells, Pt.slots] at X63 l63 y63 z63 st63 hQ63
      subst l63 y63 z63
      obtain ⟨rfl, N63q, K63, Q63_0, Q63_1, Q63_2, Q63_3, Q63_4⟩ := hQ63
      have E_b10_0 := E_b10_0.keep K63
      have E_b50_0 := E_b50_0.keep K63
      have F_b50_0_words := F_b50_0_words.keep K63 (ninS (Ne.symm ne_b10_0_b50_0) (ninS (Ne.symm ne_b9_b50_0) nin0))
      have F_b50_0_size := F_b50_0_size.keep K63 (ninS (Ne.symm ne_b10_0_b50_0) (ninS (Ne.symm ne_b9_b50_0) nin0))
      have F_b50_0_count := F_b50_0_count.keep K63 (ninS (Ne.symm ne_b10_0_b50_0) (ninS (Ne.symm ne_b9_b50_0) nin0))
      have E_b50_1 := E_b50_1.keep K63
      have V_b50_1 := V_b50_1.keep K63 (ninS (Ne.symm ne_b10_0_b50_1) (ninS (Ne.symm ne_b9_b50_1) nin0))
      have V_b10_0 := Q63_0
      have E_b9 := Q63_1
      have F_b9_size := Q63_2
      have F_b9_words := Q63_3
      have F_b9_count := Q63_4
      have Z0 := Nat.le_trans Z0 K63.1
      have KK := KK.trans K63 (allS (Or.inr sz_b10_0) (allS (Or.inr sz_b9) all0))
      have NN := Fr.app NN N63q
      refine own_go (fun t k => st63.trans k) ?_
      show own_Go p.tables e below _ T63 (mkF m 401 #[.val (.int p1), .val (.int p2), .val (.int p3), .val (.int p4), .val (.int p5), .val (.int j1), .val (.int j2), .val (.int j3), .val (.int j4), .val (.int j5), .val (.int j7), .val (.ref b9), .val (.int j47), .val (.int (1 : Int32)), .val (.int j48), .val (.ref b50_0), .val (.int (1 : Int32)), .val (.int j59), .val (.int j61)] [])
      refine own_go (T' := T63) (g' := (mkF m 403 #[.val (.int p1), .val (.int p2), .val (.int p3), .val (.int p4), .val (.int p5), .val (.int j1), .val (.int j2), .val (.int j3), .val (.int j4), .val (.int j5), .val (.int j7), .val (.ref b9), .val (.int j47), .val (.int (1 : Int32)), .val (.int j48), .val (.ref b50_0), .val (.int (1 : Int32)), .val (.int j59), .val (.int j61)] [(.int (1 : Int32))])) (fun t k => ?_) ?_
      · show Steps p.tables e below (T63.setTop (mkF m 401 #[.val (.int p1), .val (.int p2), .val (.int p3), .val (.int p4), .val (.int p5), .val (.int j1), .val (.int j2), .val (.int j3), .val (.int j4), .val (.int j5), .val (.int j7), .val (.ref b9), .val (.int j47), .val (.int (1 : Int32)), .val (.int j48), .val (.ref b50_0), .val (.int (1 : Int32)), .val (.int j59), .val (.int j61)] [])) _
        refine XS.iload X63.here hx rfl (hb hby at_401) rfl ?_
        exact k
      refine own_go (T' := T63) (g' := (mkF m 410 #[.val (.int p1), .val (.int p2), .val (.int p3), .val (.int p4), .val (.int p5), .val (.int j1), .val (.int j2), .val (.int j3), .val (.int j4), .val (.int j5), .val (.int j7), .val (.ref b9), .val (.int j47), .val (.int (1 : Int32)), .val (.int j48), .val (.ref b50_0), .val (.int (1 : Int32)), .val (.int j59), .val (.int j61)] [(.int j4), (.ref b50_0)])) (fun t k => ?_) ?_
      · show Steps p.tables e below (T63.setTop (mkF m 403 #[.val (.int p1), .val (.int p2), .val (.int p3), .val (.int p4), .val (.int p5), .val (.int j1), .val (.int j2), .val (.int j3), .val (.int j4), .val (.int j5), .val (.int j7), .val (.ref b9), .val (.int j47), .val (.int (1 : Int32)), .val (.int j48), .val (.ref b50_0), .val (.int (1 : Int32)), .val (.int j59), .val (.int j61)] [(.int (1 : Int32))])) _
        refine XS.ifNo X63.here hx rfl (hb hby at_403) rfl ((if0 _ _).trans (feq (by decide : ¬ ((1 : Int32) = (0 : Int32)))).1) ?_
        show Steps p.tables e below (T63.setTop (mkF m 406 #[.val (.int p1), .val (.int p2), .val (.int p3), .val (.int p4), .val (.int p5), .val (.int j1), .val (.int j2), .val (.int j3), .val (.int j4), .val (.int j5), .val (.int j7), .val (.ref b9), .val (.int j47), .val (.int (1 : Int32)), .val (.int j48), .val (.ref b50_0), .val (.int (1 : Int32)), .val (.int j59), .val (.int j61)] [])) _
        refine XS.aload X63.here hx rfl (hb hby at_406) rfl rfl ?_
        show Steps p.tables e below (T63.setTop (mkF m 408 #[.val (.int p1), .val (.int p2), .val (.int p3), .val (.int p4), .val (.int p5), .val (.int j1), .val (.int j2), .val (.int j3), .val (.int j4), .val (.int j5), .val (.int j7), .val (.ref b9), .val (.int j47), .val (.int (1 : Int32)), .val (.int j48), .val (.ref b50_0), .val (.int (1 : Int32)), .val (.int j59), .val (.int j61)] [(.ref b50_0)])) _
        refine XS.iload X63.here hx rfl (hb hby at_408) rfl ?_
        exact k
      obtain ⟨cq64, kq64, q64a, q64b, q64c⟩ := isOf hZ rfl E_b50_0
      obtain ⟨_, _, ⟨T64, L64, k64, n64⟩, -, X64, ⟨Lc64, hQ64, l64, y64, z64⟩, st64⟩ := X63.virtualBack hx (y := (⟨"com/example/capd/capd/status/Bitstring", "get", "(I)Z"⟩ : MethodName)) (z := (⟨"com/example/capd/capd/status/Bitstring", "get", "(I)Z"⟩ : MethodName)) hown (mvT hZ (hw _ (List.mem_of_getElem? (i := 47) rfl))) (mvT hZ (hw _ (List.mem_of_getElem? (i := 48) rfl))) (notFace_of_selects (args := #[]) (mvT hZ (hw _ (List.mem_of_getElem? (i := 50) rfl)))) (mvT hZ (hw _ (List.mem_of_getElem? (i := 50) rfl))) (mvT hZ (hw _ (List.mem_of_getElem? (i := 49) rfl))) (by decide) (backOf (W := 0) (rm7 l Z a0 hw [] b50_0 j4 (131072 : Int32) b50_1 k10_1 (u_11_w_words_a1_fn j3 (131072 : Int32) (u_11_w_words_a1_fn j1 (131072 : Int32) (fun _ => 0) (0 : Int32)) (u_11_a1_count j1 (131072 : Int32) (fun _ => 0) (0 : Int32))) T63.heap n0 Z0 F_b50_0_size hhhhc1_3_5_398 hhhhc6_3_5_398 F_b50_0_words V_b50_1 hhhlo17_11_398 hhhhi17_11_398) hZ (hw _ (List.mem_of_getElem? (i := 51) rfl)) (hw _ (List.mem_of_getElem? (i := 3) rfl)) (by decide) (by decide)) q64a q64c (g := (mkF m 410 #[.val (.int p1), .val (.int p2), .val (.int p3), .val (.int p4), .val (.int p5), .val (.int j1), .val (.int j2), .val (.int j3), .val (.int j4), .val (.int j5), .val (.int j7), .val (.ref b9), .val (.int j47), .val (.int (1 : Int32)), .val (.int j48), .val (.ref b50_0), .val (.int (1 : Int32)), .val (.int j59), .val (.int j61)] [(.int j4), (.ref b50_0)])) rfl (by rw [hml]; rfl) (Steps.refl _) (argsL := [(.int j4)]) (rest := []) (lenOf pd_5 rfl) rfl (by show 2 * 0 + _ ≤ _; exact Nat.le_of_eq rfl) (hb hby at_410) (fun _ _ => ⟨rfl, rfl, (by decide : 4 + 0 ≤ _), (by decide : 4102 + 0 ≤ _)⟩)
      dsimp only [Pt.U, Pt.locs, Pt.cells, Pt.slots] at X64 l64 y64 z64 st64 hQ64
      subst l64 y64 z64
      obtain ⟨rfl, N64q, e64⟩ := hQ64
      have NN := Fr.app NN N64q
      refine own_go (fun t k => st64.trans k) ?_
      show own_Go p.tables e below _ T64 (mkF m 413 #[.val (.int p1), .val (.int p2), .val (.int p3), .val (.int p4), .val (.int p5), .val (.int j1), .val (.int j2), .val (.int j3), .val (.int j4), .val (.int j5), .val (.int j7), .val (.ref b9), .val (.int j47), .val (.int (1 : Int32)), .val (.int j48), .val (.ref b50_0), .val (.int (1 : Int32)), .val (.int j59), .val (.int j61)] [(.int (r_7 j4 (131072 : Int32) (u_11_w_words_a1_fn j3 (131072 : Int32) (u_11_w_words_a1_fn j1 (131072 : Int32) (fun _ => 0) (0 : Int32)) (u_11_a1_count j1 (131072 : Int32) (fun _ => 0) (0 : Int32)))))])
      refine own_go (T' := T64) (g' := (mkF m 415 #[.val (.int p1), .val (.int p2), .val (.int p3), .val (.int p4), .val (.int p5), .val (.int j1), .val (.int j2), .val (.int j3), .val (.int j4), .val (.int j5), .val (.int j7), .val (.ref b9), .val (.int j47), .val (.int (1 : Int32)), .val (.int j48), .val (.ref b50_0), .val (.int (1 : Int32)), .val (.int j59), .val (.int j61)] [(.int j61), (.int (r_7 j4 (131072 : Int32) (u_11_w_words_a1_fn j3 (131072 : Int32) (u_11_w_words_a1_fn j1 (131072 : Int32) (fun _ => 0) (0 : Int32)) (u_11_a1_count j1 (131072 : Int32) (fun _ => 0) (0 : Int32)))))])) (fun t k => ?_) ?_
      · show Steps p.tables e below (T64.setTop (mkF m 413 #[.val (.int p1), .val (.int p2), .val (.int p3), .val (.int p4), .val (.int p5), .val (.int j1), .val (.int j2), .val (.int j3), .val (.int j4), .val (.int j5), .val (.int j7), .val (.ref b9), .val (.int j47), .val (.int (1 : Int32)), .val (.int j48), .val (.ref b50_0), .val (.int (1 : Int32)), .val (.int j59), .val (.int j61)] [(.int (r_7 j4 (131072 : Int32) (u_11_w_words_a1_fn j3 (131072 : Int32) (u_11_w_words_a1_fn j1 (131072 : Int32) (fun _ => 0) (0 : Int32)) (u_11_a1_count j1 (131072 : Int32) (fun _ => 0) (0 : Int32)))))])) _
        refine XS.iload X64.here hx rfl (hb hby at_413) rfl ?_
        exact k
      have hs415 : (r_7 j4 (131072 : Int32) (u_11_w_words_a1_fn j3 (131072 : Int32) (u_11_w_words_a1_fn j1 (131072 : Int32) (fun _ => 0) (0 : Int32)) (u_11_a1_count j1 (131072 : Int32) (fun _ => 0) (0 : Int32)))) = j61 := own_at_hs415_ft p1 p3 p4 p5 j1 j3 j4 j5 j7 j47 j48 j57 j59 j61 hj1 hj3 hj4 hj5 hj7 hj47 hj48 hj57 hj59 hj61 hc63_3 hhhhc1_3_5_70 hhhhc6_3_5_70 hhhlo17_11_70 hhhhi17_11_70 hc75_11 hs208 hs230 hs254 hhhhc1_3_5_273 hhhhc6_3_5_273 hhlo17_273 hhhi17_273 hs278 hs346 hhhhc1_3_5_398 hhhhc6_3_5_398 hhhlo17_11_398 hhhhi17_11_398
      refine own_go (T' := T64) (g' := (mkF m 427 #[.val (.int p1), .val (.int p2), .val (.int p3), .val (.int p4), .val (.int p5), .val (.int j1), .val (.int j2), .val (.int j3), .val (.int j4), .val (.int j5), .val (.int j7), .val (.ref b9), .val (.int j47), .val (.int (1 : Int32)), .val (.int j48), .val (.ref b50_0), .val (.int (1 : Int32)), .val (.int j59), .val (.int j61)] [(.int (1 : Int32))])) (fun t k => ?_) ?_
      · show Steps p.tables e below (T64.setTop (mkF m 415 #[.val (.int p1), .val (.int p2), .val (.int p3), .val (.int p4), .val (.int p5), .val (.int j1), .val (.int j2), .val (.int j3), .val (.int j4), .val (.int j5), .val (.int j7), .val (.ref b9), .val (.int j47), .val (.int (1 : Int32)), .val (.int j48), .val (.ref b50_0), .val (.int (1 : Int32)), .val (.int j59), .val (.int j61)] [(.int j61), (.int (r_7 j4 (131072 : Int32) (u_11_w_words_a1_fn j3 (131072 : Int32) (u_11_w_words_a1_fn j1 (131072 : Int32) (fun _ => 0) (0 : Int32)) (u_11_a1_count j1 (131072 : Int32) (fun _ => 0) (0 : Int32)))))])) _
        refine XS.icmpNo X64.here hx rfl (hb hby at_415) rfl (teq hs415).2 ?_
        show Steps p.tables e below (T64.setTop (mkF m 418 #[.val (.int p1), .val (.int p2), .val (.int p3), .val (.int p4), .val (.int p5), .val (.int j1), .val (.int j2), .val (.int j3), .val (.int j4), .val (.int j5), .val (.int j7), .val (.ref b9), .val (.int j47), .val (.int (1 : Int32)), .val (.int j48), .val (.ref b50_0), .val (.int (1 : Int32)), .val (.int j59), .val (.int j61)] [])) _
        refine XS.iconst X64.here hx rfl (hb hby at_418) ?_
        show Steps p.tables e below (T64.setTop (mkF m 419 #[.val (.int p1), .val (.int p2), .val (.int p3), .val (.int p4), .val (.int p5), .val (.int j1), .val (.int j2), .val (.int j3), .val (.int j4), .val (.int j5), .val (.int j7), .val (.ref b9), .val (.int j47), .val (.int (1 : Int32)), .val (.int j48), .val (.ref b50_0), .val (.int (1 : Int32)), .val (.int j59), .val (.int j61)] [(.int (1 : Int32))])) _
        refine XS.goto X64.here hx rfl (pc0 := 419) (pc' := 423) rfl (hb hby at_419) (by decide) (by decide) ?_
        show Steps p.tables e below (T64.setTop (mkF m 423 #[.val (.int p1), .val (.int p2), .val (.int p3), .val (.int p4), .val (.int p5), .val (.int j1), .val (.int j2), .val (.int j3), .val (.int j4), .val (.int j5), .val (.int j7), .val (.ref b9), .val (.int j47), .val (.int (1 : Int32)), .val (.int j48), .val (.ref b50_0), .val (.int (1 : Int32)), .val (.int j59), .val (.int j61)] [(.int (1 : Int32))])) _
        refine XS.istore X64.here hx rfl (hb hby at_423) rfl (l' := #[.val (.int p1), .val (.int p2), .val (.int p3), .val (.int p4), .val (.int p5), .val (.int j1), .val (.int j2), .val (.int j3), .val (.int j4), .val (.int j5), .val (.int j7), .val (.ref b9), .val (.int j47), .val (.int (1 : Int32)), .val (.int j48), .val (.ref b50_0), .val (.int (1 : Int32)), .val (.int j59), .val (.int j61)]) rfl ?_
        show Steps p.tables e below (T64.setTop (mkF m 425 #[.val (.int p1), .val (.int p2), .val (.int p3), .val (.int p4), .val (.int p5), .val (.int j1), .val (.int j2), .val (.int j3), .val (.int j4), .val (.int j5), .val (.int j7), .val (.ref b9), .val (.int j47), .val (.int (1 : Int32)), .val (.int j48), .val (.ref b50_0), .val (.int (1 : Int32)), .val (.int j59), .val (.int j61)] [])) _
        refine XS.iload X64.here hx rfl (hb hby at_425) rfl ?_
        exact k
      obtain ⟨fs, hr, hrun, hended, hW, hsame⟩ := X64.leave (v := some (.int (1 : Int32))) (fun h => by rw [Bd.returns] at h; cases h)
      refine ⟨_, _, ?_, hrun, hended, _, _, rfl, ?_, ⟨_, rfl⟩, hW, hsame.mono (by decide) (by decide)⟩
      · exact retN X64 hx (t := .boolean) Bd.returns (by simp) (hb hby at_427) hr
      · show Q0 Z p1 p2 p3 p4 p5 h0 n0 _ T64.heap _
        rw [e64]
        exact ⟨rfl, NN⟩
    · skip
      refine own_go (T' := T46) (g' := (mkF m 82 #[.val (.int p1), .val (.int p2), .val (.int p3), .val (.int p4), .val (.int p5), .val (.int j1), .val (.int j2), .val (.int j3), .val (.int j4), .val (.int j5), .val (.int j7), .val (.ref b9), .unset, .unset, .unset, .unset, .unset, .unset, .unset] [(.int j2), (.ref b9)])) (fun t k => ?_) ?_
      · show Steps p.tables e below (T46.setTop (mkF m 75 #[.val (.int p1), .val (.int p2), .val (.int p3), .val (.int p4), .val (.int p5), .val (.int j1), .val (.int j2), .val (.int j3), .val (.int j4), .val (.int j5), .val (.int j7), .val (.ref b9), .unset, .unset, .unset, .unset, .unset, .unset, .unset] [(.int j7)])) _
        refine XS.ifNo X46.here hx rfl (hb hby at_75) rfl ((if0 _ _).trans (feq hc75_11).1) ?_
        show Steps p.tables e below (T46.setTop (mkF m 78 #[.val (.int p1), .val (.int p2), .val (.int p3), .val (.int p4), .val (.int p5), .val (.int j1), .val (.int j2), .val (.int j3), .val (.int j4), .val (.int j5), .val (.int j7), .val (.ref b9), .unset, .unset, .unset, .unset, .unset, .unset, .unset] [])) _
        refine XS.aload X46.here hx rfl (hb hby at_78) rfl rfl ?_
        show Steps p.tables e below (T46.setTop (mkF m 80 #[.val (.int p1), .val (.int p2), .val (.int p3), .val (.int p4), .val (.int p5), .val (.int j1), .val (.int j2), .val (.int j3), .val (.int j4), .val (.int j5), .val (.int j7), .val (.ref b9), .unset, .unset, .unset, .unset, .unset, .unset, .unset] [(.ref b9)])) _
        refine XS.iload X46.here hx rfl (hb hby at_80) rfl ?_
        exact k
      have hhhhc1_3_5_82 : ¬ (j2 < (0 : Int32)) := own_at_hhhhc1_3_5_82_ff p1 p2 p5 j1 j2 j5 j7 hj1 hj2 hj5 hj7 hc63_3 hhhhc1_3_5_70 hhhhc6_3_5_70 hhhlo17_11_70 hhhhi17_11_70 hc75_11
      have hhhhc6_3_5_82 : j2 < (131072 : Int32) := own_at_hhhhc6_3_5_82_ff p1 p2 p5 j1 j2 j5 j7 hj1 hj2 hj5 hj7 hc63_3 hhhhc1_3_5_70 hhhhc6_3_5_70 hhhlo17_11_70 hhhhi17_11_70 hc75_11 hhhhc1_3_5_82
      have hhhlo17_11_82 : ¬ ((j2 / (64 : Int32)) < (0 : Int32)) := own_at_hhhlo17_11_82_ff p1 p2 p5 j1 j2 j5 j7 hj1 hj2 hj5 hj7 hc63_3 hhhhc1_3_5_70 hhhhc6_3_5_70 hhhlo17_11_70 hhhhi17_11_70 hc75_11 hhhhc1_3_5_82 hhhhc6_3_5_82
      have hhhhi17_11_82 : (j2 / (64 : Int32)) < (2048 : Int32) := own_at_hhhhi17_11_82_ff p1 p2 p5 j1 j2 j5 j7 hj1 hj2 hj5 hj7 hc63_3 hhhhc1_3_5_70 hhhhc6_3_5_70 hhhlo17_11_70 hhhhi17_11_70 hc75_11 hhhhc1_3_5_82 hhhhc6_3_5_82 hhhlo17_11_82
      obtain ⟨cq65, kq65, q65a, q65b, q65c⟩ := isOf hZ rfl E_b9
      obtain ⟨_, _, ⟨T65, L65, k65, n65⟩, -, X65, ⟨Lc65, hQ65, l65, y65, z65⟩, st65⟩ := X46.virtualBack hx (y := (⟨"com/example/capd/capd/status/Bitstring", "set", "(I)V"⟩ : MethodName)) (z := (⟨"com/example/capd/capd/status/Bitstring", "set", "(I)V"⟩ : MethodName)) hown (mvT hZ (hw _ (List.mem_of_getElem? (i := 64) rfl))) (mvT hZ (hw _ (List.mem_of_getElem? (i := 65) rfl))) (notFace_of_selects (args := #[]) (mvT hZ (hw _ (List.mem_of_getElem? (i := 67) rfl)))) (mvT hZ (hw _ (List.mem_of_getElem? (i := 67) rfl))) (mvT hZ (hw _ (List.mem_of_getElem? (i := 66) rfl))) (by decide) (backOf (W := 0) (rm11 l Z a0 hw [] b9 j2 (131072 : Int32) b10_0 k10_1 (u_11_w_words_a1_fn j1 (131072 : Int32) (fun _ => 0) (0 : Int32)) (u_11_a1_count j1 (131072 : Int32) (fun _ => 0) (0 : Int32)) T46.heap n0 Z0 F_b9_size hhhhc1_3_5_82 hhhhc6_3_5_82 hhhhc1_3_5_82 hhhhc6_3_5_82 F_b9_words V_b10_0 hhhlo17_11_82 hhhhi17_11_82 E_b9 hhhlo17_11_82 hhhhi17_11_82 hhhlo17_11_82 hhhhi17_11_82 ne_b9_b10_0 g_b10_0 F_b9_count g_b9) hZ (hw _ (List.mem_of_getElem? (i := 68) rfl)) (hw _ (List.mem_of_getElem? (i := 3) rfl)) (by decide) (by decide)) q65a q65c (g := (mkF m 82 #[.val (.int p1), .val (.int p2), .val (.int p3), .val (.int p4), .val (.int p5), .val (.int j1), .val (.int j2), .val (.int j3), .val (.int j4), .val (.int j5), .val (.int j7), .val (.ref b9), .unset, .unset, .unset, .unset, .unset, .unset, .unset] [(.int j2), (.ref b9)])) rfl (by rw [hml]; rfl) (Steps.refl _) (argsL := [(.int j2)]) (rest := []) (lenOf pd_9 rfl) rfl (by show 2 * 0 + _ ≤ _; exact Nat.le_of_eq rfl) (hb hby at_82) (fun _ _ => ⟨rfl, rfl, (by decide : 2 + 0 ≤ _), (by decide : 2051 + 0 ≤ _)⟩)
      dsimp only [Pt.U, Pt.locs, Pt.cells, Pt.slots] at X65 l65 y65 z65 st65 hQ65
      subst l65 y65 z65
      obtain ⟨rfl, N65q, K65, Q65_0, Q65_1, Q65_2, Q65_3, Q65_4⟩ := hQ65
      have E_b10_0 := E_b10_0.keep K65
      have V_b10_0 := Q65_0
      have E_b9 := Q65_1
      have F_b9_size := Q65_2
      have F_b9_words := Q65_3
      have F_b9_count := Q65_4
      have Z0 := Nat.le_trans Z0 K65.1
      have KK := KK.trans K65 (allS (Or.inr sz_b10_0) (allS (Or.inr sz_b9) all0))
      have NN := Fr.app NN N65q
      refine own_go (fun t k => st65.trans k) ?_
      show own_Go p.tables e below _ T65 (mkF m 85 #[.val (.int p1), .val (.int p2), .val (.int p3), .val (.int p4), .val (.int p5), .val (.int j1), .val (.int j2), .val (.int j3), .val (.int j4), .val (.int j5), .val (.int j7), .val (.ref b9), .unset, .unset, .unset, .unset, .unset, .unset, .unset] [])
      refine own_go (T' := T65) (g' := (mkF m 87 #[.val (.int p1), .val (.int p2), .val (.int p3), .val (.int p4), .val (.int p5), .val (.int j1), .val (.int j2), .val (.int j3), .val (.int j4), .val (.int j5), .val (.int j7), .val (.ref b9), .unset, .unset, .unset, .unset, .unset, .unset, .unset] [(.int j5)])) (fun t k => ?_) ?_
      · show Steps p.tables e below (T65.setTop (mkF m 85 #[.val (.int p1), .val (.int p2), .val (.int p3), .val (.int p4), .val (.int p5), .val (.int j1), .val (.int j2), .val (.int j3), .val (.int j4), .val (.int j5), .val (.int j7), .val (.ref b9), .unset, .unset, .unset, .unset, .unset, .unset, .unset] [])) _
        refine XS.iload X65.here hx rfl (hb hby at_85) rfl ?_
        exact k
      refine own_go (T' := T65) (g' := (mkF m 97 #[.val (.int p1), .val (.int p2), .val (.int p3), .val (.int p4), .val (.int p5), .val (.int j1), .val (.int j2), .val (.int j3), .val (.int j4), .val (.int j5), .val (.int j7), .val (.ref b9), .unset, .unset, .unset, .unset, .unset, .unset, .unset] [(.int j7), (.int (1 : Int32))])) (fun t k => ?_) ?_
      · show Steps p.tables e below (T65.setTop (mkF m 87 #[.val (.int p1), .val (.int p2), .val (.int p3), .val (.int p4), .val (.int p5), .val (.int j1), .val (.int j2), .val (.int j3), .val (.int j4), .val (.int j5), .val (.int j7), .val (.ref b9), .unset, .unset, .unset, .unset, .unset, .unset, .unset] [(.int j5)])) _
        refine XS.ifNo X65.here hx rfl (hb hby at_87) rfl ((if0 _ _).trans (feq hc63_3).1) ?_
        show Steps p.tables e below (T65.setTop (mkF m 90 #[.val (.int p1), .val (.int p2), .val (.int p3), .val (.int p4), .val (.int p5), .val (.int j1), .val (.int j2), .val (.int j3), .val (.int j4), .val (.int j5), .val (.int j7), .val (.ref b9), .unset, .unset, .unset, .unset, .unset, .unset, .unset] [])) _
        refine XS.iconst X65.here hx rfl (hb hby at_90) ?_
        show Steps p.tables e below (T65.setTop (mkF m 91 #[.val (.int p1), .val (.int p2), .val (.int p3), .val (.int p4), .val (.int p5), .val (.int j1), .val (.int j2), .val (.int j3), .val (.int j4), .val (.int j5), .val (.int j7), .val (.ref b9), .unset, .unset, .unset, .unset, .unset, .unset, .unset] [(.int (1 : Int32))])) _
        refine XS.goto X65.here hx rfl (pc0 := 91) (pc' := 95) rfl (hb hby at_91) (by decide) (by decide) ?_
        show Steps p.tables e below (T65.setTop (mkF m 95 #[.val (.int p1), .val (.int p2), .val (.int p3), .val (.int p4), .val (.int p5), .val (.int j1), .val (.int j2), .val (.int j3), .val (.int j4), .val (.int j5), .val (.int j7), .val (.ref b9), .unset, .unset, .unset, .unset, .unset, .unset, .unset] [(.int (1 : Int32))])) _
        refine XS.iload X65.here hx rfl (hb hby at_95) rfl ?_
        exact k
      refine own_go (T' := T65) (g' := (mkF m 102 #[.val (.int p1), .val (.int p2), .val (.int p3), .val (.int p4), .val (.int p5), .val (.int j1), .val (.int j2), .val (.int j3), .val (.int j4), .val (.int j5), .val (.int j7), .val (.ref b9), .unset, .unset, .unset, .unset, .unset, .unset, .unset] [(.int j5), (.int (1 : Int32))])) (fun t k => ?_) ?_
      · show Steps p.tables e below (T65.setTop (mkF m 97 #[.val (.int p1), .val (.int p2), .val (.int p3), .val (.int p4), .val (.int p5), .val (.int j1), .val (.int j2), .val (.int j3), .val (.int j4), .val (.int j5), .val (.int j7), .val (.ref b9), .unset, .unset, .unset, .unset, .unset, .unset, .unset] [(.int j7), (.int (1 : Int32))])) _
        refine XS.ifNo X65.here hx rfl (hb hby at_97) rfl ((if0 _ _).trans (feq hc75_11).1) ?_
        show Steps p.tables e below (T65.setTop (mkF m 100 #[.val (.int p1), .val (.int p2), .val (.int p3), .val (.int p4), .val (.int p5), .val (.int j1), .val (.int j2), .val (.int j3), .val (.int j4), .val (.int j5), .val (.int j7), .val (.ref b9), .unset, .unset, .unset, .unset, .unset, .unset, .unset] [(.int (1 : Int32))])) _
        refine XS.iload X65.here hx rfl (hb hby at_100) rfl ?_
        exact k
      refine own_go (T' := T65) (g' := (mkF m 109 #[.val (.int p1), .val (.int p2), .val (.int p3), .val (.int p4), .val (.int p5), .val (.int j1), .val (.int j2), .val (.int j3), .val (.int j4), .val (.int j5), .val (.int j7), .val (.ref b9), .unset, .unset, .unset, .unset, .unset, .unset, .unset] [(.int j2), (.int j1), (.int (1 : Int32))])) (fun t k => ?_) ?_
      · show Steps p.tables e below (T65.setTop (mkF m 102 #[.val (.int p1), .val (.int p2), .val (.int p3), .val (.int p4), .val (.int p5), .val (.int j1), .val (.int j2), .val (.int j3), .val (.int j4), .val (.int j5), .val (.int j7), .val (.ref b9), .unset, .unset, .unset, .unset, .unset, .unset, .unset] [(.int j5), (.int (1 : Int32))])) _
        refine XS.ifNo X65.here hx rfl (hb hby at_102) rfl ((if0 _ _).trans (feq hc63_3).1) ?_
        show Steps p.tables e below (T65.setTop (mkF m 105 #[.val (.int p1), .val (.int p2), .val (.int p3), .val (.int p4), .val (.int p5), .val (.int j1), .val (.int j2), .val (.int j3), .val (.int j4), .val (.int j5), .val (.int j7), .val (.ref b9), .unset, .unset, .unset, .unset, .unset, .unset, .unset] [(.int (1 : Int32))])) _
        refine XS.iload X65.here hx rfl (hb hby at_105) rfl ?_
        show Steps p.tables e below (T65.setTop (mkF m 107 #[.val (.int p1), .val (.int p2), .val (.int p3), .val (.int p4), .val (.int p5), .val (.int j1), .val (.int j2), .val (.int j3), .val (.int j4), .val (.int j5), .val (.int j7), .val (.ref b9), .unset, .unset, .unset, .unset, .unset, .unset, .unset] [(.int j1), (.int (1 : Int32))])) _
        refine XS.iload X65.here hx rfl (hb hby at_107) rfl ?_
        exact k
      obtain ⟨j66, hj66, st67⟩ : ∃ (j66 : Int32), j66 = (if j1 = j2 then (0 : Int32) else (1 : Int32)) ∧ ∀ t, Steps p.tables e below (T65.setTop (mkF m 117 #[.val (.int p1), .val (.int p2), .val (.int p3), .val (.int p4), .val (.int p5), .val (.int j1), .val (.int j2), .val (.int j3), .val (.int j4), .val (.int j5), .val (.int j7), .val (.ref b9), .unset, .unset, .unset, .unset, .unset, .unset, .unset] [(.int j66), (.int (1 : Int32))])) t → Steps p.tables e below (T65.setTop (mkF m 109 #[.val (.int p1), .val (.int p2), .val (.int p3), .val (.int p4), .val (.int p5), .val (.int j1), .val (.int j2), .val (.int j3), .val (.int j4), .val (.int j5), .val (.int j7), .val (.ref b9), .unset, .unset, .unset, .unset, .unset, .unset, .unset] [(.int j2), (.int j1), (.int (1 : Int32))])) t := by
        by_cases hc109_16 : j1 = j2
        · skip
          refine ⟨(0 : Int32), (by simp only [if_pos hc109_16]), fun t k => ?_⟩
          show Steps p.tables e below (T65.setTop (mkF m 109 #[.val (.int p1), .val (.int p2), .val (.int p3), .val (.int p4), .val (.int p5), .val (.int j1), .val (.int j2), .val (.int j3), .val (.int j4), .val (.int j5), .val (.int j7), .val (.ref b9), .unset, .unset, .unset, .unset, .unset, .unset, .unset] [(.int j2), (.int j1), (.int (1 : Int32))])) _
          refine XS.icmpYes X65.here hx rfl (pc0 := 109) (pc' := 116) rfl (hb hby at_109) rfl (teq hc109_16).1 (by decide) (by decide) ?_
          show Steps p.tables e below (T65.setTop (mkF m 116 #[.val (.int p1), .val (.int p2), .val (.int p3), .val (.int p4), .val (.int p5), .val (.int j1), .val (.int j2), .val (.int j3), .val (.int j4), .val (.int j5), .val (.int j7), .val (.ref b9), .unset, .unset, .unset, .unset, .unset, .unset, .unset] [(.int (1 : Int32))])) _
          refine XS.iconst X65.here hx rfl (hb hby at_116) ?_
          exact k
        · skip
          refine ⟨(1 : Int32), (by simp only [if_neg hc109_16]), fun t k => ?_⟩
          show Steps p.tables e below (T65.setTop (mkF m 109 #[.val (.int p1), .val (.int p2), .val (.int p3), .val (.int p4), .val (.int p5), .val (.int j1), .val (.int j2), .val (.int j3), .val (.int j4), .val (.int j5), .val (.int j7), .val (.ref b9), .unset, .unset, .unset, .unset, .unset, .unset, .unset] [(.int j2), (.int j1), (.int (1 : Int32))])) _
          refine XS.icmpNo X65.here hx rfl (hb hby at_109) rfl (feq hc109_16).1 ?_
          show Steps p.tables e below (T65.setTop (mkF m 112 #[.val (.int p1), .val (.int p2), .val (.int p3), .val (.int p4), .val (.int p5), .val (.int j1), .val (.int j2), .val (.int j3), .val (.int j4), .val (.int j5), .val (.int j7), .val (.ref b9), .unset, .unset, .unset, .unset, .unset, .unset, .unset] [(.int (1 : Int32))])) _
          refine XS.iconst X65.here hx rfl (hb hby at_112) ?_
          show Steps p.tables e below (T65.setTop (mkF m 113 #[.val (.int p1), .val (.int p2), .val (.int p3), .val (.int p4), .val (.int p5), .val (.int j1), .val (.int j2), .val (.int j3), .val (.int j4), .val (.int j5), .val (.int j7), .val (.ref b9), .unset, .unset, .unset, .unset, .unset, .unset, .unset] [(.int (1 : Int32)), (.int (1 : Int32))])) _
          refine XS.goto X65.here hx rfl (pc0 := 113) (pc' := 117) rfl (hb hby at_113) (by decide) (by decide) ?_
          exact k
      refine own_go st67 ?_
      show own_Go p.tables e below _ T65 (mkF m 117 #[.val (.int p1), .val (.int p2), .val (.int p3), .val (.int p4), .val (.int p5), .val (.int j1), .val (.int j2), .val (.int j3), .val (.int j4), .val (.int j5), .val (.int j7), .val (.ref b9), .unset, .unset, .unset, .unset, .unset, .unset, .unset] [(.int j66), (.int (1 : Int32))])
      refine own_go (T' := T65) (g' := (mkF m 120 #[.val (.int p1), .val (.int p2), .val (.int p3), .val (.int p4), .val (.int p5), .val (.int j1), .val (.int j2), .val (.int j3), .val (.int j4), .val (.int j5), .val (.int j7), .val (.ref b9), .val (.int ((1 : Int32) + j66)), .unset, .unset, .unset, .unset, .unset, .unset] [])) (fun t k => ?_) ?_
      · show Steps p.tables e below (T65.setTop (mkF m 117 #[.val (.int p1), .val (.int p2), .val (.int p3), .val (.int p4), .val (.int p5), .val (.int j1), .val (.int j2), .val (.int j3), .val (.int j4), .val (.int j5), .val (.int j7), .val (.ref b9), .unset, .unset, .unset, .unset, .unset, .unset, .unset] [(.int j66), (.int (1 : Int32))])) _
        refine XS.iadd X65.here hx rfl (hb hby at_117) rfl ?_
        show Steps p.tables e below (T65.setTop (mkF m 118 #[.val (.int p1), .val (.int p2), .val (.int p3), .val (.int p4), .val (.int p5), .val (.int j1), .val (.int j2), .val (.int j3), .val (.int j4), .val (.int j5), .val (.int j7), .val (.ref b9), .unset, .unset, .unset, .unset, .unset, .unset, .unset] [(.int ((1 : Int32) + j66))])) _
        refine XS.istore X65.here hx rfl (hb hby at_118) rfl (l' := #[.val (.int p1), .val (.int p2), .val (.int p3), .val (.int p4), .val (.int p5), .val (.int j1), .val (.int j2), .val (.int j3), .val (.int j4), .val (.int j5), .val (.int j7), .val (.ref b9), .val (.int ((1 : Int32) + j66)), .unset, .unset, .unset, .unset, .unset, .unset]) rfl ?_
        exact k
      show own_Go p.tables e below _ T65 (mkF m 120 #[.val (.int p1), .val (.int p2), .val (.int p3), .val (.int p4), .val (.int p5), .val (.int j1), .val (.int j2), .val (.int j3), .val (.int j4), .val (.int j5), .val (.int j7), .val (.ref b9), .val (.int ((1 : Int32) + j66)), .unset, .unset, .unset, .unset, .unset, .unset] [])
      obtain ⟨j68, hj68⟩ : ∃ z : Int32, z = ((1 : Int32) + j66) := ⟨_, rfl⟩
      rw [← hj68]
      show own_Go p.tables e below _ T65 (mkF m 120 #[.val (.int p1), .val (.int p2), .val (.int p3), .val (.int p4), .val (.int p5), .val (.int j1), .val (.int j2), .val (.int j3), .val (.int j4), .val (.int j5), .val (.int j7), .val (.ref b9), .val (.int j68), .unset, .unset, .unset, .unset, .unset, .unset] [])
      refine own_go (T' := T65) (g' := (mkF m 122 #[.val (.int p1), .val (.int p2), .val (.int p3), .val (.int p4), .val (.int p5), .val (.int j1), .val (.int j2), .val (.int j3), .val (.int j4), .val (.int j5), .val (.int j7), .val (.ref b9), .val (.int j68), .unset, .unset, .unset, .unset, .unset, .unset] [(.int j5)])) (fun t k => ?_) ?_
      · show Steps p.tables e below (T65.setTop (mkF m 120 #[.val (.int p1), .val (.int p2), .val (.int p3), .val (.int p4), .val (.int p5), .val (.int j1), .val (.int j2), .val (.int j3), .val (.int j4), .val (.int j5), .val (.int j7), .val (.ref b9), .val (.int j68), .unset, .unset, .unset, .unset, .unset, .unset] [])) _
        refine XS.iload X65.here hx rfl (hb hby at_120) rfl ?_
        exact k
      refine own_go (T' := T65) (g' := (mkF m 146 #[.val (.int p1), .val (.int p2), .val (.int p3), .val (.int p4), .val (.int p5), .val (.int j1), .val (.int j2), .val (.int j3), .val (.int j4), .val (.int j5), .val (.int j7), .val (.ref b9), .val (.int j68), .val (.int (1 : Int32)), .unset, .unset, .unset, .unset, .unset] [(.int j5)])) (fun t k => ?_) ?_
      · show Steps p.tables e below (T65.setTop (mkF m 122 #[.val (.int p1), .val (.int p2), .val (.int p3), .val (.int p4), .val (.int p5), .val (.int j1), .val (.int j2), .val (.int j3), .val (.int j4), .val (.int j5), .val (.int j7), .val (.ref b9), .val (.int j68), .unset, .unset, .unset, .unset, .unset, .unset] [(.int j5)])) _
        refine XS.ifYes X65.here hx rfl (pc0 := 122) (pc' := 137) rfl (hb hby at_122) rfl ((if0 _ _).trans (feq hc63_3).2) (by decide) (by decide) ?_
        show Steps p.tables e below (T65.setTop (mkF m 137 #[.val (.int p1), .val (.int p2), .val (.int p3), .val (.int p4), .val (.int p5), .val (.int j1), .val (.int j2), .val (.int j3), .val (.int j4), .val (.int j5), .val (.int j7), .val (.ref b9), .val (.int j68), .unset, .unset, .unset, .unset, .unset, .unset] [])) _
        refine XS.iconst X65.here hx rfl (hb hby at_137) ?_
        show Steps p.tables e below (T65.setTop (mkF m 138 #[.val (.int p1), .val (.int p2), .val (.int p3), .val (.int p4), .val (.int p5), .val (.int j1), .val (.int j2), .val (.int j3), .val (.int j4), .val (.int j5), .val (.int j7), .val (.ref b9), .val (.int j68), .unset, .unset, .unset, .unset, .unset, .unset] [(.int (1 : Int32))])) _
        refine XS.goto X65.here hx rfl (pc0 := 138) (pc' := 142) rfl (hb hby at_138) (by decide) (by decide) ?_
        show Steps p.tables e below (T65.setTop (mkF m 142 #[.val (.int p1), .val (.int p2), .val (.int p3), .val (.int p4), .val (.int p5), .val (.int j1), .val (.int j2), .val (.int j3), .val (.int j4), .val (.int j5), .val (.int j7), .val (.ref b9), .val (.int j68), .unset, .unset, .unset, .unset, .unset, .unset] [(.int (1 : Int32))])) _
        refine XS.istore X65.here hx rfl (hb hby at_142) rfl (l' := #[.val (.int p1), .val (.int p2), .val (.int p3), .val (.int p4), .val (.int p5), .val (.int j1), .val (.int j2), .val (.int j3), .val (.int j4), .val (.int j5), .val (.int j7), .val (.ref b9), .val (.int j68), .val (.int (1 : Int32)), .unset, .unset, .unset, .unset, .unset]) rfl ?_
        show Steps p.tables e below (T65.setTop (mkF m 144 #[.val (.int p1), .val (.int p2), .val (.int p3), .val (.int p4), .val (.int p5), .val (.int j1), .val (.int j2), .val (.int j3), .val (.int j4), .val (.int j5), .val (.int j7), .val (.ref b9), .val (.int j68), .val (.int (1 : Int32)), .unset, .unset, .unset, .unset, .unset] [])) _
        refine XS.iload X65.here hx rfl (hb hby at_144) rfl ?_
        exact k
      refine own_go (T' := T65) (g' := (mkF m 153 #[.val (.int p1), .val (.int p2), .val (.int p3), .val (.int p4), .val (.int p5), .val (.int j1), .val (.int j2), .val (.int j3), .val (.int j4), .val (.int j5), .val (.int j7), .val (.ref b9), .val (.int j68), .val (.int (1 : Int32)), .unset, .unset, .unset, .unset, .unset] [(.int j1), (.int j3)])) (fun t k => ?_) ?_
      · show Steps p.tables e below (T65.setTop (mkF m 146 #[.val (.int p1), .val (.int p2), .val (.int p3), .val (.int p4), .val (.int p5), .val (.int j1), .val (.int j2), .val (.int j3), .val (.int j4), .val (.int j5), .val (.int j7), .val (.ref b9), .val (.int j68), .val (.int (1 : Int32)), .unset, .unset, .unset, .unset, .unset] [(.int j5)])) _
        refine XS.ifNo X65.here hx rfl (hb hby at_146) rfl ((if0 _ _).trans (feq hc63_3).1) ?_
        show Steps p.tables e below (T65.setTop (mkF m 149 #[.val (.int p1), .val (.int p2), .val (.int p3), .val (.int p4), .val (.int p5), .val (.int j1), .val (.int j2), .val (.int j3), .val (.int j4), .val (.int j5), .val (.int j7), .val (.ref b9), .val (.int j68), .val (.int (1 : Int32)), .unset, .unset, .unset, .unset, .unset] [])) _
        refine XS.iload X65.here hx rfl (hb hby at_149) rfl ?_
        show Steps p.tables e below (T65.setTop (mkF m 151 #[.val (.int p1), .val (.int p2), .val (.int p3), .val (.int p4), .val (.int p5), .val (.int j1), .val (.int j2), .val (.int j3), .val (.int j4), .val (.int j5), .val (.int j7), .val (.ref b9), .val (.int j68), .val (.int (1 : Int32)), .unset, .unset, .unset, .unset, .unset] [(.int j3)])) _
        refine XS.iload X65.here hx rfl (hb hby at_151) rfl ?_
        exact k
      obtain ⟨j69, hj69, st70⟩ : ∃ (j69 : Int32), j69 = (if j3 = j1 then (1 : Int32) else (if j3 = j2 then (1 : Int32) else (0 : Int32))) ∧ ∀ t, Steps p.tables e below (T65.setTop (mkF m 173 #[.val (.int p1), .val (.int p2), .val (.int p3), .val (.int p4), .val (.int p5), .val (.int j1), .val (.int j2), .val (.int j3), .val (.int j4), .val (.int j5), .val (.int j7), .val (.ref b9), .val (.int j68), .val (.int (1 : Int32)), .unset, .unset, .unset, .unset, .unset] [(.int j69)])) t → Steps p.tables e below (T65.setTop (mkF m 153 #[.val (.int p1), .val (.int p2), .val (.int p3), .val (.int p4), .val (.int p5), .val (.int j1), .val (.int j2), .val (.int j3), .val (.int j4), .val (.int j5), .val (.int j7), .val (.ref b9), .val (.int j68), .val (.int (1 : Int32)), .unset, .unset, .unset, .unset, .unset] [(.int j1), (.int j3)])) t := by
        by_cases hc153_17 : j3 = j1
        · skip
          refine ⟨(1 : Int32), (by simp only [if_pos hc153_17]), fun t k => ?_⟩
          show Steps p.tables e below (T65.setTop (mkF m 153 #[.val (.int p1), .val (.int p2), .val (.int p3), .val (.int p4), .val (.int p5), .val (.int j1), .val (.int j2), .val (.int j3), .val (.int j4), .val (.int j5), .val (.int j7), .val (.ref b9), .val (.int j68), .val (.int (1 : Int32)), .unset, .unset, .unset, .unset, .unset] [(.int j1), (.int j3)])) _
          refine XS.icmpYes X65.here hx rfl (pc0 := 153) (pc' := 168) rfl (hb hby at_153) rfl (teq hc153_17).1 (by decide) (by decide) ?_
          show Steps p.tables e below (T65.setTop (mkF m 168 #[.val (.int p1), .val (.int p2), .val (.int p3), .val (.int p4), .val (.int p5), .val (.int j1), .val (.int j2), .val (.int j3), .val (.int j4), .val (.int j5), .val (.int j7), .val (.ref b9), .val (.int j68), .val (.int (1 : Int32)), .unset, .unset, .unset, .unset, .unset] [])) _
          refine XS.iconst X65.here hx rfl (hb hby at_168) ?_
          show Steps p.tables e below (T65.setTop (mkF m 169 #[.val (.int p1), .val (.int p2), .val (.int p3), .val (.int p4), .val (.int p5), .val (.int j1), .val (.int j2), .val (.int j3), .val (.int j4), .val (.int j5), .val (.int j7), .val (.ref b9), .val (.int j68), .val (.int (1 : Int32)), .unset, .unset, .unset, .unset, .unset] [(.int (1 : Int32))])) _
          refine XS.goto X65.here hx rfl (pc0 := 169) (pc' := 173) rfl (hb hby at_169) (by decide) (by decide) ?_
          exact k
        · skip
          by_cases hc165_18 : j3 = j2
          · skip
            refine ⟨(1 : Int32), (by simp only [if_neg hc153_17, if_pos hc165_18]), fun t k => ?_⟩
            show Steps p.tables e below (T65.setTop (mkF m 153 #[.val (.int p1), .val (.int p2), .val (.int p3), .val (.int p4), .val (.int p5), .val (.int j1), .val (.int j2), .val (.int j3), .val (.int j4), .val (.int j5), .val (.int j7), .val (.ref b9), .val (.int j68), .val (.int (1 : Int32)), .unset, .unset, .unset, .unset, .unset] [(.int j1), (.int j3)])) _
            refine XS.icmpNo X65.here hx rfl (hb hby at_153) rfl (feq hc153_17).1 ?_
            show Steps p.tables e below (T65.setTop (mkF m 156 #[.val (.int p1), .val (.int p2), .val (.int p3), .val (.int p4), .val (.int p5), .val (.int j1), .val (.int j2), .val (.int j3), .val (.int j4), .val (.int j5), .val (.int j7), .val (.ref b9), .val (.int j68), .val (.int (1 : Int32)), .unset, .unset, .unset, .unset, .unset] [])) _
            refine XS.iload X65.here hx rfl (hb hby at_156) rfl ?_
            show Steps p.tables e below (T65.setTop (mkF m 158 #[.val (.int p1), .val (.int p2), .val (.int p3), .val (.int p4), .val (.int p5), .val (.int j1), .val (.int j2), .val (.int j3), .val (.int j4), .val (.int j5), .val (.int j7), .val (.ref b9), .val (.int j68), .val (.int (1 : Int32)), .unset, .unset, .unset, .unset, .unset] [(.int j7)])) _
            refine XS.ifNo X65.here hx rfl (hb hby at_158) rfl ((if0 _ _).trans (feq hc75_11).1) ?_
            show Steps p.tables e below (T65.setTop (mkF m 161 #[.val (.int p1), .val (.int p2), .val (.int p3), .val (.int p4), .val (.int p5), .val (.int j1), .val (.int j2), .val (.int j3), .val (.int j4), .val (.int j5), .val (.int j7), .val (.ref b9), .val (.int j68), .val (.int (1 : Int32)), .unset, .unset, .unset, .unset, .unset] [])) _
            refine XS.iload X65.here hx rfl (hb hby at_161) rfl ?_
            show Steps p.tables e below (T65.setTop (mkF m 163 #[.val (.int p1), .val (.int p2), .val (.int p3), .val (.int p4), .val (.int p5), .val (.int j1), .val (.int j2), .val (.int j3), .val (.int j4), .val (.int j5), .val (.int j7), .val (.ref b9), .val (.int j68), .val (.int (1 : Int32)), .unset, .unset, .unset, .unset, .unset] [(.int j3)])) _
            refine XS.iload X65.here hx rfl (hb hby at_163) rfl ?_
            show Steps p.tables e below (T65.setTop (mkF m 165 #[.val (.int p1), .val (.int p2), .val (.int p3), .val (.int p4), .val (.int p5), .val (.int j1), .val (.int j2), .val (.int j3), .val (.int j4), .val (.int j5), .val (.int j7), .val (.ref b9), .val (.int j68), .val (.int (1 : Int32)), .unset, .unset, .unset, .unset, .unset] [(.int j2), (.int j3)])) _
            refine XS.icmpNo X65.here hx rfl (hb hby at_165) rfl (teq hc165_18).2 ?_
            show Steps p.tables e below (T65.setTop (mkF m 168 #[.val (.int p1), .val (.int p2), .val (.int p3), .val (.int p4), .val (.int p5), .val (.int j1), .val (.int j2), .val (.int j3), .val (.int j4), .val (.int j5), .val (.int j7), .val (.ref b9), .val (.int j68), .val (.int (1 : Int32)), .unset, .unset, .unset, .unset, .unset] [])) _
            refine XS.iconst X65.here hx rfl (hb hby at_168) ?_
            show Steps p.tables e below (T65.setTop (mkF m 169 #[.val (.int p1), .val (.int p2), .val (.int p3), .val (.int p4), .val (.int p5), .val (.int j1), .val (.int j2), .val (.int j3), .val (.int j4), .val (.int j5), .val (.int j7), .val (.ref b9), .val (.int j68), .val (.int (1 : Int32)), .unset, .unset, .unset, .unset, .unset] [(.int (1 : Int32))])) _
            refine XS.goto X65.here hx rfl (pc0 := 169) (pc' := 173) rfl (hb hby at_169) (by decide) (by decide) ?_
            exact k
          · skip
            refine ⟨(0 : Int32), (by simp only [if_neg hc153_17, if_neg hc165_18]), fun t k => ?_⟩
            show Steps p.tables e below (T65.setTop (mkF m 153 #[.val (.int p1), .val (.int p2), .val (.int p3), .val (.int p4), .val (.int p5), .val (.int j1), .val (.int j2), .val (.int j3), .val (.int j4), .val (.int j5), .val (.int j7), .val (.ref b9), .val (.int j68), .val (.int (1 : Int32)), .unset, .unset, .unset, .unset, .unset] [(.int j1), (.int j3)])) _
            refine XS.icmpNo X65.here hx rfl (hb hby at_153) rfl (feq hc153_17).1 ?_
            show Steps p.tables e below (T65.setTop (mkF m 156 #[.val (.int p1), .val (.int p2), .val (.int p3), .val (.int p4), .val (.int p5), .val (.int j1), .val (.int j2), .val (.int j3), .val (.int j4), .val (.int j5), .val (.int j7), .val (.ref b9), .val (.int j68), .val (.int (1 : Int32)), .unset, .unset, .unset, .unset, .unset] [])) _
            refine XS.iload X65.here hx rfl (hb hby at_156) rfl ?_
            show Steps p.tables e below (T65.setTop (mkF m 158 #[.val (.int p1), .val (.int p2), .val (.int p3), .val (.int p4), .val (.int p5), .val (.int j1), .val (.int j2), .val (.int j3), .val (.int j4), .val (.int j5), .val (.int j7), .val (.ref b9), .val (.int j68), .val (.int (1 : Int32)), .unset, .unset, .unset, .unset, .unset] [(.int j7)])) _
            refine XS.ifNo X65.here hx rfl (hb hby at_158) rfl ((if0 _ _).trans (feq hc75_11).1) ?_
            show Steps p.tables e below (T65.setTop (mkF m 161 #[.val (.int p1), .val (.int p2), .val (.int p3), .val (.int p4), .val (.int p5), .val (.int j1), .val (.int j2), .val (.int j3), .val (.int j4), .val (.int j5), .val (.int j7), .val (.ref b9), .val (.int j68), .val (.int (1 : Int32)), .unset, .unset, .unset, .unset, .unset] [])) _
            refine XS.iload X65.here hx rfl (hb hby at_161) rfl ?_
            show Steps p.tables e below (T65.setTop (mkF m 163 #[.val (.int p1), .val (.int p2), .val (.int p3), .val (.int p4), .val (.int p5), .val (.int j1), .val (.int j2), .val (.int j3), .val (.int j4), .val (.int j5), .val (.int j7), .val (.ref b9), .val (.int j68), .val (.int (1 : Int32)), .unset, .unset, .unset, .unset, .unset] [(.int j3)])) _
            refine XS.iload X65.here hx rfl (hb hby at_163) rfl ?_
            show Steps p.tables e below (T65.setTop (mkF m 165 #[.val (.int p1), .val (.int p2), .val (.int p3), .val (.int p4), .val (.int p5), .val (.int j1), .val (.int j2), .val (.int j3), .val (.int j4), .val (.int j5), .val (.int j7), .val (.ref b9), .val (.int j68), .val (.int (1 : Int32)), .unset, .unset, .unset, .unset, .unset] [(.int j2), (.int j3)])) _
            refine XS.icmpYes X65.here hx rfl (pc0 := 165) (pc' := 172) rfl (hb hby at_165) rfl (feq hc165_18).2 (by decide) (by decide) ?_
            show Steps p.tables e below (T65.setTop (mkF m 172 #[.val (.int p1), .val (.int p2), .val (.int p3), .val (.int p4), .val (.int p5), .val (.int j1), .val (.int j2), .val (.int j3), .val (.int j4), .val (.int j5), .val (.int j7), .val (.ref b9), .val (.int j68), .val (.int (1 : Int32)), .unset, .unset, .unset, .unset, .unset] [])) _
            refine XS.iconst X65.here hx rfl (hb hby at_172) ?_
            exact k
      refine own_go st70 ?_
      show own_Go p.tables e below _ T65 (mkF m 173 #[.val (.int p1), .val (.int p2), .val (.int p3), .val (.int p4), .val (.int p5), .val (.int j1), .val (.int j2), .val (.int j3), .val (.int j4), .val (.int j5), .val (.int j7), .val (.ref b9), .val (.int j68), .val (.int (1 : Int32)), .unset, .unset, .unset, .unset, .unset] [(.int j69)])
      refine own_go (T' := T65) (g' := (mkF m 177 #[.val (.int p1), .val (.int p2), .val (.int p3), .val (.int p4), .val (.int p5), .val (.int j1), .val (.int j2), .val (.int j3), .val (.int j4), .val (.int j5), .val (.int j7), .val (.ref b9), .val (.int j68), .val (.int (1 : Int32)), .val (.int j69), .unset, .unset, .unset, .unset] [(.ref b9)])) (fun t k => ?_) ?_
      · show Steps p.tables e below (T65.setTop (mkF m 173 #[.val (.int p1), .val (.int p2), .val (.int p3), .val (.int p4), .val (.int p5), .val (.int j1), .val (.int j2), .val (.int j3), .val (.int j4), .val (.int j5), .val (.int j7), .val (.ref b9), .val (.int j68), .val (.int (1 : Int32)), .unset, .unset, .unset, .unset, .unset] [(.int j69)])) _
        refine XS.istore X65.here hx rfl (hb hby at_173) rfl (l' := #[.val (.int p1), .val (.int p2), .val (.int p3), .val (.int p4), .val (.int p5), .val (.int j1), .val (.int j2), .val (.int j3), .val (.int j4), .val (.int j5), .val (.int j7), .val (.ref b9), .val (.int j68), .val (.int (1 : Int32)), .val (.int j69), .unset, .unset, .unset, .unset]) rfl ?_
        show Steps p.tables e below (T65.setTop (mkF m 175 #[.val (.int p1), .val (.int p2), .val (.int p3), .val (.int p4), .val (.int p5), .val (.int j1), .val (.int j2), .val (.int j3), .val (.int j4), .val (.int j5), .val (.int j7), .val (.ref b9), .val (.int j68), .val (.int (1 : Int32)), .val (.int j69), .unset, .unset, .unset, .unset] [])) _
        refine XS.aload X65.here hx rfl (hb hby at_175) rfl rfl ?_
        exact k
      obtain ⟨cq71, kq71, q71a, q71b, q71c⟩ := isOf hZ rfl E_b9
      obtain ⟨_, _, ⟨T71, L71, k71, n71⟩, -, X71, ⟨Lc71, hQ71, l71, y71, z71⟩, st71⟩ := X65.virtualBack hx (y := (⟨"com/example/capd/capd/status/Bitstring", "copy", "()Lcom/example/capd/capd/status/Bitstring;"⟩ : MethodName)) (z := (⟨"com/example/capd/capd/status/Bitstring", "copy", "()Lcom/example/capd/capd/status/Bitstring;"⟩ : MethodName)) hown (mvT hZ (hw _ (List.mem_of_getElem? (i := 21) rfl))) (mvT hZ (hw _ (List.mem_of_getElem? (i := 22) rfl))) (notFace_of_selects (args := #[]) (mvT hZ (hw _ (List.mem_of_getElem? (i := 24) rfl)))) (mvT hZ (hw _ (List.mem_of_getElem? (i := 24) rfl))) (mvT hZ (hw _ (List.mem_of_getElem? (i := 23) rfl))) (by decide) (backOf (W := 0) (rm4 l Z a0 hw [] b9 b10_0 k10_1 (u_11_w_words_a1_fn j2 (131072 : Int32) (u_11_w_words_a1_fn j1 (131072 : Int32) (fun _ => 0) (0 : Int32)) (u_11_a1_count j1 (131072 : Int32) (fun _ => 0) (0 : Int32))) (131072 : Int32) (u_11_a1_count j2 (131072 : Int32) (u_11_w_words_a1_fn j1 (131072 : Int32) (fun _ => 0) (0 : Int32)) (u_11_a1_count j1 (131072 : Int32) (fun _ => 0) (0 : Int32))) T65.heap n0 Z0 F_b9_words V_b10_0 E_b10_0 F_b9_size F_b9_count) hZ (hw _ (List.mem_of_getElem? (i := 25) rfl)) (hw _ (List.mem_of_getElem? (i := 3) rfl)) (by decide) (by decide)) q71a q71c (g := (mkF m 177 #[.val (.int p1), .val (.int p2), .val (.int p3), .val (.int p4), .val (.int p5), .val (.int j1), .val (.int j2), .val (.int j3), .val (.int j4), .val (.int j5), .val (.int j7), .val (.ref b9), .val (.int j68), .val (.int (1 : Int32)), .val (.int j69), .unset, .unset, .unset, .unset] [(.ref b9)])) rfl (by rw [hml]; rfl) (Steps.refl _) (argsL := []) (rest := []) (lenOf pd_2 rfl) rfl (by show 2 * 0 + _ ≤ _; exact Nat.le_of_eq rfl) (hb hby at_177) (fun _ _ => ⟨rfl, rfl, (by decide : 2 + 2 ≤ _), (by decide : 2051 + 2051 ≤ _)⟩)
      dsimp only [Pt.U, Pt.locs, Pt.cells, Pt.slots] at X71 l71 y71 z71 st71 hQ71
      subst l71 y71 z71
      obtain ⟨b71_0, b71_1, rfl, N71q, K71, R71_0, R71_1, R71_2, R71_3, R71_4, R71_5, R71_6, R71_7, R71_8, R71_9, R71_10⟩ := hQ71
      have ne_b9_b71_0 : b9 ≠ b71_0 := Nat.ne_of_lt (Nat.lt_of_lt_of_le E_b9.lt R71_1)
      have ne_b10_0_b71_0 : b10_0 ≠ b71_0 := Nat.ne_of_lt (Nat.lt_of_lt_of_le E_b10_0.lt R71_1)
      have ne_b9_b71_1 : b9 ≠ b71_1 := Nat.ne_of_lt (Nat.lt_of_lt_of_le E_b9.lt R71_8)
      have ne_b10_0_b71_1 : b10_0 ≠ b71_1 := Nat.ne_of_lt (Nat.lt_of_lt_of_le E_b10_0.lt R71_8)
      have E_b9 := E_b9.keep K71
      have F_b9_words := F_b9_words.keep K71 nin0
      have F_b9_size := F_b9_size.keep K71 nin0
      have F_b9_count := F_b9_count.keep K71 nin0
      have E_b10_0 := E_b10_0.keep K71
      have V_b10_0 := V_b10_0.keep K71 nin0
      have g_b71_0 := R71_0
      have sz_b71_0 : h0.size ≤ b71_0 := Nat.le_trans KK.1 R71_1
      have E_b71_0 := R71_2
      have F_b71_0_words := R71_3
      have F_b71_0_size := R71_4
      have F_b71_0_count := R71_5
      have ne_b71_0_b71_1 := R71_6
      have g_b71_1 := R71_7
      have sz_b71_1 : h0.size ≤ b71_1 := Nat.le_trans KK.1 R71_8
      have E_b71_1 := R71_9
      have V_b71_1 := R71_10
      have Z0 := Nat.le_trans Z0 K71.1
      have KK := KK.trans K71 all0
      have NN := Fr.app NN N71q
      refine own_go (fun t k => st71.trans k) ?_
      show own_Go p.tables e below _ T71 (mkF m 180 #[.val (.int p1), .val (.int p2), .val (.int p3), .val (.int p4), .val (.int p5), .val (.int j1), .val (.int j2), .val (.int j3), .val (.int j4), .val (.int j5), .val (.int j7), .val (.ref b9), .val (.int j68), .val (.int (1 : Int32)), .val (.int j69), .unset, .unset, .unset, .unset] [(.ref b71_0)])
      refine own_go (T' := T71) (g' := (mkF m 186 #[.val (.int p1), .val (.int p2), .val (.int p3), .val (.int p4), .val (.int p5), .val (.int j1), .val (.int j2), .val (.int j3), .val (.int j4), .val (.int j5), .val (.int j7), .val (.ref b9), .val (.int j68), .val (.int (1 : Int32)), .val (.int j69), .val (.ref b71_0), .unset, .unset, .unset] [(.ref b9), (.ref b71_0)])) (fun t k => ?_) ?_
      · show Steps p.tables e below (T71.setTop (mkF m 180 #[.val (.int p1), .val (.int p2), .val (.int p3), .val (.int p4), .val (.int p5), .val (.int j1), .val (.int j2), .val (.int j3), .val (.int j4), .val (.int j5), .val (.int j7), .val (.ref b9), .val (.int j68), .val (.int (1 : Int32)), .val (.int j69), .unset, .unset, .unset, .unset] [(.ref b71_0)])) _
        refine XS.astore X71.here hx rfl (hb hby at_180) rfl rfl (l' := #[.val (.int p1), .val (.int p2), .val (.int p3), .val (.int p4), .val (.int p5), .val (.int j1), .val (.int j2), .val (.int j3), .val (.int j4), .val (.int j5), .val (.int j7), .val (.ref b9), .val (.int j68), .val (.int (1 : Int32)), .val (.int j69), .val (.ref b71_0), .unset, .unset, .unset]) rfl ?_
        show Steps p.tables e below (T71.setTop (mkF m 182 #[.val (.int p1), .val (.int p2), .val (.int p3), .val (.int p4), .val (.int p5), .val (.int j1), .val (.int j2), .val (.int j3), .val (.int j4), .val (.int j5), .val (.int j7), .val (.ref b9), .val (.int j68), .val (.int (1 : Int32)), .val (.int j69), .val (.ref b71_0), .unset, .unset, .unset] [])) _
        refine XS.aload X71.here hx rfl (hb hby at_182) rfl rfl ?_
        show Steps p.tables e below (T71.setTop (mkF m 184 #[.val (.int p1), .val (.int p2), .val (.int p3), .val (.int p4), .val (.int p5), .val (.int j1), .val (.int j2), .val (.int j3), .val (.int j4), .val (.int j5), .val (.int j7), .val (.ref b9), .val (.int j68), .val (.int (1 : Int32)), .val (.int j69), .val (.ref b71_0), .unset, .unset, .unset] [(.ref b71_0)])) _
        refine XS.aload X71.here hx rfl (hb hby at_184) rfl rfl ?_
        exact k
      refine own_go (fun t k => Jvm.RoadKit.acmp (g := (mkF m 186 #[.val (.int p1), .val (.int p2), .val (.int p3), .val (.int p4), .val (.int p5), .val (.int j1), .val (.int j2), .val (.int j3), .val (.int j4), .val (.int j5), .val (.int j7), .val (.ref b9), .val (.int j68), .val (.int (1 : Int32)), .val (.int j69), .val (.ref b71_0), .unset, .unset, .unset] [(.ref b9), (.ref b71_0)])) X71 hx rfl rfl rfl (pc0 := 186) (pc' := 189) (same := false) rfl (hb hby at_186) rfl (decide_eq_false fun q => (Ne.symm ne_b9_b71_0) (Value.ref.inj q)) (by decide) (by decide) k) ?_
      show own_Go p.tables e below _ T71 (mkF m 189 #[.val (.int p1), .val (.int p2), .val (.int p3), .val (.int p4), .val (.int p5), .val (.int j1), .val (.int j2), .val (.int j3), .val (.int j4), .val (.int j5), .val (.int j7), .val (.ref b9), .val (.int j68), .val (.int (1 : Int32)), .val (.int j69), .val (.ref b71_0), .unset, .unset, .unset] [])
      refine own_go (T' := T71) (g' := (mkF m 198 #[.val (.int p1), .val (.int p2), .val (.int p3), .val (.int p4), .val (.int p5), .val (.int j1), .val (.int j2), .val (.int j3), .val (.int j4), .val (.int j5), .val (.int j7), .val (.ref b9), .val (.int j68), .val (.int (1 : Int32)), .val (.int j69), .val (.ref b71_0), .val (.int (1 : Int32)), .unset, .unset] [(.int (1 : Int32))])) (fun t k => ?_) ?_
      · show Steps p.tables e below (T71.setTop (mkF m 189 #[.val (.int p1), .val (.int p2), .val (.int p3), .val (.int p4), .val (.int p5), .val (.int j1), .val (.int j2), .val (.int j3), .val (.int j4), .val (.int j5), .val (.int j7), .val (.ref b9), .val (.int j68), .val (.int (1 : Int32)), .val (.int j69), .val (.ref b71_0), .unset, .unset, .unset] [])) _
        refine XS.iconst X71.here hx rfl (hb hby at_189) ?_
        show Steps p.tables e below (T71.setTop (mkF m 190 #[.val (.int p1), .val (.int p2), .val (.int p3), .val (.int p4), .val (.int p5), .val (.int j1), .val (.int j2), .val (.int j3), .val (.int j4), .val (.int j5), .val (.int j7), .val (.ref b9), .val (.int j68), .val (.int (1 : Int32)), .val (.int j69), .val (.ref b71_0), .unset, .unset, .unset] [(.int (1 : Int32))])) _
        refine XS.goto X71.here hx rfl (pc0 := 190) (pc' := 194) rfl (hb hby at_190) (by decide) (by decide) ?_
        show Steps p.tables e below (T71.setTop (mkF m 194 #[.val (.int p1), .val (.int p2), .val (.int p3), .val (.int p4), .val (.int p5), .val (.int j1), .val (.int j2), .val (.int j3), .val (.int j4), .val (.int j5), .val (.int j7), .val (.ref b9), .val (.int j68), .val (.int (1 : Int32)), .val (.int j69), .val (.ref b71_0), .unset, .unset, .unset] [(.int (1 : Int32))])) _
        refine XS.istore X71.here hx rfl (hb hby at_194) rfl (l' := #[.val (.int p1), .val (.int p2), .val (.int p3), .val (.int p4), .val (.int p5), .val (.int j1), .val (.int j2), .val (.int j3), .val (.int j4), .val (.int j5), .val (.int j7), .val (.ref b9), .val (.int j68), .val (.int (1 : Int32)), .val (.int j69), .val (.ref b71_0), .val (.int (1 : Int32)), .unset, .unset]) rfl ?_
        show Steps p.tables e below (T71.setTop (mkF m 196 #[.val (.int p1), .val (.int p2), .val (.int p3), .val (.int p4), .val (.int p5), .val (.int j1), .val (.int j2), .val (.int j3), .val (.int j4), .val (.int j5), .val (.int j7), .val (.ref b9), .val (.int j68), .val (.int (1 : Int32)), .val (.int j69), .val (.ref b71_0), .val (.int (1 : Int32)), .unset, .unset] [])) _
        refine XS.iload X71.here hx rfl (hb hby at_196) rfl ?_
        exact k
      refine own_go (T' := T71) (g' := (mkF m 203 #[.val (.int p1), .val (.int p2), .val (.int p3), .val (.int p4), .val (.int p5), .val (.int j1), .val (.int j2), .val (.int j3), .val (.int j4), .val (.int j5), .val (.int j7), .val (.ref b9), .val (.int j68), .val (.int (1 : Int32)), .val (.int j69), .val (.ref b71_0), .val (.int (1 : Int32)), .unset, .unset] [(.ref b71_0)])) (fun t k => ?_) ?_
      · show Steps p.tables e below (T71.setTop (mkF m 198 #[.val (.int p1), .val (.int p2), .val (.int p3), .val (.int p4), .val (.int p5), .val (.int j1), .val (.int j2), .val (.int j3), .val (.int j4), .val (.int j5), .val (.int j7), .val (.ref b9), .val (.int j68), .val (.int (1 : Int32)), .val (.int j69), .val (.ref b71_0), .val (.int (1 : Int32)), .unset, .unset] [(.int (1 : Int32))])) _
        refine XS.ifNo X71.here hx rfl (hb hby at_198) rfl ((if0 _ _).trans (feq (by decide : ¬ ((1 : Int32) = (0 : Int32)))).1) ?_
        show Steps p.tables e below (T71.setTop (mkF m 201 #[.val (.int p1), .val (.int p2), .val (.int p3), .val (.int p4), .val (.int p5), .val (.int j1), .val (.int j2), .val (.int j3), .val (.int j4), .val (.int j5), .val (.int j7), .val (.ref b9), .val (.int j68), .val (.int (1 : Int32)), .val (.int j69), .val (.ref b71_0), .val (.int (1 : Int32)), .unset, .unset] [])) _
        refine XS.aload X71.here hx rfl (hb hby at_201) rfl rfl ?_
        exact k
      obtain ⟨cq72, kq72, q72a, q72b, q72c⟩ := isOf hZ rfl E_b71_0
      obtain ⟨_, _, ⟨T72, L72, k72, n72⟩, -, X72, ⟨Lc72, hQ72, l72, y72, z72⟩, st72⟩ := X71.virtualBack hx (y := (⟨"com/example/capd/capd/status/Bitstring", "size", "()I"⟩ : MethodName)) (z := (⟨"com/example/capd/capd/status/Bitstring", "size", "()I"⟩ : MethodName)) hown (mvT hZ (hw _ (List.mem_of_getElem? (i := 36) rfl))) (mvT hZ (hw _ (List.mem_of_getElem? (i := 37) rfl))) (notFace_of_selects (args := #[]) (mvT hZ (hw _ (List.mem_of_getElem? (i := 39) rfl)))) (mvT hZ (hw _ (List.mem_of_getElem? (i := 39) rfl))) (mvT hZ (hw _ (List.mem_of_getElem? (i := 38) rfl))) (by decide) (backOf (W := 0) (rm5 l Z a0 hw [] b71_0 (131072 : Int32) T71.heap n0 Z0 F_b71_0_size) hZ (hw _ (List.mem_of_getElem? (i := 40) rfl)) (hw _ (List.mem_of_getElem? (i := 3) rfl)) (by decide) (by decide)) q72a q72c (g := (mkF m 203 #[.val (.int p1), .val (.int p2), .val (.int p3), .val (.int p4), .val (.int p5), .val (.int j1), .val (.int j2), .val (.int j3), .val (.int j4), .val (.int j5), .val (.int j7), .val (.ref b9), .val (.int j68), .val (.int (1 : Int32)), .val (.int j69), .val (.ref b71_0), .val (.int (1 : Int32)), .unset, .unset] [(.ref b71_0)])) rfl (by rw [hml]; rfl) (Steps.refl _) (argsL := []) (rest := []) (lenOf pd_4 rfl) rfl (by show 2 * 0 + _ ≤ _; exact Nat.le_of_eq rfl) (hb hby at_203) (fun _ _ => ⟨rfl, rfl, (by decide : 4 + 0 ≤ _), (by decide : 4102 + 0 ≤ _)⟩)
      dsimp only [Pt.U, Pt.locs, Pt.cells, Pt.slots] at X72 l72 y72 z72 st72 hQ72
      subst l72 y72 z72
      obtain ⟨rfl, N72q, e72⟩ := hQ72
      have NN := Fr.app NN N72q
      refine own_go (fun t k => st72.trans k) ?_
      show own_Go p.tables e below _ T72 (mkF m 206 #[.val (.int p1), .val (.int p2), .val (.int p3), .val (.int p4), .val (.int p5), .val (.int j1), .val (.int j2), .val (.int j3), .val (.int j4), .val (.int j5), .val (.int j7), .val (.ref b9), .val (.int j68), .val (.int (1 : Int32)), .val (.int j69), .val (.ref b71_0), .val (.int (1 : Int32)), .unset, .unset] [(.int (r_5 (131072 : Int32)))])
      refine own_go (T' := T72) (g' := (mkF m 208 #[.val (.int p1), .val (.int p2), .val (.int p3), .val (.int p4), .val (.int p5), .val (.int j1), .val (.int j2), .val (.int j3), .val (.int j4), .val (.int j5), .val (.int j7), .val (.ref b9), .val (.int j68), .val (.int (1 : Int32)), .val (.int j69), .val (.ref b71_0), .val (.int (1 : Int32)), .unset, .unset] [(.int (131072 : Int32)), (.int (r_5 (131072 : Int32)))])) (fun t k => ?_) ?_
      · show Steps p.tables e below (T72.setTop (mkF m 206 #[.val (.int p1), .val (.int p2), .val (.int p3), .val (.int p4), .val (.int p5), .val (.int j1), .val (.int j2), .val (.int j3), .val (.int j4), .val (.int j5), .val (.int j7), .val (.ref b9), .val (.int j68), .val (.int (1 : Int32)), .val (.int j69), .val (.ref b71_0), .val (.int (1 : Int32)), .unset, .unset] [(.int (r_5 (131072 : Int32)))])) _
        refine X72.ldcInt hx hown (mvT hZ (hw _ (List.mem_of_getElem? (i := 41) rfl))) (g := (mkF m 206 #[.val (.int p1), .val (.int p2), .val (.int p3), .val (.int p4), .val (.int p5), .val (.int j1), .val (.int j2), .val (.int j3), .val (.int j4), .val (.int j5), .val (.int j7), .val (.ref b9), .val (.int j68), .val (.int (1 : Int32)), .val (.int j69), .val (.ref b71_0), .val (.int (1 : Int32)), .unset, .unset] [(.int (r_5 (131072 : Int32)))])) rfl (hb hby at_206) _ ?_
        exact k
      have hs208 : (r_5 (131072 : Int32)) = (131072 : Int32) := own_at_hs208_ff p1 p2 p5 j1 j2 j5 j7 hj1 hj2 hj5 hj7 hc63_3 hhhhc1_3_5_70 hhhhc6_3_5_70 hhhlo17_11_70 hhhhi17_11_70 hc75_11 hhhhc1_3_5_82 hhhhc6_3_5_82 hhhlo17_11_82 hhhhi17_11_82
      refine own_go (T' := T72) (g' := (mkF m 220 #[.val (.int p1), .val (.int p2), .val (.int p3), .val (.int p4), .val (.int p5), .val (.int j1), .val (.int j2), .val (.int j3), .val (.int j4), .val (.int j5), .val (.int j7), .val (.ref b9), .val (.int j68), .val (.int (1 : Int32)), .val (.int j69), .val (.ref b71_0), .val (.int (1 : Int32)), .unset, .unset] [(.int (1 : Int32))])) (fun t k => ?_) ?_
      · show Steps p.tables e below (T72.setTop (mkF m 208 #[.val (.int p1), .val (.int p2), .val (.int p3), .val (.int p4), .val (.int p5), .val (.int j1), .val (.int j2), .val (.int j3), .val (.int j4), .val (.int j5), .val (.int j7), .val (.ref b9), .val (.int j68), .val (.int (1 : Int32)), .val (.int j69), .val (.ref b71_0), .val (.int (1 : Int32)), .unset, .unset] [(.int (131072 : Int32)), (.int (r_5 (131072 : Int32)))])) _
        refine XS.icmpNo X72.here hx rfl (hb hby at_208) rfl (teq hs208).2 ?_
        show Steps p.tables e below (T72.setTop (mkF m 211 #[.val (.int p1), .val (.int p2), .val (.int p3), .val (.int p4), .val (.int p5), .val (.int j1), .val (.int j2), .val (.int j3), .val (.int j4), .val (.int j5), .val (.int j7), .val (.ref b9), .val (.int j68), .val (.int (1 : Int32)), .val (.int j69), .val (.ref b71_0), .val (.int (1 : Int32)), .unset, .unset] [])) _
        refine XS.iconst X72.here hx rfl (hb hby at_211) ?_
        show Steps p.tables e below (T72.setTop (mkF m 212 #[.val (.int p1), .val (.int p2), .val (.int p3), .val (.int p4), .val (.int p5), .val (.int j1), .val (.int j2), .val (.int j3), .val (.int j4), .val (.int j5), .val (.int j7), .val (.ref b9), .val (.int j68), .val (.int (1 : Int32)), .val (.int j69), .val (.ref b71_0), .val (.int (1 : Int32)), .unset, .unset] [(.int (1 : Int32))])) _
        refine XS.goto X72.here hx rfl (pc0 := 212) (pc' := 216) rfl (hb hby at_212) (by decide) (by decide) ?_
        show Steps p.tables e below (T72.setTop (mkF m 216 #[.val (.int p1), .val (.int p2), .val (.int p3), .val (.int p4), .val (.int p5), .val (.int j1), .val (.int j2), .val (.int j3), .val (.int j4), .val (.int j5), .val (.int j7), .val (.ref b9), .val (.int j68), .val (.int (1 : Int32)), .val (.int j69), .val (.ref b71_0), .val (.int (1 : Int32)), .unset, .unset] [(.int (1 : Int32))])) _
        refine XS.istore X72.here hx rfl (hb hby at_216) rfl (l' := #[.val (.int p1), .val (.int p2), .val (.int p3), .val (.int p4), .val (.int p5), .val (.int j1), .val (.int j2), .val (.int j3), .val (.int j4), .val (.int j5), .val (.int j7), .val (.ref b9), .val (.int j68), .val (.int (1 : Int32)), .val (.int j69), .val (.ref b71_0), .val (.int (1 : Int32)), .unset, .unset]) rfl ?_
        show Steps p.tables e below (T72.setTop (mkF m 218 #[.val (.int p1), .val (.int p2), .val (.int p3), .val (.int p4), .val (.int p5), .val (.int j1), .val (.int j2), .val (.int j3), .val (.int j4), .val (.int j5), .val (.int j7), .val (.ref b9), .val (.int j68), .val (.int (1 : Int32)), .val (.int j69), .val (.ref b71_0), .val (.int (1 : Int32)), .unset, .unset] [])) _
        refine XS.iload X72.here hx rfl (hb hby at_218) rfl ?_
        exact k
      refine own_go (T' := T72) (g' := (mkF m 225 #[.val (.int p1), .val (.int p2), .val (.int p3), .val (.int p4), .val (.int p5), .val (.int j1), .val (.int j2), .val (.int j3), .val (.int j4), .val (.int j5), .val (.int j7), .val (.ref b9), .val (.int j68), .val (.int (1 : Int32)), .val (.int j69), .val (.ref b71_0), .val (.int (1 : Int32)), .unset, .unset] [(.ref b71_0)])) (fun t k => ?_) ?_
      · show Steps p.tables e below (T72.setTop (mkF m 220 #[.val (.int p1), .val (.int p2), .val (.int p3), .val (.int p4), .val (.int p5), .val (.int j1), .val (.int j2), .val (.int j3), .val (.int j4), .val (.int j5), .val (.int j7), .val (.ref b9), .val (.int j68), .val (.int (1 : Int32)), .val (.int j69), .val (.ref b71_0), .val (.int (1 : Int32)), .unset, .unset] [(.int (1 : Int32))])) _
        refine XS.ifNo X72.here hx rfl (hb hby at_220) rfl ((if0 _ _).trans (feq (by decide : ¬ ((1 : Int32) = (0 : Int32)))).1) ?_
        show Steps p.tables e below (T72.setTop (mkF m 223 #[.val (.int p1), .val (.int p2), .val (.int p3), .val (.int p4), .val (.int p5), .val (.int j1), .val (.int j2), .val (.int j3), .val (.int j4), .val (.int j5), .val (.int j7), .val (.ref b9), .val (.int j68), .val (.int (1 : Int32)), .val (.int j69), .val (.ref b71_0), .val (.int (1 : Int32)), .unset, .unset] [])) _
        refine XS.aload X72.here hx rfl (hb hby at_223) rfl rfl ?_
        exact k
      obtain ⟨cq73, kq73, q73a, q73b, q73c⟩ := isOf hZ e72 E_b71_0
      obtain ⟨_, _, ⟨T73, L73, k73, n73⟩, -, X73, ⟨Lc73, hQ73, l73, y73, z73⟩, st73⟩ := X72.virtualBack hx (y := (⟨"com/example/capd/capd/status/Bitstring", "count", "()I"⟩ : MethodName)) (z := (⟨"com/example/capd/capd/status/Bitstring", "count", "()I"⟩ : MethodName)) hown (mvT hZ (hw _ (List.mem_of_getElem? (i := 42) rfl))) (mvT hZ (hw _ (List.mem_of_getElem? (i := 43) rfl))) (notFace_of_selects (args := #[]) (mvT hZ (hw _ (List.mem_of_getElem? (i := 45) rfl)))) (mvT hZ (hw _ (List.mem_of_getElem? (i := 45) rfl))) (mvT hZ (hw _ (List.mem_of_getElem? (i := 44) rfl))) (by decide) (backOf (W := 0) (rm6 l Z a0 hw [] b71_0 (u_11_a1_count j2 (131072 : Int32) (u_11_w_words_a1_fn j1 (131072 : Int32) (fun _ => 0) (0 : Int32)) (u_11_a1_count j1 (131072 : Int32) (fun _ => 0) (0 : Int32))) T71.heap n0 Z0 F_b71_0_count) hZ (hw _ (List.mem_of_getElem? (i := 46) rfl)) (hw _ (List.mem_of_getElem? (i := 3) rfl)) (by decide) (by decide)) q73a q73c (g := (mkF m 225 #[.val (.int p1), .val (.int p2), .val (.int p3), .val (.int p4), .val (.int p5), .val (.int j1), .val (.int j2), .val (.int j3), .val (.int j4), .val (.int j5), .val (.int j7), .val (.ref b9), .val (.int j68), .val (.int (1 : Int32)), .val (.int j69), .val (.ref b71_0), .val (.int (1 : Int32)), .unset, .unset] [(.ref b71_0)])) rfl (by rw [hml]; rfl) (Steps.refl _) (argsL := []) (rest := []) (lenOf pd_4 rfl) rfl (by show 2 * 0 + _ ≤ _; exact Nat.le_of_eq rfl) (hb hby at_225) (fun _ _ => ⟨rfl, e72, (by decide : 4 + 0 ≤ _), (by decide : 4102 + 0 ≤ _)⟩)
      dsimp only [Pt.U, Pt.locs, Pt.cells, Pt.slots] at X73 l73 y73 z73 st73 hQ73
      subst l73 y73 z73
      obtain ⟨rfl, N73q, e73⟩ := hQ73
      have NN := Fr.app NN N73q
      refine own_go (fun t k => st73.trans k) ?_
      show own_Go p.tables e below _ T73 (mkF m 228 #[.val (.int p1), .val (.int p2), .val (.int p3), .val (.int p4), .val (.int p5), .val (.int j1), .val (.int j2), .val (.int j3), .val (.int j4), .val (.int j5), .val (.int j7), .val (.ref b9), .val (.int j68), .val (.int (1 : Int32)), .val (.int j69), .val (.ref b71_0), .val (.int (1 : Int32)), .unset, .unset] [(.int (r_6 (u_11_a1_count j2 (131072 : Int32) (u_11_w_words_a1_fn j1 (131072 : Int32) (fun _ => 0) (0 : Int32)) (u_11_a1_count j1 (131072 : Int32) (fun _ => 0) (0 : Int32)))))])
      refine own_go (T' := T73) (g' := (mkF m 230 #[.val (.int p1), .val (.int p2), .val (.int p3), .val (.int p4), .val (.int p5), .val (.int j1), .val (.int j2), .val (.int j3), .val (.int j4), .val (.int j5), .val (.int j7), .val (.ref b9), .val (.int j68), .val (.int (1 : Int32)), .val (.int j69), .val (.ref b71_0), .val (.int (1 : Int32)), .unset, .unset] [(.int j68), (.int (r_6 (u_11_a1_count j2 (131072 : Int32) (u_11_w_words_a1_fn j1 (131072 : Int32) (fun _ => 0) (0 : Int32)) (u_11_a1_count j1 (131072 : Int32) (fun _ => 0) (0 : Int32)))))])) (fun t k => ?_) ?_
      · show Steps p.tables e below (T73.setTop (mkF m 228 #[.val (.int p1), .val (.int p2), .val (.int p3), .val (.int p4), .val (.int p5), .val (.int j1), .val (.int j2), .val (.int j3), .val (.int j4), .val (.int j5), .val (.int j7), .val (.ref b9), .val (.int j68), .val (.int (1 : Int32)), .val (.int j69), .val (.ref b71_0), .val (.int (1 : Int32)), .unset, .unset] [(.int (r_6 (u_11_a1_count j2 (131072 : Int32) (u_11_w_words_a1_fn j1 (131072 : Int32) (fun _ => 0) (0 : Int32)) (u_11_a1_count j1 (131072 : Int32) (fun _ => 0) (0 : Int32)))))])) _
        refine XS.iload X73.here hx rfl (hb hby at_228) rfl ?_
        exact k
      have hs230 : (r_6 (u_11_a1_count j2 (131072 : Int32) (u_11_w_words_a1_fn j1 (131072 : Int32) (fun _ => 0) (0 : Int32)) (u_11_a1_count j1 (131072 : Int32) (fun _ => 0) (0 : Int32)))) = j68 := own_at_hs230_ff p1 p2 p5 j1 j2 j5 j7 j66 j68 hj1 hj2 hj5 hj7 hj66 hj68 hc63_3 hhhhc1_3_5_70 hhhhc6_3_5_70 hhhlo17_11_70 hhhhi17_11_70 hc75_11 hhhhc1_3_5_82 hhhhc6_3_5_82 hhhlo17_11_82 hhhhi17_11_82 hs208
      refine own_go (T' := T73) (g' := (mkF m 242 #[.val (.int p1), .val (.int p2), .val (.int p3), .val (.int p4), .val (.int p5), .val (.int j1), .val (.int j2), .val (.int j3), .val (.int j4), .val (.int j5), .val (.int j7), .val (.ref b9), .val (.int j68), .val (.int (1 : Int32)), .val (.int j69), .val (.ref b71_0), .val (.int (1 : Int32)), .unset, .unset] [(.int (1 : Int32))])) (fun t k => ?_) ?_
      · show Steps p.tables e below (T73.setTop (mkF m 230 #[.val (.int p1), .val (.int p2), .val (.int p3), .val (.int p4), .val (.int p5), .val (.int j1), .val (.int j2), .val (.int j3), .val (.int j4), .val (.int j5), .val (.int j7), .val (.ref b9), .val (.int j68), .val (.int (1 : Int32)), .val (.int j69), .val (.ref b71_0), .val (.int (1 : Int32)), .unset, .unset] [(.int j68), (.int (r_6 (u_11_a1_count j2 (131072 : Int32) (u_11_w_words_a1_fn j1 (131072 : Int32) (fun _ => 0) (0 : Int32)) (u_11_a1_count j1 (131072 : Int32) (fun _ => 0) (0 : Int32)))))])) _
        refine XS.icmpNo X73.here hx rfl (hb hby at_230) rfl (teq hs230).2 ?_
        show Steps p.tables e below (T73.setTop (mkF m 233 #[.val (.int p1), .val (.int p2), .val (.int p3), .val (.int p4), .val (.int p5), .val (.int j1), .val (.int j2), .val (.int j3), .val (.int j4), .val (.int j5), .val (.int j7), .val (.ref b9), .val (.int j68), .val (.int (1 : Int32)), .val (.int j69), .val (.ref b71_0), .val (.int (1 : Int32)), .unset, .unset] [])) _
        refine XS.iconst X73.here hx rfl (hb hby at_233) ?_
        show Steps p.tables e below (T73.setTop (mkF m 234 #[.val (.int p1), .val (.int p2), .val (.int p3), .val (.int p4), .val (.int p5), .val (.int j1), .val (.int j2), .val (.int j3), .val (.int j4), .val (.int j5), .val (.int j7), .val (.ref b9), .val (.int j68), .val (.int (1 : Int32)), .val (.int j69), .val (.ref b71_0), .val (.int (1 : Int32)), .unset, .unset] [(.int (1 : Int32))])) _
        refine XS.goto X73.here hx rfl (pc0 := 234) (pc' := 238) rfl (hb hby at_234) (by decide) (by decide) ?_
        show Steps p.tables e below (T73.setTop (mkF m 238 #[.val (.int p1), .val (.int p2), .val (.int p3), .val (.int p4), .val (.int p5), .val (.int j1), .val (.int j2), .val (.int j3), .val (.int j4), .val (.int j5), .val (.int j7), .val (.ref b9), .val (.int j68), .val (.int (1 : Int32)), .val (.int j69), .val (.ref b71_0), .val (.int (1 : Int32)), .unset, .unset] [(.int (1 : Int32))])) _
        refine XS.istore X73.here hx rfl (hb hby at_238) rfl (l' := #[.val (.int p1), .val (.int p2), .val (.int p3), .val (.int p4), .val (.int p5), .val (.int j1), .val (.int j2), .val (.int j3), .val (.int j4), .val (.int j5), .val (.int j7), .val (.ref b9), .val (.int j68), .val (.int (1 : Int32)), .val (.int j69), .val (.ref b71_0), .val (.int (1 : Int32)), .unset, .unset]) rfl ?_
        show Steps p.tables e below (T73.setTop (mkF m 240 #[.val (.int p1), .val (.int p2), .val (.int p3), .val (.int p4), .val (.int p5), .val (.int j1), .val (.int j2), .val (.int j3), .val (.int j4), .val (.int j5), .val (.int j7), .val (.ref b9), .val (.int j68), .val (.int (1 : Int32)), .val (.int j69), .val (.ref b71_0), .val (.int (1 : Int32)), .unset, .unset] [])) _
        refine XS.iload X73.here hx rfl (hb hby at_240) rfl ?_
        exact k
      refine own_go (T' := T73) (g' := (mkF m 249 #[.val (.int p1), .val (.int p2), .val (.int p3), .val (.int p4), .val (.int p5), .val (.int j1), .val (.int j2), .val (.int j3), .val (.int j4), .val (.int j5), .val (.int j7), .val (.ref b9), .val (.int j68), .val (.int (1 : Int32)), .val (.int j69), .val (.ref b71_0), .val (.int (1 : Int32)), .unset, .unset] [(.int j1), (.ref b71_0)])) (fun t k => ?_) ?_
      · show Steps p.tables e below (T73.setTop (mkF m 242 #[.val (.int p1), .val (.int p2), .val (.int p3), .val (.int p4), .val (.int p5), .val (.int j1), .val (.int j2), .val (.int j3), .val (.int j4), .val (.int j5), .val (.int j7), .val (.ref b9), .val (.int j68), .val (.int (1 : Int32)), .val (.int j69), .val (.ref b71_0), .val (.int (1 : Int32)), .unset, .unset] [(.int (1 : Int32))])) _
        refine XS.ifNo X73.here hx rfl (hb hby at_242) rfl ((if0 _ _).trans (feq (by decide : ¬ ((1 : Int32) = (0 : Int32)))).1) ?_
        show Steps p.tables e below (T73.setTop (mkF m 245 #[.val (.int p1), .val (.int p2), .val (.int p3), .val (.int p4), .val (.int p5), .val (.int j1), .val (.int j2), .val (.int j3), .val (.int j4), .val (.int j5), .val (.int j7), .val (.ref b9), .val (.int j68), .val (.int (1 : Int32)), .val (.int j69), .val (.ref b71_0), .val (.int (1 : Int32)), .unset, .unset] [])) _
        refine XS.aload X73.here hx rfl (hb hby at_245) rfl rfl ?_
        show Steps p.tables e below (T73.setTop (mkF m 247 #[.val (.int p1), .val (.int p2), .val (.int p3), .val (.int p4), .val (.int p5), .val (.int j1), .val (.int j2), .val (.int j3), .val (.int j4), .val (.int j5), .val (.int j7), .val (.ref b9), .val (.int j68), .val (.int (1 : Int32)), .val (.int j69), .val (.ref b71_0), .val (.int (1 : Int32)), .unset, .unset] [(.ref b71_0)])) _
        refine XS.iload X73.here hx rfl (hb hby at_247) rfl ?_
        exact k
      obtain ⟨cq74, kq74, q74a, q74b, q74c⟩ := isOf hZ e73 E_b71_0
      obtain ⟨_, _, ⟨T74, L74, k74, n74⟩, -, X74, ⟨Lc74, hQ74, l74, y74, z74⟩, st74⟩ := X73.virtualBack hx (y := (⟨"com/example/capd/capd/status/Bitstring", "get", "(I)Z"⟩ : MethodName)) (z := (⟨"com/example/capd/capd/status/Bitstring", "get", "(I)Z"⟩ : MethodName)) hown (mvT hZ (hw _ (List.mem_of_getElem? (i := 47) rfl))) (mvT hZ (hw _ (List.mem_of_getElem? (i := 48) rfl))) (notFace_of_selects (args := #[]) (mvT hZ (hw _ (List.mem_of_getElem? (i := 50) rfl)))) (mvT hZ (hw _ (List.mem_of_getElem? (i := 50) rfl))) (mvT hZ (hw _ (List.mem_of_getElem? (i := 49) rfl))) (by decide) (backOf (W := 0) (rm7 l Z a0 hw [] b71_0 j1 (131072 : Int32) b71_1 k10_1 (u_11_w_words_a1_fn j2 (131072 : Int32) (u_11_w_words_a1_fn j1 (131072 : Int32) (fun _ => 0) (0 : Int32)) (u_11_a1_count j1 (131072 : Int32) (fun _ => 0) (0 : Int32))) T71.heap n0 Z0 F_b71_0_size hhhhc1_3_5_70 hhhhc6_3_5_70 F_b71_0_words V_b71_1 hhhlo17_11_70 hhhhi17_11_70) hZ (hw _ (List.mem_of_getElem? (i := 51) rfl)) (hw _ (List.mem_of_getElem? (i := 3) rfl)) (by decide) (by decide)) q74a q74c (g := (mkF m 249 #[.val (.int p1), .val (.int p2), .val (.int p3), .val (.int p4), .val (.int p5), .val (.int j1), .val (.int j2), .val (.int j3), .val (.int j4), .val (.int j5), .val (.int j7), .val (.ref b9), .val (.int j68), .val (.int (1 : Int32)), .val (.int j69), .val (.ref b71_0), .val (.int (1 : Int32)), .unset, .unset] [(.int j1), (.ref b71_0)])) rfl (by rw [hml]; rfl) (Steps.refl _) (argsL := [(.int j1)]) (rest := []) (lenOf pd_5 rfl) rfl (by show 2 * 0 + _ ≤ _; exact Nat.le_of_eq rfl) (hb hby at_249) (fun _ _ => ⟨rfl, e73, (by decide : 4 + 0 ≤ _), (by decide : 4102 + 0 ≤ _)⟩)
      dsimp only [Pt.U, Pt.locs, Pt.cells, Pt.slots] at X74 l74 y74 z74 st74 hQ74
      subst l74 y74 z74
      obtain ⟨rfl, N74q, e74⟩ := hQ74
      have NN := Fr.app NN N74q
      refine own_go (fun t k => st74.trans k) ?_
      show own_Go p.tables e below _ T74 (mkF m 252 #[.val (.int p1), .val (.int p2), .val (.int p3), .val (.int p4), .val (.int p5), .val (.int j1), .val (.int j2), .val (.int j3), .val (.int j4), .val (.int j5), .val (.int j7), .val (.ref b9), .val (.int j68), .val (.int (1 : Int32)), .val (.int j69), .val (.ref b71_0), .val (.int (1 : Int32)), .unset, .unset] [(.int (r_7 j1 (131072 : Int32) (u_11_w_words_a1_fn j2 (131072 : Int32) (u_11_w_words_a1_fn j1 (131072 : Int32) (fun _ => 0) (0 : Int32)) (u_11_a1_count j1 (131072 : Int32) (fun _ => 0) (0 : Int32)))))])
      refine own_go (T' := T74) (g' := (mkF m 254 #[.val (.int p1), .val (.int p2), .val (.int p3), .val (.int p4), .val (.int p5), .val (.int j1), .val (.int j2), .val (.int j3), .val (.int j4), .val (.int j5), .val (.int j7), .val (.ref b9), .val (.int j68), .val (.int (1 : Int32)), .val (.int j69), .val (.ref b71_0), .val (.int (1 : Int32)), .unset, .unset] [(.int (1 : Int32)), (.int (r_7 j1 (131072 : Int32) (u_11_w_words_a1_fn j2 (131072 : Int32) (u_11_w_words_a1_fn j1 (131072 : Int32) (fun _ => 0) (0 : Int32)) (u_11_a1_count j1 (131072 : Int32) (fun _ => 0) (0 : Int32)))))])) (fun t k => ?_) ?_
      · show Steps p.tables e below (T74.setTop (mkF m 252 #[.val (.int p1), .val (.int p2), .val (.int p3), .val (.int p4), .val (.int p5), .val (.int j1), .val (.int j2), .val (.int j3), .val (.int j4), .val (.int j5), .val (.int j7), .val (.ref b9), .val (.int j68), .val (.int (1 : Int32)), .val (.int j69), .val (.ref b71_0), .val (.int (1 : Int32)), .unset, .unset] [(.int (r_7 j1 (131072 : Int32) (u_11_w_words_a1_fn j2 (131072 : Int32) (u_11_w_words_a1_fn j1 (131072 : Int32) (fun _ => 0) (0 : Int32)) (u_11_a1_count j1 (131072 : Int32) (fun _ => 0) (0 : Int32)))))])) _
        refine XS.iload X74.here hx rfl (hb hby at_252) rfl ?_
        exact k
      have hs254 : (r_7 j1 (131072 : Int32) (u_11_w_words_a1_fn j2 (131072 : Int32) (u_11_w_words_a1_fn j1 (131072 : Int32) (fun _ => 0) (0 : Int32)) (u_11_a1_count j1 (131072 : Int32) (fun _ => 0) (0 : Int32)))) = (1 : Int32) := own_at_hs254_ff p1 p2 p5 j1 j2 j5 j7 j66 j68 hj1 hj2 hj5 hj7 hj66 hj68 hc63_3 hhhhc1_3_5_70 hhhhc6_3_5_70 hhhlo17_11_70 hhhhi17_11_70 hc75_11 hhhhc1_3_5_82 hhhhc6_3_5_82 hhhlo17_11_82 hhhhi17_11_82 hs208 hs230
      refine own_go (T' := T74) (g' := (mkF m 266 #[.val (.int p1), .val (.int p2), .val (.int p3), .val (.int p4), .val (.int p5), .val (.int j1), .val (.int j2), .val (.int j3), .val (.int j4), .val (.int j5), .val (.int j7), .val (.ref b9), .val (.int j68), .val (.int (1 : Int32)), .val (.int j69), .val (.ref b71_0), .val (.int (1 : Int32)), .unset, .unset] [(.int (1 : Int32))])) (fun t k => ?_) ?_
      · show Steps p.tables e below (T74.setTop (mkF m 254 #[.val (.int p1), .val (.int p2), .val (.int p3), .val (.int p4), .val (.int p5), .val (.int j1), .val (.int j2), .val (.int j3), .val (.int j4), .val (.int j5), .val (.int j7), .val (.ref b9), .val (.int j68), .val (.int (1 : Int32)), .val (.int j69), .val (.ref b71_0), .val (.int (1 : Int32)), .unset, .unset] [(.int (1 : Int32)), (.int (r_7 j1 (131072 : Int32) (u_11_w_words_a1_fn j2 (131072 : Int32) (u_11_w_words_a1_fn j1 (131072 : Int32) (fun _ => 0) (0 : Int32)) (u_11_a1_count j1 (131072 : Int32) (fun _ => 0) (0 : Int32)))))])) _
        refine XS.icmpNo X74.here hx rfl (hb hby at_254) rfl (teq hs254).2 ?_
        show Steps p.tables e below (T74.setTop (mkF m 257 #[.val (.int p1), .val (.int p2), .val (.int p3), .val (.int p4), .val (.int p5), .val (.int j1), .val (.int j2), .val (.int j3), .val (.int j4), .val (.int j5), .val (.int j7), .val (.ref b9), .val (.int j68), .val (.int (1 : Int32)), .val (.int j69), .val (.ref b71_0), .val (.int (1 : Int32)), .unset, .unset] [])) _
        refine XS.iconst X74.here hx rfl (hb hby at_257) ?_
        show Steps p.tables e below (T74.setTop (mkF m 258 #[.val (.int p1), .val (.int p2), .val (.int p3), .val (.int p4), .val (.int p5), .val (.int j1), .val (.int j2), .val (.int j3), .val (.int j4), .val (.int j5), .val (.int j7), .val (.ref b9), .val (.int j68), .val (.int (1 : Int32)), .val (.int j69), .val (.ref b71_0), .val (.int (1 : Int32)), .unset, .unset] [(.int (1 : Int32))])) _
        refine XS.goto X74.here hx rfl (pc0 := 258) (pc' := 262) rfl (hb hby at_258) (by decide) (by decide) ?_
        show Steps p.tables e below (T74.setTop (mkF m 262 #[.val (.int p1), .val (.int p2), .val (.int p3), .val (.int p4), .val (.int p5), .val (.int j1), .val (.int j2), .val (.int j3), .val (.int j4), .val (.int j5), .val (.int j7), .val (.ref b9), .val (.int j68), .val (.int (1 : Int32)), .val (.int j69), .val (.ref b71_0), .val (.int (1 : Int32)), .unset, .unset] [(.int (1 : Int32))])) _
        refine XS.istore X74.here hx rfl (hb hby at_262) rfl (l' := #[.val (.int p1), .val (.int p2), .val (.int p3), .val (.int p4), .val (.int p5), .val (.int j1), .val (.int j2), .val (.int j3), .val (.int j4), .val (.int j5), .val (.int j7), .val (.ref b9), .val (.int j68), .val (.int (1 : Int32)), .val (.int j69), .val (.ref b71_0), .val (.int (1 : Int32)), .unset, .unset]) rfl ?_
        show Steps p.tables e below (T74.setTop (mkF m 264 #[.val (.int p1), .val (.int p2), .val (.int p3), .val (.int p4), .val (.int p5), .val (.int j1), .val (.int j2), .val (.int j3), .val (.int j4), .val (.int j5), .val (.int j7), .val (.ref b9), .val (.int j68), .val (.int (1 : Int32)), .val (.int j69), .val (.ref b71_0), .val (.int (1 : Int32)), .unset, .unset] [])) _
        refine XS.iload X74.here hx rfl (hb hby at_264) rfl ?_
        exact k
      refine own_go (T' := T74) (g' := (mkF m 273 #[.val (.int p1), .val (.int p2), .val (.int p3), .val (.int p4), .val (.int p5), .val (.int j1), .val (.int j2), .val (.int j3), .val (.int j4), .val (.int j5), .val (.int j7), .val (.ref b9), .val (.int j68), .val (.int (1 : Int32)), .val (.int j69), .val (.ref b71_0), .val (.int (1 : Int32)), .unset, .unset] [(.int j3), (.ref b71_0)])) (fun t k => ?_) ?_
      · show Steps p.tables e below (T74.setTop (mkF m 266 #[.val (.int p1), .val (.int p2), .val (.int p3), .val (.int p4), .val (.int p5), .val (.int j1), .val (.int j2), .val (.int j3), .val (.int j4), .val (.int j5), .val (.int j7), .val (.ref b9), .val (.int j68), .val (.int (1 : Int32)), .val (.int j69), .val (.ref b71_0), .val (.int (1 : Int32)), .unset, .unset] [(.int (1 : Int32))])) _
        refine XS.ifNo X74.here hx rfl (hb hby at_266) rfl ((if0 _ _).trans (feq (by decide : ¬ ((1 : Int32) = (0 : Int32)))).1) ?_
        show Steps p.tables e below (T74.setTop (mkF m 269 #[.val (.int p1), .val (.int p2), .val (.int p3), .val (.int p4), .val (.int p5), .val (.int j1), .val (.int j2), .val (.int j3), .val (.int j4), .val (.int j5), .val (.int j7), .val (.ref b9), .val (.int j68), .val (.int (1 : Int32)), .val (.int j69), .val (.ref b71_0), .val (.int (1 : Int32)), .unset, .unset] [])) _
        refine XS.aload X74.here hx rfl (hb hby at_269) rfl rfl ?_
        show Steps p.tables e below (T74.setTop (mkF m 271 #[.val (.int p1), .val (.int p2), .val (.int p3), .val (.int p4), .val (.int p5), .val (.int j1), .val (.int j2), .val (.int j3), .val (.int j4), .val (.int j5), .val (.int j7), .val (.ref b9), .val (.int j68), .val (.int (1 : Int32)), .val (.int j69), .val (.ref b71_0), .val (.int (1 : Int32)), .unset, .unset] [(.ref b71_0)])) _
        refine XS.iload X74.here hx rfl (hb hby at_271) rfl ?_
        exact k
      have hhhhc1_3_5_273 : ¬ (j3 < (0 : Int32)) := own_at_hhhhc1_3_5_273_ff p1 p2 p3 p5 j1 j2 j3 j5 j7 j66 j68 hj1 hj2 hj3 hj5 hj7 hj66 hj68 hc63_3 hhhhc1_3_5_70 hhhhc6_3_5_70 hhhlo17_11_70 hhhhi17_11_70 hc75_11 hhhhc1_3_5_82 hhhhc6_3_5_82 hhhlo17_11_82 hhhhi17_11_82 hs208 hs230 hs254
      have hhhhc6_3_5_273 : j3 < (131072 : Int32) := own_at_hhhhc6_3_5_273_ff p1 p2 p3 p5 j1 j2 j3 j5 j7 j66 j68 hj1 hj2 hj3 hj5 hj7 hj66 hj68 hc63_3 hhhhc1_3_5_70 hhhhc6_3_5_70 hhhlo17_11_70 hhhhi17_11_70 hc75_11 hhhhc1_3_5_82 hhhhc6_3_5_82 hhhlo17_11_82 hhhhi17_11_82 hs208 hs230 hs254 hhhhc1_3_5_273
      have hhlo17_273 : ¬ ((j3 / (64 : Int32)) < (0 : Int32)) := own_at_hhlo17_273_ff p1 p2 p3 p5 j1 j2 j3 j5 j7 j66 j68 hj1 hj2 hj3 hj5 hj7 hj66 hj68 hc63_3 hhhhc1_3_5_70 hhhhc6_3_5_70 hhhlo17_11_70 hhhhi17_11_70 hc75_11 hhhhc1_3_5_82 hhhhc6_3_5_82 hhhlo17_11_82 hhhhi17_11_82 hs208 hs230 hs254 hhhhc1_3_5_273 hhhhc6_3_5_273
      have hhhi17_273 : (j3 / (64 : Int32)) < (2048 : Int32) := own_at_hhhi17_273_ff p1 p2 p3 p5 j1 j2 j3 j5 j7 j66 j68 hj1 hj2 hj3 hj5 hj7 hj66 hj68 hc63_3 hhhhc1_3_5_70 hhhhc6_3_5_70 hhhlo17_11_70 hhhhi17_11_70 hc75_11 hhhhc1_3_5_82 hhhhc6_3_5_82 hhhlo17_11_82 hhhhi17_11_82 hs208 hs230 hs254 hhhhc1_3_5_273 hhhhc6_3_5_273 hhlo17_273
      obtain ⟨cq75, kq75, q75a, q75b, q75c⟩ := isOf hZ e74 E_b71_0
      obtain ⟨_, _, ⟨T75, L75, k75, n75⟩, -, X75, ⟨Lc75, hQ75, l75, y75, z75⟩, st75⟩ := X74.virtualBack hx (y := (⟨"com/example/capd/capd/status/Bitstring", "get", "(I)Z"⟩ : MethodName)) (z := (⟨"com/example/capd/capd/status/Bitstring", "get", "(I)Z"⟩ : MethodName)) hown (mvT hZ (hw _ (List.mem_of_getElem? (i := 47) rfl))) (mvT hZ (hw _ (List.mem_of_getElem? (i := 48) rfl))) (notFace_of_selects (args := #[]) (mvT hZ (hw _ (List.mem_of_getElem? (i := 50) rfl)))) (mvT hZ (hw _ (List.mem_of_getElem? (i := 50) rfl))) (mvT hZ (hw _ (List.mem_of_getElem? (i := 49) rfl))) (by decide) (backOf (W := 0) (rm7 l Z a0 hw [] b71_0 j3 (131072 : Int32) b71_1 k10_1 (u_11_w_words_a1_fn j2 (131072 : Int32) (u_11_w_words_a1_fn j1 (131072 : Int32) (fun _ => 0) (0 : Int32)) (u_11_a1_count j1 (131072 : Int32) (fun _ => 0) (0 : Int32))) T71.heap n0 Z0 F_b71_0_size hhhhc1_3_5_273 hhhhc6_3_5_273 F_b71_0_words V_b71_1 hhlo17_273 hhhi17_273) hZ (hw _ (List.mem_of_getElem? (i := 51) rfl)) (hw _ (List.mem_of_getElem? (i := 3) rfl)) (by decide) (by decide)) q75a q75c (g := (mkF m 273 #[.val (.int p1), .val (.int p2), .val (.int p3), .val (.int p4), .val (.int p5), .val (.int j1), .val (.int j2), .val (.int j3), .val (.int j4), .val (.int j5), .val (.int j7), .val (.ref b9), .val (.int j68), .val (.int (1 : Int32)), .val (.int j69), .val (.ref b71_0), .val (.int (1 : Int32)), .unset, .unset] [(.int j3), (.ref b71_0)])) rfl (by rw [hml]; rfl) (Steps.refl _) (argsL := [(.int j3)]) (rest := []) (lenOf pd_5 rfl) rfl (by show 2 * 0 + _ ≤ _; exact Nat.le_of_eq rfl) (hb hby at_273) (fun _ _ => ⟨rfl, e74, (by decide : 4 + 0 ≤ _), (by decide : 4102 + 0 ≤ _)⟩)
      dsimp only [Pt.U, Pt.locs, Pt.cells, Pt.slots] at X75 l75 y75 z75 st75 hQ75
      subst l75 y75 z75
      obtain ⟨rfl, N75q, e75⟩ := hQ75
      have NN := Fr.app NN N75q
      refine own_go (fun t k => st75.trans k) ?_
      show own_Go p.tables e below _ T75 (mkF m 276 #[.val (.int p1), .val (.int p2), .val (.int p3), .val (.int p4), .val (.int p5), .val (.int j1), .val (.int j2), .val (.int j3), .val (.int j4), .val (.int j5), .val (.int j7), .val (.ref b9), .val (.int j68), .val (.int (1 : Int32)), .val (.int j69), .val (.ref b71_0), .val (.int (1 : Int32)), .unset, .unset] [(.int (r_7 j3 (131072 : Int32) (u_11_w_words_a1_fn j2 (131072 : Int32) (u_11_w_words_a1_fn j1 (131072 : Int32) (fun _ => 0) (0 : Int32)) (u_11_a1_count j1 (131072 : Int32) (fun _ => 0) (0 : Int32)))))])
      refine own_go (T' := T75) (g' := (mkF m 278 #[.val (.int p1), .val (.int p2), .val (.int p3), .val (.int p4), .val (.int p5), .val (.int j1), .val (.int j2), .val (.int j3), .val (.int j4), .val (.int j5), .val (.int j7), .val (.ref b9), .val (.int j68), .val (.int (1 : Int32)), .val (.int j69), .val (.ref b71_0), .val (.int (1 : Int32)), .unset, .unset] [(.int j69), (.int (r_7 j3 (131072 : Int32) (u_11_w_words_a1_fn j2 (131072 : Int32) (u_11_w_words_a1_fn j1 (131072 : Int32) (fun _ => 0) (0 : Int32)) (u_11_a1_count j1 (131072 : Int32) (fun _ => 0) (0 : Int32)))))])) (fun t k => ?_) ?_
      · show Steps p.tables e below (T75.setTop (mkF m 276 #[.val (.int p1), .val (.int p2), .val (.int p3), .val (.int p4), .val (.int p5), .val (.int j1), .val (.int j2), .val (.int j3), .val (.int j4), .val (.int j5), .val (.int j7), .val (.ref b9), .val (.int j68), .val (.int (1 : Int32)), .val (.int j69), .val (.ref b71_0), .val (.int (1 : Int32)), .unset, .unset] [(.int (r_7 j3 (131072 : Int32) (u_11_w_words_a1_fn j2 (131072 : Int32) (u_11_w_words_a1_fn j1 (131072 : Int32) (fun _ => 0) (0 : Int32)) (u_11_a1_count j1 (131072 : Int32) (fun _ => 0) (0 : Int32)))))])) _
        refine XS.iload X75.here hx rfl (hb hby at_276) rfl ?_
        exact k
      have hs278 : (r_7 j3 (131072 : Int32) (u_11_w_words_a1_fn j2 (131072 : Int32) (u_11_w_words_a1_fn j1 (131072 : Int32) (fun _ => 0) (0 : Int32)) (u_11_a1_count j1 (131072 : Int32) (fun _ => 0) (0 : Int32)))) = j69 := own_at_hs278_ff p1 p2 p3 p5 j1 j2 j3 j5 j7 j66 j68 j69 hj1 hj2 hj3 hj5 hj7 hj66 hj68 hj69 hc63_3 hhhhc1_3_5_70 hhhhc6_3_5_70 hhhlo17_11_70 hhhhi17_11_70 hc75_11 hhhhc1_3_5_82 hhhhc6_3_5_82 hhhlo17_11_82 hhhhi17_11_82 hs208 hs230 hs254 hhhhc1_3_5_273 hhhhc6_3_5_273 hhlo17_273 hhhi17_273
      refine own_go (T' := T75) (g' := (mkF m 292 #[.val (.int p1), .val (.int p2), .val (.int p3), .val (.int p4), .val (.int p5), .val (.int j1), .val (.int j2), .val (.int j3), .val (.int j4), .val (.int j5), .val (.int j7), .val (.ref b9), .val (.int j68), .val (.int (1 : Int32)), .val (.int j69), .val (.ref b71_0), .val (.int (1 : Int32)), .unset, .unset] [(.int j3), (.ref b71_0)])) (fun t k => ?_) ?_
      · show Steps p.tables e below (T75.setTop (mkF m 278 #[.val (.int p1), .val (.int p2), .val (.int p3), .val (.int p4), .val (.int p5), .val (.int j1), .val (.int j2), .val (.int j3), .val (.int j4), .val (.int j5), .val (.int j7), .val (.ref b9), .val (.int j68), .val (.int (1 : Int32)), .val (.int j69), .val (.ref b71_0), .val (.int (1 : Int32)), .unset, .unset] [(.int j69), (.int (r_7 j3 (131072 : Int32) (u_11_w_words_a1_fn j2 (131072 : Int32) (u_11_w_words_a1_fn j1 (131072 : Int32) (fun _ => 0) (0 : Int32)) (u_11_a1_count j1 (131072 : Int32) (fun _ => 0) (0 : Int32)))))])) _
        refine XS.icmpNo X75.here hx rfl (hb hby at_278) rfl (teq hs278).2 ?_
        show Steps p.tables e below (T75.setTop (mkF m 281 #[.val (.int p1), .val (.int p2), .val (.int p3), .val (.int p4), .val (.int p5), .val (.int j1), .val (.int j2), .val (.int j3), .val (.int j4), .val (.int j5), .val (.int j7), .val (.ref b9), .val (.int j68), .val (.int (1 : Int32)), .val (.int j69), .val (.ref b71_0), .val (.int (1 : Int32)), .unset, .unset] [])) _
        refine XS.iconst X75.here hx rfl (hb hby at_281) ?_
        show Steps p.tables e below (T75.setTop (mkF m 282 #[.val (.int p1), .val (.int p2), .val (.int p3), .val (.int p4), .val (.int p5), .val (.int j1), .val (.int j2), .val (.int j3), .val (.int j4), .val (.int j5), .val (.int j7), .val (.ref b9), .val (.int j68), .val (.int (1 : Int32)), .val (.int j69), .val (.ref b71_0), .val (.int (1 : Int32)), .unset, .unset] [(.int (1 : Int32))])) _
        refine XS.goto X75.here hx rfl (pc0 := 282) (pc' := 286) rfl (hb hby at_282) (by decide) (by decide) ?_
        show Steps p.tables e below (T75.setTop (mkF m 286 #[.val (.int p1), .val (.int p2), .val (.int p3), .val (.int p4), .val (.int p5), .val (.int j1), .val (.int j2), .val (.int j3), .val (.int j4), .val (.int j5), .val (.int j7), .val (.ref b9), .val (.int j68), .val (.int (1 : Int32)), .val (.int j69), .val (.ref b71_0), .val (.int (1 : Int32)), .unset, .unset] [(.int (1 : Int32))])) _
        refine XS.istore X75.here hx rfl (hb hby at_286) rfl (l' := #[.val (.int p1), .val (.int p2), .val (.int p3), .val (.int p4), .val (.int p5), .val (.int j1), .val (.int j2), .val (.int j3), .val (.int j4), .val (.int j5), .val (.int j7), .val (.ref b9), .val (.int j68), .val (.int (1 : Int32)), .val (.int j69), .val (.ref b71_0), .val (.int (1 : Int32)), .unset, .unset]) rfl ?_
        show Steps p.tables e below (T75.setTop (mkF m 288 #[.val (.int p1), .val (.int p2), .val (.int p3), .val (.int p4), .val (.int p5), .val (.int j1), .val (.int j2), .val (.int j3), .val (.int j4), .val (.int j5), .val (.int j7), .val (.ref b9), .val (.int j68), .val (.int (1 : Int32)), .val (.int j69), .val (.ref b71_0), .val (.int (1 : Int32)), .unset, .unset] [])) _
        refine XS.aload X75.here hx rfl (hb hby at_288) rfl rfl ?_
        show Steps p.tables e below (T75.setTop (mkF m 290 #[.val (.int p1), .val (.int p2), .val (.int p3), .val (.int p4), .val (.int p5), .val (.int j1), .val (.int j2), .val (.int j3), .val (.int j4), .val (.int j5), .val (.int j7), .val (.ref b9), .val (.int j68), .val (.int (1 : Int32)), .val (.int j69), .val (.ref b71_0), .val (.int (1 : Int32)), .unset, .unset] [(.ref b71_0)])) _
        refine XS.iload X75.here hx rfl (hb hby at_290) rfl ?_
        exact k
      obtain ⟨cq76, kq76, q76a, q76b, q76c⟩ := isOf hZ e75 E_b71_0
      obtain ⟨_, _, ⟨T76, L76, k76, n76⟩, -, X76, ⟨Lc76, hQ76, l76, y76, z76⟩, st76⟩ := X75.virtualBack hx (y := (⟨"com/example/capd/capd/status/Bitstring", "set", "(I)V"⟩ : MethodName)) (z := (⟨"com/example/capd/capd/status/Bitstring", "set", "(I)V"⟩ : MethodName)) hown (mvT hZ (hw _ (List.mem_of_getElem? (i := 64) rfl))) (mvT hZ (hw _ (List.mem_of_getElem? (i := 65) rfl))) (notFace_of_selects (args := #[]) (mvT hZ (hw _ (List.mem_of_getElem? (i := 67) rfl)))) (mvT hZ (hw _ (List.mem_of_getElem? (i := 67) rfl))) (mvT hZ (hw _ (List.mem_of_getElem? (i := 66) rfl))) (by decide) (backOf (W := 0) (rm11 l Z a0 hw [] b71_0 j3 (131072 : Int32) b71_1 k10_1 (u_11_w_words_a1_fn j2 (131072 : Int32) (u_11_w_words_a1_fn j1 (131072 : Int32) (fun _ => 0) (0 : Int32)) (u_11_a1_count j1 (131072 : Int32) (fun _ => 0) (0 : Int32))) (u_11_a1_count j2 (131072 : Int32) (u_11_w_words_a1_fn j1 (131072 : Int32) (fun _ => 0) (0 : Int32)) (u_11_a1_count j1 (131072 : Int32) (fun _ => 0) (0 : Int32))) T71.heap n0 Z0 F_b71_0_size hhhhc1_3_5_273 hhhhc6_3_5_273 hhhhc1_3_5_273 hhhhc6_3_5_273 F_b71_0_words V_b71_1 hhlo17_273 hhhi17_273 E_b71_0 hhlo17_273 hhhi17_273 hhlo17_273 hhhi17_273 ne_b71_0_b71_1 g_b71_1 F_b71_0_count g_b71_0) hZ (hw _ (List.mem_of_getElem? (i := 68) rfl)) (hw _ (List.mem_of_getElem? (i := 3) rfl)) (by decide) (by decide)) q76a q76c (g := (mkF m 292 #[.val (.int p1), .val (.int p2), .val (.int p3), .val (.int p4), .val (.int p5), .val (.int j1), .val (.int j2), .val (.int j3), .val (.int j4), .val (.int j5), .val (.int j7), .val (.ref b9), .val (.int j68), .val (.int (1 : Int32)), .val (.int j69), .val (.ref b71_0), .val (.int (1 : Int32)), .unset, .unset] [(.int j3), (.ref b71_0)])) rfl (by rw [hml]; rfl) (Steps.refl _) (argsL := [(.int j3)]) (rest := []) (lenOf pd_9 rfl) rfl (by show 2 * 0 + _ ≤ _; exact Nat.le_of_eq rfl) (hb hby at_292) (fun _ _ => ⟨rfl, e75, (by decide : 4 + 0 ≤ _), (by decide : 4102 + 0 ≤ _)⟩)
      dsimp only [Pt.U, Pt.locs, Pt.cells, Pt.slots] at X76 l76 y76 z76 st76 hQ76
      subst l76 y76 z76
      obtain ⟨rfl, N76q, K76, Q76_0, Q76_1, Q76_2, Q76_3, Q76_4⟩ := hQ76
      have E_b9 := E_b9.keep K76
      have F_b9_words := F_b9_words.keep K76 (ninS ne_b9_b71_1 (ninS ne_b9_b71_0 nin0))
      have F_b9_size := F_b9_size.keep K76 (ninS ne_b9_b71_1 (ninS ne_b9_b71_0 nin0))
      have F_b9_count := F_b9_count.keep K76 (ninS ne_b9_b71_1 (ninS ne_b9_b71_0 nin0))
      have E_b10_0 := E_b10_0.keep K76
      have V_b10_0 := V_b10_0.keep K76 (ninS ne_b10_0_b71_1 (ninS ne_b10_0_b71_0 nin0))
      have E_b71_1 := E_b71_1.keep K76
      have V_b71_1 := Q76_0
      have E_b71_0 := Q76_1
      have F_b71_0_size := Q76_2
      have F_b71_0_words := Q76_3
      have F_b71_0_count := Q76_4
      have Z0 := Nat.le_trans Z0 K76.1
      have KK := KK.trans K76 (allS (Or.inr sz_b71_1) (allS (Or.inr sz_b71_0) all0))
      have NN := Fr.app NN N76q
      refine own_go (fun t k => st76.trans k) ?_
      show own_Go p.tables e below _ T76 (mkF m 295 #[.val (.int p1), .val (.int p2), .val (.int p3), .val (.int p4), .val (.int p5), .val (.int j1), .val (.int j2), .val (.int j3), .val (.int j4), .val (.int j5), .val (.int j7), .val (.ref b9), .val (.int j68), .val (.int (1 : Int32)), .val (.int j69), .val (.ref b71_0), .val (.int (1 : Int32)), .unset, .unset] [])
      refine own_go (T' := T76) (g' := (mkF m 297 #[.val (.int p1), .val (.int p2), .val (.int p3), .val (.int p4), .val (.int p5), .val (.int j1), .val (.int j2), .val (.int j3), .val (.int j4), .val (.int j5), .val (.int j7), .val (.ref b9), .val (.int j68), .val (.int (1 : Int32)), .val (.int j69), .val (.ref b71_0), .val (.int (1 : Int32)), .unset, .unset] [(.int (1 : Int32))])) (fun t k => ?_) ?_
      · show Steps p.tables e below (T76.setTop (mkF m 295 #[.val (.int p1), .val (.int p2), .val (.int p3), .val (.int p4), .val (.int p5), .val (.int j1), .val (.int j2), .val (.int j3), .val (.int j4), .val (.int j5), .val (.int j7), .val (.ref b9), .val (.int j68), .val (.int (1 : Int32)), .val (.int j69), .val (.ref b71_0), .val (.int (1 : Int32)), .unset, .unset] [])) _
        refine XS.iload X76.here hx rfl (hb hby at_295) rfl ?_
        exact k
      refine own_go (T' := T76) (g' := (mkF m 304 #[.val (.int p1), .val (.int p2), .val (.int p3), .val (.int p4), .val (.int p5), .val (.int j1), .val (.int j2), .val (.int j3), .val (.int j4), .val (.int j5), .val (.int j7), .val (.ref b9), .val (.int j68), .val (.int (1 : Int32)), .val (.int j69), .val (.ref b71_0), .val (.int (1 : Int32)), .unset, .unset] [(.int j3), (.ref b9)])) (fun t k => ?_) ?_
      · show Steps p.tables e below (T76.setTop (mkF m 297 #[.val (.int p1), .val (.int p2), .val (.int p3), .val (.int p4), .val (.int p5), .val (.int j1), .val (.int j2), .val (.int j3), .val (.int j4), .val (.int j5), .val (.int j7), .val (.ref b9), .val (.int j68), .val (.int (1 : Int32)), .val (.int j69), .val (.ref b71_0), .val (.int (1 : Int32)), .unset, .unset] [(.int (1 : Int32))])) _
        refine XS.ifNo X76.here hx rfl (hb hby at_297) rfl ((if0 _ _).trans (feq (by decide : ¬ ((1 : Int32) = (0 : Int32)))).1) ?_
        show Steps p.tables e below (T76.setTop (mkF m 300 #[.val (.int p1), .val (.int p2), .val (.int p3), .val (.int p4), .val (.int p5), .val (.int j1), .val (.int j2), .val (.int j3), .val (.int j4), .val (.int j5), .val (.int j7), .val (.ref b9), .val (.int j68), .val (.int (1 : Int32)), .val (.int j69), .val (.ref b71_0), .val (.int (1 : Int32)), .unset, .unset] [])) _
        refine XS.aload X76.here hx rfl (hb hby at_300) rfl rfl ?_
        show Steps p.tables e below (T76.setTop (mkF m 302 #[.val (.int p1), .val (.int p2), .val (.int p3), .val (.int p4), .val (.int p5), .val (.int j1), .val (.int j2), .val (.int j3), .val (.int j4), .val (.int j5), .val (.int j7), .val (.ref b9), .val (.int j68), .val (.int (1 : Int32)), .val (.int j69), .val (.ref b71_0), .val (.int (1 : Int32)), .unset, .unset] [(.ref b9)])) _
        refine XS.iload X76.here hx rfl (hb hby at_302) rfl ?_
        exact k
      obtain ⟨cq77, kq77, q77a, q77b, q77c⟩ := isOf hZ rfl E_b9
      obtain ⟨_, _, ⟨T77, L77, k77, n77⟩, -, X77, ⟨Lc77, hQ77, l77, y77, z77⟩, st77⟩ := X76.virtualBack hx (y := (⟨"com/example/capd/capd/status/Bitstring", "get", "(I)Z"⟩ : MethodName)) (z := (⟨"com/example/capd/capd/status/Bitstring", "get", "(I)Z"⟩ : MethodName)) hown (mvT hZ (hw _ (List.mem_of_getElem? (i := 47) rfl))) (mvT hZ (hw _ (List.mem_of_getElem? (i := 48) rfl))) (notFace_of_selects (args := #[]) (mvT hZ (hw _ (List.mem_of_getElem? (i := 50) rfl)))) (mvT hZ (hw _ (List.mem_of_getElem? (i := 50) rfl))) (mvT hZ (hw _ (List.mem_of_getElem? (i := 49) rfl))) (by decide) (backOf (W := 0) (rm7 l Z a0 hw [] b9 j3 (131072 : Int32) b10_0 k10_1 (u_11_w_words_a1_fn j2 (131072 : Int32) (u_11_w_words_a1_fn j1 (131072 : Int32) (fun _ => 0) (0 : Int32)) (u_11_a1_count j1 (131072 : Int32) (fun _ => 0) (0 : Int32))) T76.heap n0 Z0 F_b9_size hhhhc1_3_5_273 hhhhc6_3_5_273 F_b9_words V_b10_0 hhlo17_273 hhhi17_273) hZ (hw _ (List.mem_of_getElem? (i := 51) rfl)) (hw _ (List.mem_of_getElem? (i := 3) rfl)) (by decide) (by decide)) q77a q77c (g := (mkF m 304 #[.val (.int p1), .val (.int p2), .val (.int p3), .val (.int p4), .val (.int p5), .val (.int j1), .val (.int j2), .val (.int j3), .val (.int j4), .val (.int j5), .val (.int j7), .val (.ref b9), .val (.int j68), .val (.int (1 : Int32)), .val (.int j69), .val (.ref b71_0), .val (.int (1 : Int32)), .unset, .unset] [(.int j3), (.ref b9)])) rfl (by rw [hml]; rfl) (Steps.refl _) (argsL := [(.int j3)]) (rest := []) (lenOf pd_5 rfl) rfl (by show 2 * 0 + _ ≤ _; exact Nat.le_of_eq rfl) (hb hby at_304) (fun _ _ => ⟨rfl, rfl, (by decide : 4 + 0 ≤ _), (by decide : 4102 + 0 ≤ _)⟩)
      dsimp only [Pt.U, Pt.locs, Pt.cells, Pt.slots] at X77 l77 y77 z77 st77 hQ77
      subst l77 y77 z77
      obtain ⟨rfl, N77q, e77⟩ := hQ77
      have NN := Fr.app NN N77q
      refine own_go (fun t k => st77.trans k) ?_
      show own_Go p.tables e below _ T77 (mkF m 307 #[.val (.int p1), .val (.int p2), .val (.int p3), .val (.int p4), .val (.int p5), .val (.int j1), .val (.int j2), .val (.int j3), .val (.int j4), .val (.int j5), .val (.int j7), .val (.ref b9), .val (.int j68), .val (.int (1 : Int32)), .val (.int j69), .val (.ref b71_0), .val (.int (1 : Int32)), .unset, .unset] [(.int (r_7 j3 (131072 : Int32) (u_11_w_words_a1_fn j2 (131072 : Int32) (u_11_w_words_a1_fn j1 (131072 : Int32) (fun _ => 0) (0 : Int32)) (u_11_a1_count j1 (131072 : Int32) (fun _ => 0) (0 : Int32)))))])
      refine own_go (T' := T77) (g' := (mkF m 309 #[.val (.int p1), .val (.int p2), .val (.int p3), .val (.int p4), .val (.int p5), .val (.int j1), .val (.int j2), .val (.int j3), .val (.int j4), .val (.int j5), .val (.int j7), .val (.ref b9), .val (.int j68), .val (.int (1 : Int32)), .val (.int j69), .val (.ref b71_0), .val (.int (1 : Int32)), .unset, .unset] [(.int j69), (.int (r_7 j3 (131072 : Int32) (u_11_w_words_a1_fn j2 (131072 : Int32) (u_11_w_words_a1_fn j1 (131072 : Int32) (fun _ => 0) (0 : Int32)) (u_11_a1_count j1 (131072 : Int32) (fun _ => 0) (0 : Int32)))))])) (fun t k => ?_) ?_
      · show Steps p.tables e below (T77.setTop (mkF m 307 #[.val (.int p1), .val (.int p2), .val (.int p3), .val (.int p4), .val (.int p5), .val (.int j1), .val (.int j2), .val (.int j3), .val (.int j4), .val (.int j5), .val (.int j7), .val (.ref b9), .val (.int j68), .val (.int (1 : Int32)), .val (.int j69), .val (.ref b71_0), .val (.int (1 : Int32)), .unset, .unset] [(.int (r_7 j3 (131072 : Int32) (u_11_w_words_a1_fn j2 (131072 : Int32) (u_11_w_words_a1_fn j1 (131072 : Int32) (fun _ => 0) (0 : Int32)) (u_11_a1_count j1 (131072 : Int32) (fun _ => 0) (0 : Int32)))))])) _
        refine XS.iload X77.here hx rfl (hb hby at_307) rfl ?_
        exact k
      refine own_go (T' := T77) (g' := (mkF m 323 #[.val (.int p1), .val (.int p2), .val (.int p3), .val (.int p4), .val (.int p5), .val (.int j1), .val (.int j2), .val (.int j3), .val (.int j4), .val (.int j5), .val (.int j7), .val (.ref b9), .val (.int j68), .val (.int (1 : Int32)), .val (.int j69), .val (.ref b71_0), .val (.int (1 : Int32)), .unset, .unset] [(.int j69), (.int j68)])) (fun t k => ?_) ?_
      · show Steps p.tables e below (T77.setTop (mkF m 309 #[.val (.int p1), .val (.int p2), .val (.int p3), .val (.int p4), .val (.int p5), .val (.int j1), .val (.int j2), .val (.int j3), .val (.int j4), .val (.int j5), .val (.int j7), .val (.ref b9), .val (.int j68), .val (.int (1 : Int32)), .val (.int j69), .val (.ref b71_0), .val (.int (1 : Int32)), .unset, .unset] [(.int j69), (.int (r_7 j3 (131072 : Int32) (u_11_w_words_a1_fn j2 (131072 : Int32) (u_11_w_words_a1_fn j1 (131072 : Int32) (fun _ => 0) (0 : Int32)) (u_11_a1_count j1 (131072 : Int32) (fun _ => 0) (0 : Int32)))))])) _
        refine XS.icmpNo X77.here hx rfl (hb hby at_309) rfl (teq hs278).2 ?_
        show Steps p.tables e below (T77.setTop (mkF m 312 #[.val (.int p1), .val (.int p2), .val (.int p3), .val (.int p4), .val (.int p5), .val (.int j1), .val (.int j2), .val (.int j3), .val (.int j4), .val (.int j5), .val (.int j7), .val (.ref b9), .val (.int j68), .val (.int (1 : Int32)), .val (.int j69), .val (.ref b71_0), .val (.int (1 : Int32)), .unset, .unset] [])) _
        refine XS.iconst X77.here hx rfl (hb hby at_312) ?_
        show Steps p.tables e below (T77.setTop (mkF m 313 #[.val (.int p1), .val (.int p2), .val (.int p3), .val (.int p4), .val (.int p5), .val (.int j1), .val (.int j2), .val (.int j3), .val (.int j4), .val (.int j5), .val (.int j7), .val (.ref b9), .val (.int j68), .val (.int (1 : Int32)), .val (.int j69), .val (.ref b71_0), .val (.int (1 : Int32)), .unset, .unset] [(.int (1 : Int32))])) _
        refine XS.goto X77.here hx rfl (pc0 := 313) (pc' := 317) rfl (hb hby at_313) (by decide) (by decide) ?_
        show Steps p.tables e below (T77.setTop (mkF m 317 #[.val (.int p1), .val (.int p2), .val (.int p3), .val (.int p4), .val (.int p5), .val (.int j1), .val (.int j2), .val (.int j3), .val (.int j4), .val (.int j5), .val (.int j7), .val (.ref b9), .val (.int j68), .val (.int (1 : Int32)), .val (.int j69), .val (.ref b71_0), .val (.int (1 : Int32)), .unset, .unset] [(.int (1 : Int32))])) _
        refine XS.istore X77.here hx rfl (hb hby at_317) rfl (l' := #[.val (.int p1), .val (.int p2), .val (.int p3), .val (.int p4), .val (.int p5), .val (.int j1), .val (.int j2), .val (.int j3), .val (.int j4), .val (.int j5), .val (.int j7), .val (.ref b9), .val (.int j68), .val (.int (1 : Int32)), .val (.int j69), .val (.ref b71_0), .val (.int (1 : Int32)), .unset, .unset]) rfl ?_
        show Steps p.tables e below (T77.setTop (mkF m 319 #[.val (.int p1), .val (.int p2), .val (.int p3), .val (.int p4), .val (.int p5), .val (.int j1), .val (.int j2), .val (.int j3), .val (.int j4), .val (.int j5), .val (.int j7), .val (.ref b9), .val (.int j68), .val (.int (1 : Int32)), .val (.int j69), .val (.ref b71_0), .val (.int (1 : Int32)), .unset, .unset] [])) _
        refine XS.iload X77.here hx rfl (hb hby at_319) rfl ?_
        show Steps p.tables e below (T77.setTop (mkF m 321 #[.val (.int p1), .val (.int p2), .val (.int p3), .val (.int p4), .val (.int p5), .val (.int j1), .val (.int j2), .val (.int j3), .val (.int j4), .val (.int j5), .val (.int j7), .val (.ref b9), .val (.int j68), .val (.int (1 : Int32)), .val (.int j69), .val (.ref b71_0), .val (.int (1 : Int32)), .unset, .unset] [(.int j68)])) _
        refine XS.iload X77.here hx rfl (hb hby at_321) rfl ?_
        exact k
      obtain ⟨j78, hj78, st79⟩ : ∃ (j78 : Int32), j78 = (if j69 = (0 : Int32) then (1 : Int32) else (0 : Int32)) ∧ ∀ t, Steps p.tables e below (T77.setTop (mkF m 331 #[.val (.int p1), .val (.int p2), .val (.int p3), .val (.int p4), .val (.int p5), .val (.int j1), .val (.int j2), .val (.int j3), .val (.int j4), .val (.int j5), .val (.int j7), .val (.ref b9), .val (.int j68), .val (.int (1 : Int32)), .val (.int j69), .val (.ref b71_0), .val (.int (1 : Int32)), .unset, .unset] [(.int j78), (.int j68)])) t → Steps p.tables e below (T77.setTop (mkF m 323 #[.val (.int p1), .val (.int p2), .val (.int p3), .val (.int p4), .val (.int p5), .val (.int j1), .val (.int j2), .val (.int j3), .val (.int j4), .val (.int j5), .val (.int j7), .val (.ref b9), .val (.int j68), .val (.int (1 : Int32)), .val (.int j69), .val (.ref b71_0), .val (.int (1 : Int32)), .unset, .unset] [(.int j69), (.int j68)])) t := by
        by_cases hc323_19 : j69 = (0 : Int32)
        · skip
          refine ⟨(1 : Int32), (by simp only [if_pos hc323_19]), fun t k => ?_⟩
          show Steps p.tables e below (T77.setTop (mkF m 323 #[.val (.int p1), .val (.int p2), .val (.int p3), .val (.int p4), .val (.int p5), .val (.int j1), .val (.int j2), .val (.int j3), .val (.int j4), .val (.int j5), .val (.int j7), .val (.ref b9), .val (.int j68), .val (.int (1 : Int32)), .val (.int j69), .val (.ref b71_0), .val (.int (1 : Int32)), .unset, .unset] [(.int j69), (.int j68)])) _
          refine XS.ifYes X77.here hx rfl (pc0 := 323) (pc' := 330) rfl (hb hby at_323) rfl ((if0 _ _).trans (teq hc323_19).1) (by decide) (by decide) ?_
          show Steps p.tables e below (T77.setTop (mkF m 330 #[.val (.int p1), .val (.int p2), .val (.int p3), .val (.int p4), .val (.int p5), .val (.int j1), .val (.int j2), .val (.int j3), .val (.int j4), .val (.int j5), .val (.int j7), .val (.ref b9), .val (.int j68), .val (.int (1 : Int32)), .val (.int j69), .val (.ref b71_0), .val (.int (1 : Int32)), .unset, .unset] [(.int j68)])) _
          refine XS.iconst X77.here hx rfl (hb hby at_330) ?_
          exact k
        · skip
          refine ⟨(0 : Int32), (by simp only [if_neg hc323_19]), fun t k => ?_⟩
          show Steps p.tables e below (T77.setTop (mkF m 323 #[.val (.int p1), .val (.int p2), .val (.int p3), .val (.int p4), .val (.int p5), .val (.int j1), .val (.int j2), .val (.int j3), .val (.int j4), .val (.int j5), .val (.int j7), .val (.ref b9), .val (.int j68), .val (.int (1 : Int32)), .val (.int j69), .val (.ref b71_0), .val (.int (1 : Int32)), .unset, .unset] [(.int j69), (.int j68)])) _
          refine XS.ifNo X77.here hx rfl (hb hby at_323) rfl ((if0 _ _).trans (feq hc323_19).1) ?_
          show Steps p.tables e below (T77.setTop (mkF m 326 #[.val (.int p1), .val (.int p2), .val (.int p3), .val (.int p4), .val (.int p5), .val (.int j1), .val (.int j2), .val (.int j3), .val (.int j4), .val (.int j5), .val (.int j7), .val (.ref b9), .val (.int j68), .val (.int (1 : Int32)), .val (.int j69), .val (.ref b71_0), .val (.int (1 : Int32)), .unset, .unset] [(.int j68)])) _
          refine XS.iconst X77.here hx rfl (hb hby at_326) ?_
          show Steps p.tables e below (T77.setTop (mkF m 327 #[.val (.int p1), .val (.int p2), .val (.int p3), .val (.int p4), .val (.int p5), .val (.int j1), .val (.int j2), .val (.int j3), .val (.int j4), .val (.int j5), .val (.int j7), .val (.ref b9), .val (.int j68), .val (.int (1 : Int32)), .val (.int j69), .val (.ref b71_0), .val (.int (1 : Int32)), .unset, .unset] [(.int (0 : Int32)), (.int j68)])) _
          refine XS.goto X77.here hx rfl (pc0 := 327) (pc' := 331) rfl (hb hby at_327) (by decide) (by decide) ?_
          exact k
      refine own_go st79 ?_
      show own_Go p.tables e below _ T77 (mkF m 331 #[.val (.int p1), .val (.int p2), .val (.int p3), .val (.int p4), .val (.int p5), .val (.int j1), .val (.int j2), .val (.int j3), .val (.int j4), .val (.int j5), .val (.int j7), .val (.ref b9), .val (.int j68), .val (.int (1 : Int32)), .val (.int j69), .val (.ref b71_0), .val (.int (1 : Int32)), .unset, .unset] [(.int j78), (.int j68)])
      refine own_go (T' := T77) (g' := (mkF m 334 #[.val (.int p1), .val (.int p2), .val (.int p3), .val (.int p4), .val (.int p5), .val (.int j1), .val (.int j2), .val (.int j3), .val (.int j4), .val (.int j5), .val (.int j7), .val (.ref b9), .val (.int j68), .val (.int (1 : Int32)), .val (.int j69), .val (.ref b71_0), .val (.int (1 : Int32)), .val (.int (j68 + j78)), .unset] [])) (fun t k => ?_) ?_
      · show Steps p.tables e below (T77.setTop (mkF m 331 #[.val (.int p1), .val (.int p2), .val (.int p3), .val (.int p4), .val (.int p5), .val (.int j1), .val (.int j2), .val (.int j3), .val (.int j4), .val (.int j5), .val (.int j7), .val (.ref b9), .val (.int j68), .val (.int (1 : Int32)), .val (.int j69), .val (.ref b71_0), .val (.int (1 : Int32)), .unset, .unset] [(.int j78), (.int j68)])) _
        refine XS.iadd X77.here hx rfl (hb hby at_331) rfl ?_
        show Steps p.tables e below (T77.setTop (mkF m 332 #[.val (.int p1), .val (.int p2), .val (.int p3), .val (.int p4), .val (.int p5), .val (.int j1), .val (.int j2), .val (.int j3), .val (.int j4), .val (.int j5), .val (.int j7), .val (.ref b9), .val (.int j68), .val (.int (1 : Int32)), .val (.int j69), .val (.ref b71_0), .val (.int (1 : Int32)), .unset, .unset] [(.int (j68 + j78))])) _
        refine XS.istore X77.here hx rfl (hb hby at_332) rfl (l' := #[.val (.int p1), .val (.int p2), .val (.int p3), .val (.int p4), .val (.int p5), .val (.int j1), .val (.int j2), .val (.int j3), .val (.int j4), .val (.int j5), .val (.int j7), .val (.ref b9), .val (.int j68), .val (.int (1 : Int32)), .val (.int j69), .val (.ref b71_0), .val (.int (1 : Int32)), .val (.int (j68 + j78)), .unset]) rfl ?_
        exact k
      show own_Go p.tables e below _ T77 (mkF m 334 #[.val (.int p1), .val (.int p2), .val (.int p3), .val (.int p4), .val (.int p5), .val (.int j1), .val (.int j2), .val (.int j3), .val (.int j4), .val (.int j5), .val (.int j7), .val (.ref b9), .val (.int j68), .val (.int (1 : Int32)), .val (.int j69), .val (.ref b71_0), .val (.int (1 : Int32)), .val (.int (j68 + j78)), .unset] [])
      obtain ⟨j80, hj80⟩ : ∃ z : Int32, z = (j68 + j78) := ⟨_, rfl⟩
      rw [← hj80]
      show own_Go p.tables e below _ T77 (mkF m 334 #[.val (.int p1), .val (.int p2), .val (.int p3), .val (.int p4), .val (.int p5), .val (.int j1), .val (.int j2), .val (.int j3), .val (.int j4), .val (.int j5), .val (.int j7), .val (.ref b9), .val (.int j68), .val (.int (1 : Int32)), .val (.int j69), .val (.ref b71_0), .val (.int (1 : Int32)), .val (.int j80), .unset] [])
      refine own_go (T' := T77) (g' := (mkF m 336 #[.val (.int p1), .val (.int p2), .val (.int p3), .val (.int p4), .val (.int p5), .val (.int j1), .val (.int j2), .val (.int j3), .val (.int j4), .val (.int j5), .val (.int j7), .val (.ref b9), .val (.int j68), .val (.int (1 : Int32)), .val (.int j69), .val (.ref b71_0), .val (.int (1 : Int32)), .val (.int j80), .unset] [(.int (1 : Int32))])) (fun t k => ?_) ?_
      · show Steps p.tables e below (T77.setTop (mkF m 334 #[.val (.int p1), .val (.int p2), .val (.int p3), .val (.int p4), .val (.int p5), .val (.int j1), .val (.int j2), .val (.int j3), .val (.int j4), .val (.int j5), .val (.int j7), .val (.ref b9), .val (.int j68), .val (.int (1 : Int32)), .val (.int j69), .val (.ref b71_0), .val (.int (1 : Int32)), .val (.int j80), .unset] [])) _
        refine XS.iload X77.here hx rfl (hb hby at_334) rfl ?_
        exact k
      refine own_go (T' := T77) (g' := (mkF m 341 #[.val (.int p1), .val (.int p2), .val (.int p3), .val (.int p4), .val (.int p5), .val (.int j1), .val (.int j2), .val (.int j3), .val (.int j4), .val (.int j5), .val (.int j7), .val (.ref b9), .val (.int j68), .val (.int (1 : Int32)), .val (.int j69), .val (.ref b71_0), .val (.int (1 : Int32)), .val (.int j80), .unset] [(.ref b71_0)])) (fun t k => ?_) ?_
      · show Steps p.tables e below (T77.setTop (mkF m 336 #[.val (.int p1), .val (.int p2), .val (.int p3), .val (.int p4), .val (.int p5), .val (.int j1), .val (.int j2), .val (.int j3), .val (.int j4), .val (.int j5), .val (.int j7), .val (.ref b9), .val (.int j68), .val (.int (1 : Int32)), .val (.int j69), .val (.ref b71_0), .val (.int (1 : Int32)), .val (.int j80), .unset] [(.int (1 : Int32))])) _
        refine XS.ifNo X77.here hx rfl (hb hby at_336) rfl ((if0 _ _).trans (feq (by decide : ¬ ((1 : Int32) = (0 : Int32)))).1) ?_
        show Steps p.tables e below (T77.setTop (mkF m 339 #[.val (.int p1), .val (.int p2), .val (.int p3), .val (.int p4), .val (.int p5), .val (.int j1), .val (.int j2), .val (.int j3), .val (.int j4), .val (.int j5), .val (.int j7), .val (.ref b9), .val (.int j68), .val (.int (1 : Int32)), .val (.int j69), .val (.ref b71_0), .val (.int (1 : Int32)), .val (.int j80), .unset] [])) _
        refine XS.aload X77.here hx rfl (hb hby at_339) rfl rfl ?_
        exact k
      obtain ⟨cq81, kq81, q81a, q81b, q81c⟩ := isOf hZ e77 E_b71_0
      obtain ⟨_, _, ⟨T81, L81, k81, n81⟩, -, X81, ⟨Lc81, hQ81, l81, y81, z81⟩, st81⟩ := X77.virtualBack hx (y := (⟨"com/example/capd/capd/status/Bitstring", "count", "()I"⟩ : MethodName)) (z := (⟨"com/example/capd/capd/status/Bitstring", "count", "()I"⟩ : MethodName)) hown (mvT hZ (hw _ (List.mem_of_getElem? (i := 42) rfl))) (mvT hZ (hw _ (List.mem_of_getElem? (i := 43) rfl))) (notFace_of_selects (args := #[]) (mvT hZ (hw _ (List.mem_of_getElem? (i := 45) rfl)))) (mvT hZ (hw _ (List.mem_of_getElem? (i := 45) rfl))) (mvT hZ (hw _ (List.mem_of_getElem? (i := 44) rfl))) (by decide) (backOf (W := 0) (rm6 l Z a0 hw [] b71_0 (u_11_a1_count j3 (131072 : Int32) (u_11_w_words_a1_fn j2 (131072 : Int32) (u_11_w_words_a1_fn j1 (131072 : Int32) (fun _ => 0) (0 : Int32)) (u_11_a1_count j1 (131072 : Int32) (fun _ => 0) (0 : Int32))) (u_11_a1_count j2 (131072 : Int32) (u_11_w_words_a1_fn j1 (131072 : Int32) (fun _ => 0) (0 : Int32)) (u_11_a1_count j1 (131072 : Int32) (fun _ => 0) (0 : Int32)))) T76.heap n0 Z0 F_b71_0_count) hZ (hw _ (List.mem_of_getElem? (i := 46) rfl)) (hw _ (List.mem_of_getElem? (i := 3) rfl)) (by decide) (by decide)) q81a q81c (g := (mkF m 341 #[.val (.int p1), .val (.int p2), .val (.int p3), .val (.int p4), .val (.int p5), .val (.int j1), .val (.int j2), .val (.int j3), .val (.int j4), .val (.int j5), .val (.int j7), .val (.ref b9), .val (.int j68), .val (.int (1 : Int32)), .val (.int j69), .val (.ref b71_0), .val (.int (1 : Int32)), .val (.int j80), .unset] [(.ref b71_0)])) rfl (by rw [hml]; rfl) (Steps.refl _) (argsL := []) (rest := []) (lenOf pd_4 rfl) rfl (by show 2 * 0 + _ ≤ _; exact Nat.le_of_eq rfl) (hb hby at_341) (fun _ _ => ⟨rfl, e77, (by decide : 4 + 0 ≤ _), (by decide : 4102 + 0 ≤ _)⟩)
      dsimp only [Pt.U, Pt.locs, Pt.cells, Pt.slots] at X81 l81 y81 z81 st81 hQ81
      subst l81 y81 z81
      obtain ⟨rfl, N81q, e81⟩ := hQ81
      have NN := Fr.app NN N81q
      refine own_go (fun t k => st81.trans k) ?_
      show own_Go p.tables e below _ T81 (mkF m 344 #[.val (.int p1), .val (.int p2), .val (.int p3), .val (.int p4), .val (.int p5), .val (.int j1), .val (.int j2), .val (.int j3), .val (.int j4), .val (.int j5), .val (.int j7), .val (.ref b9), .val (.int j68), .val (.int (1 : Int32)), .val (.int j69), .val (.ref b71_0), .val (.int (1 : Int32)), .val (.int j80), .unset] [(.int (r_6 (u_11_a1_count j3 (131072 : Int32) (u_11_w_words_a1_fn j2 (131072 : Int32) (u_11_w_words_a1_fn j1 (131072 : Int32) (fun _ => 0) (0 : Int32)) (u_11_a1_count j1 (131072 : Int32) (fun _ => 0) (0 : Int32))) (u_11_a1_count j2 (131072 : Int32) (u_11_w_words_a1_fn j1 (131072 : Int32) (fun _ => 0) (0 : Int32)) (u_11_a1_count j1 (131072 : Int32) (fun _ => 0) (0 : Int32))))))])
      refine own_go (T' := T81) (g' := (mkF m 346 #[.val (.int p1), .val (.int p2), .val (.int p3), .val (.int p4), .val (.int p5), .val (.int j1), .val (.int j2), .val (.int j3), .val (.int j4), .val (.int j5), .val (.int j7), .val (.ref b9), .val (.int j68), .val (.int (1 : Int32)), .val (.int j69), .val (.ref b71_0), .val (.int (1 : Int32)), .val (.int j80), .unset] [(.int j80), (.int (r_6 (u_11_a1_count j3 (131072 : Int32) (u_11_w_words_a1_fn j2 (131072 : Int32) (u_11_w_words_a1_fn j1 (131072 : Int32) (fun _ => 0) (0 : Int32)) (u_11_a1_count j1 (131072 : Int32) (fun _ => 0) (0 : Int32))) (u_11_a1_count j2 (131072 : Int32) (u_11_w_words_a1_fn j1 (131072 : Int32) (fun _ => 0) (0 : Int32)) (u_11_a1_count j1 (131072 : Int32) (fun _ => 0) (0 : Int32))))))])) (fun t k => ?_) ?_
      · show Steps p.tables e below (T81.setTop (mkF m 344 #[.val (.int p1), .val (.int p2), .val (.int p3), .val (.int p4), .val (.int p5), .val (.int j1), .val (.int j2), .val (.int j3), .val (.int j4), .val (.int j5), .val (.int j7), .val (.ref b9), .val (.int j68), .val (.int (1 : Int32)), .val (.int j69), .val (.ref b71_0), .val (.int (1 : Int32)), .val (.int j80), .unset] [(.int (r_6 (u_11_a1_count j3 (131072 : Int32) (u_11_w_words_a1_fn j2 (131072 : Int32) (u_11_w_words_a1_fn j1 (131072 : Int32) (fun _ => 0) (0 : Int32)) (u_11_a1_count j1 (131072 : Int32) (fun _ => 0) (0 : Int32))) (u_11_a1_count j2 (131072 : Int32) (u_11_w_words_a1_fn j1 (131072 : Int32) (fun _ => 0) (0 : Int32)) (u_11_a1_count j1 (131072 : Int32) (fun _ => 0) (0 : Int32))))))])) _
        refine XS.iload X81.here hx rfl (hb hby at_344) rfl ?_
        exact k
      have hs346 : (r_6 (u_11_a1_count j3 (131072 : Int32) (u_11_w_words_a1_fn j2 (131072 : Int32) (u_11_w_words_a1_fn j1 (131072 : Int32) (fun _ => 0) (0 : Int32)) (u_11_a1_count j1 (131072 : Int32) (fun _ => 0) (0 : Int32))) (u_11_a1_count j2 (131072 : Int32) (u_11_w_words_a1_fn j1 (131072 : Int32) (fun _ => 0) (0 : Int32)) (u_11_a1_count j1 (131072 : Int32) (fun _ => 0) (0 : Int32))))) = j80 := own_at_hs346_ff p1 p2 p3 p5 j1 j2 j3 j5 j7 j66 j68 j69 j78 j80 hj1 hj2 hj3 hj5 hj7 hj66 hj68 hj69 hj78 hj80 hc63_3 hhhhc1_3_5_70 hhhhc6_3_5_70 hhhlo17_11_70 hhhhi17_11_70 hc75_11 hhhhc1_3_5_82 hhhhc6_3_5_82 hhhlo17_11_82 hhhhi17_11_82 hs208 hs230 hs254 hhhhc1_3_5_273 hhhhc6_3_5_273 hhlo17_273 hhhi17_273 hs278
      refine own_go (T' := T81) (g' := (mkF m 358 #[.val (.int p1), .val (.int p2), .val (.int p3), .val (.int p4), .val (.int p5), .val (.int j1), .val (.int j2), .val (.int j3), .val (.int j4), .val (.int j5), .val (.int j7), .val (.ref b9), .val (.int j68), .val (.int (1 : Int32)), .val (.int j69), .val (.ref b71_0), .val (.int (1 : Int32)), .val (.int j80), .unset] [(.int j5)])) (fun t k => ?_) ?_
      · show Steps p.tables e below (T81.setTop (mkF m 346 #[.val (.int p1), .val (.int p2), .val (.int p3), .val (.int p4), .val (.int p5), .val (.int j1), .val (.int j2), .val (.int j3), .val (.int j4), .val (.int j5), .val (.int j7), .val (.ref b9), .val (.int j68), .val (.int (1 : Int32)), .val (.int j69), .val (.ref b71_0), .val (.int (1 : Int32)), .val (.int j80), .unset] [(.int j80), (.int (r_6 (u_11_a1_count j3 (131072 : Int32) (u_11_w_words_a1_fn j2 (131072 : Int32) (u_11_w_words_a1_fn j1 (131072 : Int32) (fun _ => 0) (0 : Int32)) (u_11_a1_count j1 (131072 : Int32) (fun _ => 0) (0 : Int32))) (u_11_a1_count j2 (131072 : Int32) (u_11_w_words_a1_fn j1 (131072 : Int32) (fun _ => 0) (0 : Int32)) (u_11_a1_count j1 (131072 : Int32) (fun _ => 0) (0 : Int32))))))])) _
        refine XS.icmpNo X81.here hx rfl (hb hby at_346) rfl (teq hs346).2 ?_
        show Steps p.tables e below (T81.setTop (mkF m 349 #[.val (.int p1), .val (.int p2), .val (.int p3), .val (.int p4), .val (.int p5), .val (.int j1), .val (.int j2), .val (.int j3), .val (.int j4), .val (.int j5), .val (.int j7), .val (.ref b9), .val (.int j68), .val (.int (1 : Int32)), .val (.int j69), .val (.ref b71_0), .val (.int (1 : Int32)), .val (.int j80), .unset] [])) _
        refine XS.iconst X81.here hx rfl (hb hby at_349) ?_
        show Steps p.tables e below (T81.setTop (mkF m 350 #[.val (.int p1), .val (.int p2), .val (.int p3), .val (.int p4), .val (.int p5), .val (.int j1), .val (.int j2), .val (.int j3), .val (.int j4), .val (.int j5), .val (.int j7), .val (.ref b9), .val (.int j68), .val (.int (1 : Int32)), .val (.int j69), .val (.ref b71_0), .val (.int (1 : Int32)), .val (.int j80), .unset] [(.int (1 : Int32))])) _
        refine XS.goto X81.here hx rfl (pc0 := 350) (pc' := 354) rfl (hb hby at_350) (by decide) (by decide) ?_
        show Steps p.tables e below (T81.setTop (mkF m 354 #[.val (.int p1), .val (.int p2), .val (.int p3), .val (.int p4), .val (.int p5), .val (.int j1), .val (.int j2), .val (.int j3), .val (.int j4), .val (.int j5), .val (.int j7), .val (.ref b9), .val (.int j68), .val (.int (1 : Int32)), .val (.int j69), .val (.ref b71_0), .val (.int (1 : Int32)), .val (.int j80), .unset] [(.int (1 : Int32))])) _
        refine XS.istore X81.here hx rfl (hb hby at_354) rfl (l' := #[.val (.int p1), .val (.int p2), .val (.int p3), .val (.int p4), .val (.int p5), .val (.int j1), .val (.int j2), .val (.int j3), .val (.int j4), .val (.int j5), .val (.int j7), .val (.ref b9), .val (.int j68), .val (.int (1 : Int32)), .val (.int j69), .val (.ref b71_0), .val (.int (1 : Int32)), .val (.int j80), .unset]) rfl ?_
        show Steps p.tables e below (T81.setTop (mkF m 356 #[.val (.int p1), .val (.int p2), .val (.int p3), .val (.int p4), .val (.int p5), .val (.int j1), .val (.int j2), .val (.int j3), .val (.int j4), .val (.int j5), .val (.int j7), .val (.ref b9), .val (.int j68), .val (.int (1 : Int32)), .val (.int j69), .val (.ref b71_0), .val (.int (1 : Int32)), .val (.int j80), .unset] [])) _
        refine XS.iload X81.here hx rfl (hb hby at_356) rfl ?_
        exact k
      refine own_go (T' := T81) (g' := (mkF m 365 #[.val (.int p1), .val (.int p2), .val (.int p3), .val (.int p4), .val (.int p5), .val (.int j1), .val (.int j2), .val (.int j3), .val (.int j4), .val (.int j5), .val (.int j7), .val (.ref b9), .val (.int j68), .val (.int (1 : Int32)), .val (.int j69), .val (.ref b71_0), .val (.int (1 : Int32)), .val (.int j80), .unset] [(.int j1), (.int j4)])) (fun t k => ?_) ?_
      · show Steps p.tables e below (T81.setTop (mkF m 358 #[.val (.int p1), .val (.int p2), .val (.int p3), .val (.int p4), .val (.int p5), .val (.int j1), .val (.int j2), .val (.int j3), .val (.int j4), .val (.int j5), .val (.int j7), .val (.ref b9), .val (.int j68), .val (.int (1 : Int32)), .val (.int j69), .val (.ref b71_0), .val (.int (1 : Int32)), .val (.int j80), .unset] [(.int j5)])) _
        refine XS.ifNo X81.here hx rfl (hb hby at_358) rfl ((if0 _ _).trans (feq hc63_3).1) ?_
        show Steps p.tables e below (T81.setTop (mkF m 361 #[.val (.int p1), .val (.int p2), .val (.int p3), .val (.int p4), .val (.int p5), .val (.int j1), .val (.int j2), .val (.int j3), .val (.int j4), .val (.int j5), .val (.int j7), .val (.ref b9), .val (.int j68), .val (.int (1 : Int32)), .val (.int j69), .val (.ref b71_0), .val (.int (1 : Int32)), .val (.int j80), .unset] [])) _
        refine XS.iload X81.here hx rfl (hb hby at_361) rfl ?_
        show Steps p.tables e below (T81.setTop (mkF m 363 #[.val (.int p1), .val (.int p2), .val (.int p3), .val (.int p4), .val (.int p5), .val (.int j1), .val (.int j2), .val (.int j3), .val (.int j4), .val (.int j5), .val (.int j7), .val (.ref b9), .val (.int j68), .val (.int (1 : Int32)), .val (.int j69), .val (.ref b71_0), .val (.int (1 : Int32)), .val (.int j80), .unset] [(.int j4)])) _
        refine XS.iload X81.here hx rfl (hb hby at_363) rfl ?_
        exact k
      obtain ⟨j82, hj82, st83⟩ : ∃ (j82 : Int32), j82 = (if j4 = j1 then (1 : Int32) else (if j4 = j2 then (1 : Int32) else (if j4 = j3 then (1 : Int32) else (0 : Int32)))) ∧ ∀ t, Steps p.tables e below (T81.setTop (mkF m 392 #[.val (.int p1), .val (.int p2), .val (.int p3), .val (.int p4), .val (.int p5), .val (.int j1), .val (.int j2), .val (.int j3), .val (.int j4), .val (.int j5), .val (.int j7), .val (.ref b9), .val (.int j68), .val (.int (1 : Int32)), .val (.int j69), .val (.ref b71_0), .val (.int (1 : Int32)), .val (.int j80), .unset] [(.int j82)])) t → Steps p.tables e below (T81.setTop (mkF m 365 #[.val (.int p1), .val (.int p2), .val (.int p3), .val (.int p4), .val (.int p5), .val (.int j1), .val (.int j2), .val (.int j3), .val (.int j4), .val (.int j5), .val (.int j7), .val (.ref b9), .val (.int j68), .val (.int (1 : Int32)), .val (.int j69), .val (.ref b71_0), .val (.int (1 : Int32)), .val (.int j80), .unset] [(.int j1), (.int j4)])) t := by
        by_cases hc365_20 : j4 = j1
        · skip
          refine ⟨(1 : Int32), (by simp only [if_pos hc365_20]), fun t k => ?_⟩
          show Steps p.tables e below (T81.setTop (mkF m 365 #[.val (.int p1), .val (.int p2), .val (.int p3), .val (.int p4), .val (.int p5), .val (.int j1), .val (.int j2), .val (.int j3), .val (.int j4), .val (.int j5), .val (.int j7), .val (.ref b9), .val (.int j68), .val (.int (1 : Int32)), .val (.int j69), .val (.ref b71_0), .val (.int (1 : Int32)), .val (.int j80), .unset] [(.int j1), (.int j4)])) _
          refine XS.icmpYes X81.here hx rfl (pc0 := 365) (pc' := 387) rfl (hb hby at_365) rfl (teq hc365_20).1 (by decide) (by decide) ?_
          show Steps p.tables e below (T81.setTop (mkF m 387 #[.val (.int p1), .val (.int p2), .val (.int p3), .val (.int p4), .val (.int p5), .val (.int j1), .val (.int j2), .val (.int j3), .val (.int j4), .val (.int j5), .val (.int j7), .val (.ref b9), .val (.int j68), .val (.int (1 : Int32)), .val (.int j69), .val (.ref b71_0), .val (.int (1 : Int32)), .val (.int j80), .unset] [])) _
          refine XS.iconst X81.here hx rfl (hb hby at_387) ?_
          show Steps p.tables e below (T81.setTop (mkF m 388 #[.val (.int p1), .val (.int p2), .val (.int p3), .val (.int p4), .val (.int p5), .val (.int j1), .val (.int j2), .val (.int j3), .val (.int j4), .val (.int j5), .val (.int j7), .val (.ref b9), .val (.int j68), .val (.int (1 : Int32)), .val (.int j69), .val (.ref b71_0), .val (.int (1 : Int32)), .val (.int j80), .unset] [(.int (1 : Int32))])) _
          refine XS.goto X81.here hx rfl (pc0 := 388) (pc' := 392) rfl (hb hby at_388) (by decide) (by decide) ?_
          exact k
        · skip
          by_cases hc377_21 : j4 = j2
          · skip
            refine ⟨(1 : Int32), (by simp only [if_neg hc365_20, if_pos hc377_21]), fun t k => ?_⟩
            show Steps p.tables e below (T81.setTop (mkF m 365 #[.val (.int p1), .val (.int p2), .val (.int p3), .val (.int p4), .val (.int p5), .val (.int j1), .val (.int j2), .val (.int j3), .val (.int j4), .val (.int j5), .val (.int j7), .val (.ref b9), .val (.int j68), .val (.int (1 : Int32)), .val (.int j69), .val (.ref b71_0), .val (.int (1 : Int32)), .val (.int j80), .unset] [(.int j1), (.int j4)])) _
            refine XS.icmpNo X81.here hx rfl (hb hby at_365) rfl (feq hc365_20).1 ?_
            show Steps p.tables e below (T81.setTop (mkF m 368 #[.val (.int p1), .val (.int p2), .val (.int p3), .val (.int p4), .val (.int p5), .val (.int j1), .val (.int j2), .val (.int j3), .val (.int j4), .val (.int j5), .val (.int j7), .val (.ref b9), .val (.int j68), .val (.int (1 : Int32)), .val (.int j69), .val (.ref b71_0), .val (.int (1 : Int32)), .val (.int j80), .unset] [])) _
            refine XS.iload X81.here hx rfl (hb hby at_368) rfl ?_
            show Steps p.tables e below (T81.setTop (mkF m 370 #[.val (.int p1), .val (.int p2), .val (.int p3), .val (.int p4), .val (.int p5), .val (.int j1), .val (.int j2), .val (.int j3), .val (.int j4), .val (.int j5), .val (.int j7), .val (.ref b9), .val (.int j68), .val (.int (1 : Int32)), .val (.int j69), .val (.ref b71_0), .val (.int (1 : Int32)), .val (.int j80), .unset] [(.int j7)])) _
            refine XS.ifNo X81.here hx rfl (hb hby at_370) rfl ((if0 _ _).trans (feq hc75_11).1) ?_
            show Steps p.tables e below (T81.setTop (mkF m 373 #[.val (.int p1), .val (.int p2), .val (.int p3), .val (.int p4), .val (.int p5), .val (.int j1), .val (.int j2), .val (.int j3), .val (.int j4), .val (.int j5), .val (.int j7), .val (.ref b9), .val (.int j68), .val (.int (1 : Int32)), .val (.int j69), .val (.ref b71_0), .val (.int (1 : Int32)), .val (.int j80), .unset] [])) _
            refine XS.iload X81.here hx rfl (hb hby at_373) rfl ?_
            show Steps p.tables e below (T81.setTop (mkF m 375 #[.val (.int p1), .val (.int p2), .val (.int p3), .val (.int p4), .val (.int p5), .val (.int j1), .val (.int j2), .val (.int j3), .val (.int j4), .val (.int j5), .val (.int j7), .val (.ref b9), .val (.int j68), .val (.int (1 : Int32)), .val (.int j69), .val (.ref b71_0), .val (.int (1 : Int32)), .val (.int j80), .unset] [(.int j4)])) _
            refine XS.iload X81.here hx rfl (hb hby at_375) rfl ?_
            show Steps p.tables e below (T81.setTop (mkF m 377 #[.val (.int p1), .val (.int p2), .val (.int p3), .val (.int p4), .val (.int p5), .val (.int j1), .val (.int j2), .val (.int j3), .val (.int j4), .val (.int j5), .val (.int j7), .val (.ref b9), .val (.int j68), .val (.int (1 : Int32)), .val (.int j69), .val (.ref b71_0), .val (.int (1 : Int32)), .val (.int j80), .unset] [(.int j2), (.int j4)])) _
            refine XS.icmpYes X81.here hx rfl (pc0 := 377) (pc' := 387) rfl (hb hby at_377) rfl (teq hc377_21).1 (by decide) (by decide) ?_
            show Steps p.tables e below (T81.setTop (mkF m 387 #[.val (.int p1), .val (.int p2), .val (.int p3), .val (.int p4), .val (.int p5), .val (.int j1), .val (.int j2), .val (.int j3), .val (.int j4), .val (.int j5), .val (.int j7), .val (.ref b9), .val (.int j68), .val (.int (1 : Int32)), .val (.int j69), .val (.ref b71_0), .val (.int (1 : Int32)), .val (.int j80), .unset] [])) _
            refine XS.iconst X81.here hx rfl (hb hby at_387) ?_
            show Steps p.tables e below (T81.setTop (mkF m 388 #[.val (.int p1), .val (.int p2), .val (.int p3), .val (.int p4), .val (.int p5), .val (.int j1), .val (.int j2), .val (.int j3), .val (.int j4), .val (.int j5), .val (.int j7), .val (.ref b9), .val (.int j68), .val (.int (1 : Int32)), .val (.int j69), .val (.ref b71_0), .val (.int (1 : Int32)), .val (.int j80), .unset] [(.int (1 : Int32))])) _
            refine XS.goto X81.here hx rfl (pc0 := 388) (pc' := 392) rfl (hb hby at_388) (by decide) (by decide) ?_
            exact k
          · skip
            by_cases hc384_22 : j4 = j3
            · skip
              refine ⟨(1 : Int32), (by simp only [if_neg hc365_20, if_neg hc377_21, if_pos hc384_22]), fun t k => ?_⟩
              show Steps p.tables e below (T81.setTop (mkF m 365 #[.val (.int p1), .val (.int p2), .val (.int p3), .val (.int p4), .val (.int p5), .val (.int j1), .val (.int j2), .val (.int j3), .val (.int j4), .val (.int j5), .val (.int j7), .val (.ref b9), .val (.int j68), .val (.int (1 : Int32)), .val (.int j69), .val (.ref b71_0), .val (.int (1 : Int32)), .val (.int j80), .unset] [(.int j1), (.int j4)])) _
              refine XS.icmpNo X81.here hx rfl (hb hby at_365) rfl (feq hc365_20).1 ?_
              show Steps p.tables e below (T81.setTop (mkF m 368 #[.val (.int p1), .val (.int p2), .val (.int p3), .val (.int p4), .val (.int p5), .val (.int j1), .val (.int j2), .val (.int j3), .val (.int j4), .val (.int j5), .val (.int j7), .val (.ref b9), .val (.int j68), .val (.int (1 : Int32)), .val (.int j69), .val (.ref b71_0), .val (.int (1 : Int32)), .val (.int j80), .unset] [])) _
              refine XS.iload X81.here hx rfl (hb hby at_368) rfl ?_
              show Steps p.tables e below (T81.setTop (mkF m 370 #[.val (.int p1), .val (.int p2), .val (.int p3), .val (.int p4), .val (.int p5), .val (.int j1), .val (.int j2), .val (.int j3), .val (.int j4), .val (.int j5), .val (.int j7), .val (.ref b9), .val (.int j68), .val (.int (1 : Int32)), .val (.int j69), .val (.ref b71_0), .val (.int (1 : Int32)), .val (.int j80), .unset] [(.int j7)])) _
              refine XS.ifNo X81.here hx rfl (hb hby at_370) rfl ((if0 _ _).trans (feq hc75_11).1) ?_
              show Steps p.tables e below (T81.setTop (mkF m 373 #[.val (.int p1), .val (.int p2), .val (.int p3), .val (.int p4), .val (.int p5), .val (.int j1), .val (.int j2), .val (.int j3), .val (.int j4), .val (.int j5), .val (.int j7), .val (.ref b9), .val (.int j68), .val (.int (1 : Int32)), .val (.int j69), .val (.ref b71_0), .val (.int (1 : Int32)), .val (.int j80), .unset] [])) _
              refine XS.iload X81.here hx rfl (hb hby at_373) rfl ?_
              show Steps p.tables e below (T81.setTop (mkF m 375 #[.val (.int p1), .val (.int p2), .val (.int p3), .val (.int p4), .val (.int p5), .val (.int j1), .val (.int j2), .val (.int j3), .val (.int j4), .val (.int j5), .val (.int j7), .val (.ref b9), .val (.int j68), .val (.int (1 : Int32)), .val (.int j69), .val (.ref b71_0), .val (.int (1 : Int32)), .val (.int j80), .unset] [(.int j4)])) _
              refine XS.iload X81.here hx rfl (hb hby at_375) rfl ?_
              show Steps p.tables e below (T81.setTop (mkF m 377 #[.val (.int p1), .val (.int p2), .val (.int p3), .val (.int p4), .val (.int p5), .val (.int j1), .val (.int j2), .val (.int j3), .val (.int j4), .val (.int j5), .val (.int j7), .val (.ref b9), .val (.int j68), .val (.int (1 : Int32)), .val (.int j69), .val (.ref b71_0), .val (.int (1 : Int32)), .val (.int j80), .unset] [(.int j2), (.int j4)])) _
              refine XS.icmpNo X81.here hx rfl (hb hby at_377) rfl (feq hc377_21).1 ?_
              show Steps p.tables e below (T81.setTop (mkF m 380 #[.val (.int p1), .val (.int p2), .val (.int p3), .val (.int p4), .val (.int p5), .val (.int j1), .val (.int j2), .val (.int j3), .val (.int j4), .val (.int j5), .val (.int j7), .val (.ref b9), .val (.int j68), .val (.int (1 : Int32)), .val (.int j69), .val (.ref b71_0), .val (.int (1 : Int32)), .val (.int j80), .unset] [])) _
              refine XS.iload X81.here hx rfl (hb hby at_380) rfl ?_
              show Steps p.tables e below (T81.setTop (mkF m 382 #[.val (.int p1), .val (.int p2), .val (.int p3), .val (.int p4), .val (.int p5), .val (.int j1), .val (.int j2), .val (.int j3), .val (.int j4), .val (.int j5), .val (.int j7), .val (.ref b9), .val (.int j68), .val (.int (1 : Int32)), .val (.int j69), .val (.ref b71_0), .val (.int (1 : Int32)), .val (.int j80), .unset] [(.int j4)])) _
              refine XS.iload X81.here hx rfl (hb hby at_382) rfl ?_
              show Steps p.tables e below (T81.setTop (mkF m 384 #[.val (.int p1), .val (.int p2), .val (.int p3), .val (.int p4), .val (.int p5), .val (.int j1), .val (.int j2), .val (.int j3), .val (.int j4), .val (.int j5), .val (.int j7), .val (.ref b9), .val (.int j68), .val (.int (1 : Int32)), .val (.int j69), .val (.ref b71_0), .val (.int (1 : Int32)), .val (.int j80), .unset] [(.int j3), (.int j4)])) _
              refine XS.icmpNo X81.here hx rfl (hb hby at_384) rfl (teq hc384_22).2 ?_
              show Steps p.tables e below (T81.setTop (mkF m 387 #[.val (.int p1), .val (.int p2), .val (.int p3), .val (.int p4), .val (.int p5), .val (.int j1), .val (.int j2), .val (.int j3), .val (.int j4), .val (.int j5), .val (.int j7), .val (.ref b9), .val (.int j68), .val (.int (1 : Int32)), .val (.int j69), .val (.ref b71_0), .val (.int (1 : Int32)), .val (.int j80), .unset] [])) _
              refine XS.iconst X81.here hx rfl (hb hby at_387) ?_
              show Steps p.tables e below (T81.setTop (mkF m 388 #[.val (.int p1), .val (.int p2), .val (.int p3), .val (.int p4), .val (.int p5), .val (.int j1), .val (.int j2), .val (.int j3), .val (.int j4), .val (.int j5), .val (.int j7), .val (.ref b9), .val (.int j68), .val (.int (1 : Int32)), .val (.int j69), .val (.ref b71_0), .val (.int (1 : Int32)), .val (.int j80), .unset] [(.int (1 : Int32))])) _
              refine XS.goto X81.here hx rfl (pc0 := 388) (pc' := 392) rfl (hb hby at_388) (by decide) (by decide) ?_
              exact k
            · skip
              refine ⟨(0 : Int32), (by simp only [if_neg hc365_20, if_neg hc377_21, if_neg hc384_22]), fun t k => ?_⟩
              show Steps p.tables e below (T81.setTop (mkF m 365 #[.val (.int p1), .val (.int p2), .val (.int p3), .val (.int p4), .val (.int p5), .val (.int j1), .val (.int j2), .val (.int j3), .val (.int j4), .val (.int j5), .val (.int j7), .val (.ref b9), .val (.int j68), .val (.int (1 : Int32)), .val (.int j69), .val (.ref b71_0), .val (.int (1 : Int32)), .val (.int j80), .unset] [(.int j1), (.int j4)])) _
              refine XS.icmpNo X81.here hx rfl (hb hby at_365) rfl (feq hc365_20).1 ?_
              show Steps p.tables e below (T81.setTop (mkF m 368 #[.val (.int p1), .val (.int p2), .val (.int p3), .val (.int p4), .val (.int p5), .val (.int j1), .val (.int j2), .val (.int j3), .val (.int j4), .val (.int j5), .val (.int j7), .val (.ref b9), .val (.int j68), .val (.int (1 : Int32)), .val (.int j69), .val (.ref b71_0), .val (.int (1 : Int32)), .val (.int j80), .unset] [])) _
              refine XS.iload X81.here hx rfl (hb hby at_368) rfl ?_
              show Steps p.tables e below (T81.setTop (mkF m 370 #[.val (.int p1), .val (.int p2), .val (.int p3), .val (.int p4), .val (.int p5), .val (.int j1), .val (.int j2), .val (.int j3), .val (.int j4), .val (.int j5), .val (.int j7), .val (.ref b9), .val (.int j68), .val (.int (1 : Int32)), .val (.int j69), .val (.ref b71_0), .val (.int (1 : Int32)), .val (.int j80), .unset] [(.int j7)])) _
              refine XS.ifNo X81.here hx rfl (hb hby at_370) rfl ((if0 _ _).trans (feq hc75_11).1) ?_
              show Steps p.tables e below (T81.setTop (mkF m 373 #[.val (.int p1), .val (.int p2), .val (.int p3), .val (.int p4), .val (.int p5), .val (.int j1), .val (.int j2), .val (.int j3), .val (.int j4), .val (.int j5), .val (.int j7), .val (.ref b9), .val (.int j68), .val (.int (1 : Int32)), .val (.int j69), .val (.ref b71_0), .val (.int (1 : Int32)), .val (.int j80), .unset] [])) _
              refine XS.iload X81.here hx rfl (hb hby at_373) rfl ?_
              show Steps p.tables e below (T81.setTop (mkF m 375 #[.val (.int p1), .val (.int p2), .val (.int p3), .val (.int p4), .val (.int p5), .val (.int j1), .val (.int j2), .val (.int j3), .val (.int j4), .val (.int j5), .val (.int j7), .val (.ref b9), .val (.int j68), .val (.int (1 : Int32)), .val (.int j69), .val (.ref b71_0), .val (.int (1 : Int32)), .val (.int j80), .unset] [(.int j4)])) _
              refine XS.iload X81.here hx rfl (hb hby at_375) rfl ?_
              show Steps p.tables e below (T81.setTop (mkF m 377 #[.val (.int p1), .val (.int p2), .val (.int p3), .val (.int p4), .val (.int p5), .val (.int j1), .val (.int j2), .val (.int j3), .val (.int j4), .val (.int j5), .val (.int j7), .val (.ref b9), .val (.int j68), .val (.int (1 : Int32)), .val (.int j69), .val (.ref b71_0), .val (.int (1 : Int32)), .val (.int j80), .unset] [(.int j2), (.int j4)])) _
              refine XS.icmpNo X81.here hx rfl (hb hby at_377) rfl (feq hc377_21).1 ?_
              show Steps p.tables e below (T81.setTop (mkF m 380 #[.val (.int p1), .val (.int p2), .val (.int p3), .val (.int p4), .val (.int p5), .val (.int j1), .val (.int j2), .val (.int j3), .val (.int j4), .val (.int j5), .val (.int j7), .val (.ref b9), .val (.int j68), .val (.int (1 : Int32)), .val (.int j69), .val (.ref b71_0), .val (.int (1 : Int32)), .val (.int j80), .unset] [])) _
              refine XS.iload X81.here hx rfl (hb hby at_380) rfl ?_
              show Steps p.tables e below (T81.setTop (mkF m 382 #[.val (.int p1), .val (.int p2), .val (.int p3), .val (.int p4), .val (.int p5), .val (.int j1), .val (.int j2), .val (.int j3), .val (.int j4), .val (.int j5), .val (.int j7), .val (.ref b9), .val (.int j68), .val (.int (1 : Int32)), .val (.int j69), .val (.ref b71_0), .val (.int (1 : Int32)), .val (.int j80), .unset] [(.int j4)])) _
              refine XS.iload X81.here hx rfl (hb hby at_382) rfl ?_
              show Steps p.tables e below (T81.setTop (mkF m 384 #[.val (.int p1), .val (.int p2), .val (.int p3), .val (.int p4), .val (.int p5), .val (.int j1), .val (.int j2), .val (.int j3), .val (.int j4), .val (.int j5), .val (.int j7), .val (.ref b9), .val (.int j68), .val (.int (1 : Int32)), .val (.int j69), .val (.ref b71_0), .val (.int (1 : Int32)), .val (.int j80), .unset] [(.int j3), (.int j4)])) _
              refine XS.icmpYes X81.here hx rfl (pc0 := 384) (pc' := 391) rfl (hb hby at_384) rfl (feq hc384_22).2 (by decide) (by decide) ?_
              show Steps p.tables e below (T81.setTop (mkF m 391 #[.val (.int p1), .val (.int p2), .val (.int p3), .val (.int p4), .val (.int p5), .val (.int j1), .val (.int j2), .val (.int j3), .val (.int j4), .val (.int j5), .val (.int j7), .val (.ref b9), .val (.int j68), .val (.int (1 : Int32)), .val (.int j69), .val (.ref b71_0), .val (.int (1 : Int32)), .val (.int j80), .unset] [])) _
              refine XS.iconst X81.here hx rfl (hb hby at_391) ?_
              exact k
      refine own_go st83 ?_
      show own_Go p.tables e below _ T81 (mkF m 392 #[.val (.int p1), .val (.int p2), .val (.int p3), .val (.int p4), .val (.int p5), .val (.int j1), .val (.int j2), .val (.int j3), .val (.int j4), .val (.int j5), .val (.int j7), .val (.ref b9), .val (.int j68), .val (.int (1 : Int32)), .val (.int j69), .val (.ref b71_0), .val (.int (1 : Int32)), .val (.int j80), .unset] [(.int j82)])
      refine own_go (T' := T81) (g' := (mkF m 398 #[.val (.int p1), .val (.int p2), .val (.int p3), .val (.int p4), .val (.int p5), .val (.int j1), .val (.int j2), .val (.int j3), .val (.int j4), .val (.int j5), .val (.int j7), .val (.ref b9), .val (.int j68), .val (.int (1 : Int32)), .val (.int j69), .val (.ref b71_0), .val (.int (1 : Int32)), .val (.int j80), .val (.int j82)] [(.int j4), (.ref b9)])) (fun t k => ?_) ?_
      · show Steps p.tables e below (T81.setTop (mkF m 392 #[.val (.int p1), .val (.int p2), .val (.int p3), .val (.int p4), .val (.int p5), .val (.int j1), .val (.int j2), .val (.int j3), .val (.int j4), .val (.int j5), .val (.int j7), .val (.ref b9), .val (.int j68), .val (.int (1 : Int32)), .val (.int j69), .val (.ref b71_0), .val (.int (1 : Int32)), .val (.int j80), .unset] [(.int j82)])) _
        refine XS.istore X81.here hx rfl (hb hby at_392) rfl (l' := #[.val (.int p1), .val (.int p2), .val (.int p3), .val (.int p4), .val (.int p5), .val (.int j1), .val (.int j2), .val (.int j3), .val (.int j4), .val (.int j5), .val (.int j7), .val (.ref b9), .val (.int j68), .val (.int (1 : Int32)), .val (.int j69), .val (.ref b71_0), .val (.int (1 : Int32)), .val (.int j80), .val (.int j82)]) rfl ?_
        show Steps p.tables e below (T81.setTop (mkF m 394 #[.val (.int p1), .val (.int p2), .val (.int p3), .val (.int p4), .val (.int p5), .val (.int j1), .val (.int j2), .val (.int j3), .val (.int j4), .val (.int j5), .val (.int j7), .val (.ref b9), .val (.int j68), .val (.int (1 : Int32)), .val (.int j69), .val (.ref b71_0), .val (.int (1 : Int32)), .val (.int j80), .val (.int j82)] [])) _
        refine XS.aload X81.here hx rfl (hb hby at_394) rfl rfl ?_
        show Steps p.tables e below (T81.setTop (mkF m 396 #[.val (.int p1), .val (.int p2), .val (.int p3), .val (.int p4), .val (.int p5), .val (.int j1), .val (.int j2), .val (.int j3), .val (.int j4), .val (.int j5), .val (.int j7), .val (.ref b9), .val (.int j68), .val (.int (1 : Int32)), .val (.int j69), .val (.ref b71_0), .val (.int (1 : Int32)), .val (.int j80), .val (.int j82)] [(.ref b9)])) _
        refine XS.iload X81.here hx rfl (hb hby at_396) rfl ?_
        exact k
      have hhhhc1_3_5_398 : ¬ (j4 < (0 : Int32)) := own_at_hhhhc1_3_5_398_ff p1 p2 p3 p4 p5 j1 j2 j3 j4 j5 j7 j66 j68 j69 j78 j80 hj1 hj2 hj3 hj4 hj5 hj7 hj66 hj68 hj69 hj78 hj80 hc63_3 hhhhc1_3_5_70 hhhhc6_3_5_70 hhhlo17_11_70 hhhhi17_11_70 hc75_11 hhhhc1_3_5_82 hhhhc6_3_5_82 hhhlo17_11_82 hhhhi17_11_82 hs208 hs230 hs254 hhhhc1_3_5_273 hhhhc6_3_5_273 hhlo17_273 hhhi17_273 hs278 hs346
      have hhhhc6_3_5_398 : j4 < (131072 : Int32) := own_at_hhhhc6_3_5_398_ff p1 p2 p3 p4 p5 j1 j2 j3 j4 j5 j7 j66 j68 j69 j78 j80 hj1 hj2 hj3 hj4 hj5 hj7 hj66 hj68 hj69 hj78 hj80 hc63_3 hhhhc1_3_5_70 hhhhc6_3_5_70 hhhlo17_11_70 hhhhi17_11_70 hc75_11 hhhhc1_3_5_82 hhhhc6_3_5_82 hhhlo17_11_82 hhhhi17_11_82 hs208 hs230 hs254 hhhhc1_3_5_273 hhhhc6_3_5_273 hhlo17_273 hhhi17_273 hs278 hs346 hhhhc1_3_5_398
      have hhhlo17_11_398 : ¬ ((j4 / (64 : Int32)) < (0 : Int32)) := own_at_hhhlo17_11_398_ff p1 p2 p3 p4 p5 j1 j2 j3 j4 j5 j7 j66 j68 j69 j78 j80 hj1 hj2 hj3 hj4 hj5 hj7 hj66 hj68 hj69 hj78 hj80 hc63_3 hhhhc1_3_5_70 hhhhc6_3_5_70 hhhlo17_11_70 hhhhi17_11_70 hc75_11 hhhhc1_3_5_82 hhhhc6_3_5_82 hhhlo17_11_82 hhhhi17_11_82 hs208 hs230 hs254 hhhhc1_3_5_273 hhhhc6_3_5_273 hhlo17_273 hhhi17_273 hs278 hs346 hhhhc1_3_5_398 hhhhc6_3_5_398
      have hhhhi17_11_398 : (j4 / (64 : Int32)) < (2048 : Int32) := own_at_hhhhi17_11_398_ff p1 p2 p3 p4 p5 j1 j2 j3 j4 j5 j7 j66 j68 j69 j78 j80 hj1 hj2 hj3 hj4 hj5 hj7 hj66 hj68 hj69 hj78 hj80 hc63_3 hhhhc1_3_5_70 hhhhc6_3_5_70 hhhlo17_11_70 hhhhi17_11_70 hc75_11 hhhhc1_3_5_82 hhhhc6_3_5_82 hhhlo17_11_82 hhhhi17_11_82 hs208 hs230 hs254 hhhhc1_3_5_273 hhhhc6_3_5_273 hhlo17_273 hhhi17_273 hs278 hs346 hhhhc1_3_5_398 hhhhc6_3_5_398 hhhlo17_11_398
      obtain ⟨cq84, kq84, q84a, q84b, q84c⟩ := isOf hZ e81 E_b9
      obtain ⟨_, _, ⟨T84, L84, k84, n84⟩, -, X84, ⟨Lc84, hQ84, l84, y84, z84⟩, st84⟩ := X81.virtualBack hx (y := (⟨"com/example/capd/capd/status/Bitstring", "set", "(I)V"⟩ : MethodName)) (z := (⟨"com/example/capd/capd/status/Bitstring", "set", "(I)V"⟩ : MethodName)) hown (mvT hZ (hw _ (List.mem_of_getElem? (i := 64) rfl))) (mvT hZ (hw _ (List.mem_of_getElem? (i := 65) rfl))) (notFace_of_selects (args := #[]) (mvT hZ (hw _ (List.mem_of_getElem? (i := 67) rfl)))) (mvT hZ (hw _ (List.mem_of_getElem? (i := 67) rfl))) (mvT hZ (hw _ (List.mem_of_getElem? (i := 66) rfl))) (by decide) (backOf (W := 0) (rm11 l Z a0 hw [] b9 j4 (131072 : Int32) b10_0 k10_1 (u_11_w_words_a1_fn j2 (131072 : Int32) (u_11_w_words_a1_fn j1 (131072 : Int32) (fun _ => 0) (0 : Int32)) (u_11_a1_count j1 (131072 : Int32) (fun _ => 0) (0 : Int32))) (u_11_a1_count j2 (131072 : Int32) (u_11_w_words_a1_fn j1 (131072 : Int32) (fun _ => 0) (0 : Int32)) (u_11_a1_count j1 (131072 : Int32) (fun _ => 0) (0 : Int32))) T76.heap n0 Z0 F_b9_size hhhhc1_3_5_398 hhhhc6_3_5_398 hhhhc1_3_5_398 hhhhc6_3_5_398 F_b9_words V_b10_0 hhhlo17_11_398 hhhhi17_11_398 E_b9 hhhlo17_11_398 hhhhi17_11_398 hhhlo17_11_398 hhhhi17_11_398 ne_b9_b10_0 g_b10_0 F_b9_count g_b9) hZ (hw _ (List.mem_of_getElem? (i := 68) rfl)) (hw _ (List.mem_of_getElem? (i := 3) rfl)) (by decide) (by decide)) q84a q84c (g := (mkF m 398 #[.val (.int p1), .val (.int p2), .val (.int p3), .val (.int p4), .val (.int p5), .val (.int j1), .val (.int j2), .val (.int j3), .val (.int j4), .val (.int j5), .val (.int j7), .val (.ref b9), .val (.int j68), .val (.int (1 : Int32)), .val (.int j69), .val (.ref b71_0), .val (.int (1 : Int32)), .val (.int j80), .val (.int j82)] [(.int j4), (.ref b9)])) rfl (by rw [hml]; rfl) (Steps.refl _) (argsL := [(.int j4)]) (rest := []) (lenOf pd_9 rfl) rfl (by show 2 * 0 + _ ≤ _; exact Nat.le_of_eq rfl) (hb hby at_398) (fun _ _ => ⟨rfl, e81, (by decide : 4 + 0 ≤ _), (by decide : 4102 + 0 ≤ _)⟩)
      dsimp only [Pt.U, Pt.locs, Pt.cells, Pt.slots] at X84 l84 y84 z84 st84 hQ84
      subst l84 y84 z84
      obtain ⟨rfl, N84q, K84, Q84_0, Q84_1, Q84_2, Q84_3, Q84_4⟩ := hQ84
      have E_b10_0 := E_b10_0.keep K84
      have E_b71_0 := E_b71_0.keep K84
      have F_b71_0_words := F_b71_0_words.keep K84 (ninS (Ne.symm ne_b10_0_b71_0) (ninS (Ne.symm ne_b9_b71_0) nin0))
      have F_b71_0_size := F_b71_0_size.keep K84 (ninS (Ne.symm ne_b10_0_b71_0) (ninS (Ne.symm ne_b9_b71_0) nin0))
      have F_b71_0_count := F_b71_0_count.keep K84 (ninS (Ne.symm ne_b10_0_b71_0) (ninS (Ne.symm ne_b9_b71_0) nin0))
      have E_b71_1 := E_b71_1.keep K84
      have V_b71_1 := V_b71_1.keep K84 (ninS (Ne.symm ne_b10_0_b71_1) (ninS (Ne.symm ne_b9_b71_1) nin0))
      have V_b10_0 := Q84_0
      have E_b9 := Q84_1
      have F_b9_size := Q84_2
      have F_b9_words := Q84_3
      have F_b9_count := Q84_4
      have Z0 := Nat.le_trans Z0 K84.1
      have KK := KK.trans K84 (allS (Or.inr sz_b10_0) (allS (Or.inr sz_b9) all0))
      have NN := Fr.app NN N84q
      refine own_go (fun t k => st84.trans k) ?_
      show own_Go p.tables e below _ T84 (mkF m 401 #[.val (.int p1), .val (.int p2), .val (.int p3), .val (.int p4), .val (.int p5), .val (.int j1), .val (.int j2), .val (.int j3), .val (.int j4), .val (.int j5), .val (.int j7), .val (.ref b9), .val (.int j68), .val (.int (1 : Int32)), .val (.int j69), .val (.ref b71_0), .val (.int (1 : Int32)), .val (.int j80), .val (.int j82)] [])
      refine own_go (T' := T84) (g' := (mkF m 403 #[.val (.int p1), .val (.int p2), .val (.int p3), .val (.int p4), .val (.int p5), .val (.int j1), .val (.int j2), .val (.int j3), .val (.int j4), .val (.int j5), .val (.int j7), .val (.ref b9), .val (.int j68), .val (.int (1 : Int32)), .val (.int j69), .val (.ref b71_0), .val (.int (1 : Int32)), .val (.int j80), .val (.int j82)] [(.int (1 : Int32))])) (fun t k => ?_) ?_
      · show Steps p.tables e below (T84.setTop (mkF m 401 #[.val (.int p1), .val (.int p2), .val (.int p3), .val (.int p4), .val (.int p5), .val (.int j1), .val (.int j2), .val (.int j3), .val (.int j4), .val (.int j5), .val (.int j7), .val (.ref b9), .val (.int j68), .val (.int (1 : Int32)), .val (.int j69), .val (.ref b71_0), .val (.int (1 : Int32)), .val (.int j80), .val (.int j82)] [])) _
        refine XS.iload X84.here hx rfl (hb hby at_401) rfl ?_
        exact k
      refine own_go (T' := T84) (g' := (mkF m 410 #[.val (.int p1), .val (.int p2), .val (.int p3), .val (.int p4), .val (.int p5), .val (.int j1), .val (.int j2), .val (.int j3), .val (.int j4), .val (.int j5), .val (.int j7), .val (.ref b9), .val (.int j68), .val (.int (1 : Int32)), .val (.int j69), .val (.ref b71_0), .val (.int (1 : Int32)), .val (.int j80), .val (.int j82)] [(.int j4), (.ref b71_0)])) (fun t k => ?_) ?_
      · show Steps p.tables e below (T84.setTop (mkF m 403 #[.val (.int p1), .val (.int p2), .val (.int p3), .val (.int p4), .val (.int p5), .val (.int j1), .val (.int j2), .val (.int j3), .val (.int j4), .val (.int j5), .val (.int j7), .val (.ref b9), .val (.int j68), .val (.int (1 : Int32)), .val (.int j69), .val (.ref b71_0), .val (.int (1 : Int32)), .val (.int j80), .val (.int j82)] [(.int (1 : Int32))])) _
        refine XS.ifNo X84.here hx rfl (hb hby at_403) rfl ((if0 _ _).trans (feq (by decide : ¬ ((1 : Int32) = (0 : Int32)))).1) ?_
        show Steps p.tables e below (T84.setTop (mkF m 406 #[.val (.int p1), .val (.int p2), .val (.int p3), .val (.int p4), .val (.int p5), .val (.int j1), .val (.int j2), .val (.int j3), .val (.int j4), .val (.int j5), .val (.int j7), .val (.ref b9), .val (.int j68), .val (.int (1 : Int32)), .val (.int j69), .val (.ref b71_0), .val (.int (1 : Int32)), .val (.int j80), .val (.int j82)] [])) _
        refine XS.aload X84.here hx rfl (hb hby at_406) rfl rfl ?_
        show Steps p.tables e below (T84.setTop (mkF m 408 #[.val (.int p1), .val (.int p2), .val (.int p3), .val (.int p4), .val (.int p5), .val (.int j1), .val (.int j2), .val (.int j3), .val (.int j4), .val (.int j5), .val (.int j7), .val (.ref b9), .val (.int j68), .val (.int (1 : Int32)), .val (.int j69), .val (.ref b71_0), .val (.int (1 : Int32)), .val (.int j80), .val (.int j82)] [(.ref b71_0)])) _
        refine XS.iload X84.here hx rfl (hb hby at_408) rfl ?_
        exact k
      obtain ⟨cq85, kq85, q85a, q85b, q85c⟩ := isOf hZ rfl E_b71_0
      obtain ⟨_, _, ⟨T85, L85, k85, n85⟩, -, X85, ⟨Lc85, hQ85, l85, y85, z85⟩, st85⟩ := X84.virtualBack hx (y := (⟨"com/example/capd/capd/status/Bitstring", "get", "(I)Z"⟩ : MethodName)) (z := (⟨"com/example/capd/capd/status/Bitstring", "get", "(I)Z"⟩ : MethodName)) hown (mvT hZ (hw _ (List.mem_of_getElem? (i := 47) rfl))) (mvT hZ (hw _ (List.mem_of_getElem? (i := 48) rfl))) (notFace_of_selects (args := #[]) (mvT hZ (hw _ (List.mem_of_getElem? (i := 50) rfl)))) (mvT hZ (hw _ (List.mem_of_getElem? (i := 50) rfl))) (mvT hZ (hw _ (List.mem_of_getElem? (i := 49) rfl))) (by decide) (backOf (W := 0) (rm7 l Z a0 hw [] b71_0 j4 (131072 : Int32) b71_1 k10_1 (u_11_w_words_a1_fn j3 (131072 : Int32) (u_11_w_words_a1_fn j2 (131072 : Int32) (u_11_w_words_a1_fn j1 (131072 : Int32) (fun _ => 0) (0 : Int32)) (u_11_a1_count j1 (131072 : Int32) (fun _ => 0) (0 : Int32))) (u_11_a1_count j2 (131072 : Int32) (u_11_w_words_a1_fn j1 (131072 : Int32) (fun _ => 0) (0 : Int32)) (u_11_a1_count j1 (131072 : Int32) (fun _ => 0) (0 : Int32)))) T84.heap n0 Z0 F_b71_0_size hhhhc1_3_5_398 hhhhc6_3_5_398 F_b71_0_words V_b71_1 hhhlo17_11_398 hhhhi17_11_398) hZ (hw _ (List.mem_of_getElem? (i := 51) rfl)) (hw _ (List.mem_of_getElem? (i := 3) rfl)) (by decide) (by decide)) q85a q85c (g := (mkF m 410 #[.val (.int p1), .val (.int p2), .val (.int p3), .val (.int p4), .val (.int p5), .val (.int j1), .val (.int j2), .val (.int j3), .val (.int j4), .val (.int j5), .val (.int j7), .val (.ref b9), .val (.int j68), .val (.int (1 : Int32)), .val (.int j69), .val (.ref b71_0), .val (.int (1 : Int32)), .val (.int j80), .val (.int j82)] [(.int j4), (.ref b71_0)])) rfl (by rw [hml]; rfl) (Steps.refl _) (argsL := [(.int j4)]) (rest := []) (lenOf pd_5 rfl) rfl (by show 2 * 0 + _ ≤ _; exact Nat.le_of_eq rfl) (hb hby at_410) (fun _ _ => ⟨rfl, rfl, (by decide : 4 + 0 ≤ _), (by decide : 4102 + 0 ≤ _)⟩)
      dsimp only [Pt.U, Pt.locs, Pt.cells, Pt.slots] at X85 l85 y85 z85 st85 hQ85
      subst l85 y85 z85
      obtain ⟨rfl, N85q, e85⟩ := hQ85
      have NN := Fr.app NN N85q
      refine own_go (fun t k => st85.trans k) ?_
      show own_Go p.tables e below _ T85 (mkF m 413 #[.val (.int p1), .val (.int p2), .val (.int p3), .val (.int p4), .val (.int p5), .val (.int j1), .val (.int j2), .val (.int j3), .val (.int j4), .val (.int j5), .val (.int j7), .val (.ref b9), .val (.int j68), .val (.int (1 : Int32)), .val (.int j69), .val (.ref b71_0), .val (.int (1 : Int32)), .val (.int j80), .val (.int j82)] [(.int (r_7 j4 (131072 : Int32) (u_11_w_words_a1_fn j3 (131072 : Int32) (u_11_w_words_a1_fn j2 (131072 : Int32) (u_11_w_words_a1_fn j1 (131072 : Int32) (fun _ => 0) (0 : Int32)) (u_11_a1_count j1 (131072 : Int32) (fun _ => 0) (0 : Int32))) (u_11_a1_count j2 (131072 : Int32) (u_11_w_words_a1_fn j1 (131072 : Int32) (fun _ => 0) (0 : Int32)) (u_11_a1_count j1 (131072 : Int32) (fun _ => 0) (0 : Int32))))))])
      refine own_go (T' := T85) (g' := (mkF m 415 #[.val (.int p1), .val (.int p2), .val (.int p3), .val (.int p4), .val (.int p5), .val (.int j1), .val (.int j2), .val (.int j3), .val (.int j4), .val (.int j5), .val (.int j7), .val (.ref b9), .val (.int j68), .val (.int (1 : Int32)), .val (.int j69), .val (.ref b71_0), .val (.int (1 : Int32)), .val (.int j80), .val (.int j82)] [(.int j82), (.int (r_7 j4 (131072 : Int32) (u_11_w_words_a1_fn j3 (131072 : Int32) (u_11_w_words_a1_fn j2 (131072 : Int32) (u_11_w_words_a1_fn j1 (131072 : Int32) (fun _ => 0) (0 : Int32)) (u_11_a1_count j1 (131072 : Int32) (fun _ => 0) (0 : Int32))) (u_11_a1_count j2 (131072 : Int32) (u_11_w_words_a1_fn j1 (131072 : Int32) (fun _ => 0) (0 : Int32)) (u_11_a1_count j1 (131072 : Int32) (fun _ => 0) (0 : Int32))))))])) (fun t k => ?_) ?_
      · show Steps p.tables e below (T85.setTop (mkF m 413 #[.val (.int p1), .val (.int p2), .val (.int p3), .val (.int p4), .val (.int p5), .val (.int j1), .val (.int j2), .val (.int j3), .val (.int j4), .val (.int j5), .val (.int j7), .val (.ref b9), .val (.int j68), .val (.int (1 : Int32)), .val (.int j69), .val (.ref b71_0), .val (.int (1 : Int32)), .val (.int j80), .val (.int j82)] [(.int (r_7 j4 (131072 : Int32) (u_11_w_words_a1_fn j3 (131072 : Int32) (u_11_w_words_a1_fn j2 (131072 : Int32) (u_11_w_words_a1_fn j1 (131072 : Int32) (fun _ => 0) (0 : Int32)) (u_11_a1_count j1 (131072 : Int32) (fun _ => 0) (0 : Int32))) (u_11_a1_count j2 (131072 : Int32) (u_11_w_words_a1_fn j1 (131072 : Int32) (fun _ => 0) (0 : Int32)) (u_11_a1_count j1 (131072 : Int32) (fun _ => 0) (0 : Int32))))))])) _
        refine XS.iload X85.here hx rfl (hb hby at_413) rfl ?_
        exact k
      have hs415 : (r_7 j4 (131072 : Int32) (u_11_w_words_a1_fn j3 (131072 : Int32) (u_11_w_words_a1_fn j2 (131072 : Int32) (u_11_w_words_a1_fn j1 (131072 : Int32) (fun _ => 0) (0 : Int32)) (u_11_a1_count j1 (131072 : Int32) (fun _ => 0) (0 : Int32))) (u_11_a1_count j2 (131072 : Int32) (u_11_w_words_a1_fn j1 (131072 : Int32) (fun _ => 0) (0 : Int32)) (u_11_a1_count j1 (131072 : Int32) (fun _ => 0) (0 : Int32))))) = j82 := own_at_hs415_ff p1 p2 p3 p4 p5 j1 j2 j3 j4 j5 j7 j66 j68 j69 j78 j80 j82 hj1 hj2 hj3 hj4 hj5 hj7 hj66 hj68 hj69 hj78 hj80 hj82 hc63_3 hhhhc1_3_5_70 hhhhc6_3_5_70 hhhlo17_11_70 hhhhi17_11_70 hc75_11 hhhhc1_3_5_82 hhhhc6_3_5_82 hhhlo17_11_82 hhhhi17_11_82 hs208 hs230 hs254 hhhhc1_3_5_273 hhhhc6_3_5_273 hhlo17_273 hhhi17_273 hs278 hs346 hhhhc1_3_5_398 hhhhc6_3_5_398 hhhlo17_11_398 hhhhi17_11_398
      refine own_go (T' := T85) (g' := (mkF m 427 #[.val (.int p1), .val (.int p2), .val (.int p3), .val (.int p4), .val (.int p5), .val (.int j1), .val (.int j2), .val (.int j3), .val (.int j4), .val (.int j5), .val (.int j7), .val (.ref b9), .val (.int j68), .val (.int (1 : Int32)), .val (.int j69), .val (.ref b71_0), .val (.int (1 : Int32)), .val (.int j80), .val (.int j82)] [(.int (1 : Int32))])) (fun t k => ?_) ?_
      · show Steps p.tables e below (T85.setTop (mkF m 415 #[.val (.int p1), .val (.int p2), .val (.int p3), .val (.int p4), .val (.int p5), .val (.int j1), .val (.int j2), .val (.int j3), .val (.int j4), .val (.int j5), .val (.int j7), .val (.ref b9), .val (.int j68), .val (.int (1 : Int32)), .val (.int j69), .val (.ref b71_0), .val (.int (1 : Int32)), .val (.int j80), .val (.int j82)] [(.int j82), (.int (r_7 j4 (131072 : Int32) (u_11_w_words_a1_fn j3 (131072 : Int32) (u_11_w_words_a1_fn j2 (131072 : Int32) (u_11_w_words_a1_fn j1 (131072 : Int32) (fun _ => 0) (0 : Int32)) (u_11_a1_count j1 (131072 : Int32) (fun _ => 0) (0 : Int32))) (u_11_a1_count j2 (131072 : Int32) (u_11_w_words_a1_fn j1 (131072 : Int32) (fun _ => 0) (0 : Int32)) (u_11_a1_count j1 (131072 : Int32) (fun _ => 0) (0 : Int32))))))])) _
        refine XS.icmpNo X85.here hx rfl (hb hby at_415) rfl (teq hs415).2 ?_
        show Steps p.tables e below (T85.setTop (mkF m 418 #[.val (.int p1), .val (.int p2), .val (.int p3), .val (.int p4), .val (.int p5), .val (.int j1), .val (.int j2), .val (.int j3), .val (.int j4), .val (.int j5), .val (.int j7), .val (.ref b9), .val (.int j68), .val (.int (1 : Int32)), .val (.int j69), .val (.ref b71_0), .val (.int (1 : Int32)), .val (.int j80), .val (.int j82)] [])) _
        refine XS.iconst X85.here hx rfl (hb hby at_418) ?_
        show Steps p.tables e below (T85.setTop (mkF m 419 #[.val (.int p1), .val (.int p2), .val (.int p3), .val (.int p4), .val (.int p5), .val (.int j1), .val (.int j2), .val (.int j3), .val (.int j4), .val (.int j5), .val (.int j7), .val (.ref b9), .val (.int j68), .val (.int (1 : Int32)), .val (.int j69), .val (.ref b71_0), .val (.int (1 : Int32)), .val (.int j80), .val (.int j82)] [(.int (1 : Int32))])) _
        refine XS.goto X85.here hx rfl (pc0 := 419) (pc' := 423) rfl (hb hby at_419) (by decide) (by decide) ?_
        show Steps p.tables e below (T85.setTop (mkF m 423 #[.val (.int p1), .val (.int p2), .val (.int p3), .val (.int p4), .val (.int p5), .val (.int j1), .val (.int j2), .val (.int j3), .val (.int j4), .val (.int j5), .val (.int j7), .val (.ref b9), .val (.int j68), .val (.int (1 : Int32)), .val (.int j69), .val (.ref b71_0), .val (.int (1 : Int32)), .val (.int j80), .val (.int j82)] [(.int (1 : Int32))])) _
        refine XS.istore X85.here hx rfl (hb hby at_423) rfl (l' := #[.val (.int p1), .val (.int p2), .val (.int p3), .val (.int p4), .val (.int p5), .val (.int j1), .val (.int j2), .val (.int j3), .val (.int j4), .val (.int j5), .val (.int j7), .val (.ref b9), .val (.int j68), .val (.int (1 : Int32)), .val (.int j69), .val (.ref b71_0), .val (.int (1 : Int32)), .val (.int j80), .val (.int j82)]) rfl ?_
        show Steps p.tables e below (T85.setTop (mkF m 425 #[.val (.int p1), .val (.int p2), .val (.int p3), .val (.int p4), .val (.int p5), .val (.int j1), .val (.int j2), .val (.int j3), .val (.int j4), .val (.int j5), .val (.int j7), .val (.ref b9), .val (.int j68), .val (.int (1 : Int32)), .val (.int j69), .val (.ref b71_0), .val (.int (1 : Int32)), .val (.int j80), .val (.int j82)] [])) _
        refine XS.iload X85.here hx rfl (hb hby at_425) rfl ?_
        exact k
      obtain ⟨fs, hr, hrun, hended, hW, hsame⟩ := X85.leave (v := some (.int (1 : Int32))) (fun h => by rw [Bd.returns] at h; cases h)
      refine ⟨_, _, ?_, hrun, hended, _, _, rfl, ?_, ⟨_, rfl⟩, hW, hsame.mono (by decide) (by decide)⟩
      · exact retN X85 hx (t := .boolean) Bd.returns (by simp) (hb hby at_427) hr
      · show Q0 Z p1 p2 p3 p4 p5 h0 n0 _ T85.heap _
        rw [e85]
        exact ⟨rfl, NN⟩
set_option maxRecDepth 65536 in
set_option maxHeartbeats 40000000 in
theorem comes_1 {Post : Tables → Env → Array Value → State → Outcome → State → Prop} (hpost : ∀ tb e args s v u, (limb_1_1.after args s (.returned v) u = true ∧ limb_1_2.after args s (.returned v) u = true ∧ True) → FrameEnd s (.returned v) u (Jvm.fieldLocs frame_1_writes args s ++ Jvm.arrayLocs frame_1_arrays args s ++ Jvm.staticLocs frame_1_statics s) 16 8320 → Post tb e args s (.returned v) u) :
    ArmFor flags0 classFile x code maxLocals ret World_1 tables_1 room_1 Calls_1 rest_1 Pre_1 Post := by
  intro l hfl _ _ p e ha hc hk s m args below hf hA hF happ hP
  obtain ⟨hcalls, hrest, hpre⟩ := hP
  obtain ⟨-, -, -, hnamed, -, -, -, hat⟩ := (Spec.applies_iff hf).mp happ
  obtain ⟨hg, hn⟩ := and_e (Cond.before_iff.mp (show (Jvm.Cond.and given_1 narrow_1).before args s = true from hpre))
  obtain ⟨hcount, hg0⟩ := and_e hg
  obtain ⟨ha0, hg1⟩ := and_e hg0
  obtain ⟨ha1, hg2⟩ := and_e hg1
  obtain ⟨ha2, hg3⟩ := and_e hg2
  obtain ⟨ha3, hg4⟩ := and_e hg3
  have ha4 := hg4
  obtain ⟨w0, w1, w2, w3, w4, rfl⟩ : ∃ w0 w1 w2 w3 w4 : Value, args = #[w0, w1, w2, w3, w4] := by
    have hs : args.size = 5 := by simpa [Cond.value, given_1] using hcount
    obtain ⟨L⟩ := args
    match L, hs with
    | [w0, w1, w2, w3, w4], _ => exact ⟨w0, w1, w2, w3, w4, rfl⟩
  have hw := fun d (hd : d ∈ tables_1) => atoms_spec (ws := Jvm.Cond.code x code maxLocals ret :: tables_1) hat d (List.mem_cons_of_mem _ hd)
  obtain ⟨i0, ei0⟩ := is_v ha0
  obtain rfl : w0 = (.int i0) := Option.some.inj ei0
  obtain ⟨i1, ei1⟩ := is_v ha1
  obtain rfl : w1 = (.int i1) := Option.some.inj ei1
  obtain ⟨i2, ei2⟩ := is_v ha2
  obtain rfl : w2 = (.int i2) := Option.some.inj ei2
  obtain ⟨i3, ei3⟩ := is_v ha3
  obtain rfl : w3 = (.int i3) := Option.some.inj ei3
  obtain ⟨i4, ei4⟩ := is_v ha4
  obtain rfl : w4 = (.int i4) := Option.some.inj ei4
  obtain ⟨n, o, h1, h2, h3, _, L, rfl, ⟨rfl, N⟩, hq⟩ := rm0 l s _ hw tables_1 i0 i1 i2 i3 i4 s.heap s.heap.size (Nat.le_refl _) p e ha hc hk s m _ below hf ((Spec.applies_iff_loose hf).mp happ).1 ⟨rfl, State.Warmed39.refl s, rfl⟩ trivial
  refine ⟨n, _, h1, h2, h3, hpost _ _ _ _ _ _ ⟨Cond.after_iff.mpr rfl, Cond.after_iff.mpr (eq_i res_at (Term.int_eval (1)) rfl), trivial⟩ ⟨hq.1, hq.2.1, (hq.2.2.sift fun y hy => Or.inr (N y hy)).mono (by decide) (by decide)⟩⟩
theorem main_1_1 : Claimed_1_1 := comes_1 fun _ _ _ _ _ _ h hF => ⟨h.1, hF⟩
theorem main_1_2 : Claimed_1_2 := comes_1 fun _ _ _ _ _ _ h hF => ⟨h.2.1, hF⟩
end Jvm.Pilot.@@N@@
namespace Jvm.Pilot.@@N@@
open Jvm Jvm.ClassFile Sem Op Lib Jvm.Free Jvm.Stand Jvm.Pilot.@@N@@.Jvm.D
/-! MADE BY PROGRAM (witnessworld.py) out of the Statement's table words and the real class files: 13 classes; the members and pool entries that the words name. The judged class is class 1, her method 1. -/
namespace start1
open Jvm.ClassFile
def u (s : String) : CpInfo := .utf8 (stringToUtf16 s)
/-- a pool by its gaps: so many unusable entries, then the entry; so many at the end -/
def gap : Nat → List CpInfo → List CpInfo
  | 0, r => r
  | n + 1, r => .unusable :: gap n r
def poolList (es : List (Nat × CpInfo)) (last : Nat) : List CpInfo := es.foldr (fun e r => gap e.1 (e.2 :: r)) (gap last [])
def pool (es : List (Nat × CpInfo)) (last : Nat) : Array CpInfo := ⟨poolList es last⟩
def fileOf (pool : Array CpInfo) (this : Nat) (attrs : Array Attribute := #[]) (ms : Array MethodInfo := #[]) (fl : Nat := 33) (sup : Nat := 0) (ifs : Array Nat := #[]) (fds : Array FieldInfo := #[]) : ClassFile where
  minorVersion := 0
  majorVersion := 65
  constantPool := pool
  accessFlags := fl
  thisClass := this
  superClass := sup
  interfaces := ifs
  fields := fds
  methods := ms
  attributes := attrs
def plain (name : String) (sup : Option ClassId) : Class where
  name := name
  kind := .ordinary
  loader := none
  accessFlags := 33
  super := sup
  interfaces := #[]
  cf := none
  fields := #[]
  methods := #[]
  instanceTypes := #[]
  staticTypes := #[]
  resolved := #[]
  callSites := []
  init := .initialized
  statics := none
  mirror := none

def pool0 : Array CpInfo := pool [(5, u "<init>"), (0, u "()V"), (1, .class_ 10), (1, u "java/lang/Object"), (85, u "clone"), (0, u "()Ljava/lang/Object;")] 26

def k0c0 : Code := { maxStack := 0, maxLocals := 1, code := object_method_1_code, exceptionTable := #[], attributes := #[] }
def k0m0 : Method := { name := "<init>", desc := "()V", sig := { parameters := [], returnType := none }, accessFlags := 1, code := some k0c0 }
def k0m1 : Method := { name := "clone", desc := "()Ljava/lang/Object;", sig := { parameters := [], returnType := some (.object "java/lang/Object") }, accessFlags := 260, code := none }
/-- java/lang/Object -/
def k0 : Class := { plain "java/lang/Object" none with
  accessFlags := 33
  interfaces := #[]
  cf := some (fileOf pool0 8 #[] #[{ accessFlags := 1, nameIndex := 5, descriptorIndex := 6, attributes := #[] }, { accessFlags := 260, nameIndex := 96, descriptorIndex := 97, attributes := #[] }] 33 0 #[] #[])
  fields := #[]
  methods := #[k0m0, k0m1]
  instanceTypes := #[]
  staticTypes := #[]
  resolved := Array.replicate 124 none
  statics := none }

def pool1 : Array CpInfo := pool [(2, .class_ 4), (0, .nameAndType 5 6), (0, u "java/lang/Object"), (0, u "<init>"), (0, u "()V"), (0, .integer 131071), (0, .class_ 9), (0, u "com/example/capd/capd/status/Bitstring"), (0, .methodref 8 3), (0, .methodref 8 12), (0, .nameAndType 13 14), (0, u "set"), (0, u "(I)V"), (0, .methodref 8 16), (0, .nameAndType 17 18), (0, u "copy"), (0, u "()Lcom/example/capd/capd/status/Bitstring;"), (0, .methodref 8 20), (0, .nameAndType 21 22), (0, u "size"), (0, u "()I"), (0, .integer 131072), (0, .methodref 8 25), (0, .nameAndType 26 22), (0, u "count"), (0, .methodref 8 28), (0, .nameAndType 29 30), (0, u "get"), (0, u "(I)Z"), (0, .class_ 32), (0, u "com/example/capd/capd/status/BitstringCopyPinLaw"), (2, u "law"), (0, u "(IIIII)Z")] 3

def k1m0 : Method := { name := "<init>", desc := "()V", sig := { parameters := [], returnType := none }, accessFlags := 1, code := none }
def k1c1 : Code := { maxStack := 3, maxLocals := 19, code := code, exceptionTable := #[], attributes := #[] }
def k1m1 : Method := { name := "law", desc := "(IIIII)Z", sig := { parameters := [.int, .int, .int, .int, .int], returnType := some .boolean }, accessFlags := 9, code := some k1c1 }
/-- com/example/capd/capd/status/BitstringCopyPinLaw -/
def k1 : Class := { plain "com/example/capd/capd/status/BitstringCopyPinLaw" (some 0) with
  accessFlags := 49
  interfaces := #[]
  cf := some (fileOf pool1 31 #[] #[{ accessFlags := 1, nameIndex := 5, descriptorIndex := 6, attributes := #[] }, { accessFlags := 9, nameIndex := 35, descriptorIndex := 36, attributes := #[] }] 49 2 #[] #[])
  fields := #[]
  methods := #[k1m0, k1m1]
  instanceTypes := #[]
  staticTypes := #[]
  resolved := Array.replicate 40 none
  statics := none }

def pool2 : Array CpInfo := pool [(1, .class_ 2), (0, u "com/example/capd/capd/status/Bitstring"), (2, .integer 131072), (0, .methodref 1 7), (0, .nameAndType 8 9), (0, u "<init>"), (0, u "([JII)V"), (0, .methodref 11 12), (0, .class_ 13), (0, .nameAndType 8 14), (0, u "java/lang/Object"), (0, u "()V"), (0, .fieldref 1 16), (0, .nameAndType 17 18), (0, u "words"), (0, u "[J"), (0, .fieldref 1 20), (0, .nameAndType 21 22), (0, u "size"), (0, u "I"), (0, .fieldref 1 24), (0, .nameAndType 25 22), (0, u "count"), (95, u "get"), (5, .methodref 128 129), (0, .class_ 130), (0, .nameAndType 131 132), (0, u "java/util/Objects"), (0, u "checkIndex"), (0, u "(II)I"), (0, .methodref 1 134), (0, .nameAndType 135 136), (0, u "mask"), (0, u "(I)J"), (0, .methodref 1 138), (0, .nameAndType 121 139), (0, u "(I)Z"), (0, .long 9223372036854775808), (1, .methodref 143 144), (0, .class_ 18), (0, .nameAndType 145 146), (0, u "clone"), (0, u "()Ljava/lang/Object;"), (15, .class_ 163), (0, u "com/example/capd/capd/status/Bitstring$SmallestGzip"), (39, u "SIZE"), (1, u "MAX_SIZE"), (1, u "WORD_BITS"), (7, u "()I"), (0, u "set"), (0, u "(I)V"), (2, u "copy"), (0, u "()Lcom/example/capd/capd/status/Bitstring;")] 23

def k2c0 : Code := { maxStack := 4, maxLocals := 1, code := prog_3_method_1_code, exceptionTable := #[], attributes := #[] }
def k2m0 : Method := { name := "<init>", desc := "()V", sig := { parameters := [], returnType := none }, accessFlags := 1, code := some k2c0 }
def k2c1 : Code := { maxStack := 2, maxLocals := 4, code := prog_3_method_2_code, exceptionTable := #[], attributes := #[] }
def k2m1 : Method := { name := "<init>", desc := "([JII)V", sig := { parameters := [(.array .long), .int, .int], returnType := none }, accessFlags := 2, code := some k2c1 }
def k2c2 : Code := { maxStack := 1, maxLocals := 1, code := prog_3_method_5_code, exceptionTable := #[], attributes := #[] }
def k2m2 : Method := { name := "size", desc := "()I", sig := { parameters := [], returnType := some .int }, accessFlags := 1, code := some k2c2 }
def k2c3 : Code := { maxStack := 4, maxLocals := 2, code := prog_3_method_6_code, exceptionTable := #[], attributes := #[] }
def k2m3 : Method := { name := "get", desc := "(I)Z", sig := { parameters := [.int], returnType := some .boolean }, accessFlags := 1, code := some k2c3 }
def k2c4 : Code := { maxStack := 6, maxLocals := 2, code := prog_3_method_7_code, exceptionTable := #[], attributes := #[] }
def k2m4 : Method := { name := "set", desc := "(I)V", sig := { parameters := [.int], returnType := none }, accessFlags := 1, code := some k2c4 }
def k2c5 : Code := { maxStack := 4, maxLocals := 1, code := prog_3_method_8_code, exceptionTable := #[], attributes := #[] }
def k2m5 : Method := { name := "mask", desc := "(I)J", sig := { parameters := [.int], returnType := some .long }, accessFlags := 10, code := some k2c5 }
def k2c6 : Code := { maxStack := 1, maxLocals := 1, code := prog_3_method_9_code, exceptionTable := #[], attributes := #[] }
def k2m6 : Method := { name := "count", desc := "()I", sig := { parameters := [], returnType := some .int }, accessFlags := 1, code := some k2c6 }
def k2c7 : Code := { maxStack := 5, maxLocals := 1, code := prog_3_method_11_code, exceptionTable := #[], attributes := #[] }
def k2m7 : Method := { name := "copy", desc := "()Lcom/example/capd/capd/status/Bitstring;", sig := { parameters := [], returnType := some (.object "com/example/capd/capd/status/Bitstring") }, accessFlags := 1, code := some k2c7 }
/-- com/example/capd/capd/status/Bitstring -/
def k2 : Class := { plain "com/example/capd/capd/status/Bitstring" (some 0) with
  accessFlags := 49
  interfaces := #[]
  cf := some (fileOf pool2 1 #[.nestMembers #[162]] #[{ accessFlags := 1, nameIndex := 8, descriptorIndex := 14, attributes := #[] }, { accessFlags := 2, nameIndex := 8, descriptorIndex := 9, attributes := #[] }, { accessFlags := 1, nameIndex := 21, descriptorIndex := 215, attributes := #[] }, { accessFlags := 1, nameIndex := 121, descriptorIndex := 139, attributes := #[] }, { accessFlags := 1, nameIndex := 216, descriptorIndex := 217, attributes := #[] }, { accessFlags := 10, nameIndex := 135, descriptorIndex := 136, attributes := #[] }, { accessFlags := 1, nameIndex := 25, descriptorIndex := 215, attributes := #[] }, { accessFlags := 1, nameIndex := 220, descriptorIndex := 221, attributes := #[] }] 49 11 #[] #[{ accessFlags := 25, nameIndex := 203, descriptorIndex := 22, attributes := #[] }, { accessFlags := 25, nameIndex := 205, descriptorIndex := 22, attributes := #[] }, { accessFlags := 26, nameIndex := 207, descriptorIndex := 22, attributes := #[] }, { accessFlags := 18, nameIndex := 17, descriptorIndex := 18, attributes := #[] }, { accessFlags := 18, nameIndex := 21, descriptorIndex := 22, attributes := #[] }, { accessFlags := 2, nameIndex := 25, descriptorIndex := 22, attributes := #[] }])
  fields := #[{ name := "SIZE", type := .int, accessFlags := 25, slot := 0, constantValue := 0 }, { name := "MAX_SIZE", type := .int, accessFlags := 25, slot := 1, constantValue := 0 }, { name := "WORD_BITS", type := .int, accessFlags := 26, slot := 2, constantValue := 0 }, { name := "words", type := (.array .long), accessFlags := 18, slot := 0, constantValue := 0 }, { name := "size", type := .int, accessFlags := 18, slot := 1, constantValue := 0 }, { name := "count", type := .int, accessFlags := 2, slot := 2, constantValue := 0 }]
  methods := #[k2m0, k2m1, k2m2, k2m3, k2m4, k2m5, k2m6, k2m7]
  instanceTypes := #[(.array .long), .int, .int]
  staticTypes := #[.int, .int, .int]
  resolved := Array.replicate 245 none
  statics := none }

def pool3 : Array CpInfo := pool [(1, .class_ 2), (0, u "java/lang/Cloneable"), (0, .class_ 4), (0, u "java/lang/Object")] 2

/-- java/lang/Cloneable -/
def k3 : Class := { plain "java/lang/Cloneable" (some 0) with
  accessFlags := 1537
  interfaces := #[]
  cf := some (fileOf pool3 1 #[] #[] 1537 3 #[] #[])
  fields := #[]
  methods := #[]
  instanceTypes := #[]
  staticTypes := #[]
  resolved := Array.replicate 7 none
  statics := none }

def pool4 : Array CpInfo := pool [(2, .class_ 4), (1, u "java/lang/Object"), (0, u "<init>"), (0, u "()V"), (35, .class_ 44), (1, u "java/util/Objects"), (60, .methodref 106 107), (0, .class_ 108), (0, .nameAndType 109 110), (0, u "jdk/internal/util/Preconditions"), (0, u "checkIndex"), (0, u "(IILjava/util/function/BiFunction;)I"), (60, u "(II)I")] 12

def k4m0 : Method := { name := "<init>", desc := "()V", sig := { parameters := [], returnType := none }, accessFlags := 2, code := none }
def k4c1 : Code := { maxStack := 3, maxLocals := 2, code := jdk_31_method_17_code, exceptionTable := #[], attributes := #[] }
def k4m1 : Method := { name := "checkIndex", desc := "(II)I", sig := { parameters := [.int, .int], returnType := some .int }, accessFlags := 9, code := some k4c1 }
/-- java/util/Objects -/
def k4 : Class := { plain "java/util/Objects" (some 0) with
  accessFlags := 49
  interfaces := #[]
  cf := some (fileOf pool4 42 #[] #[{ accessFlags := 2, nameIndex := 5, descriptorIndex := 6, attributes := #[] }, { accessFlags := 9, nameIndex := 109, descriptorIndex := 171, attributes := #[] }] 49 2 #[] #[])
  fields := #[]
  methods := #[k4m0, k4m1]
  instanceTypes := #[]
  staticTypes := #[]
  resolved := Array.replicate 184 none
  statics := none }

def pool5 : Array CpInfo := pool [(2, .class_ 4), (1, u "java/lang/Object"), (0, u "<init>"), (0, u "()V"), (17, .class_ 26), (1, u "jdk/internal/util/Preconditions"), (6, u "checkIndex"), (21, .class_ 56), (0, u "jdk/internal/util/Preconditions$4"), (57, .class_ 115), (0, u "jdk/internal/util/Preconditions$1"), (7, u "SIOOBE_FORMATTER"), (0, u "Ljava/util/function/BiFunction;"), (0, .class_ 126), (0, u "jdk/internal/util/Preconditions$2"), (3, u "AIOOBE_FORMATTER"), (0, .class_ 132), (0, u "jdk/internal/util/Preconditions$3"), (3, u "IOOBE_FORMATTER"), (41, u "(IILjava/util/function/BiFunction;)I")] 15

def k5m0 : Method := { name := "<init>", desc := "()V", sig := { parameters := [], returnType := none }, accessFlags := 1, code := none }
def k5c1 : Code := { maxStack := 3, maxLocals := 3, code := jdk_41_method_11_code, exceptionTable := #[], attributes := #[] }
def k5m1 : Method := { name := "checkIndex", desc := "(IILjava/util/function/BiFunction;)I", sig := { parameters := [.int, .int, (.object "java/util/function/BiFunction")], returnType := some .int }, accessFlags := 9, code := some k5c1 }
/-- jdk/internal/util/Preconditions -/
def k5 : Class := { plain "jdk/internal/util/Preconditions" (some 0) with
  accessFlags := 33
  interfaces := #[]
  cf := some (fileOf pool5 24 #[.nestMembers #[55, 131, 125, 114]] #[{ accessFlags := 1, nameIndex := 5, descriptorIndex := 6, attributes := #[] }, { accessFlags := 9, nameIndex := 33, descriptorIndex := 178, attributes := #[] }] 33 2 #[] #[{ accessFlags := 25, nameIndex := 123, descriptorIndex := 124, attributes := #[] }, { accessFlags := 25, nameIndex := 130, descriptorIndex := 124, attributes := #[] }, { accessFlags := 25, nameIndex := 136, descriptorIndex := 124, attributes := #[] }])
  fields := #[{ name := "SIOOBE_FORMATTER", type := (.object "java/util/function/BiFunction"), accessFlags := 25, slot := 0, constantValue := 0 }, { name := "AIOOBE_FORMATTER", type := (.object "java/util/function/BiFunction"), accessFlags := 25, slot := 1, constantValue := 0 }, { name := "IOOBE_FORMATTER", type := (.object "java/util/function/BiFunction"), accessFlags := 25, slot := 2, constantValue := 0 }]
  methods := #[k5m0, k5m1]
  instanceTypes := #[]
  staticTypes := #[(.object "java/util/function/BiFunction"), (.object "java/util/function/BiFunction"), (.object "java/util/function/BiFunction")]
  resolved := Array.replicate 194 none
  statics := none }

def pool6 : Array CpInfo := pool [(1, u "java/io/Serializable"), (0, .class_ 1), (0, u "java/lang/Object"), (0, .class_ 3)] 3

/-- java/io/Serializable -/
def k6 : Class := { plain "java/io/Serializable" (some 0) with
  accessFlags := 1537
  interfaces := #[]
  cf := some (fileOf pool6 2 #[] #[] 1537 4 #[] #[])
  fields := #[]
  methods := #[]
  instanceTypes := #[]
  staticTypes := #[]
  resolved := Array.replicate 8 none
  statics := none }

/-- the primitive byte -/
def k7 : Class := { plain "byte" none with kind := .primitive 'B', accessFlags := 0x411 }
/-- [B -/
def k8 : Class := { plain "[B" (some 0) with kind := .array 7 .byte, interfaces := #[3, 6], accessFlags := 1041 }

/-- the primitive int -/
def k9 : Class := { plain "int" none with kind := .primitive 'I', accessFlags := 0x411 }
/-- [I -/
def k10 : Class := { plain "[I" (some 0) with kind := .array 9 .int, interfaces := #[3, 6], accessFlags := 1041 }

/-- the primitive long -/
def k11 : Class := { plain "long" none with kind := .primitive 'J', accessFlags := 0x411 }
/-- [J -/
def k12 : Class := { plain "[J" (some 0) with kind := .array 11 .long, interfaces := #[3, 6], accessFlags := 1041 }

def heap : Heap := #[]
def classes : Array Class := #[k0, k1, k2, k3, k4, k5, k6, k7, k8, k9, k10, k11, k12]
def interned : List (Array UInt16 × Addr) := []
def slotsUsed : Nat := 0
def theMethod : MethodId := ⟨1, 1⟩
def args0 : Array Value := #[.int 5, .int 6, .int 7, .int 8, .int 9]
def aboutOver (below : List Frame) : State where
  vm := { classes := classes, interned := interned.toArray }
  heap := heap
  slotsUsed := slotsUsed
  threads := #[{ frames := .invoking theMethod args0 :: below }]
def below0 : List Frame := [.native { method := ⟨0, 0⟩, args := #[] }]
def about1 : State := aboutOver below0
def p0 : Program := .bare "" "" ""
def e0 : Env := launch0.env 0 0 0
theorem w_frames : about1.frames = Frame.invoking theMethod args0 :: below0 := rfl
set_option maxRecDepth 65536 in
theorem w_args : argsFit about1.vm theMethod args0 = true := by decide +kernel
set_option maxRecDepth 65536 in
theorem w_heap : heapFits about1 = true := by decide +kernel
set_option maxRecDepth 65536 in
theorem w_runnable : about1.curStatus? = some .runnable := by decide +kernel
set_option maxRecDepth 65536 in
theorem w_alone : about1.alone = true := by decide +kernel
set_option maxRecDepth 65536 in
theorem w_named : about1.methodNamed? x = some theMethod := by decide +kernel
set_option maxRecDepth 65536 in
theorem w_hears : about1.hears theMethod below0 = true := by decide +kernel
set_option maxRecDepth 65536 in
theorem w_ripe : about1.ripe theMethod args0 below0 = true := by decide +kernel
theorem w_running : about1.status = .running := rfl
set_option maxRecDepth 65536 in
theorem w_room : about1.hasRoom e0.platform room_1 = true :=
  launch0.hasRoom_least _ room_1 (by decide +kernel) (by decide +kernel) (by decide +kernel) (by decide +kernel) (by decide +kernel) (by decide +kernel)
theorem allAtoms_all (ts : List Jvm.Cond) (a : Array Jvm.Value) (st : Jvm.State) : (allAtoms ts).before a st = ts.all (fun c => c.before a st) := by
  induction ts with
  | nil => rfl
  | cons c t ih =>
    show (Jvm.Cond.and c (allAtoms t)).before a st = _
    rw [Jvm.Cond.before_and, ih, List.all_cons]
def words1 : List Jvm.Cond := Jvm.Cond.code x code maxLocals ret :: tables_1
/-- a 'code' word, met by the world's own term for the bytes: nothing is compared byte by byte -/
theorem code_word {y : MethodName} {bytes : ByteArray} {mx : Nat} {rt : Option FieldType} {a : Array Value} {s : State} {m : MethodId} {meth : Method} {c : Code} (h1 : s.methodNamed? y = some m) (h2 : s.vm.method? m = some meth) (h3 : meth.code = some c) (h4 : c.code = bytes)
    (h5 : (c.maxLocals == mx && c.exceptionTable.isEmpty && decide (c.maxStack ≤ mostOperands) && decide (meth.sig.returnType = rt) && !meth.locks && decide (parseMethodDescriptor y.desc = some meth.sig)) = true) : (Jvm.Cond.code y bytes mx rt).before a s = true := by
  simp only [Bool.and_eq_true, beq_iff_eq, Bool.not_eq_true', decide_eq_true_eq] at h5
  obtain ⟨⟨⟨⟨⟨g1, g2⟩, g3⟩, g4⟩, g5⟩, g6⟩ := h5
  simp [Cond.before, Cond.holds, Cond.value, h1, h2, h3, h4, g1, g2, g3, g4, g5, g6]
def isCode : Jvm.Cond → Bool
  | .code _ _ _ _ => true
  | _ => false
theorem all_split {L : List Jvm.Cond} {P : Jvm.Cond → Bool} (h1 : L.all (fun c => isCode c || P c) = true) (h2 : ∀ c ∈ L.filter isCode, P c = true) : L.all P = true := by
  refine List.all_eq_true.mpr fun c hc => ?_
  have h := List.all_eq_true.mp h1 c hc
  rcases Bool.eq_false_or_eq_true (isCode c) with hi | hi
  · exact h2 c (List.mem_filter.mpr ⟨hc, hi⟩)
  · simpa [hi] using h
set_option maxRecDepth 65536 in
theorem w_c0 : (Jvm.Cond.code x code maxLocals ret).before args0 about1 = true := code_word (m := ⟨1, 1⟩) (meth := k1m1) (c := k1c1) (by decide +kernel) rfl rfl rfl (by decide +kernel)
set_option maxRecDepth 65536 in
theorem w_c1 : (Jvm.Cond.code ({ cls := "com/example/capd/capd/status/Bitstring", name := "<init>", desc := "()V" } : Jvm.MethodName) prog_3_method_1_code (1 : Nat) (Option.none : Option Jvm.ClassFile.FieldType)).before args0 about1 = true := code_word (m := ⟨2, 0⟩) (meth := k2m0) (c := k2c0) (by decide +kernel) rfl rfl rfl (by decide +kernel)
set_option maxRecDepth 65536 in
theorem w_c2 : (Jvm.Cond.code ({ cls := "com/example/capd/capd/status/Bitstring", name := "<init>", desc := "([JII)V" } : Jvm.MethodName) prog_3_method_2_code (4 : Nat) (Option.none : Option Jvm.ClassFile.FieldType)).before args0 about1 = true := code_word (m := ⟨2, 1⟩) (meth := k2m1) (c := k2c1) (by decide +kernel) rfl rfl rfl (by decide +kernel)
set_option maxRecDepth 65536 in
theorem w_c3 : (Jvm.Cond.code ({ cls := "java/lang/Object", name := "<init>", desc := "()V" } : Jvm.MethodName) object_method_1_code (1 : Nat) (Option.none : Option Jvm.ClassFile.FieldType)).before args0 about1 = true := code_word (m := ⟨0, 0⟩) (meth := k0m0) (c := k0c0) (by decide +kernel) rfl rfl rfl (by decide +kernel)
set_option maxRecDepth 65536 in
theorem w_c4 : (Jvm.Cond.code ({ cls := "com/example/capd/capd/status/Bitstring", name := "copy", desc := "()Lcom/example/capd/capd/status/Bitstring;" } : Jvm.MethodName) prog_3_method_11_code (1 : Nat) (Option.some (Jvm.ClassFile.FieldType.object "com/example/capd/capd/status/Bitstring"))).before args0 about1 = true := code_word (m := ⟨2, 7⟩) (meth := k2m7) (c := k2c7) (by decide +kernel) rfl rfl rfl (by decide +kernel)
set_option maxRecDepth 65536 in
theorem w_c5 : (Jvm.Cond.code ({ cls := "com/example/capd/capd/status/Bitstring", name := "size", desc := "()I" } : Jvm.MethodName) prog_3_method_5_code (1 : Nat) (Option.some Jvm.ClassFile.FieldType.int)).before args0 about1 = true := code_word (m := ⟨2, 2⟩) (meth := k2m2) (c := k2c2) (by decide +kernel) rfl rfl rfl (by decide +kernel)
set_option maxRecDepth 65536 in
theorem w_c6 : (Jvm.Cond.code ({ cls := "com/example/capd/capd/status/Bitstring", name := "count", desc := "()I" } : Jvm.MethodName) prog_3_method_9_code (1 : Nat) (Option.some Jvm.ClassFile.FieldType.int)).before args0 about1 = true := code_word (m := ⟨2, 6⟩) (meth := k2m6) (c := k2c6) (by decide +kernel) rfl rfl rfl (by decide +kernel)
set_option maxRecDepth 65536 in
theorem w_c7 : (Jvm.Cond.code ({ cls := "com/example/capd/capd/status/Bitstring", name := "get", desc := "(I)Z" } : Jvm.MethodName) prog_3_method_6_code (2 : Nat) (Option.some Jvm.ClassFile.FieldType.boolean)).before args0 about1 = true := code_word (m := ⟨2, 3⟩) (meth := k2m3) (c := k2c3) (by decide +kernel) rfl rfl rfl (by decide +kernel)
set_option maxRecDepth 65536 in
theorem w_c8 : (Jvm.Cond.code ({ cls := "java/util/Objects", name := "checkIndex", desc := "(II)I" } : Jvm.MethodName) jdk_31_method_17_code (2 : Nat) (Option.some Jvm.ClassFile.FieldType.int)).before args0 about1 = true := code_word (m := ⟨4, 1⟩) (meth := k4m1) (c := k4c1) (by decide +kernel) rfl rfl rfl (by decide +kernel)
set_option maxRecDepth 65536 in
theorem w_c9 : (Jvm.Cond.code ({ cls := "jdk/internal/util/Preconditions", name := "checkIndex", desc := "(IILjava/util/function/BiFunction;)I" } : Jvm.MethodName) jdk_41_method_11_code (3 : Nat) (Option.some Jvm.ClassFile.FieldType.int)).before args0 about1 = true := code_word (m := ⟨5, 1⟩) (meth := k5m1) (c := k5c1) (by decide +kernel) rfl rfl rfl (by decide +kernel)
set_option maxRecDepth 65536 in
theorem w_c10 : (Jvm.Cond.code ({ cls := "com/example/capd/capd/status/Bitstring", name := "mask", desc := "(I)J" } : Jvm.MethodName) prog_3_method_8_code (1 : Nat) (Option.some Jvm.ClassFile.FieldType.long)).before args0 about1 = true := code_word (m := ⟨2, 5⟩) (meth := k2m5) (c := k2c5) (by decide +kernel) rfl rfl rfl (by decide +kernel)
set_option maxRecDepth 65536 in
theorem w_c11 : (Jvm.Cond.code ({ cls := "com/example/capd/capd/status/Bitstring", name := "set", desc := "(I)V" } : Jvm.MethodName) prog_3_method_7_code (2 : Nat) (Option.none : Option Jvm.ClassFile.FieldType)).before args0 about1 = true := code_word (m := ⟨2, 4⟩) (meth := k2m4) (c := k2c4) (by decide +kernel) rfl rfl rfl (by decide +kernel)
def codes1 : List Jvm.Cond := [Jvm.Cond.code x code maxLocals ret, Jvm.Cond.code ({ cls := "com/example/capd/capd/status/Bitstring", name := "<init>", desc := "()V" } : Jvm.MethodName) prog_3_method_1_code (1 : Nat) (Option.none : Option Jvm.ClassFile.FieldType), Jvm.Cond.code ({ cls := "com/example/capd/capd/status/Bitstring", name := "<init>", desc := "([JII)V" } : Jvm.MethodName) prog_3_method_2_code (4 : Nat) (Option.none : Option Jvm.ClassFile.FieldType), Jvm.Cond.code ({ cls := "java/lang/Object", name := "<init>", desc := "()V" } : Jvm.MethodName) object_method_1_code (1 : Nat) (Option.none : Option Jvm.ClassFile.FieldType), Jvm.Cond.code ({ cls := "com/example/capd/capd/status/Bitstring", name := "copy", desc := "()Lcom/example/capd/capd/status/Bitstring;" } : Jvm.MethodName) prog_3_method_11_code (1 : Nat) (Option.some (Jvm.ClassFile.FieldType.object "com/example/capd/capd/status/Bitstring")), Jvm.Cond.code ({ cls := "com/example/capd/capd/status/Bitstring", name := "size", desc := "()I" } : Jvm.MethodName) prog_3_method_5_code (1 : Nat) (Option.some Jvm.ClassFile.FieldType.int), Jvm.Cond.code ({ cls := "com/example/capd/capd/status/Bitstring", name := "count", desc := "()I" } : Jvm.MethodName) prog_3_method_9_code (1 : Nat) (Option.some Jvm.ClassFile.FieldType.int), Jvm.Cond.code ({ cls := "com/example/capd/capd/status/Bitstring", name := "get", desc := "(I)Z" } : Jvm.MethodName) prog_3_method_6_code (2 : Nat) (Option.some Jvm.ClassFile.FieldType.boolean), Jvm.Cond.code ({ cls := "java/util/Objects", name := "checkIndex", desc := "(II)I" } : Jvm.MethodName) jdk_31_method_17_code (2 : Nat) (Option.some Jvm.ClassFile.FieldType.int), Jvm.Cond.code ({ cls := "jdk/internal/util/Preconditions", name := "checkIndex", desc := "(IILjava/util/function/BiFunction;)I" } : Jvm.MethodName) jdk_41_method_11_code (3 : Nat) (Option.some Jvm.ClassFile.FieldType.int), Jvm.Cond.code ({ cls := "com/example/capd/capd/status/Bitstring", name := "mask", desc := "(I)J" } : Jvm.MethodName) prog_3_method_8_code (1 : Nat) (Option.some Jvm.ClassFile.FieldType.long), Jvm.Cond.code ({ cls := "com/example/capd/capd/status/Bitstring", name := "set", desc := "(I)V" } : Jvm.MethodName) prog_3_method_7_code (2 : Nat) (Option.none : Option Jvm.ClassFile.FieldType)]
set_option maxRecDepth 65536 in
theorem codes_eq : words1.filter isCode = codes1 := rfl
theorem w_codes : ∀ c ∈ words1.filter isCode, c.before args0 about1 = true := by
  rw [codes_eq]
  intro c hc
  simp only [codes1, List.mem_cons, List.not_mem_nil, or_false] at hc
  rcases hc with rfl | rfl | rfl | rfl | rfl | rfl | rfl | rfl | rfl | rfl | rfl | rfl
  · exact w_c0
  · exact w_c1
  · exact w_c2
  · exact w_c3
  · exact w_c4
  · exact w_c5
  · exact w_c6
  · exact w_c7
  · exact w_c8
  · exact w_c9
  · exact w_c10
  · exact w_c11
set_option maxRecDepth 65536 in
theorem w_t1 : (words1.take 24).all (fun c => isCode c || c.before args0 about1) = true := by decide +kernel
set_option maxRecDepth 65536 in
theorem w_t2 : ((words1.drop 24).take 24).all (fun c => isCode c || c.before args0 about1) = true := by decide +kernel
set_option maxRecDepth 65536 in
theorem w_t3 : ((words1.drop 24).drop 24).all (fun c => isCode c || c.before args0 about1) = true := by decide +kernel
theorem w_tables : (allAtoms (Jvm.Cond.code x code maxLocals ret :: tables_1)).before args0 about1 = true := by
  rw [allAtoms_all]
  show words1.all (fun c => c.before args0 about1) = true
  refine all_split ?_ w_codes
  rw [← List.take_append_drop 24 words1, List.all_append, w_t1, ← List.take_append_drop 24 (words1.drop 24), List.all_append, w_t2, w_t3]
  rfl
set_option maxRecDepth 65536 in
theorem w_case : (Jvm.Cond.and given_1 narrow_1).before args0 about1 = true := by decide +kernel
theorem w_applies : (headSpec (Jvm.Cond.code x code maxLocals ret :: tables_1) room_1).applies x e0.platform about1 = true :=
  (Spec.applies_iff w_frames).mpr ⟨w_running, w_runnable, w_alone, w_named, w_hears, w_ripe, w_room, w_tables⟩
theorem atStart : AtStart classFile x code maxLocals ret World_1 tables_1 room_1 Calls_1 rest_1 Pre_1 launch0 p0 e0 about1 theMethod args0 below0 :=
  ⟨lists_1, trivial, launch0.admits_env _ _ _, launch0.least_env, fairChoices_fair.cas, fairChoices_fair.clock, w_frames, w_args, w_heap, w_applies, trivial, trivial, w_case⟩
end start1
theorem witness_1 : WitnessClaimed_1 := ⟨start1.p0, start1.e0, start1.about1, start1.theMethod, start1.args0, start1.below0, start1.atStart⟩
end Jvm.Pilot.@@N@@

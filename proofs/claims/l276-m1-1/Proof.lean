import JvmDerived
import JvmDerived.Pilot.@@N@@Statement
import JvmDerived.Pilot.@@N@@Code
set_option linter.unusedVariables false
set_option linter.unusedSimpArgs false
namespace Jvm.RoadKit
open Sem ClassFile Op Lib Jvm.Stand Jvm.Free Jvm.LawKit
section New
variable {p : Program} {l : Launch} {e : Env} {R : Room} {s : State} {m : MethodId} {args : Array Value} {below : List Frame} {meth : Method} {c : Code} {T : State} {locs : List Loc} {cells slots : Nat}
theorem retI (X : Stand p l e R s m args below meth c T locs cells slots) (hx : p.tables.exec = Jvm.exec) {pc : Nat} {Ls : Array Slot} {z : Int32} {rest : List Value} (hret : meth.sig.returnType = some .int) (hd : decode c.code pc = .ok (.ireturn, 1)) {fs : List Frame}
    (hl : ∀ (f : JFrame) (acts : List Action), f.method = m → f.locked = none → f.entered = [] → (doReturn e (T.setTop f) acts (some (.int z))).1 = T.setFrames fs) : Steps p.tables e below (T.setTop (mkF m pc Ls (.int z :: rest))) (T.setFrames fs) := by
  have hm' : T.vm.method? m = some meth := X.method'
  have hn : narrow .int (.int z) = .int z := rfl
  show Steps p.tables e below (T.setTop { method := m, pc := pc, locals := Ls, stack := _ :: rest, locked := none }) _
  jvm_step X.here [X.here.top, hx, hd, hm', hret, hn]
  first | (intro acts; rw [hl _ acts rfl rfl rfl]) | rw [hl _ _ rfl rfl rfl]
  exact Steps.refl _
theorem own_retJ (X : Stand p l e R s m args below meth c T locs cells slots) (hx : p.tables.exec = Jvm.exec) {pc : Nat} {Ls : Array Slot} {z : Int64} {rest : List Value} (hret : meth.sig.returnType = some .long) (hd : decode c.code pc = .ok (.lreturn, 1)) {fs : List Frame}
    (hl : ∀ (f : JFrame) (acts : List Action), f.method = m → f.locked = none → f.entered = [] → (doReturn e (T.setTop f) acts (some (.long z))).1 = T.setFrames fs) : Steps p.tables e below (T.setTop (mkF m pc Ls (.long z :: rest))) (T.setFrames fs) :=
  retOut X hx (t := .long) (i := .lreturn) hret rfl (Or.inr (Or.inl ⟨rfl, rfl, z, rfl⟩)) hd hl
theorem own_retR (X : Stand p l e R s m args below meth c T locs cells slots) (hx : p.tables.exec = Jvm.exec) {pc : Nat} {Ls : Array Slot} {w : Value} {t : FieldType} {rest : List Value} (hret : meth.sig.returnType = some t) (ht : t.isReference = true) (hw : w.isRef = true) (hd : decode c.code pc = .ok (.areturn, 1)) {fs : List Frame}
    (hl : ∀ (f : JFrame) (acts : List Action), f.method = m → f.locked = none → f.entered = [] → (doReturn e (T.setTop f) acts (some w)).1 = T.setFrames fs) : Steps p.tables e below (T.setTop (mkF m pc Ls (w :: rest))) (T.setFrames fs) :=
  retOut X hx (i := .areturn) hret (by cases t <;> simp_all [FieldType.isReference, narrow]) (Or.inr (Or.inr (Or.inr (Or.inr ⟨rfl, ht, hw⟩)))) hd hl
theorem own_narZ (x : Int32) : nar .boolean x = x &&& 1 := rfl
theorem own_narC (x : Int32) : nar .char x = x.toUInt32.toUInt16.toUInt32.toInt32 := rfl
theorem own_narB (x : Int32) : nar .byte x = x.toInt8.toInt32 := rfl
/-- where the run stands, and how it ends -/
abbrev own_Go (tb : Tables) (e : Env) (below : List Frame) (P : State → Outcome → Prop) (T : State) (g : JFrame) : Prop := ∃ s₂ o, Steps tb e below (T.setTop g) s₂ ∧ s₂.status = .running ∧ Ended s₂ below o ∧ P s₂ o
theorem own_go {tb : Tables} {P : State → Outcome → Prop} {T' : State} {g g' : JFrame} (st : ∀ t, Steps tb e below (T'.setTop g') t → Steps tb e below (T.setTop g) t) (k : own_Go tb e below P T' g') : own_Go tb e below P T g := by
  obtain ⟨s₂, o, h1, h2⟩ := k
  exact ⟨s₂, o, st _ h1, h2⟩
theorem own_start {tb : Tables} {P : State → Outcome → Prop} {g g' : JFrame} (q : g = g') (k : own_Go tb e below P T g') : own_Go tb e below P T g := q ▸ k
theorem own_selPriv {z y : MethodName} (hz : z.cls = y.cls) (hs : (Cond.selects y.cls z z).before args s = true) (hp : s.PrivateAt y) (hi : (Cond.instanceMethod y).before args s = true) (hy : y.cls ≠ "java/lang/invoke/MethodHandle" ∧ y.cls ≠ "java/lang/invoke/VarHandle") : (Cond.selects y.cls y y).before args s = true := by
  obtain ⟨c, r, m, h1, -, h3, -, k, h5, h6⟩ := Cond.selects_spec hs
  exact selects_self_of_private (hz ▸ findClass_of_methodNamed h3) h5 h6 hp hi hy
end New
end Jvm.RoadKit
namespace Jvm.Pilot.@@N@@
open Jvm Jvm.ClassFile Sem Op Lib Jvm.Free Jvm.Stand Jvm.LawKit Jvm.RoadKit Bundle Jvm.Pilot.@@N@@.Jvm.D
theorem own_pl_shr (x s : Int64) : 0 ≤ (((x &&& (9223372036854775807 : Int64)).toUInt64 >>> s.toUInt64).toInt64).toInt := by
  have h := c_maskL x (9223372036854775807 : Int64) 63 (by decide) (by decide)
  have h1 : 0 ≤ (x &&& (9223372036854775807 : Int64)).toInt := by rw [h]; omega
  generalize (x &&& (9223372036854775807 : Int64)) = y at h1
  have h2 := y.toInt_lt
  have e1 : y.toInt = y.toBitVec.toInt := rfl
  have h3 : y.toBitVec.toNat < 2 ^ 63 := by
    rw [e1, BitVec.toInt_eq_toNat_cond] at h1
    have := y.toBitVec.isLt
    split at h1 <;> omega
  show 0 ≤ ((y.toUInt64 >>> s.toUInt64).toBitVec).toInt
  have e2 : (y.toUInt64 >>> s.toUInt64).toBitVec.toNat ≤ y.toBitVec.toNat := by
    show (y.toUInt64 >>> s.toUInt64).toNat ≤ _
    rw [UInt64.toNat_shiftRight]
    exact Nat.shiftRight_le _ _
  rw [BitVec.toInt_eq_toNat_cond]
  split <;> omega
theorem own_pl_le (a b m : Int) (hb : 0 < b) (h : ¬ m / b < a) : a * b ≤ m := by
  have h1 : a ≤ m / b := by omega
  exact Int.le_trans (Int.mul_le_mul_of_nonneg_right h1 (by omega)) (Int.ediv_mul_le m (by omega))
theorem own_pl_gt (a b m : Int) (hb : 0 < b) (h : m < a * b) : m / b < a := Int.ediv_lt_of_lt_mul hb h
theorem own_pl_mul (a b : Int64) (ha : 0 ≤ a.toInt) (hb : 0 < b.toInt) (h : ¬ ((9223372036854775807 : Int64) / b) < a) : (a * b).toInt = a.toInt * b.toInt ∧ 0 ≤ a.toInt * b.toInt ∧ a.toInt * b.toInt ≤ 9223372036854775807 := by
  have hb1 : b ≠ -1 := fun q => by rw [q] at hb; exact absurd hb (by decide)
  have k1 : (9223372036854775807 : Int64).toInt = 9223372036854775807 := rfl
  have e1 := (c_ldiv (9223372036854775807 : Int64) b b.toInt rfl hb1).1 (by decide)
  rw [Int64.lt_iff_toInt_lt, e1, k1] at h
  have h2 := own_pl_le _ _ _ hb h
  have h3 : 0 ≤ a.toInt * b.toInt := Int.mul_nonneg ha (by omega)
  have h4 := c_lmul a b
  have h5 := rng64 (a * b)
  refine ⟨?_, h3, h2⟩
  generalize a.toInt * b.toInt = z at *
  omega
theorem own_pl_pos (b : Int64) (hb : 0 ≤ b.toInt) (h : ¬ b = (0 : Int64)) : 0 < b.toInt := by
  rcases Int.lt_or_eq_of_le hb with q | q
  · exact q
  · exact absurd (Int64.toInt_inj.mp q.symm) h
theorem d1_0 : decode prog_70_method_6_code 0 = .ok (.lload_n 2, 1) := by decide +kernel
theorem d1_1 : decode prog_70_method_6_code 1 = .ok (.lconst 0, 1) := by decide +kernel
theorem d1_2 : decode prog_70_method_6_code 2 = .ok (.lcmp, 1) := by decide +kernel
theorem d1_3 : decode prog_70_method_6_code 3 = .ok (.ifCond .eq 19, 3) := by decide +kernel
theorem d1_6 : decode prog_70_method_6_code 6 = .ok (.lload_n 0, 1) := by decide +kernel
theorem d1_7 : decode prog_70_method_6_code 7 = .ok (.ldc2_w 38, 3) := by decide +kernel
theorem d1_10 : decode prog_70_method_6_code 10 = .ok (.lload_n 2, 1) := by decide +kernel
theorem d1_11 : decode prog_70_method_6_code 11 = .ok (.ldiv, 1) := by decide +kernel
theorem d1_12 : decode prog_70_method_6_code 12 = .ok (.lcmp, 1) := by decide +kernel
theorem d1_13 : decode prog_70_method_6_code 13 = .ok (.ifCond .le 9, 3) := by decide +kernel
theorem d1_16 : decode prog_70_method_6_code 16 = .ok (.ldc2_w 38, 3) := by decide +kernel
theorem d1_19 : decode prog_70_method_6_code 19 = .ok (.goto 6, 3) := by decide +kernel
theorem d1_22 : decode prog_70_method_6_code 22 = .ok (.lload_n 0, 1) := by decide +kernel
theorem d1_23 : decode prog_70_method_6_code 23 = .ok (.lload_n 2, 1) := by decide +kernel
theorem d1_24 : decode prog_70_method_6_code 24 = .ok (.lmul, 1) := by decide +kernel
theorem d1_25 : decode prog_70_method_6_code 25 = .ok (.lreturn, 1) := by decide +kernel
theorem pn_0 : plainName "com/example/portunus/portunus/Work" = true := by first | (simp [plainName, overriddenIn]; done) | decide +kernel
theorem ef_1 (m : MethodId) (q1 : Int64) (q2 : Int64) : entryFrame m #[(.long q1), (.long q2)] 4 = mkF m 0 #[.val (.long q1), .second, .val (.long q2), .second] [] := by first | (simp [entryFrame, mkF, argsToLocals, Value.category]; done) | rfl
def r_1 (q1 : Int64) (q2 : Int64) : Int64 := ((if q2 = (0 : Int64) then (q1 * q2) else (if ((9223372036854775807 : Int64) / q2) < q1 then (9223372036854775807 : Int64) else (q1 * q2))))
def Q1 (Z : State) (q1 : Int64) (q2 : Int64) (h0 : Heap) (n0 : Nat) (v : Option Value) (h : Heap) (L : List Loc) : Prop := v = some (.long (r_1 q1 q2)) ∧ Fr n0 L ∧ h = h0
set_option maxRecDepth 65536 in
set_option maxHeartbeats 40000000 in
theorem rm1 (l : Launch) (Z : State) (a0 : Array Value) (hw : ∀ d ∈ tables_1, d.before a0 Z = true) (ws : List Jvm.Cond) (q1 : Int64) (q2 : Int64) (h0 : Heap) (n0 : Nat) (Z0 : n0 ≤ h0.size) :
    MetFree l (⟨"com/example/portunus/portunus/Work", "product", "(JJ)J"⟩ : MethodName) (head1 (Jvm.Cond.code (⟨"com/example/portunus/portunus/Work", "product", "(JJ)J"⟩ : MethodName) prog_70_method_6_code 4 (some .long) :: ws) ({ frames := 0, cells := 0, slots := 0, locals := 0 } : Room)) (fun a U => a = #[(.long q1), (.long q2)] ∧ Z.Warmed39 U.vm ∧ U.heap = h0) (fun _ _ _ _ _ => True) (fun _ U o U' => ∃ v L, o = .returned v ∧ Q1 Z q1 q2 h0 n0 v U'.heap L ∧ FrameEnd U o U' L ({ frames := 0, cells := 0, slots := 0, locals := 0 } : Room).cells ({ frames := 0, cells := 0, slots := 0, locals := 0 } : Room).slots) := by
  refine MetFree.of_bodySF (plainFor_of_name pn_0) hisR ?_
  intro p e s m args below meth c s₁ Bd hml0 hP hK
  obtain ⟨rfl, hZ, hh⟩ := hP
  have hx := Bd.exec
  have hby := Bd.bytes
  have hml : c.maxLocals = 4 := hml0
  have hown : s.vm.findClass "com/example/portunus/portunus/Work" = some m.cls := findClass_of_methodNamed Bd.named
  have hnm := (name_of_methodNamed Bd.named Bd.method).1
  have X0 : Stand p l e ({ frames := 0, cells := 0, slots := 0, locals := 0 } : Room) s m #[(.long q1), (.long q2)] below meth c s₁ [] 0 0 := Stand.of_body Bd
  have e0 : s₁.heap = h0 := by rw [← hh, Bd.state]; rfl
  have NN := Fr.nil n0
  have KK : Keep h0 h0 [] := Keep.refl h0 []
  refine own_start (ef_1 m q1 q2) ?_
  refine own_go (T' := s₁) (g' := (mkF m 3 #[.val (.long q1), .second, .val (.long q2), .second] [(.int (lcmpW q2 (0 : Int64)))])) (fun t k => ?_) ?_
  · show Steps p.tables e below (s₁.setTop (mkF m 0 #[.val (.long q1), .second, .val (.long q2), .second] [])) _
    refine XS.lloadN X0.here hx rfl (hb hby d1_0) rfl ?_
    show Steps p.tables e below (s₁.setTop (mkF m 1 #[.val (.long q1), .second, .val (.long q2), .second] [(.long q2)])) _
    refine XS.lconst X0.here hx rfl (hb hby d1_1) ?_
    show Steps p.tables e below (s₁.setTop (mkF m 2 #[.val (.long q1), .second, .val (.long q2), .second] [(.long (0 : Int64)), (.long q2)])) _
    refine XS.lcmp X0.here hx rfl (hb hby d1_2) rfl ?_
    exact k
  obtain ⟨j1, hj1, st2⟩ : ∃ (j1 : Int64), j1 = (if q2 = (0 : Int64) then (q1 * q2) else (if ((9223372036854775807 : Int64) / q2) < q1 then (9223372036854775807 : Int64) else (q1 * q2))) ∧ ∀ t, Steps p.tables e below (s₁.setTop (mkF m 25 #[.val (.long q1), .second, .val (.long q2), .second] [(.long j1)])) t → Steps p.tables e below (s₁.setTop (mkF m 3 #[.val (.long q1), .second, .val (.long q2), .second] [(.int (lcmpW q2 (0 : Int64)))])) t := by
    by_cases hc3_1 : q2 = (0 : Int64)
    · skip
      refine ⟨(q1 * q2), (by simp only [if_pos hc3_1]), fun t k => ?_⟩
      show Steps p.tables e below (s₁.setTop (mkF m 3 #[.val (.long q1), .second, .val (.long q2), .second] [(.int (lcmpW q2 (0 : Int64)))])) _
      refine XS.ifYes X0.here hx rfl (pc0 := 3) (pc' := 22) rfl (hb hby d1_3) rfl ((if0 _ _).trans (teq ((lw_eq q2 (0 : Int64)).mpr hc3_1)).1) (by decide) (by decide) ?_
      show Steps p.tables e below (s₁.setTop (mkF m 22 #[.val (.long q1), .second, .val (.long q2), .second] [])) _
      refine XS.lloadN X0.here hx rfl (hb hby d1_22) rfl ?_
      show Steps p.tables e below (s₁.setTop (mkF m 23 #[.val (.long q1), .second, .val (.long q2), .second] [(.long q1)])) _
      refine XS.lloadN X0.here hx rfl (hb hby d1_23) rfl ?_
      show Steps p.tables e below (s₁.setTop (mkF m 24 #[.val (.long q1), .second, .val (.long q2), .second] [(.long q2), (.long q1)])) _
      refine XS.lmul X0.here hx rfl (hb hby d1_24) rfl ?_
      exact k
    · skip
      by_cases hc13_2 : ((9223372036854775807 : Int64) / q2) < q1
      · skip
        refine ⟨(9223372036854775807 : Int64), (by simp only [if_neg hc3_1, if_pos hc13_2]), fun t k => ?_⟩
        show Steps p.tables e below (s₁.setTop (mkF m 3 #[.val (.long q1), .second, .val (.long q2), .second] [(.int (lcmpW q2 (0 : Int64)))])) _
        refine XS.ifNo X0.here hx rfl (hb hby d1_3) rfl ((if0 _ _).trans (feq (fun q => hc3_1 ((lw_eq q2 (0 : Int64)).mp q))).1) ?_
        show Steps p.tables e below (s₁.setTop (mkF m 6 #[.val (.long q1), .second, .val (.long q2), .second] [])) _
        refine XS.lloadN X0.here hx rfl (hb hby d1_6) rfl ?_
        show Steps p.tables e below (s₁.setTop (mkF m 7 #[.val (.long q1), .second, .val (.long q2), .second] [(.long q1)])) _
        refine X0.ldc2Long hx hown (mvT hZ (hw _ (List.mem_of_getElem? (i := 6) rfl))) (g := (mkF m 7 #[.val (.long q1), .second, .val (.long q2), .second] [(.long q1)])) rfl (hb hby d1_7) _ ?_
        show Steps p.tables e below (s₁.setTop (mkF m 10 #[.val (.long q1), .second, .val (.long q2), .second] [(.long (9223372036854775807 : Int64)), (.long q1)])) _
        refine XS.lloadN X0.here hx rfl (hb hby d1_10) rfl ?_
        show Steps p.tables e below (s₁.setTop (mkF m 11 #[.val (.long q1), .second, .val (.long q2), .second] [(.long q2), (.long (9223372036854775807 : Int64)), (.long q1)])) _
        refine XS.ldiv X0.here hx rfl (hb hby d1_11) rfl hc3_1 ?_
        show Steps p.tables e below (s₁.setTop (mkF m 12 #[.val (.long q1), .second, .val (.long q2), .second] [(.long ((9223372036854775807 : Int64) / q2)), (.long q1)])) _
        refine XS.lcmp X0.here hx rfl (hb hby d1_12) rfl ?_
        show Steps p.tables e below (s₁.setTop (mkF m 13 #[.val (.long q1), .second, .val (.long q2), .second] [(.int (lcmpW q1 ((9223372036854775807 : Int64) / q2)))])) _
        refine XS.ifNo X0.here hx rfl (hb hby d1_13) rfl ((if0 _ _).trans (tlt ((lw_gt q1 ((9223372036854775807 : Int64) / q2)).mpr hc13_2)).2.2.2) ?_
        show Steps p.tables e below (s₁.setTop (mkF m 16 #[.val (.long q1), .second, .val (.long q2), .second] [])) _
        refine X0.ldc2Long hx hown (mvT hZ (hw _ (List.mem_of_getElem? (i := 6) rfl))) (g := (mkF m 16 #[.val (.long q1), .second, .val (.long q2), .second] [])) rfl (hb hby d1_16) _ ?_
        show Steps p.tables e below (s₁.setTop (mkF m 19 #[.val (.long q1), .second, .val (.long q2), .second] [(.long (9223372036854775807 : Int64))])) _
        refine XS.goto X0.here hx rfl (pc0 := 19) (pc' := 25) rfl (hb hby d1_19) (by decide) (by decide) ?_
        exact k
      · skip
        refine ⟨(q1 * q2), (by simp only [if_neg hc3_1, if_neg hc13_2]), fun t k => ?_⟩
        show Steps p.tables e below (s₁.setTop (mkF m 3 #[.val (.long q1), .second, .val (.long q2), .second] [(.int (lcmpW q2 (0 : Int64)))])) _
        refine XS.ifNo X0.here hx rfl (hb hby d1_3) rfl ((if0 _ _).trans (feq (fun q => hc3_1 ((lw_eq q2 (0 : Int64)).mp q))).1) ?_
        show Steps p.tables e below (s₁.setTop (mkF m 6 #[.val (.long q1), .second, .val (.long q2), .second] [])) _
        refine XS.lloadN X0.here hx rfl (hb hby d1_6) rfl ?_
        show Steps p.tables e below (s₁.setTop (mkF m 7 #[.val (.long q1), .second, .val (.long q2), .second] [(.long q1)])) _
        refine X0.ldc2Long hx hown (mvT hZ (hw _ (List.mem_of_getElem? (i := 6) rfl))) (g := (mkF m 7 #[.val (.long q1), .second, .val (.long q2), .second] [(.long q1)])) rfl (hb hby d1_7) _ ?_
        show Steps p.tables e below (s₁.setTop (mkF m 10 #[.val (.long q1), .second, .val (.long q2), .second] [(.long (9223372036854775807 : Int64)), (.long q1)])) _
        refine XS.lloadN X0.here hx rfl (hb hby d1_10) rfl ?_
        show Steps p.tables e below (s₁.setTop (mkF m 11 #[.val (.long q1), .second, .val (.long q2), .second] [(.long q2), (.long (9223372036854775807 : Int64)), (.long q1)])) _
        refine XS.ldiv X0.here hx rfl (hb hby d1_11) rfl hc3_1 ?_
        show Steps p.tables e below (s₁.setTop (mkF m 12 #[.val (.long q1), .second, .val (.long q2), .second] [(.long ((9223372036854775807 : Int64) / q2)), (.long q1)])) _
        refine XS.lcmp X0.here hx rfl (hb hby d1_12) rfl ?_
        show Steps p.tables e below (s₁.setTop (mkF m 13 #[.val (.long q1), .second, .val (.long q2), .second] [(.int (lcmpW q1 ((9223372036854775807 : Int64) / q2)))])) _
        refine XS.ifYes X0.here hx rfl (pc0 := 13) (pc' := 22) rfl (hb hby d1_13) rfl ((if0 _ _).trans (flt (fun q => hc13_2 ((lw_gt q1 ((9223372036854775807 : Int64) / q2)).mp q))).2.2.2) (by decide) (by decide) ?_
        show Steps p.tables e below (s₁.setTop (mkF m 22 #[.val (.long q1), .second, .val (.long q2), .second] [])) _
        refine XS.lloadN X0.here hx rfl (hb hby d1_22) rfl ?_
        show Steps p.tables e below (s₁.setTop (mkF m 23 #[.val (.long q1), .second, .val (.long q2), .second] [(.long q1)])) _
        refine XS.lloadN X0.here hx rfl (hb hby d1_23) rfl ?_
        show Steps p.tables e below (s₁.setTop (mkF m 24 #[.val (.long q1), .second, .val (.long q2), .second] [(.long q2), (.long q1)])) _
        refine XS.lmul X0.here hx rfl (hb hby d1_24) rfl ?_
        exact k
  refine own_go st2 ?_
  show own_Go p.tables e below _ s₁ (mkF m 25 #[.val (.long q1), .second, .val (.long q2), .second] [(.long j1)])
  obtain ⟨fs, hr, hrun, hended, hW, hsame⟩ := X0.leave (v := some (.long j1)) (fun h => by rw [Bd.returns] at h; cases h)
  refine ⟨_, _, ?_, hrun, hended, _, _, rfl, ?_, ⟨_, rfl⟩, hW, hsame.mono (by decide) (by decide)⟩
  · exact own_retJ X0 hx Bd.returns (hb hby d1_25) hr
  · show Q1 Z q1 q2 h0 n0 _ s₁.heap _
    rw [e0]
    exact ⟨(by subst hj1; first | (simp only [r_1]; done) | rfl), NN, rfl⟩
theorem pn_1 : plainName "com/example/portunus/portunus/WorkProductPinLaw" = true := by first | (simp [plainName, overriddenIn]; done) | decide +kernel
theorem pd_0 : parseMethodDescriptor "(JJ)J" = some ⟨[.long, .long], some .long⟩ := by decide +kernel
theorem ef_0 (m : MethodId) (q1 : Int64) (q2 : Int64) (q3 : Int64) : entryFrame m #[(.long q1), (.long q2), (.long q3)] maxLocals = mkF m 0 #[.val (.long q1), .second, .val (.long q2), .second, .val (.long q3), .second, .unset, .unset, .unset, .unset, .unset, .unset] [] := by first | (simp [entryFrame, mkF, argsToLocals, Value.category, maxLocals]; done) | rfl
def Q0 (Z : State) (q1 : Int64) (q2 : Int64) (q3 : Int64) (h0 : Heap) (n0 : Nat) (v : Option Value) (h : Heap) (L : List Loc) : Prop := v = some (.int 1) ∧ Fr n0 L
theorem own_yes_t (q1 : Int64) (q2 : Int64) (q3 : Int64) (j1 : Int64) (j2 : Int64) (j4 : Int64) (j5 : Int32) (hj1 : j1 = (((q1 &&& (9223372036854775807 : Int64)).toUInt64 >>> ((q3 &&& (63 : Int64)).toInt32 &&& 0x3f).toInt64.toUInt64).toInt64)) (hj2 : j2 = (((q2 &&& (9223372036854775807 : Int64)).toUInt64 >>> ((((q3.toUInt64 >>> ((6 : Int32) &&& 0x3f).toInt64.toUInt64).toInt64) &&& (63 : Int64)).toInt32 &&& 0x3f).toInt64.toUInt64).toInt64)) (hj4 : j4 = (r_1 j1 j2)) (hj5 : j5 = (if j2 = (0 : Int64) then (0 : Int32) else (if ((9223372036854775806 : Int64) / j2) < j1 then (1 : Int32) else (0 : Int32)))) (hc48_1 : j4 = (9223372036854775807 : Int64)) : (nar .boolean j5) = 1 := by
  have h1 : 0 ≤ j1.toInt := by rw [hj1]; exact own_pl_shr _ _
  have h2 : 0 ≤ j2.toInt := by rw [hj2]; exact own_pl_shr _ _
  by_cases z : j2 = (0 : Int64)
  · exfalso
    rw [hc48_1, r_1, if_pos z, z] at hj4
    rw [Int64.mul_zero] at hj4
    exact absurd hj4 (by decide)
  · have p2 := own_pl_pos j2 h2 z
    have hb1 : j2 ≠ -1 := fun q => by rw [q] at p2; exact absurd p2 (by decide)
    have k1 : (9223372036854775807 : Int64).toInt = 9223372036854775807 := rfl
    have k2 : (9223372036854775806 : Int64).toInt = 9223372036854775806 := rfl
    have e2 := (c_ldiv (9223372036854775806 : Int64) j2 j2.toInt rfl hb1).1 (by decide)
    have e1 := (c_ldiv (9223372036854775807 : Int64) j2 j2.toInt rfl hb1).1 (by decide)
    have q : ((9223372036854775806 : Int64) / j2) < j1 := by
      rw [Int64.lt_iff_toInt_lt, e2, k2]
      apply own_pl_gt _ _ _ p2
      by_cases y : ((9223372036854775807 : Int64) / j2) < j1
      · rw [Int64.lt_iff_toInt_lt, e1, k1] at y
        by_cases w : 9223372036854775806 < j1.toInt * j2.toInt
        · exact w
        · exfalso
          have := Int.le_ediv_of_mul_le p2 (show j1.toInt * j2.toInt ≤ 9223372036854775807 by omega)
          omega
      · have m := own_pl_mul j1 j2 h1 p2 y
        rw [hc48_1, r_1, if_neg z, if_neg y] at hj4
        have := m.1
        rw [← hj4, k1] at this
        omega
    rw [hj5, if_neg z, if_pos q]
    rfl
theorem own_no_ft (q1 : Int64) (q2 : Int64) (q3 : Int64) (j1 : Int64) (j2 : Int64) (j4 : Int64) (hj1 : j1 = (((q1 &&& (9223372036854775807 : Int64)).toUInt64 >>> ((q3 &&& (63 : Int64)).toInt32 &&& 0x3f).toInt64.toUInt64).toInt64)) (hj2 : j2 = (((q2 &&& (9223372036854775807 : Int64)).toUInt64 >>> ((((q3.toUInt64 >>> ((6 : Int32) &&& 0x3f).toInt64.toUInt64).toInt64) &&& (63 : Int64)).toInt32 &&& 0x3f).toInt64.toUInt64).toInt64)) (hj4 : j4 = (r_1 j1 j2)) (hc48_1 : ¬ (j4 = (9223372036854775807 : Int64))) (hc80_4 : j4 < (0 : Int64)) : False := by
  have h1 : 0 ≤ j1.toInt := by rw [hj1]; exact own_pl_shr _ _
  have h2 : 0 ≤ j2.toInt := by rw [hj2]; exact own_pl_shr _ _
  by_cases z : j2 = (0 : Int64)
  · rw [r_1, if_pos z, z, Int64.mul_zero] at hj4
    rw [hj4] at hc80_4
    exact absurd hc80_4 (by decide)
  · have p2 := own_pl_pos j2 h2 z
    by_cases y : ((9223372036854775807 : Int64) / j2) < j1
    · rw [r_1, if_neg z, if_pos y] at hj4
      exact hc48_1 hj4
    · have m := own_pl_mul j1 j2 h1 p2 y
      rw [r_1, if_neg z, if_neg y] at hj4
      rw [hj4, Int64.lt_iff_toInt_lt, m.1] at hc80_4
      have k0 : (0 : Int64).toInt = 0 := rfl
      omega
theorem own_yes_fft (q1 : Int64) (q2 : Int64) (q3 : Int64) (j1 : Int64) (j2 : Int64) (j4 : Int64) (j7 : Int32) (hj1 : j1 = (((q1 &&& (9223372036854775807 : Int64)).toUInt64 >>> ((q3 &&& (63 : Int64)).toInt32 &&& 0x3f).toInt64.toUInt64).toInt64)) (hj2 : j2 = (((q2 &&& (9223372036854775807 : Int64)).toUInt64 >>> ((((q3.toUInt64 >>> ((6 : Int32) &&& 0x3f).toInt64.toUInt64).toInt64) &&& (63 : Int64)).toInt32 &&& 0x3f).toInt64.toUInt64).toInt64)) (hj4 : j4 = (r_1 j1 j2)) (hj7 : j7 = (if j4 = (0 : Int64) then (1 : Int32) else (0 : Int32))) (hc48_1 : ¬ (j4 = (9223372036854775807 : Int64))) (hc80_4 : ¬ (j4 < (0 : Int64))) (hc89_5 : j2 = (0 : Int64)) : (nar .boolean j7) = 1 := by
  have q : j4 = (0 : Int64) := by rw [hj4, r_1, if_pos hc89_5, hc89_5, Int64.mul_zero]
  rw [hj7, if_pos q]
  rfl
theorem own_yes_fff (q1 : Int64) (q2 : Int64) (q3 : Int64) (j1 : Int64) (j2 : Int64) (j4 : Int64) (j9 : Int32) (hj1 : j1 = (((q1 &&& (9223372036854775807 : Int64)).toUInt64 >>> ((q3 &&& (63 : Int64)).toInt32 &&& 0x3f).toInt64.toUInt64).toInt64)) (hj2 : j2 = (((q2 &&& (9223372036854775807 : Int64)).toUInt64 >>> ((((q3.toUInt64 >>> ((6 : Int32) &&& 0x3f).toInt64.toUInt64).toInt64) &&& (63 : Int64)).toInt32 &&& 0x3f).toInt64.toUInt64).toInt64)) (hj4 : j4 = (r_1 j1 j2)) (hj9 : j9 = (if (j4 - (j4 / j2) * j2) = (0 : Int64) then (if (j4 / j2) = j1 then (1 : Int32) else (0 : Int32)) else (0 : Int32))) (hc48_1 : ¬ (j4 = (9223372036854775807 : Int64))) (hc80_4 : ¬ (j4 < (0 : Int64))) (hc89_5 : ¬ (j2 = (0 : Int64))) : (nar .boolean j9) = 1 := by
  have h1 : 0 ≤ j1.toInt := by rw [hj1]; exact own_pl_shr _ _
  have h2 : 0 ≤ j2.toInt := by rw [hj2]; exact own_pl_shr _ _
  have p2 := own_pl_pos j2 h2 hc89_5
  have hb1 : j2 ≠ -1 := fun q => by rw [q] at p2; exact absurd p2 (by decide)
  by_cases y : ((9223372036854775807 : Int64) / j2) < j1
  · rw [r_1, if_neg hc89_5, if_pos y] at hj4
    exact absurd hj4 hc48_1
  · have m := own_pl_mul j1 j2 h1 p2 y
    rw [r_1, if_neg hc89_5, if_neg y] at hj4
    have e4 : j4.toInt = j1.toInt * j2.toInt := by rw [hj4]; exact m.1
    have n4 : 0 ≤ j4.toInt := by rw [e4]; exact m.2.1
    have e5 := (c_ldiv j4 j2 j2.toInt rfl hb1).1 n4
    have e6 := (c_lrem j4 j2 j2.toInt rfl).1 n4
    have q1 : (j4 - (j4 / j2) * j2) = (0 : Int64) := by
      apply Int64.toInt_inj.mp
      rw [e6, e4, Int.mul_emod_left]; rfl
    have q2 : (j4 / j2) = j1 := by
      apply Int64.toInt_inj.mp
      rw [e5, e4, Int.mul_ediv_cancel _ (by omega)]
    rw [hj9, if_pos q1, if_pos q2]
    rfl
set_option maxRecDepth 65536 in
set_option maxHeartbeats 40000000 in
theorem rm0 (l : Launch) (Z : State) (a0 : Array Value) (hw : ∀ d ∈ tables_1, d.before a0 Z = true) (ws : List Jvm.Cond) (q1 : Int64) (q2 : Int64) (q3 : Int64) (h0 : Heap) (n0 : Nat) (Z0 : n0 ≤ h0.size) :
    MetFree l x (head1 (Jvm.Cond.code x code maxLocals ret :: ws) room_1) (fun a U => a = #[(.long q1), (.long q2), (.long q3)] ∧ Z.Warmed39 U.vm ∧ U.heap = h0) (fun _ _ _ _ _ => True) (fun _ U o U' => ∃ v L, o = .returned v ∧ Q0 Z q1 q2 q3 h0 n0 v U'.heap L ∧ FrameEnd U o U' L room_1.cells room_1.slots) := by
  refine MetFree.of_bodySF (plainFor_of_name pn_1) hisR ?_
  intro p e s m args below meth c s₁ Bd hml0 hP hK
  obtain ⟨rfl, hZ, hh⟩ := hP
  have hx := Bd.exec
  have hby := Bd.bytes
  have hml : c.maxLocals = 12 := hml0
  have hown : s.vm.findClass "com/example/portunus/portunus/WorkProductPinLaw" = some m.cls := findClass_of_methodNamed Bd.named
  have hnm := (name_of_methodNamed Bd.named Bd.method).1
  have X0 : Stand p l e room_1 s m #[(.long q1), (.long q2), (.long q3)] below meth c s₁ [] 0 0 := Stand.of_body Bd
  have e0 : s₁.heap = h0 := by rw [← hh, Bd.state]; rfl
  have NN := Fr.nil n0
  have KK : Keep h0 h0 [] := Keep.refl h0 []
  refine own_start (ef_0 m q1 q2 q3) ?_
  refine own_go (T' := s₁) (g' := (mkF m 15 #[.val (.long q1), .second, .val (.long q2), .second, .val (.long q3), .second, .val (.long (((q1 &&& (9223372036854775807 : Int64)).toUInt64 >>> ((q3 &&& (63 : Int64)).toInt32 &&& 0x3f).toInt64.toUInt64).toInt64)), .second, .unset, .unset, .unset, .unset] [])) (fun t k => ?_) ?_
  · show Steps p.tables e below (s₁.setTop (mkF m 0 #[.val (.long q1), .second, .val (.long q2), .second, .val (.long q3), .second, .unset, .unset, .unset, .unset, .unset, .unset] [])) _
    refine XS.lloadN X0.here hx rfl (hb hby at_0) rfl ?_
    show Steps p.tables e below (s₁.setTop (mkF m 1 #[.val (.long q1), .second, .val (.long q2), .second, .val (.long q3), .second, .unset, .unset, .unset, .unset, .unset, .unset] [(.long q1)])) _
    refine X0.ldc2Long hx hown (mvT hZ (hw _ (List.mem_of_getElem? (i := 0) rfl))) (g := (mkF m 1 #[.val (.long q1), .second, .val (.long q2), .second, .val (.long q3), .second, .unset, .unset, .unset, .unset, .unset, .unset] [(.long q1)])) rfl (hb hby at_1) _ ?_
    show Steps p.tables e below (s₁.setTop (mkF m 4 #[.val (.long q1), .second, .val (.long q2), .second, .val (.long q3), .second, .unset, .unset, .unset, .unset, .unset, .unset] [(.long (9223372036854775807 : Int64)), (.long q1)])) _
    refine XS.land X0.here hx rfl (hb hby at_4) rfl ?_
    show Steps p.tables e below (s₁.setTop (mkF m 5 #[.val (.long q1), .second, .val (.long q2), .second, .val (.long q3), .second, .unset, .unset, .unset, .unset, .unset, .unset] [(.long (q1 &&& (9223372036854775807 : Int64)))])) _
    refine XS.lload X0.here hx rfl (hb hby at_5) rfl ?_
    show Steps p.tables e below (s₁.setTop (mkF m 7 #[.val (.long q1), .second, .val (.long q2), .second, .val (.long q3), .second, .unset, .unset, .unset, .unset, .unset, .unset] [(.long q3), (.long (q1 &&& (9223372036854775807 : Int64)))])) _
    refine X0.ldc2Long hx hown (mvT hZ (hw _ (List.mem_of_getElem? (i := 1) rfl))) (g := (mkF m 7 #[.val (.long q1), .second, .val (.long q2), .second, .val (.long q3), .second, .unset, .unset, .unset, .unset, .unset, .unset] [(.long q3), (.long (q1 &&& (9223372036854775807 : Int64)))])) rfl (hb hby at_7) _ ?_
    show Steps p.tables e below (s₁.setTop (mkF m 10 #[.val (.long q1), .second, .val (.long q2), .second, .val (.long q3), .second, .unset, .unset, .unset, .unset, .unset, .unset] [(.long (63 : Int64)), (.long q3), (.long (q1 &&& (9223372036854775807 : Int64)))])) _
    refine XS.land X0.here hx rfl (hb hby at_10) rfl ?_
    show Steps p.tables e below (s₁.setTop (mkF m 11 #[.val (.long q1), .second, .val (.long q2), .second, .val (.long q3), .second, .unset, .unset, .unset, .unset, .unset, .unset] [(.long (q3 &&& (63 : Int64))), (.long (q1 &&& (9223372036854775807 : Int64)))])) _
    refine XS.l2i X0.here hx rfl (hb hby at_11) rfl ?_
    show Steps p.tables e below (s₁.setTop (mkF m 12 #[.val (.long q1), .second, .val (.long q2), .second, .val (.long q3), .second, .unset, .unset, .unset, .unset, .unset, .unset] [(.int (q3 &&& (63 : Int64)).toInt32), (.long (q1 &&& (9223372036854775807 : Int64)))])) _
    refine XS.lushr X0.here hx rfl (hb hby at_12) rfl ?_
    show Steps p.tables e below (s₁.setTop (mkF m 13 #[.val (.long q1), .second, .val (.long q2), .second, .val (.long q3), .second, .unset, .unset, .unset, .unset, .unset, .unset] [(.long (((q1 &&& (9223372036854775807 : Int64)).toUInt64 >>> ((q3 &&& (63 : Int64)).toInt32 &&& 0x3f).toInt64.toUInt64).toInt64))])) _
    refine XS.lstore X0.here hx rfl (hb hby at_13) rfl (l' := #[.val (.long q1), .second, .val (.long q2), .second, .val (.long q3), .second, .val (.long (((q1 &&& (9223372036854775807 : Int64)).toUInt64 >>> ((q3 &&& (63 : Int64)).toInt32 &&& 0x3f).toInt64.toUInt64).toInt64)), .second, .unset, .unset, .unset, .unset]) rfl ?_
    exact k
  show own_Go p.tables e below _ s₁ (mkF m 15 #[.val (.long q1), .second, .val (.long q2), .second, .val (.long q3), .second, .val (.long (((q1 &&& (9223372036854775807 : Int64)).toUInt64 >>> ((q3 &&& (63 : Int64)).toInt32 &&& 0x3f).toInt64.toUInt64).toInt64)), .second, .unset, .unset, .unset, .unset] [])
  obtain ⟨j1, hj1⟩ : ∃ z : Int64, z = (((q1 &&& (9223372036854775807 : Int64)).toUInt64 >>> ((q3 &&& (63 : Int64)).toInt32 &&& 0x3f).toInt64.toUInt64).toInt64) := ⟨_, rfl⟩
  rw [← hj1]
  show own_Go p.tables e below _ s₁ (mkF m 15 #[.val (.long q1), .second, .val (.long q2), .second, .val (.long q3), .second, .val (.long j1), .second, .unset, .unset, .unset, .unset] [])
  refine own_go (T' := s₁) (g' := (mkF m 33 #[.val (.long q1), .second, .val (.long q2), .second, .val (.long q3), .second, .val (.long j1), .second, .val (.long (((q2 &&& (9223372036854775807 : Int64)).toUInt64 >>> ((((q3.toUInt64 >>> ((6 : Int32) &&& 0x3f).toInt64.toUInt64).toInt64) &&& (63 : Int64)).toInt32 &&& 0x3f).toInt64.toUInt64).toInt64)), .second, .unset, .unset] [])) (fun t k => ?_) ?_
  · show Steps p.tables e below (s₁.setTop (mkF m 15 #[.val (.long q1), .second, .val (.long q2), .second, .val (.long q3), .second, .val (.long j1), .second, .unset, .unset, .unset, .unset] [])) _
    refine XS.lloadN X0.here hx rfl (hb hby at_15) rfl ?_
    show Steps p.tables e below (s₁.setTop (mkF m 16 #[.val (.long q1), .second, .val (.long q2), .second, .val (.long q3), .second, .val (.long j1), .second, .unset, .unset, .unset, .unset] [(.long q2)])) _
    refine X0.ldc2Long hx hown (mvT hZ (hw _ (List.mem_of_getElem? (i := 0) rfl))) (g := (mkF m 16 #[.val (.long q1), .second, .val (.long q2), .second, .val (.long q3), .second, .val (.long j1), .second, .unset, .unset, .unset, .unset] [(.long q2)])) rfl (hb hby at_16) _ ?_
    show Steps p.tables e below (s₁.setTop (mkF m 19 #[.val (.long q1), .second, .val (.long q2), .second, .val (.long q3), .second, .val (.long j1), .second, .unset, .unset, .unset, .unset] [(.long (9223372036854775807 : Int64)), (.long q2)])) _
    refine XS.land X0.here hx rfl (hb hby at_19) rfl ?_
    show Steps p.tables e below (s₁.setTop (mkF m 20 #[.val (.long q1), .second, .val (.long q2), .second, .val (.long q3), .second, .val (.long j1), .second, .unset, .unset, .unset, .unset] [(.long (q2 &&& (9223372036854775807 : Int64)))])) _
    refine XS.lload X0.here hx rfl (hb hby at_20) rfl ?_
    show Steps p.tables e below (s₁.setTop (mkF m 22 #[.val (.long q1), .second, .val (.long q2), .second, .val (.long q3), .second, .val (.long j1), .second, .unset, .unset, .unset, .unset] [(.long q3), (.long (q2 &&& (9223372036854775807 : Int64)))])) _
    refine XS.bipush X0.here hx rfl (hb hby at_22) ?_
    show Steps p.tables e below (s₁.setTop (mkF m 24 #[.val (.long q1), .second, .val (.long q2), .second, .val (.long q3), .second, .val (.long j1), .second, .unset, .unset, .unset, .unset] [(.int (6 : Int32)), (.long q3), (.long (q2 &&& (9223372036854775807 : Int64)))])) _
    refine XS.lushr X0.here hx rfl (hb hby at_24) rfl ?_
    show Steps p.tables e below (s₁.setTop (mkF m 25 #[.val (.long q1), .second, .val (.long q2), .second, .val (.long q3), .second, .val (.long j1), .second, .unset, .unset, .unset, .unset] [(.long ((q3.toUInt64 >>> ((6 : Int32) &&& 0x3f).toInt64.toUInt64).toInt64)), (.long (q2 &&& (9223372036854775807 : Int64)))])) _
    refine X0.ldc2Long hx hown (mvT hZ (hw _ (List.mem_of_getElem? (i := 1) rfl))) (g := (mkF m 25 #[.val (.long q1), .second, .val (.long q2), .second, .val (.long q3), .second, .val (.long j1), .second, .unset, .unset, .unset, .unset] [(.long ((q3.toUInt64 >>> ((6 : Int32) &&& 0x3f).toInt64.toUInt64).toInt64)), (.long (q2 &&& (9223372036854775807 : Int64)))])) rfl (hb hby at_25) _ ?_
    show Steps p.tables e below (s₁.setTop (mkF m 28 #[.val (.long q1), .second, .val (.long q2), .second, .val (.long q3), .second, .val (.long j1), .second, .unset, .unset, .unset, .unset] [(.long (63 : Int64)), (.long ((q3.toUInt64 >>> ((6 : Int32) &&& 0x3f).toInt64.toUInt64).toInt64)), (.long (q2 &&& (9223372036854775807 : Int64)))])) _
    refine XS.land X0.here hx rfl (hb hby at_28) rfl ?_
    show Steps p.tables e below (s₁.setTop (mkF m 29 #[.val (.long q1), .second, .val (.long q2), .second, .val (.long q3), .second, .val (.long j1), .second, .unset, .unset, .unset, .unset] [(.long (((q3.toUInt64 >>> ((6 : Int32) &&& 0x3f).toInt64.toUInt64).toInt64) &&& (63 : Int64))), (.long (q2 &&& (9223372036854775807 : Int64)))])) _
    refine XS.l2i X0.here hx rfl (hb hby at_29) rfl ?_
    show Steps p.tables e below (s₁.setTop (mkF m 30 #[.val (.long q1), .second, .val (.long q2), .second, .val (.long q3), .second, .val (.long j1), .second, .unset, .unset, .unset, .unset] [(.int (((q3.toUInt64 >>> ((6 : Int32) &&& 0x3f).toInt64.toUInt64).toInt64) &&& (63 : Int64)).toInt32), (.long (q2 &&& (9223372036854775807 : Int64)))])) _
    refine XS.lushr X0.here hx rfl (hb hby at_30) rfl ?_
    show Steps p.tables e below (s₁.setTop (mkF m 31 #[.val (.long q1), .second, .val (.long q2), .second, .val (.long q3), .second, .val (.long j1), .second, .unset, .unset, .unset, .unset] [(.long (((q2 &&& (9223372036854775807 : Int64)).toUInt64 >>> ((((q3.toUInt64 >>> ((6 : Int32) &&& 0x3f).toInt64.toUInt64).toInt64) &&& (63 : Int64)).toInt32 &&& 0x3f).toInt64.toUInt64).toInt64))])) _
    refine XS.lstore X0.here hx rfl (hb hby at_31) rfl (l' := #[.val (.long q1), .second, .val (.long q2), .second, .val (.long q3), .second, .val (.long j1), .second, .val (.long (((q2 &&& (9223372036854775807 : Int64)).toUInt64 >>> ((((q3.toUInt64 >>> ((6 : Int32) &&& 0x3f).toInt64.toUInt64).toInt64) &&& (63 : Int64)).toInt32 &&& 0x3f).toInt64.toUInt64).toInt64)), .second, .unset, .unset]) rfl ?_
    exact k
  show own_Go p.tables e below _ s₁ (mkF m 33 #[.val (.long q1), .second, .val (.long q2), .second, .val (.long q3), .second, .val (.long j1), .second, .val (.long (((q2 &&& (9223372036854775807 : Int64)).toUInt64 >>> ((((q3.toUInt64 >>> ((6 : Int32) &&& 0x3f).toInt64.toUInt64).toInt64) &&& (63 : Int64)).toInt32 &&& 0x3f).toInt64.toUInt64).toInt64)), .second, .unset, .unset] [])
  obtain ⟨j2, hj2⟩ : ∃ z : Int64, z = (((q2 &&& (9223372036854775807 : Int64)).toUInt64 >>> ((((q3.toUInt64 >>> ((6 : Int32) &&& 0x3f).toInt64.toUInt64).toInt64) &&& (63 : Int64)).toInt32 &&& 0x3f).toInt64.toUInt64).toInt64) := ⟨_, rfl⟩
  rw [← hj2]
  show own_Go p.tables e below _ s₁ (mkF m 33 #[.val (.long q1), .second, .val (.long q2), .second, .val (.long q3), .second, .val (.long j1), .second, .val (.long j2), .second, .unset, .unset] [])
  refine own_go (T' := s₁) (g' := (mkF m 37 #[.val (.long q1), .second, .val (.long q2), .second, .val (.long q3), .second, .val (.long j1), .second, .val (.long j2), .second, .unset, .unset] [(.long j2), (.long j1)])) (fun t k => ?_) ?_
  · show Steps p.tables e below (s₁.setTop (mkF m 33 #[.val (.long q1), .second, .val (.long q2), .second, .val (.long q3), .second, .val (.long j1), .second, .val (.long j2), .second, .unset, .unset] [])) _
    refine XS.lload X0.here hx rfl (hb hby at_33) rfl ?_
    show Steps p.tables e below (s₁.setTop (mkF m 35 #[.val (.long q1), .second, .val (.long q2), .second, .val (.long q3), .second, .val (.long j1), .second, .val (.long j2), .second, .unset, .unset] [(.long j1)])) _
    refine XS.lload X0.here hx rfl (hb hby at_35) rfl ?_
    exact k
  obtain ⟨_, _, ⟨T3, L3, k3, n3⟩, -, X3, ⟨Lc3, hQ3, l3, y3, z3⟩, st3⟩ := Jvm.LawKit.callS X0 hx (y := (⟨"com/example/portunus/portunus/Work", "product", "(JJ)J"⟩ : MethodName)) hown (mvT hZ (hw _ (List.mem_of_getElem? (i := 2) rfl))) (mvT hZ (hw _ (List.mem_of_getElem? (i := 3) rfl))) (mvT hZ (hw _ (List.mem_of_getElem? (i := 4) rfl))) (mvT hZ (hw _ (List.mem_of_getElem? (i := 5) rfl))) (by decide) (backOf (W := 0) (rm1 l Z a0 hw [] j1 j2 h0 n0 Z0 ) hZ (hw _ (List.mem_of_getElem? (i := 5) rfl)) (hw _ (List.mem_of_getElem? (i := 4) rfl)) (by decide) (by decide)) (g := (mkF m 37 #[.val (.long q1), .second, .val (.long q2), .second, .val (.long q3), .second, .val (.long j1), .second, .val (.long j2), .second, .unset, .unset] [(.long j2), (.long j1)])) rfl (by rw [hml]; rfl) (argsL := [(.long j1), (.long j2)]) (rest := []) (lenOf pd_0 rfl) rfl (by show 2 * 0 + _ ≤ _; exact Nat.le_of_eq rfl) (hb hby at_37) (fun _ _ => ⟨rfl, e0, (by decide : 0 + 0 ≤ _), (by decide : 0 + 0 ≤ _)⟩)
  dsimp only [Pt.U, Pt.locs, Pt.cells, Pt.slots] at X3 l3 y3 z3 st3 hQ3
  subst l3 y3 z3
  obtain ⟨rfl, N3q, e3⟩ := hQ3
  have NN := Fr.app NN N3q
  refine own_go st3 ?_
  show own_Go p.tables e below _ T3 (mkF m 40 #[.val (.long q1), .second, .val (.long q2), .second, .val (.long q3), .second, .val (.long j1), .second, .val (.long j2), .second, .unset, .unset] [(.long (r_1 j1 j2))])
  refine own_go (T' := T3) (g' := (mkF m 42 #[.val (.long q1), .second, .val (.long q2), .second, .val (.long q3), .second, .val (.long j1), .second, .val (.long j2), .second, .val (.long (r_1 j1 j2)), .second] [])) (fun t k => ?_) ?_
  · show Steps p.tables e below (T3.setTop (mkF m 40 #[.val (.long q1), .second, .val (.long q2), .second, .val (.long q3), .second, .val (.long j1), .second, .val (.long j2), .second, .unset, .unset] [(.long (r_1 j1 j2))])) _
    refine XS.lstore X3.here hx rfl (hb hby at_40) rfl (l' := #[.val (.long q1), .second, .val (.long q2), .second, .val (.long q3), .second, .val (.long j1), .second, .val (.long j2), .second, .val (.long (r_1 j1 j2)), .second]) rfl ?_
    exact k
  show own_Go p.tables e below _ T3 (mkF m 42 #[.val (.long q1), .second, .val (.long q2), .second, .val (.long q3), .second, .val (.long j1), .second, .val (.long j2), .second, .val (.long (r_1 j1 j2)), .second] [])
  obtain ⟨j4, hj4⟩ : ∃ z : Int64, z = (r_1 j1 j2) := ⟨_, rfl⟩
  rw [← hj4]
  show own_Go p.tables e below _ T3 (mkF m 42 #[.val (.long q1), .second, .val (.long q2), .second, .val (.long q3), .second, .val (.long j1), .second, .val (.long j2), .second, .val (.long j4), .second] [])
  refine own_go (T' := T3) (g' := (mkF m 48 #[.val (.long q1), .second, .val (.long q2), .second, .val (.long q3), .second, .val (.long j1), .second, .val (.long j2), .second, .val (.long j4), .second] [(.int (lcmpW j4 (9223372036854775807 : Int64)))])) (fun t k => ?_) ?_
  · show Steps p.tables e below (T3.setTop (mkF m 42 #[.val (.long q1), .second, .val (.long q2), .second, .val (.long q3), .second, .val (.long j1), .second, .val (.long j2), .second, .val (.long j4), .second] [])) _
    refine XS.lload X3.here hx rfl (hb hby at_42) rfl ?_
    show Steps p.tables e below (T3.setTop (mkF m 44 #[.val (.long q1), .second, .val (.long q2), .second, .val (.long q3), .second, .val (.long j1), .second, .val (.long j2), .second, .val (.long j4), .second] [(.long j4)])) _
    refine X3.ldc2Long hx hown (mvT hZ (hw _ (List.mem_of_getElem? (i := 0) rfl))) (g := (mkF m 44 #[.val (.long q1), .second, .val (.long q2), .second, .val (.long q3), .second, .val (.long j1), .second, .val (.long j2), .second, .val (.long j4), .second] [(.long j4)])) rfl (hb hby at_44) _ ?_
    show Steps p.tables e below (T3.setTop (mkF m 47 #[.val (.long q1), .second, .val (.long q2), .second, .val (.long q3), .second, .val (.long j1), .second, .val (.long j2), .second, .val (.long j4), .second] [(.long (9223372036854775807 : Int64)), (.long j4)])) _
    refine XS.lcmp X3.here hx rfl (hb hby at_47) rfl ?_
    exact k
  by_cases hc48_1 : j4 = (9223372036854775807 : Int64)
  · skip
    refine own_go (T' := T3) (g' := (mkF m 55 #[.val (.long q1), .second, .val (.long q2), .second, .val (.long q3), .second, .val (.long j1), .second, .val (.long j2), .second, .val (.long j4), .second] [(.int (lcmpW j2 (0 : Int64)))])) (fun t k => ?_) ?_
    · show Steps p.tables e below (T3.setTop (mkF m 48 #[.val (.long q1), .second, .val (.long q2), .second, .val (.long q3), .second, .val (.long j1), .second, .val (.long j2), .second, .val (.long j4), .second] [(.int (lcmpW j4 (9223372036854775807 : Int64)))])) _
      refine XS.ifNo X3.here hx rfl (hb hby at_48) rfl ((if0 _ _).trans (teq ((lw_eq j4 (9223372036854775807 : Int64)).mpr hc48_1)).2) ?_
      show Steps p.tables e below (T3.setTop (mkF m 51 #[.val (.long q1), .second, .val (.long q2), .second, .val (.long q3), .second, .val (.long j1), .second, .val (.long j2), .second, .val (.long j4), .second] [])) _
      refine XS.lload X3.here hx rfl (hb hby at_51) rfl ?_
      show Steps p.tables e below (T3.setTop (mkF m 53 #[.val (.long q1), .second, .val (.long q2), .second, .val (.long q3), .second, .val (.long j1), .second, .val (.long j2), .second, .val (.long j4), .second] [(.long j2)])) _
      refine XS.lconst X3.here hx rfl (hb hby at_53) ?_
      show Steps p.tables e below (T3.setTop (mkF m 54 #[.val (.long q1), .second, .val (.long q2), .second, .val (.long q3), .second, .val (.long j1), .second, .val (.long j2), .second, .val (.long j4), .second] [(.long (0 : Int64)), (.long j2)])) _
      refine XS.lcmp X3.here hx rfl (hb hby at_54) rfl ?_
      exact k
    obtain ⟨j5, hj5, st6⟩ : ∃ (j5 : Int32), j5 = (if j2 = (0 : Int64) then (0 : Int32) else (if ((9223372036854775806 : Int64) / j2) < j1 then (1 : Int32) else (0 : Int32))) ∧ ∀ t, Steps p.tables e below (T3.setTop (mkF m 75 #[.val (.long q1), .second, .val (.long q2), .second, .val (.long q3), .second, .val (.long j1), .second, .val (.long j2), .second, .val (.long j4), .second] [(.int j5)])) t → Steps p.tables e below (T3.setTop (mkF m 55 #[.val (.long q1), .second, .val (.long q2), .second, .val (.long q3), .second, .val (.long j1), .second, .val (.long j2), .second, .val (.long j4), .second] [(.int (lcmpW j2 (0 : Int64)))])) t := by
      by_cases hc55_2 : j2 = (0 : Int64)
      · skip
        refine ⟨(0 : Int32), (by simp only [if_pos hc55_2]), fun t k => ?_⟩
        show Steps p.tables e below (T3.setTop (mkF m 55 #[.val (.long q1), .second, .val (.long q2), .second, .val (.long q3), .second, .val (.long j1), .second, .val (.long j2), .second, .val (.long j4), .second] [(.int (lcmpW j2 (0 : Int64)))])) _
        refine XS.ifYes X3.here hx rfl (pc0 := 55) (pc' := 74) rfl (hb hby at_55) rfl ((if0 _ _).trans (teq ((lw_eq j2 (0 : Int64)).mpr hc55_2)).1) (by decide) (by decide) ?_
        show Steps p.tables e below (T3.setTop (mkF m 74 #[.val (.long q1), .second, .val (.long q2), .second, .val (.long q3), .second, .val (.long j1), .second, .val (.long j2), .second, .val (.long j4), .second] [])) _
        refine XS.iconst X3.here hx rfl (hb hby at_74) ?_
        exact k
      · skip
        by_cases hc67_3 : ((9223372036854775806 : Int64) / j2) < j1
        · skip
          refine ⟨(1 : Int32), (by simp only [if_neg hc55_2, if_pos hc67_3]), fun t k => ?_⟩
          show Steps p.tables e below (T3.setTop (mkF m 55 #[.val (.long q1), .second, .val (.long q2), .second, .val (.long q3), .second, .val (.long j1), .second, .val (.long j2), .second, .val (.long j4), .second] [(.int (lcmpW j2 (0 : Int64)))])) _
          refine XS.ifNo X3.here hx rfl (hb hby at_55) rfl ((if0 _ _).trans (feq (fun q => hc55_2 ((lw_eq j2 (0 : Int64)).mp q))).1) ?_
          show Steps p.tables e below (T3.setTop (mkF m 58 #[.val (.long q1), .second, .val (.long q2), .second, .val (.long q3), .second, .val (.long j1), .second, .val (.long j2), .second, .val (.long j4), .second] [])) _
          refine XS.lload X3.here hx rfl (hb hby at_58) rfl ?_
          show Steps p.tables e below (T3.setTop (mkF m 60 #[.val (.long q1), .second, .val (.long q2), .second, .val (.long q3), .second, .val (.long j1), .second, .val (.long j2), .second, .val (.long j4), .second] [(.long j1)])) _
          refine X3.ldc2Long hx hown (mvT hZ (hw _ (List.mem_of_getElem? (i := 7) rfl))) (g := (mkF m 60 #[.val (.long q1), .second, .val (.long q2), .second, .val (.long q3), .second, .val (.long j1), .second, .val (.long j2), .second, .val (.long j4), .second] [(.long j1)])) rfl (hb hby at_60) _ ?_
          show Steps p.tables e below (T3.setTop (mkF m 63 #[.val (.long q1), .second, .val (.long q2), .second, .val (.long q3), .second, .val (.long j1), .second, .val (.long j2), .second, .val (.long j4), .second] [(.long (9223372036854775806 : Int64)), (.long j1)])) _
          refine XS.lload X3.here hx rfl (hb hby at_63) rfl ?_
          show Steps p.tables e below (T3.setTop (mkF m 65 #[.val (.long q1), .second, .val (.long q2), .second, .val (.long q3), .second, .val (.long j1), .second, .val (.long j2), .second, .val (.long j4), .second] [(.long j2), (.long (9223372036854775806 : Int64)), (.long j1)])) _
          refine XS.ldiv X3.here hx rfl (hb hby at_65) rfl hc55_2 ?_
          show Steps p.tables e below (T3.setTop (mkF m 66 #[.val (.long q1), .second, .val (.long q2), .second, .val (.long q3), .second, .val (.long j1), .second, .val (.long j2), .second, .val (.long j4), .second] [(.long ((9223372036854775806 : Int64) / j2)), (.long j1)])) _
          refine XS.lcmp X3.here hx rfl (hb hby at_66) rfl ?_
          show Steps p.tables e below (T3.setTop (mkF m 67 #[.val (.long q1), .second, .val (.long q2), .second, .val (.long q3), .second, .val (.long j1), .second, .val (.long j2), .second, .val (.long j4), .second] [(.int (lcmpW j1 ((9223372036854775806 : Int64) / j2)))])) _
          refine XS.ifNo X3.here hx rfl (hb hby at_67) rfl ((if0 _ _).trans (tlt ((lw_gt j1 ((9223372036854775806 : Int64) / j2)).mpr hc67_3)).2.2.2) ?_
          show Steps p.tables e below (T3.setTop (mkF m 70 #[.val (.long q1), .second, .val (.long q2), .second, .val (.long q3), .second, .val (.long j1), .second, .val (.long j2), .second, .val (.long j4), .second] [])) _
          refine XS.iconst X3.here hx rfl (hb hby at_70) ?_
          show Steps p.tables e below (T3.setTop (mkF m 71 #[.val (.long q1), .second, .val (.long q2), .second, .val (.long q3), .second, .val (.long j1), .second, .val (.long j2), .second, .val (.long j4), .second] [(.int (1 : Int32))])) _
          refine XS.goto X3.here hx rfl (pc0 := 71) (pc' := 75) rfl (hb hby at_71) (by decide) (by decide) ?_
          exact k
        · skip
          refine ⟨(0 : Int32), (by simp only [if_neg hc55_2, if_neg hc67_3]), fun t k => ?_⟩
          show Steps p.tables e below (T3.setTop (mkF m 55 #[.val (.long q1), .second, .val (.long q2), .second, .val (.long q3), .second, .val (.long j1), .second, .val (.long j2), .second, .val (.long j4), .second] [(.int (lcmpW j2 (0 : Int64)))])) _
          refine XS.ifNo X3.here hx rfl (hb hby at_55) rfl ((if0 _ _).trans (feq (fun q => hc55_2 ((lw_eq j2 (0 : Int64)).mp q))).1) ?_
          show Steps p.tables e below (T3.setTop (mkF m 58 #[.val (.long q1), .second, .val (.long q2), .second, .val (.long q3), .second, .val (.long j1), .second, .val (.long j2), .second, .val (.long j4), .second] [])) _
          refine XS.lload X3.here hx rfl (hb hby at_58) rfl ?_
          show Steps p.tables e below (T3.setTop (mkF m 60 #[.val (.long q1), .second, .val (.long q2), .second, .val (.long q3), .second, .val (.long j1), .second, .val (.long j2), .second, .val (.long j4), .second] [(.long j1)])) _
          refine X3.ldc2Long hx hown (mvT hZ (hw _ (List.mem_of_getElem? (i := 7) rfl))) (g := (mkF m 60 #[.val (.long q1), .second, .val (.long q2), .second, .val (.long q3), .second, .val (.long j1), .second, .val (.long j2), .second, .val (.long j4), .second] [(.long j1)])) rfl (hb hby at_60) _ ?_
          show Steps p.tables e below (T3.setTop (mkF m 63 #[.val (.long q1), .second, .val (.long q2), .second, .val (.long q3), .second, .val (.long j1), .second, .val (.long j2), .second, .val (.long j4), .second] [(.long (9223372036854775806 : Int64)), (.long j1)])) _
          refine XS.lload X3.here hx rfl (hb hby at_63) rfl ?_
          show Steps p.tables e below (T3.setTop (mkF m 65 #[.val (.long q1), .second, .val (.long q2), .second, .val (.long q3), .second, .val (.long j1), .second, .val (.long j2), .second, .val (.long j4), .second] [(.long j2), (.long (9223372036854775806 : Int64)), (.long j1)])) _
          refine XS.ldiv X3.here hx rfl (hb hby at_65) rfl hc55_2 ?_
          show Steps p.tables e below (T3.setTop (mkF m 66 #[.val (.long q1), .second, .val (.long q2), .second, .val (.long q3), .second, .val (.long j1), .second, .val (.long j2), .second, .val (.long j4), .second] [(.long ((9223372036854775806 : Int64) / j2)), (.long j1)])) _
          refine XS.lcmp X3.here hx rfl (hb hby at_66) rfl ?_
          show Steps p.tables e below (T3.setTop (mkF m 67 #[.val (.long q1), .second, .val (.long q2), .second, .val (.long q3), .second, .val (.long j1), .second, .val (.long j2), .second, .val (.long j4), .second] [(.int (lcmpW j1 ((9223372036854775806 : Int64) / j2)))])) _
          refine XS.ifYes X3.here hx rfl (pc0 := 67) (pc' := 74) rfl (hb hby at_67) rfl ((if0 _ _).trans (flt (fun q => hc67_3 ((lw_gt j1 ((9223372036854775806 : Int64) / j2)).mp q))).2.2.2) (by decide) (by decide) ?_
          show Steps p.tables e below (T3.setTop (mkF m 74 #[.val (.long q1), .second, .val (.long q2), .second, .val (.long q3), .second, .val (.long j1), .second, .val (.long j2), .second, .val (.long j4), .second] [])) _
          refine XS.iconst X3.here hx rfl (hb hby at_74) ?_
          exact k
    refine own_go st6 ?_
    show own_Go p.tables e below _ T3 (mkF m 75 #[.val (.long q1), .second, .val (.long q2), .second, .val (.long q3), .second, .val (.long j1), .second, .val (.long j2), .second, .val (.long j4), .second] [(.int j5)])
    have hv1 : (nar .boolean j5) = 1 := own_yes_t q1 q2 q3 j1 j2 j4 j5 hj1 hj2 hj4 hj5 hc48_1
    obtain ⟨fs, hr, hrun, hended, hW, hsame⟩ := X3.leave (v := some (.int (nar .boolean j5))) (fun h => by rw [Bd.returns] at h; cases h)
    refine ⟨_, _, ?_, hrun, hended, _, _, rfl, ?_, ⟨_, rfl⟩, hW, hsame.mono (by decide) (by decide)⟩
    · exact retN X3 hx (t := .boolean) Bd.returns (by simp) (hb hby at_75) hr
    · show Q0 Z q1 q2 q3 h0 n0 _ _ _
      exact ⟨by rw [hv1], NN⟩
  · skip
    refine own_go (T' := T3) (g' := (mkF m 80 #[.val (.long q1), .second, .val (.long q2), .second, .val (.long q3), .second, .val (.long j1), .second, .val (.long j2), .second, .val (.long j4), .second] [(.int (lcmpW j4 (0 : Int64)))])) (fun t k => ?_) ?_
    · show Steps p.tables e below (T3.setTop (mkF m 48 #[.val (.long q1), .second, .val (.long q2), .second, .val (.long q3), .second, .val (.long j1), .second, .val (.long j2), .second, .val (.long j4), .second] [(.int (lcmpW j4 (9223372036854775807 : Int64)))])) _
      refine XS.ifYes X3.here hx rfl (pc0 := 48) (pc' := 76) rfl (hb hby at_48) rfl ((if0 _ _).trans (feq (fun q => hc48_1 ((lw_eq j4 (9223372036854775807 : Int64)).mp q))).2) (by decide) (by decide) ?_
      show Steps p.tables e below (T3.setTop (mkF m 76 #[.val (.long q1), .second, .val (.long q2), .second, .val (.long q3), .second, .val (.long j1), .second, .val (.long j2), .second, .val (.long j4), .second] [])) _
      refine XS.lload X3.here hx rfl (hb hby at_76) rfl ?_
      show Steps p.tables e below (T3.setTop (mkF m 78 #[.val (.long q1), .second, .val (.long q2), .second, .val (.long q3), .second, .val (.long j1), .second, .val (.long j2), .second, .val (.long j4), .second] [(.long j4)])) _
      refine XS.lconst X3.here hx rfl (hb hby at_78) ?_
      show Steps p.tables e below (T3.setTop (mkF m 79 #[.val (.long q1), .second, .val (.long q2), .second, .val (.long q3), .second, .val (.long j1), .second, .val (.long j2), .second, .val (.long j4), .second] [(.long (0 : Int64)), (.long j4)])) _
      refine XS.lcmp X3.here hx rfl (hb hby at_79) rfl ?_
      exact k
    by_cases hc80_4 : j4 < (0 : Int64)
    · skip
      refine own_go (T' := T3) (g' := (mkF m 84 #[.val (.long q1), .second, .val (.long q2), .second, .val (.long q3), .second, .val (.long j1), .second, .val (.long j2), .second, .val (.long j4), .second] [(.int (0 : Int32))])) (fun t k => ?_) ?_
      · show Steps p.tables e below (T3.setTop (mkF m 80 #[.val (.long q1), .second, .val (.long q2), .second, .val (.long q3), .second, .val (.long j1), .second, .val (.long j2), .second, .val (.long j4), .second] [(.int (lcmpW j4 (0 : Int64)))])) _
        refine XS.ifNo X3.here hx rfl (hb hby at_80) rfl ((if0 _ _).trans (tlt ((lw_lt j4 (0 : Int64)).mpr hc80_4)).2.1) ?_
        show Steps p.tables e below (T3.setTop (mkF m 83 #[.val (.long q1), .second, .val (.long q2), .second, .val (.long q3), .second, .val (.long j1), .second, .val (.long j2), .second, .val (.long j4), .second] [])) _
        refine XS.iconst X3.here hx rfl (hb hby at_83) ?_
        exact k
      exfalso
      exact own_no_ft q1 q2 q3 j1 j2 j4 hj1 hj2 hj4 hc48_1 hc80_4
    · skip
      refine own_go (T' := T3) (g' := (mkF m 89 #[.val (.long q1), .second, .val (.long q2), .second, .val (.long q3), .second, .val (.long j1), .second, .val (.long j2), .second, .val (.long j4), .second] [(.int (lcmpW j2 (0 : Int64)))])) (fun t k => ?_) ?_
      · show Steps p.tables e below (T3.setTop (mkF m 80 #[.val (.long q1), .second, .val (.long q2), .second, .val (.long q3), .second, .val (.long j1), .second, .val (.long j2), .second, .val (.long j4), .second] [(.int (lcmpW j4 (0 : Int64)))])) _
        refine XS.ifYes X3.here hx rfl (pc0 := 80) (pc' := 85) rfl (hb hby at_80) rfl ((if0 _ _).trans (flt (fun q => hc80_4 ((lw_lt j4 (0 : Int64)).mp q))).2.1) (by decide) (by decide) ?_
        show Steps p.tables e below (T3.setTop (mkF m 85 #[.val (.long q1), .second, .val (.long q2), .second, .val (.long q3), .second, .val (.long j1), .second, .val (.long j2), .second, .val (.long j4), .second] [])) _
        refine XS.lload X3.here hx rfl (hb hby at_85) rfl ?_
        show Steps p.tables e below (T3.setTop (mkF m 87 #[.val (.long q1), .second, .val (.long q2), .second, .val (.long q3), .second, .val (.long j1), .second, .val (.long j2), .second, .val (.long j4), .second] [(.long j2)])) _
        refine XS.lconst X3.here hx rfl (hb hby at_87) ?_
        show Steps p.tables e below (T3.setTop (mkF m 88 #[.val (.long q1), .second, .val (.long q2), .second, .val (.long q3), .second, .val (.long j1), .second, .val (.long j2), .second, .val (.long j4), .second] [(.long (0 : Int64)), (.long j2)])) _
        refine XS.lcmp X3.here hx rfl (hb hby at_88) rfl ?_
        exact k
      by_cases hc89_5 : j2 = (0 : Int64)
      · skip
        refine own_go (T' := T3) (g' := (mkF m 96 #[.val (.long q1), .second, .val (.long q2), .second, .val (.long q3), .second, .val (.long j1), .second, .val (.long j2), .second, .val (.long j4), .second] [(.int (lcmpW j4 (0 : Int64)))])) (fun t k => ?_) ?_
        · show Steps p.tables e below (T3.setTop (mkF m 89 #[.val (.long q1), .second, .val (.long q2), .second, .val (.long q3), .second, .val (.long j1), .second, .val (.long j2), .second, .val (.long j4), .second] [(.int (lcmpW j2 (0 : Int64)))])) _
          refine XS.ifNo X3.here hx rfl (hb hby at_89) rfl ((if0 _ _).trans (teq ((lw_eq j2 (0 : Int64)).mpr hc89_5)).2) ?_
          show Steps p.tables e below (T3.setTop (mkF m 92 #[.val (.long q1), .second, .val (.long q2), .second, .val (.long q3), .second, .val (.long j1), .second, .val (.long j2), .second, .val (.long j4), .second] [])) _
          refine XS.lload X3.here hx rfl (hb hby at_92) rfl ?_
          show Steps p.tables e below (T3.setTop (mkF m 94 #[.val (.long q1), .second, .val (.long q2), .second, .val (.long q3), .second, .val (.long j1), .second, .val (.long j2), .second, .val (.long j4), .second] [(.long j4)])) _
          refine XS.lconst X3.here hx rfl (hb hby at_94) ?_
          show Steps p.tables e below (T3.setTop (mkF m 95 #[.val (.long q1), .second, .val (.long q2), .second, .val (.long q3), .second, .val (.long j1), .second, .val (.long j2), .second, .val (.long j4), .second] [(.long (0 : Int64)), (.long j4)])) _
          refine XS.lcmp X3.here hx rfl (hb hby at_95) rfl ?_
          exact k
        obtain ⟨j7, hj7, st8⟩ : ∃ (j7 : Int32), j7 = (if j4 = (0 : Int64) then (1 : Int32) else (0 : Int32)) ∧ ∀ t, Steps p.tables e below (T3.setTop (mkF m 104 #[.val (.long q1), .second, .val (.long q2), .second, .val (.long q3), .second, .val (.long j1), .second, .val (.long j2), .second, .val (.long j4), .second] [(.int j7)])) t → Steps p.tables e below (T3.setTop (mkF m 96 #[.val (.long q1), .second, .val (.long q2), .second, .val (.long q3), .second, .val (.long j1), .second, .val (.long j2), .second, .val (.long j4), .second] [(.int (lcmpW j4 (0 : Int64)))])) t := by
          by_cases hc96_6 : j4 = (0 : Int64)
          · skip
            refine ⟨(1 : Int32), (by simp only [if_pos hc96_6]), fun t k => ?_⟩
            show Steps p.tables e below (T3.setTop (mkF m 96 #[.val (.long q1), .second, .val (.long q2), .second, .val (.long q3), .second, .val (.long j1), .second, .val (.long j2), .second, .val (.long j4), .second] [(.int (lcmpW j4 (0 : Int64)))])) _
            refine XS.ifNo X3.here hx rfl (hb hby at_96) rfl ((if0 _ _).trans (teq ((lw_eq j4 (0 : Int64)).mpr hc96_6)).2) ?_
            show Steps p.tables e below (T3.setTop (mkF m 99 #[.val (.long q1), .second, .val (.long q2), .second, .val (.long q3), .second, .val (.long j1), .second, .val (.long j2), .second, .val (.long j4), .second] [])) _
            refine XS.iconst X3.here hx rfl (hb hby at_99) ?_
            show Steps p.tables e below (T3.setTop (mkF m 100 #[.val (.long q1), .second, .val (.long q2), .second, .val (.long q3), .second, .val (.long j1), .second, .val (.long j2), .second, .val (.long j4), .second] [(.int (1 : Int32))])) _
            refine XS.goto X3.here hx rfl (pc0 := 100) (pc' := 104) rfl (hb hby at_100) (by decide) (by decide) ?_
            exact k
          · skip
            refine ⟨(0 : Int32), (by simp only [if_neg hc96_6]), fun t k => ?_⟩
            show Steps p.tables e below (T3.setTop (mkF m 96 #[.val (.long q1), .second, .val (.long q2), .second, .val (.long q3), .second, .val (.long j1), .second, .val (.long j2), .second, .val (.long j4), .second] [(.int (lcmpW j4 (0 : Int64)))])) _
            refine XS.ifYes X3.here hx rfl (pc0 := 96) (pc' := 103) rfl (hb hby at_96) rfl ((if0 _ _).trans (feq (fun q => hc96_6 ((lw_eq j4 (0 : Int64)).mp q))).2) (by decide) (by decide) ?_
            show Steps p.tables e below (T3.setTop (mkF m 103 #[.val (.long q1), .second, .val (.long q2), .second, .val (.long q3), .second, .val (.long j1), .second, .val (.long j2), .second, .val (.long j4), .second] [])) _
            refine XS.iconst X3.here hx rfl (hb hby at_103) ?_
            exact k
        refine own_go st8 ?_
        show own_Go p.tables e below _ T3 (mkF m 104 #[.val (.long q1), .second, .val (.long q2), .second, .val (.long q3), .second, .val (.long j1), .second, .val (.long j2), .second, .val (.long j4), .second] [(.int j7)])
        have hv1 : (nar .boolean j7) = 1 := own_yes_fft q1 q2 q3 j1 j2 j4 j7 hj1 hj2 hj4 hj7 hc48_1 hc80_4 hc89_5
        obtain ⟨fs, hr, hrun, hended, hW, hsame⟩ := X3.leave (v := some (.int (nar .boolean j7))) (fun h => by rw [Bd.returns] at h; cases h)
        refine ⟨_, _, ?_, hrun, hended, _, _, rfl, ?_, ⟨_, rfl⟩, hW, hsame.mono (by decide) (by decide)⟩
        · exact retN X3 hx (t := .boolean) Bd.returns (by simp) (hb hby at_104) hr
        · show Q0 Z q1 q2 q3 h0 n0 _ _ _
          exact ⟨by rw [hv1], NN⟩
      · skip
        refine own_go (T' := T3) (g' := (mkF m 109 #[.val (.long q1), .second, .val (.long q2), .second, .val (.long q3), .second, .val (.long j1), .second, .val (.long j2), .second, .val (.long j4), .second] [(.long j2), (.long j4)])) (fun t k => ?_) ?_
        · show Steps p.tables e below (T3.setTop (mkF m 89 #[.val (.long q1), .second, .val (.long q2), .second, .val (.long q3), .second, .val (.long j1), .second, .val (.long j2), .second, .val (.long j4), .second] [(.int (lcmpW j2 (0 : Int64)))])) _
          refine XS.ifYes X3.here hx rfl (pc0 := 89) (pc' := 105) rfl (hb hby at_89) rfl ((if0 _ _).trans (feq (fun q => hc89_5 ((lw_eq j2 (0 : Int64)).mp q))).2) (by decide) (by decide) ?_
          show Steps p.tables e below (T3.setTop (mkF m 105 #[.val (.long q1), .second, .val (.long q2), .second, .val (.long q3), .second, .val (.long j1), .second, .val (.long j2), .second, .val (.long j4), .second] [])) _
          refine XS.lload X3.here hx rfl (hb hby at_105) rfl ?_
          show Steps p.tables e below (T3.setTop (mkF m 107 #[.val (.long q1), .second, .val (.long q2), .second, .val (.long q3), .second, .val (.long j1), .second, .val (.long j2), .second, .val (.long j4), .second] [(.long j4)])) _
          refine XS.lload X3.here hx rfl (hb hby at_107) rfl ?_
          exact k
        refine own_go (T' := T3) (g' := (mkF m 112 #[.val (.long q1), .second, .val (.long q2), .second, .val (.long q3), .second, .val (.long j1), .second, .val (.long j2), .second, .val (.long j4), .second] [(.int (lcmpW (j4 - (j4 / j2) * j2) (0 : Int64)))])) (fun t k => ?_) ?_
        · show Steps p.tables e below (T3.setTop (mkF m 109 #[.val (.long q1), .second, .val (.long q2), .second, .val (.long q3), .second, .val (.long j1), .second, .val (.long j2), .second, .val (.long j4), .second] [(.long j2), (.long j4)])) _
          refine XS.lrem X3.here hx rfl (hb hby at_109) rfl hc89_5 ?_
          show Steps p.tables e below (T3.setTop (mkF m 110 #[.val (.long q1), .second, .val (.long q2), .second, .val (.long q3), .second, .val (.long j1), .second, .val (.long j2), .second, .val (.long j4), .second] [(.long (j4 - (j4 / j2) * j2))])) _
          refine XS.lconst X3.here hx rfl (hb hby at_110) ?_
          show Steps p.tables e below (T3.setTop (mkF m 111 #[.val (.long q1), .second, .val (.long q2), .second, .val (.long q3), .second, .val (.long j1), .second, .val (.long j2), .second, .val (.long j4), .second] [(.long (0 : Int64)), (.long (j4 - (j4 / j2) * j2))])) _
          refine XS.lcmp X3.here hx rfl (hb hby at_111) rfl ?_
          exact k
        obtain ⟨j9, hj9, st10⟩ : ∃ (j9 : Int32), j9 = (if (j4 - (j4 / j2) * j2) = (0 : Int64) then (if (j4 / j2) = j1 then (1 : Int32) else (0 : Int32)) else (0 : Int32)) ∧ ∀ t, Steps p.tables e below (T3.setTop (mkF m 131 #[.val (.long q1), .second, .val (.long q2), .second, .val (.long q3), .second, .val (.long j1), .second, .val (.long j2), .second, .val (.long j4), .second] [(.int j9)])) t → Steps p.tables e below (T3.setTop (mkF m 112 #[.val (.long q1), .second, .val (.long q2), .second, .val (.long q3), .second, .val (.long j1), .second, .val (.long j2), .second, .val (.long j4), .second] [(.int (lcmpW (j4 - (j4 / j2) * j2) (0 : Int64)))])) t := by
          by_cases hc112_7 : (j4 - (j4 / j2) * j2) = (0 : Int64)
          · skip
            by_cases hc123_8 : (j4 / j2) = j1
            · skip
              refine ⟨(1 : Int32), (by simp only [if_pos hc112_7, if_pos hc123_8]), fun t k => ?_⟩
              show Steps p.tables e below (T3.setTop (mkF m 112 #[.val (.long q1), .second, .val (.long q2), .second, .val (.long q3), .second, .val (.long j1), .second, .val (.long j2), .second, .val (.long j4), .second] [(.int (lcmpW (j4 - (j4 / j2) * j2) (0 : Int64)))])) _
              refine XS.ifNo X3.here hx rfl (hb hby at_112) rfl ((if0 _ _).trans (teq ((lw_eq (j4 - (j4 / j2) * j2) (0 : Int64)).mpr hc112_7)).2) ?_
              show Steps p.tables e below (T3.setTop (mkF m 115 #[.val (.long q1), .second, .val (.long q2), .second, .val (.long q3), .second, .val (.long j1), .second, .val (.long j2), .second, .val (.long j4), .second] [])) _
              refine XS.lload X3.here hx rfl (hb hby at_115) rfl ?_
              show Steps p.tables e below (T3.setTop (mkF m 117 #[.val (.long q1), .second, .val (.long q2), .second, .val (.long q3), .second, .val (.long j1), .second, .val (.long j2), .second, .val (.long j4), .second] [(.long j4)])) _
              refine XS.lload X3.here hx rfl (hb hby at_117) rfl ?_
              show Steps p.tables e below (T3.setTop (mkF m 119 #[.val (.long q1), .second, .val (.long q2), .second, .val (.long q3), .second, .val (.long j1), .second, .val (.long j2), .second, .val (.long j4), .second] [(.long j2), (.long j4)])) _
              refine XS.ldiv X3.here hx rfl (hb hby at_119) rfl hc89_5 ?_
              show Steps p.tables e below (T3.setTop (mkF m 120 #[.val (.long q1), .second, .val (.long q2), .second, .val (.long q3), .second, .val (.long j1), .second, .val (.long j2), .second, .val (.long j4), .second] [(.long (j4 / j2))])) _
              refine XS.lload X3.here hx rfl (hb hby at_120) rfl ?_
              show Steps p.tables e below (T3.setTop (mkF m 122 #[.val (.long q1), .second, .val (.long q2), .second, .val (.long q3), .second, .val (.long j1), .second, .val (.long j2), .second, .val (.long j4), .second] [(.long j1), (.long (j4 / j2))])) _
              refine XS.lcmp X3.here hx rfl (hb hby at_122) rfl ?_
              show Steps p.tables e below (T3.setTop (mkF m 123 #[.val (.long q1), .second, .val (.long q2), .second, .val (.long q3), .second, .val (.long j1), .second, .val (.long j2), .second, .val (.long j4), .second] [(.int (lcmpW (j4 / j2) j1))])) _
              refine XS.ifNo X3.here hx rfl (hb hby at_123) rfl ((if0 _ _).trans (teq ((lw_eq (j4 / j2) j1).mpr hc123_8)).2) ?_
              show Steps p.tables e below (T3.setTop (mkF m 126 #[.val (.long q1), .second, .val (.long q2), .second, .val (.long q3), .second, .val (.long j1), .second, .val (.long j2), .second, .val (.long j4), .second] [])) _
              refine XS.iconst X3.here hx rfl (hb hby at_126) ?_
              show Steps p.tables e below (T3.setTop (mkF m 127 #[.val (.long q1), .second, .val (.long q2), .second, .val (.long q3), .second, .val (.long j1), .second, .val (.long j2), .second, .val (.long j4), .second] [(.int (1 : Int32))])) _
              refine XS.goto X3.here hx rfl (pc0 := 127) (pc' := 131) rfl (hb hby at_127) (by decide) (by decide) ?_
              exact k
            · skip
              refine ⟨(0 : Int32), (by simp only [if_pos hc112_7, if_neg hc123_8]), fun t k => ?_⟩
              show Steps p.tables e below (T3.setTop (mkF m 112 #[.val (.long q1), .second, .val (.long q2), .second, .val (.long q3), .second, .val (.long j1), .second, .val (.long j2), .second, .val (.long j4), .second] [(.int (lcmpW (j4 - (j4 / j2) * j2) (0 : Int64)))])) _
              refine XS.ifNo X3.here hx rfl (hb hby at_112) rfl ((if0 _ _).trans (teq ((lw_eq (j4 - (j4 / j2) * j2) (0 : Int64)).mpr hc112_7)).2) ?_
              show Steps p.tables e below (T3.setTop (mkF m 115 #[.val (.long q1), .second, .val (.long q2), .second, .val (.long q3), .second, .val (.long j1), .second, .val (.long j2), .second, .val (.long j4), .second] [])) _
              refine XS.lload X3.here hx rfl (hb hby at_115) rfl ?_
              show Steps p.tables e below (T3.setTop (mkF m 117 #[.val (.long q1), .second, .val (.long q2), .second, .val (.long q3), .second, .val (.long j1), .second, .val (.long j2), .second, .val (.long j4), .second] [(.long j4)])) _
              refine XS.lload X3.here hx rfl (hb hby at_117) rfl ?_
              show Steps p.tables e below (T3.setTop (mkF m 119 #[.val (.long q1), .second, .val (.long q2), .second, .val (.long q3), .second, .val (.long j1), .second, .val (.long j2), .second, .val (.long j4), .second] [(.long j2), (.long j4)])) _
              refine XS.ldiv X3.here hx rfl (hb hby at_119) rfl hc89_5 ?_
              show Steps p.tables e below (T3.setTop (mkF m 120 #[.val (.long q1), .second, .val (.long q2), .second, .val (.long q3), .second, .val (.long j1), .second, .val (.long j2), .second, .val (.long j4), .second] [(.long (j4 / j2))])) _
              refine XS.lload X3.here hx rfl (hb hby at_120) rfl ?_
              show Steps p.tables e below (T3.setTop (mkF m 122 #[.val (.long q1), .second, .val (.long q2), .second, .val (.long q3), .second, .val (.long j1), .second, .val (.long j2), .second, .val (.long j4), .second] [(.long j1), (.long (j4 / j2))])) _
              refine XS.lcmp X3.here hx rfl (hb hby at_122) rfl ?_
              show Steps p.tables e below (T3.setTop (mkF m 123 #[.val (.long q1), .second, .val (.long q2), .second, .val (.long q3), .second, .val (.long j1), .second, .val (.long j2), .second, .val (.long j4), .second] [(.int (lcmpW (j4 / j2) j1))])) _
              refine XS.ifYes X3.here hx rfl (pc0 := 123) (pc' := 130) rfl (hb hby at_123) rfl ((if0 _ _).trans (feq (fun q => hc123_8 ((lw_eq (j4 / j2) j1).mp q))).2) (by decide) (by decide) ?_
              show Steps p.tables e below (T3.setTop (mkF m 130 #[.val (.long q1), .second, .val (.long q2), .second, .val (.long q3), .second, .val (.long j1), .second, .val (.long j2), .second, .val (.long j4), .second] [])) _
              refine XS.iconst X3.here hx rfl (hb hby at_130) ?_
              exact k
          · skip
            refine ⟨(0 : Int32), (by simp only [if_neg hc112_7]), fun t k => ?_⟩
            show Steps p.tables e below (T3.setTop (mkF m 112 #[.val (.long q1), .second, .val (.long q2), .second, .val (.long q3), .second, .val (.long j1), .second, .val (.long j2), .second, .val (.long j4), .second] [(.int (lcmpW (j4 - (j4 / j2) * j2) (0 : Int64)))])) _
            refine XS.ifYes X3.here hx rfl (pc0 := 112) (pc' := 130) rfl (hb hby at_112) rfl ((if0 _ _).trans (feq (fun q => hc112_7 ((lw_eq (j4 - (j4 / j2) * j2) (0 : Int64)).mp q))).2) (by decide) (by decide) ?_
            show Steps p.tables e below (T3.setTop (mkF m 130 #[.val (.long q1), .second, .val (.long q2), .second, .val (.long q3), .second, .val (.long j1), .second, .val (.long j2), .second, .val (.long j4), .second] [])) _
            refine XS.iconst X3.here hx rfl (hb hby at_130) ?_
            exact k
        refine own_go st10 ?_
        show own_Go p.tables e below _ T3 (mkF m 131 #[.val (.long q1), .second, .val (.long q2), .second, .val (.long q3), .second, .val (.long j1), .second, .val (.long j2), .second, .val (.long j4), .second] [(.int j9)])
        have hv1 : (nar .boolean j9) = 1 := own_yes_fff q1 q2 q3 j1 j2 j4 j9 hj1 hj2 hj4 hj9 hc48_1 hc80_4 hc89_5
        obtain ⟨fs, hr, hrun, hended, hW, hsame⟩ := X3.leave (v := some (.int (nar .boolean j9))) (fun h => by rw [Bd.returns] at h; cases h)
        refine ⟨_, _, ?_, hrun, hended, _, _, rfl, ?_, ⟨_, rfl⟩, hW, hsame.mono (by decide) (by decide)⟩
        · exact retN X3 hx (t := .boolean) Bd.returns (by simp) (hb hby at_131) hr
        · show Q0 Z q1 q2 q3 h0 n0 _ _ _
          exact ⟨by rw [hv1], NN⟩
set_option maxRecDepth 65536 in
set_option maxHeartbeats 40000000 in
theorem comes_1 {Post : Tables → Env → Array Value → State → Outcome → State → Prop} (hpost : ∀ tb e args s v u, (limb_1_1.after args s (.returned v) u = true ∧ limb_1_2.after args s (.returned v) u = true ∧ True) → FrameEnd s (.returned v) u (Jvm.fieldLocs frame_1_writes args s ++ Jvm.arrayLocs frame_1_arrays args s ++ Jvm.staticLocs frame_1_statics s) 0 0 → Post tb e args s (.returned v) u) :
    ArmFor flags0 classFile x code maxLocals ret World_1 tables_1 room_1 Calls_1 rest_1 Pre_1 Post := by
  intro l hfl _ _ p e ha hc hk s m args below hf hA hF happ hP
  obtain ⟨hcalls, hrest, hpre⟩ := hP
  obtain ⟨-, -, -, hnamed, -, -, -, hat⟩ := (Spec.applies_iff hf).mp happ
  obtain ⟨hg, hn⟩ := and_e (Cond.before_iff.mp (show (Jvm.Cond.and given_1 narrow_1).before args s = true from hpre))
  obtain ⟨hcount, hg0⟩ := and_e hg
  obtain ⟨ha0, hg1⟩ := and_e hg0
  obtain ⟨ha1, hg2⟩ := and_e hg1
  have ha2 := hg2
  obtain ⟨w0, w1, w2, rfl⟩ : ∃ w0 w1 w2 : Value, args = #[w0, w1, w2] := by
    have hs : args.size = 3 := by simpa [Cond.value, given_1] using hcount
    obtain ⟨L⟩ := args
    match L, hs with
    | [w0, w1, w2], _ => exact ⟨w0, w1, w2, rfl⟩
  have hw := fun d (hd : d ∈ tables_1) => atoms_spec (ws := Jvm.Cond.code x code maxLocals ret :: tables_1) hat d (List.mem_cons_of_mem _ hd)
  obtain ⟨i0, ei0⟩ := isL_v ha0
  obtain rfl : w0 = (.long i0) := Option.some.inj ei0
  obtain ⟨i1, ei1⟩ := isL_v ha1
  obtain rfl : w1 = (.long i1) := Option.some.inj ei1
  obtain ⟨i2, ei2⟩ := isL_v ha2
  obtain rfl : w2 = (.long i2) := Option.some.inj ei2
  obtain ⟨n, o, h1, h2, h3, _, L, rfl, ⟨rfl, N⟩, hq⟩ := rm0 l s _ hw tables_1 i0 i1 i2 s.heap s.heap.size (Nat.le_refl _) p e ha hc hk s m _ below hf ((Spec.applies_iff_loose hf).mp happ).1 ⟨rfl, State.Warmed39.refl s, rfl⟩ trivial
  refine ⟨n, _, h1, h2, h3, hpost _ _ _ _ _ _ ⟨Cond.after_iff.mpr rfl, Cond.after_iff.mpr (eq_i res_at (Term.int_eval (1)) rfl), trivial⟩ ⟨hq.1, hq.2.1, (hq.2.2.sift fun y hy => Or.inr (N y hy)).mono (by decide) (by decide)⟩⟩
theorem main_1_1 : Claimed_1_1 := comes_1 fun _ _ _ _ _ _ h hF => ⟨h.1, hF⟩
theorem main_1_2 : Claimed_1_2 := comes_1 fun _ _ _ _ _ _ h hF => ⟨h.2.1, hF⟩
end Jvm.Pilot.@@N@@
namespace Jvm.Pilot.@@N@@
open Jvm Jvm.ClassFile Sem Op Lib Jvm.Free Jvm.Stand Jvm.Pilot.@@N@@.Jvm.D
/-! MADE BY PROGRAM (witnessworld.py) out of the Statement's table words and the real class files: 9 classes; the members and pool entries that the words name. The judged class is class 1, her method 1. -/
namespace start1
open Jvm.ClassFile
def u (s : String) : CpInfo := .utf8 (stringToUtf16 s)
/-- a pool by its gaps: so many unusable entries, then the entry; so many at the end -/
def gap : Nat → List CpInfo → List CpInfo
  | 0, r => r
  | n + 1, r => .unusable :: gap n r
def poolList (es : List (Nat × CpInfo)) (last : Nat) : List CpInfo := es.foldr (fun e r => gap e.1 (e.2 :: r)) (gap last [])
def pool (es : List (Nat × CpInfo)) (last : Nat) : Array CpInfo := ⟨poolList es last⟩
def fileOf (pool : Array CpInfo) (this : Nat) (attrs : Array Attribute := #[]) (ms : Array MethodInfo := #[]) (fl : Nat := 33) (sup : Nat := 0) (ifs : Array Nat := #[]) (fds : Array FieldInfo := #[]) : ClassFile where
  minorVersion := 0
  majorVersion := 65
  constantPool := pool
  accessFlags := fl
  thisClass := this
  superClass := sup
  interfaces := ifs
  fields := fds
  methods := ms
  attributes := attrs
def plain (name : String) (sup : Option ClassId) : Class where
  name := name
  kind := .ordinary
  loader := none
  accessFlags := 33
  super := sup
  interfaces := #[]
  cf := none
  fields := #[]
  methods := #[]
  instanceTypes := #[]
  staticTypes := #[]
  resolved := #[]
  callSites := []
  init := .initialized
  statics := none
  mirror := none

def pool0 : Array CpInfo := pool [(5, u "<init>"), (0, u "()V"), (1, .class_ 10), (1, u "java/lang/Object")] 113

def k0m0 : Method := { name := "<init>", desc := "()V", sig := { parameters := [], returnType := none }, accessFlags := 1, code := none }
/-- java/lang/Object -/
def k0 : Class := { plain "java/lang/Object" none with
  accessFlags := 33
  interfaces := #[]
  cf := some (fileOf pool0 8 #[] #[{ accessFlags := 1, nameIndex := 5, descriptorIndex := 6, attributes := #[] }] 33 0 #[] #[])
  fields := #[]
  methods := #[k0m0]
  instanceTypes := #[]
  staticTypes := #[]
  resolved := Array.replicate 124 none
  statics := none }

def pool1 : Array CpInfo := pool [(2, .class_ 4), (1, u "java/lang/Object"), (0, u "<init>"), (0, u "()V"), (2, .long 9223372036854775807), (1, .long 63), (1, .methodref 14 15), (0, .class_ 16), (0, .nameAndType 17 18), (0, u "com/example/portunus/portunus/Work"), (0, u "product"), (0, u "(JJ)J"), (0, .long 9223372036854775806), (1, .class_ 22), (0, u "com/example/portunus/portunus/WorkProductPinLaw"), (2, u "law"), (0, u "(JJJ)Z")] 3

def k1m0 : Method := { name := "<init>", desc := "()V", sig := { parameters := [], returnType := none }, accessFlags := 2, code := none }
def k1c1 : Code := { maxStack := 6, maxLocals := 12, code := code, exceptionTable := #[], attributes := #[] }
def k1m1 : Method := { name := "law", desc := "(JJJ)Z", sig := { parameters := [.long, .long, .long], returnType := some .boolean }, accessFlags := 9, code := some k1c1 }
/-- com/example/portunus/portunus/WorkProductPinLaw -/
def k1 : Class := { plain "com/example/portunus/portunus/WorkProductPinLaw" (some 0) with
  accessFlags := 49
  interfaces := #[]
  cf := some (fileOf pool1 21 #[] #[{ accessFlags := 2, nameIndex := 5, descriptorIndex := 6, attributes := #[] }, { accessFlags := 9, nameIndex := 25, descriptorIndex := 26, attributes := #[] }] 49 2 #[] #[])
  fields := #[]
  methods := #[k1m0, k1m1]
  instanceTypes := #[]
  staticTypes := #[]
  resolved := Array.replicate 30 none
  statics := none }

def pool2 : Array CpInfo := pool [(2, .class_ 4), (1, u "java/lang/Object"), (0, u "<init>"), (0, u "()V"), (6, .class_ 14), (0, u "com/example/portunus/portunus/Work"), (4, u "product"), (0, u "(JJ)J"), (17, .long 9223372036854775807), (10, u "PER_CHARACTER"), (0, u "I"), (2, u "PER_COMMA"), (1, u "PER_PLAIN_CHARACTER"), (1, u "PER_SEPARATOR"), (0, u "CHARACTERS_PER_UNIT"), (12, .class_ 72), (0, u "com/example/portunus/portunus/Work$Limit")] 2

def k2m0 : Method := { name := "<init>", desc := "()V", sig := { parameters := [], returnType := none }, accessFlags := 2, code := none }
def k2c1 : Code := { maxStack := 6, maxLocals := 4, code := prog_70_method_6_code, exceptionTable := #[], attributes := #[] }
def k2m1 : Method := { name := "product", desc := "(JJ)J", sig := { parameters := [.long, .long], returnType := some .long }, accessFlags := 8, code := some k2c1 }
/-- com/example/portunus/portunus/Work -/
def k2 : Class := { plain "com/example/portunus/portunus/Work" (some 0) with
  accessFlags := 49
  interfaces := #[]
  cf := some (fileOf pool2 13 #[.nestMembers #[71]] #[{ accessFlags := 2, nameIndex := 5, descriptorIndex := 6, attributes := #[] }, { accessFlags := 8, nameIndex := 19, descriptorIndex := 20, attributes := #[] }] 49 2 #[] #[{ accessFlags := 25, nameIndex := 49, descriptorIndex := 50, attributes := #[] }, { accessFlags := 25, nameIndex := 53, descriptorIndex := 50, attributes := #[] }, { accessFlags := 25, nameIndex := 55, descriptorIndex := 50, attributes := #[] }, { accessFlags := 25, nameIndex := 57, descriptorIndex := 50, attributes := #[] }, { accessFlags := 26, nameIndex := 58, descriptorIndex := 50, attributes := #[] }])
  fields := #[{ name := "PER_CHARACTER", type := .int, accessFlags := 25, slot := 0, constantValue := 0 }, { name := "PER_COMMA", type := .int, accessFlags := 25, slot := 1, constantValue := 0 }, { name := "PER_PLAIN_CHARACTER", type := .int, accessFlags := 25, slot := 2, constantValue := 0 }, { name := "PER_SEPARATOR", type := .int, accessFlags := 25, slot := 3, constantValue := 0 }, { name := "CHARACTERS_PER_UNIT", type := .int, accessFlags := 26, slot := 4, constantValue := 0 }]
  methods := #[k2m0, k2m1]
  instanceTypes := #[]
  staticTypes := #[.int, .int, .int, .int, .int]
  resolved := Array.replicate 75 none
  statics := none }

def pool3 : Array CpInfo := pool [(1, u "java/lang/Cloneable"), (0, .class_ 1), (0, u "java/lang/Object"), (0, .class_ 3)] 3

/-- java/lang/Cloneable -/
def k3 : Class := { plain "java/lang/Cloneable" (some 0) with
  accessFlags := 1537
  interfaces := #[]
  cf := some (fileOf pool3 2 #[] #[] 1537 4 #[] #[])
  fields := #[]
  methods := #[]
  instanceTypes := #[]
  staticTypes := #[]
  resolved := Array.replicate 8 none
  statics := none }

def pool4 : Array CpInfo := pool [(1, u "java/io/Serializable"), (0, .class_ 1), (0, u "java/lang/Object"), (0, .class_ 3)] 3

/-- java/io/Serializable -/
def k4 : Class := { plain "java/io/Serializable" (some 0) with
  accessFlags := 1537
  interfaces := #[]
  cf := some (fileOf pool4 2 #[] #[] 1537 4 #[] #[])
  fields := #[]
  methods := #[]
  instanceTypes := #[]
  staticTypes := #[]
  resolved := Array.replicate 8 none
  statics := none }

/-- the primitive byte -/
def k5 : Class := { plain "byte" none with kind := .primitive 'B', accessFlags := 0x411 }
/-- [B -/
def k6 : Class := { plain "[B" (some 0) with kind := .array 5 .byte, interfaces := #[3, 4], accessFlags := 1041 }

/-- the primitive int -/
def k7 : Class := { plain "int" none with kind := .primitive 'I', accessFlags := 0x411 }
/-- [I -/
def k8 : Class := { plain "[I" (some 0) with kind := .array 7 .int, interfaces := #[3, 4], accessFlags := 1041 }

def heap : Heap := #[]
def classes : Array Class := #[k0, k1, k2, k3, k4, k5, k6, k7, k8]
def interned : List (Array UInt16 × Addr) := []
def slotsUsed : Nat := 0
def theMethod : MethodId := ⟨1, 1⟩
def args0 : Array Value := #[.long 7, .long 8, .long 9]
def aboutOver (below : List Frame) : State where
  vm := { classes := classes, interned := interned.toArray }
  heap := heap
  slotsUsed := slotsUsed
  threads := #[{ frames := .invoking theMethod args0 :: below }]
def below0 : List Frame := [.native { method := ⟨0, 0⟩, args := #[] }]
def about1 : State := aboutOver below0
def p0 : Program := .bare "" "" ""
def e0 : Env := launch0.env 0 0 0
theorem w_frames : about1.frames = Frame.invoking theMethod args0 :: below0 := rfl
set_option maxRecDepth 65536 in
theorem w_args : argsFit about1.vm theMethod args0 = true := by decide +kernel
set_option maxRecDepth 65536 in
theorem w_heap : heapFits about1 = true := by decide +kernel
set_option maxRecDepth 65536 in
theorem w_runnable : about1.curStatus? = some .runnable := by decide +kernel
set_option maxRecDepth 65536 in
theorem w_alone : about1.alone = true := by decide +kernel
set_option maxRecDepth 65536 in
theorem w_named : about1.methodNamed? x = some theMethod := by decide +kernel
set_option maxRecDepth 65536 in
theorem w_hears : about1.hears theMethod below0 = true := by decide +kernel
set_option maxRecDepth 65536 in
theorem w_ripe : about1.ripe theMethod args0 below0 = true := by decide +kernel
theorem w_running : about1.status = .running := rfl
set_option maxRecDepth 65536 in
theorem w_room : about1.hasRoom e0.platform room_1 = true :=
  launch0.hasRoom_least _ room_1 (by decide +kernel) (by decide +kernel) (by decide +kernel) (by decide +kernel) (by decide +kernel) (by decide +kernel)
theorem allAtoms_all (ts : List Jvm.Cond) (a : Array Jvm.Value) (st : Jvm.State) : (allAtoms ts).before a st = ts.all (fun c => c.before a st) := by
  induction ts with
  | nil => rfl
  | cons c t ih =>
    show (Jvm.Cond.and c (allAtoms t)).before a st = _
    rw [Jvm.Cond.before_and, ih, List.all_cons]
def words1 : List Jvm.Cond := Jvm.Cond.code x code maxLocals ret :: tables_1
/-- a 'code' word, met by the world's own term for the bytes: nothing is compared byte by byte -/
theorem code_word {y : MethodName} {bytes : ByteArray} {mx : Nat} {rt : Option FieldType} {a : Array Value} {s : State} {m : MethodId} {meth : Method} {c : Code} (h1 : s.methodNamed? y = some m) (h2 : s.vm.method? m = some meth) (h3 : meth.code = some c) (h4 : c.code = bytes)
    (h5 : (c.maxLocals == mx && c.exceptionTable.isEmpty && decide (c.maxStack ≤ mostOperands) && decide (meth.sig.returnType = rt) && !meth.locks && decide (parseMethodDescriptor y.desc = some meth.sig)) = true) : (Jvm.Cond.code y bytes mx rt).before a s = true := by
  simp only [Bool.and_eq_true, beq_iff_eq, Bool.not_eq_true', decide_eq_true_eq] at h5
  obtain ⟨⟨⟨⟨⟨g1, g2⟩, g3⟩, g4⟩, g5⟩, g6⟩ := h5
  simp [Cond.before, Cond.holds, Cond.value, h1, h2, h3, h4, g1, g2, g3, g4, g5, g6]
def isCode : Jvm.Cond → Bool
  | .code _ _ _ _ => true
  | _ => false
theorem all_split {L : List Jvm.Cond} {P : Jvm.Cond → Bool} (h1 : L.all (fun c => isCode c || P c) = true) (h2 : ∀ c ∈ L.filter isCode, P c = true) : L.all P = true := by
  refine List.all_eq_true.mpr fun c hc => ?_
  have h := List.all_eq_true.mp h1 c hc
  rcases Bool.eq_false_or_eq_true (isCode c) with hi | hi
  · exact h2 c (List.mem_filter.mpr ⟨hc, hi⟩)
  · simpa [hi] using h
set_option maxRecDepth 65536 in
theorem w_c0 : (Jvm.Cond.code x code maxLocals ret).before args0 about1 = true := code_word (m := ⟨1, 1⟩) (meth := k1m1) (c := k1c1) (by decide +kernel) rfl rfl rfl (by decide +kernel)
set_option maxRecDepth 65536 in
theorem w_c1 : (Jvm.Cond.code ({ cls := "com/example/portunus/portunus/Work", name := "product", desc := "(JJ)J" } : Jvm.MethodName) prog_70_method_6_code (4 : Nat) (Option.some Jvm.ClassFile.FieldType.long)).before args0 about1 = true := code_word (m := ⟨2, 1⟩) (meth := k2m1) (c := k2c1) (by decide +kernel) rfl rfl rfl (by decide +kernel)
def codes1 : List Jvm.Cond := [Jvm.Cond.code x code maxLocals ret, Jvm.Cond.code ({ cls := "com/example/portunus/portunus/Work", name := "product", desc := "(JJ)J" } : Jvm.MethodName) prog_70_method_6_code (4 : Nat) (Option.some Jvm.ClassFile.FieldType.long)]
set_option maxRecDepth 65536 in
theorem codes_eq : words1.filter isCode = codes1 := rfl
theorem w_codes : ∀ c ∈ words1.filter isCode, c.before args0 about1 = true := by
  rw [codes_eq]
  intro c hc
  simp only [codes1, List.mem_cons, List.not_mem_nil, or_false] at hc
  rcases hc with rfl | rfl
  · exact w_c0
  · exact w_c1
set_option maxRecDepth 65536 in
theorem w_t1 : words1.all (fun c => isCode c || c.before args0 about1) = true := by decide +kernel
theorem w_tables : (allAtoms (Jvm.Cond.code x code maxLocals ret :: tables_1)).before args0 about1 = true := by
  rw [allAtoms_all]
  show words1.all (fun c => c.before args0 about1) = true
  refine all_split ?_ w_codes
  rw [w_t1]
set_option maxRecDepth 65536 in
theorem w_case : (Jvm.Cond.and given_1 narrow_1).before args0 about1 = true := by decide +kernel
theorem w_applies : (headSpec (Jvm.Cond.code x code maxLocals ret :: tables_1) room_1).applies x e0.platform about1 = true :=
  (Spec.applies_iff w_frames).mpr ⟨w_running, w_runnable, w_alone, w_named, w_hears, w_ripe, w_room, w_tables⟩
theorem atStart : AtStart classFile x code maxLocals ret World_1 tables_1 room_1 Calls_1 rest_1 Pre_1 launch0 p0 e0 about1 theMethod args0 below0 :=
  ⟨lists_1, trivial, launch0.admits_env _ _ _, launch0.least_env, fairChoices_fair.cas, fairChoices_fair.clock, w_frames, w_args, w_heap, w_applies, trivial, trivial, w_case⟩
end start1
theorem witness_1 : WitnessClaimed_1 := ⟨start1.p0, start1.e0, start1.about1, start1.theMethod, start1.args0, start1.below0, start1.atStart⟩
end Jvm.Pilot.@@N@@

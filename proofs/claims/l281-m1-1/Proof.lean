import JvmDerived
import JvmDerived.Pilot.@@N@@Statement
import JvmDerived.Pilot.@@N@@Code
set_option linter.unusedVariables false
set_option linter.unusedSimpArgs false
namespace Jvm.RoadKit
open Sem ClassFile Op Lib Jvm.Stand Jvm.Free Jvm.LawKit
section New
variable {p : Program} {l : Launch} {e : Env} {R : Room} {s : State} {m : MethodId} {args : Array Value} {below : List Frame} {meth : Method} {c : Code} {T : State} {locs : List Loc} {cells slots : Nat}
theorem retI (X : Stand p l e R s m args below meth c T locs cells slots) (hx : p.tables.exec = Jvm.exec) {pc : Nat} {Ls : Array Slot} {z : Int32} {rest : List Value} (hret : meth.sig.returnType = some .int) (hd : decode c.code pc = .ok (.ireturn, 1)) {fs : List Frame}
    (hl : ∀ (f : JFrame) (acts : List Action), f.method = m → f.locked = none → f.entered = [] → (doReturn e (T.setTop f) acts (some (.int z))).1 = T.setFrames fs) : Steps p.tables e below (T.setTop (mkF m pc Ls (.int z :: rest))) (T.setFrames fs) := by
  have hm' : T.vm.method? m = some meth := X.method'
  have hn : narrow .int (.int z) = .int z := rfl
  show Steps p.tables e below (T.setTop { method := m, pc := pc, locals := Ls, stack := _ :: rest, locked := none }) _
  jvm_step X.here [X.here.top, hx, hd, hm', hret, hn]
  first | (intro acts; rw [hl _ acts rfl rfl rfl]) | rw [hl _ _ rfl rfl rfl]
  exact Steps.refl _
theorem own_retJ (X : Stand p l e R s m args below meth c T locs cells slots) (hx : p.tables.exec = Jvm.exec) {pc : Nat} {Ls : Array Slot} {z : Int64} {rest : List Value} (hret : meth.sig.returnType = some .long) (hd : decode c.code pc = .ok (.lreturn, 1)) {fs : List Frame}
    (hl : ∀ (f : JFrame) (acts : List Action), f.method = m → f.locked = none → f.entered = [] → (doReturn e (T.setTop f) acts (some (.long z))).1 = T.setFrames fs) : Steps p.tables e below (T.setTop (mkF m pc Ls (.long z :: rest))) (T.setFrames fs) :=
  retOut X hx (t := .long) (i := .lreturn) hret rfl (Or.inr (Or.inl ⟨rfl, rfl, z, rfl⟩)) hd hl
theorem own_retR (X : Stand p l e R s m args below meth c T locs cells slots) (hx : p.tables.exec = Jvm.exec) {pc : Nat} {Ls : Array Slot} {w : Value} {t : FieldType} {rest : List Value} (hret : meth.sig.returnType = some t) (ht : t.isReference = true) (hw : w.isRef = true) (hd : decode c.code pc = .ok (.areturn, 1)) {fs : List Frame}
    (hl : ∀ (f : JFrame) (acts : List Action), f.method = m → f.locked = none → f.entered = [] → (doReturn e (T.setTop f) acts (some w)).1 = T.setFrames fs) : Steps p.tables e below (T.setTop (mkF m pc Ls (w :: rest))) (T.setFrames fs) :=
  retOut X hx (i := .areturn) hret (by cases t <;> simp_all [FieldType.isReference, narrow]) (Or.inr (Or.inr (Or.inr (Or.inr ⟨rfl, ht, hw⟩)))) hd hl
theorem own_narZ (x : Int32) : nar .boolean x = x &&& 1 := rfl
theorem own_narC (x : Int32) : nar .char x = x.toUInt32.toUInt16.toUInt32.toInt32 := rfl
theorem own_narB (x : Int32) : nar .byte x = x.toInt8.toInt32 := rfl
/-- where the run stands, and how it ends -/
abbrev own_Go (tb : Tables) (e : Env) (below : List Frame) (P : State → Outcome → Prop) (T : State) (g : JFrame) : Prop := ∃ s₂ o, Steps tb e below (T.setTop g) s₂ ∧ s₂.status = .running ∧ Ended s₂ below o ∧ P s₂ o
theorem own_go {tb : Tables} {P : State → Outcome → Prop} {T' : State} {g g' : JFrame} (st : ∀ t, Steps tb e below (T'.setTop g') t → Steps tb e below (T.setTop g) t) (k : own_Go tb e below P T' g') : own_Go tb e below P T g := by
  obtain ⟨s₂, o, h1, h2⟩ := k
  exact ⟨s₂, o, st _ h1, h2⟩
abbrev own_Tj (tb : Tables) (e : Env) (below : List Frame) (P : State → List Loc → Int64 → Prop) (gJ : Int64 → JFrame) (T : State) (g : JFrame) : Prop := ∃ T' L' j, P T' L' j ∧ ∀ t, Steps tb e below (T'.setTop (gJ j)) t → Steps tb e below (T.setTop g) t
theorem own_tj {tb : Tables} {P : State → List Loc → Int64 → Prop} {gJ : Int64 → JFrame} {T' : State} {g g' : JFrame} (st : ∀ t, Steps tb e below (T'.setTop g') t → Steps tb e below (T.setTop g) t) (k : own_Tj tb e below P gJ T' g') : own_Tj tb e below P gJ T g := by
  obtain ⟨T2, L2, j, h1, h2⟩ := k
  exact ⟨T2, L2, j, h1, fun t q => st _ (h2 t q)⟩
abbrev own_Wj (tb : Tables) (e : Env) (below : List Frame) (P : State → List Loc → Int32 → Int32 → Prop) (gJ : Int32 → Int32 → JFrame) (T : State) (g : JFrame) : Prop := ∃ T' L' i j, P T' L' i j ∧ ∀ t, Steps tb e below (T'.setTop (gJ i j)) t → Steps tb e below (T.setTop g) t
theorem own_wj {tb : Tables} {P : State → List Loc → Int32 → Int32 → Prop} {gJ : Int32 → Int32 → JFrame} {T' : State} {g g' : JFrame} (st : ∀ t, Steps tb e below (T'.setTop g') t → Steps tb e below (T.setTop g) t) (k : own_Wj tb e below P gJ T' g') : own_Wj tb e below P gJ T g := by
  obtain ⟨T2, L2, i, j, h1, h2⟩ := k
  exact ⟨T2, L2, i, j, h1, fun t q => st _ (h2 t q)⟩
theorem own_start {tb : Tables} {P : State → Outcome → Prop} {g g' : JFrame} (q : g = g') (k : own_Go tb e below P T g') : own_Go tb e below P T g := q ▸ k
theorem own_selPriv {z y : MethodName} (hz : z.cls = y.cls) (hs : (Cond.selects y.cls z z).before args s = true) (hp : s.PrivateAt y) (hi : (Cond.instanceMethod y).before args s = true) (hy : y.cls ≠ "java/lang/invoke/MethodHandle" ∧ y.cls ≠ "java/lang/invoke/VarHandle") : (Cond.selects y.cls y y).before args s = true := by
  obtain ⟨c, r, m, h1, -, h3, -, k, h5, h6⟩ := Cond.selects_spec hs
  exact selects_self_of_private (hz ▸ findClass_of_methodNamed h3) h5 h6 hp hi hy
theorem own_getR {Z : State} {a0 : Array Value} {h : Heap} (X : Stand p l e R s m args below meth c T locs cells slots) (hx : p.tables.exec = Jvm.exec) (hZ : Z.Warmed39 s.vm) {own O n d : String} {index : Nat} (hown : s.vm.findClass own = some m.cls) (w : (Cond.fieldRef own index O n d).before a0 Z = true)
    (eT : T.heap = h) {a : Addr} {v : Value} (F : Fld Z h a O n d v) {g : JFrame} (hg : g.method = m) {rest : List Value} (hs : g.stack = .ref a :: rest) (hd : decode c.code g.pc = .ok (.getfield index, 3)) : ∀ target, Steps p.tables e below (T.setTop { g with pc := g.pc + 3, stack := v :: rest }) target → Steps p.tables e below (T.setTop g) target := by
  obtain ⟨cell, cf, k, i, f, h1, h2, h3, h4, -, -, h7⟩ := F
  have hT : Z.Warmed39 T.vm := wtrans hZ X.warmed
  have w' := Cond.fieldRef_warmed39 hT w
  have hown' : (Z.setVm T.vm).vm.findClass own = some m.cls := by
    show T.vm.findClass own = some m.cls
    rw [X.warmed.alike.findClass]; exact hown
  obtain ⟨c', k', i', f', hi, hr⟩ := Cond.fieldRef_spec (s := Z.setVm T.vm) hown' w'
  obtain ⟨k2, hi2, -⟩ := State.fieldFound?_setVm (s := Z) hT.alike h2
  cases hi.symm.trans hi2
  intro target hrest
  subst hg
  jvm_step X.here [hx, hd, getfield.wp_ready (e := e) (s := T) (f := g) X.here.top hr h3 hs (show T.heap[a]? = some cell by rw [eT]; exact h1) h4 h7]
  exact hrest
/-- a body's contract, in this text's form -/
abbrev own_Met (l : Launch) (y : MethodName) (bytes : ByteArray) (maxL : Nat) (ret : Option FieldType) (ws : List Cond) (R : Room) (as' : Array Value) (Z : State) (h0 : Heap) (Q : Option Value → Heap → List Loc → Prop) : Prop :=
  MetFree l y (head1 (Cond.code y bytes maxL ret :: ws) R) (fun a U => a = as' ∧ Z.Warmed39 U.vm ∧ U.heap = h0) (fun _ _ _ _ _ => True) (fun _ U o U' => ∃ v L, o = .returned v ∧ Q v U'.heap L ∧ FrameEnd U o U' L R.cells R.slots)
theorem own_met {y : MethodName} {bytes : ByteArray} {maxL : Nat} {ret : Option FieldType} {ws : List Cond} {R : Room} {as' : Array Value} {Z : State} {h0 : Heap} {Q : Option Value → Heap → List Loc → Prop} (hp : plainFor y = true)
    (body : ∀ (p : Program) (e : Env) (s : State) (m : MethodId) (below : List Frame) (meth : Method) (c : Code) (s₁ : State), BodyLoose p l y (head1 (Cond.code y bytes maxL ret :: ws) R) bytes maxL ret e s m as' below meth c s₁ → p.tables.exec = Jvm.exec → c.code = bytes → c.maxLocals = maxL → Z.Warmed39 s.vm → s.vm.findClass y.cls = some m.cls → meth.name = y.name → Stand p l e R s m as' below meth c s₁ [] 0 0 → s₁.heap = h0 →
      own_Go p.tables e below (fun s₂ o => ∃ v L, o = .returned v ∧ Q v s₂.heap L ∧ FrameEnd s o s₂ L R.cells R.slots) s₁ (entryFrame m as' maxL)) : own_Met l y bytes maxL ret ws R as' Z h0 Q := by
  refine MetFree.of_bodySF hp hisR ?_
  intro p e s m args below meth c s₁ Bd hml0 hP hK
  obtain ⟨rfl, hZ, hh⟩ := hP
  exact body p e s m below meth c s₁ Bd Bd.exec Bd.bytes hml0 hZ (findClass_of_methodNamed Bd.named) (name_of_methodNamed Bd.named Bd.method).1 (Stand.of_body Bd) (by rw [← hh, Bd.state]; rfl)
section Calls
variable {Z : State} {a0 : Array Value} {h : Heap} {own : String} {index : Nat} {y : MethodName} {bytes : ByteArray} {maxL : Nat} {ret : Option FieldType} {rm : Room} {W : Nat} {as' : Array Value} {Q : Option Value → Heap → List Loc → Prop}
theorem own_callS (X : Stand p l e R s m args below meth c T locs cells slots) (hx : p.tables.exec = Jvm.exec) (hZ : Z.Warmed39 s.vm) (hown : s.vm.findClass own = some m.cls) (w1 : (Cond.methodLink own index y).before a0 Z = true) (w2 : (Cond.static y).before a0 Z = true) (w3 : (Cond.initialized y.cls).before a0 Z = true) (w4 : (Cond.code y bytes maxL ret).before a0 Z = true)
    (hy : y.cls ≠ "java/lang/invoke/MethodHandle" ∧ y.cls ≠ "java/lang/invoke/VarHandle") (hM : own_Met l y bytes maxL ret [] rm as' Z h Q) (hf : rm.frames + 1 ≤ R.frames) (hl : W + (maxL + 11) + rm.locals ≤ R.locals) (hc : cells + rm.cells ≤ R.cells) (hs : slots + rm.slots ≤ R.slots) (eT : T.heap = h)
    {g : JFrame} (hg : g.method = m) (hsize : g.locals.size = c.maxLocals) {argsL rest : List Value} (hlen : ∀ sig, parseMethodDescriptor y.desc = some sig → argsL.length = sig.parameters.length) (hstack : g.stack = argsL.reverse ++ rest) (hW : 2 * g.monitorRoom + (rest.map fun v => v.category).sum ≤ W) (hdg : decode c.code g.pc = .ok (.invokestatic index, 3)) (has : argsL.toArray = as') :
    ∃ (v : Option Value) (T' : State) (L' : List Loc), Stand p l e R s m args below meth c T' (locs ++ L') (cells + rm.cells) (slots + rm.slots) ∧ Q v T'.heap L' ∧ ∀ target, Steps p.tables e below (T'.setTop { g with pc := g.pc + 3, stack := v.toList ++ rest }) target → Steps p.tables e below (T.setTop g) target := by
  obtain ⟨v, vm₁, ⟨T', L', k', n'⟩, -, X', ⟨Lc, hQ, l1, y1, z1⟩, st⟩ := Jvm.LawKit.callS X hx hown (mvT hZ w1) (mvT hZ w2) (mvT hZ w3) (mvT hZ w4) hy (backOf (W := W) hM hZ w4 w3 hf hl) hg hsize hlen hstack hW hdg (fun _ _ => ⟨has, eT, hc, hs⟩)
  dsimp only [Pt.U, Pt.locs, Pt.cells, Pt.slots] at X' l1 y1 z1 st hQ
  subst l1 y1 z1
  exact ⟨v, T', Lc, X', hQ, st⟩
theorem own_callI (X : Stand p l e R s m args below meth c T locs cells slots) (hx : p.tables.exec = Jvm.exec) (hZ : Z.Warmed39 s.vm) (hown : s.vm.findClass own = some m.cls) (w1 : (Cond.methodLink own index y).before a0 Z = true) (w2 : (Cond.instanceMethod y).before a0 Z = true) (w3 : (Cond.initialized y.cls).before a0 Z = true) (w4 : (Cond.code y bytes maxL none).before a0 Z = true) (hn : y.name = "<init>")
    (hy : y.cls ≠ "java/lang/invoke/MethodHandle" ∧ y.cls ≠ "java/lang/invoke/VarHandle") (hM : own_Met l y bytes maxL none [] rm as' Z h Q) (hf : rm.frames + 1 ≤ R.frames) (hl : W + (maxL + 11) + rm.locals ≤ R.locals) (hc : cells + rm.cells ≤ R.cells) (hs : slots + rm.slots ≤ R.slots) (eT : T.heap = h)
    {g : JFrame} (hg : g.method = m) (hsize : g.locals.size = c.maxLocals) {a : Addr} {argsL rest : List Value} (hlen : ∀ sig, parseMethodDescriptor y.desc = some sig → argsL.length = sig.parameters.length) (hstack : g.stack = argsL.reverse ++ .ref a :: rest) (hW : 2 * g.monitorRoom + (rest.map fun v => v.category).sum ≤ W) (hdg : decode c.code g.pc = .ok (.invokespecial index, 3)) (has : (.ref a :: argsL).toArray = as') :
    ∃ (v : Option Value) (T' : State) (L' : List Loc), Stand p l e R s m args below meth c T' (locs ++ L') (cells + rm.cells) (slots + rm.slots) ∧ Q v T'.heap L' ∧ ∀ target, Steps p.tables e below (T'.setTop { g with pc := g.pc + 3, stack := v.toList ++ rest }) target → Steps p.tables e below (T.setTop g) target := by
  obtain ⟨v, vm₁, ⟨T', L', k', n'⟩, -, X', ⟨Lc, hQ, l1, y1, z1⟩, st⟩ := X.specialBack hx hn hown (mvT hZ w1) (mvT hZ w2) (mvT hZ w4) hy (backOf (W := W) hM hZ w4 w3 hf hl) hg hsize (Steps.refl _) hlen hstack hW hdg (fun _ _ => ⟨has, eT, hc, hs⟩)
  dsimp only [Pt.U, Pt.locs, Pt.cells, Pt.slots] at X' l1 y1 z1 st hQ
  subst l1 y1 z1
  exact ⟨v, T', Lc, X', hQ, fun t k => st.trans k⟩
theorem own_callV {C : String} (X : Stand p l e R s m args below meth c T locs cells slots) (hx : p.tables.exec = Jvm.exec) (hZ : Z.Warmed39 s.vm) (hown : s.vm.findClass own = some m.cls) (w1 : (Cond.methodLink own index y).before a0 Z = true) (w2 : (Cond.declares y).before a0 Z = true) (w3 : (Cond.selects C y y).before a0 Z = true) (w5 : (Cond.instanceMethod y).before a0 Z = true) (w6 : (Cond.initialized y.cls).before a0 Z = true) (w4 : (Cond.code y bytes maxL ret).before a0 Z = true)
    (hy : y.cls ≠ "java/lang/invoke/MethodHandle" ∧ y.cls ≠ "java/lang/invoke/VarHandle") (hM : own_Met l y bytes maxL ret [] rm as' Z h Q) (hf : rm.frames + 1 ≤ R.frames) (hl : W + (maxL + 11) + rm.locals ≤ R.locals) (hc : cells + rm.cells ≤ R.cells) (hs : slots + rm.slots ≤ R.slots) (eT : T.heap = h) {a : Addr} (E : Exa Z h a C)
    {g : JFrame} (hg : g.method = m) (hsize : g.locals.size = c.maxLocals) {argsL rest : List Value} (hlen : ∀ sig, parseMethodDescriptor y.desc = some sig → argsL.length = sig.parameters.length) (hstack : g.stack = argsL.reverse ++ .ref a :: rest) (hW : 2 * g.monitorRoom + (rest.map fun v => v.category).sum ≤ W) (hdg : decode c.code g.pc = .ok (.invokevirtual index, 3)) (has : (.ref a :: argsL).toArray = as') :
    ∃ (v : Option Value) (T' : State) (L' : List Loc), Stand p l e R s m args below meth c T' (locs ++ L') (cells + rm.cells) (slots + rm.slots) ∧ Q v T'.heap L' ∧ ∀ target, Steps p.tables e below (T'.setTop { g with pc := g.pc + 3, stack := v.toList ++ rest }) target → Steps p.tables e below (T.setTop g) target := by
  obtain ⟨cq, kq, qa, qb, qc⟩ := isOf hZ eT E
  obtain ⟨v, vm₁, ⟨T', L', k', n'⟩, -, X', ⟨Lc, hQ, l1, y1, z1⟩, st⟩ := X.virtualBack hx (y := y) (z := y) hown (mvT hZ w1) (mvT hZ w2) (notFace_of_selects (args := #[]) (mvT hZ w3)) (mvT hZ w3) (mvT hZ w5) hy (backOf (W := W) hM hZ w4 w6 hf hl) qa qc hg hsize (Steps.refl _) hlen hstack hW hdg (fun _ _ => ⟨has, eT, hc, hs⟩)
  dsimp only [Pt.U, Pt.locs, Pt.cells, Pt.slots] at X' l1 y1 z1 st hQ
  subst l1 y1 z1
  exact ⟨v, T', Lc, X', hQ, fun t k => st.trans k⟩
theorem own_callP {C : String} {z : MethodName} (X : Stand p l e R s m args below meth c T locs cells slots) (hx : p.tables.exec = Jvm.exec) (hZ : Z.Warmed39 s.vm) (hown : s.vm.findClass own = some m.cls) (w1 : (Cond.methodLink own index y).before a0 Z = true) (w2 : (Cond.instanceMethod y).before a0 Z = true) (w3 : (Cond.privateMethod y).before a0 Z = true) (w5 : (Cond.selects y.cls z z).before a0 Z = true) (hz : z.cls = y.cls) (w6 : (Cond.initialized y.cls).before a0 Z = true) (w4 : (Cond.code y bytes maxL ret).before a0 Z = true)
    (hy : y.cls ≠ "java/lang/invoke/MethodHandle" ∧ y.cls ≠ "java/lang/invoke/VarHandle") (hM : own_Met l y bytes maxL ret [] rm as' Z h Q) (hf : rm.frames + 1 ≤ R.frames) (hl : W + (maxL + 11) + rm.locals ≤ R.locals) (hc : cells + rm.cells ≤ R.cells) (hs : slots + rm.slots ≤ R.slots) (eT : T.heap = h) {a : Addr} (E : Exa Z h a C)
    {g : JFrame} (hg : g.method = m) (hsize : g.locals.size = c.maxLocals) {argsL rest : List Value} (hlen : ∀ sig, parseMethodDescriptor y.desc = some sig → argsL.length = sig.parameters.length) (hstack : g.stack = argsL.reverse ++ .ref a :: rest) (hW : 2 * g.monitorRoom + (rest.map fun v => v.category).sum ≤ W) (hdg : decode c.code g.pc = .ok (.invokevirtual index, 3)) (has : (.ref a :: argsL).toArray = as') :
    ∃ (v : Option Value) (T' : State) (L' : List Loc), Stand p l e R s m args below meth c T' (locs ++ L') (cells + rm.cells) (slots + rm.slots) ∧ Q v T'.heap L' ∧ ∀ target, Steps p.tables e below (T'.setTop { g with pc := g.pc + 3, stack := v.toList ++ rest }) target → Steps p.tables e below (T.setTop g) target := by
  obtain ⟨cq, q, q'⟩ := E.cell
  have hp := Cond.privateMethod_at (mvP hZ w3 (args := args))
  obtain ⟨v, vm₁, ⟨T', L', k', n'⟩, -, X', ⟨Lc, hQ, l1, y1, z1⟩, st⟩ := X.privateBack hx (y := y) hown (mvT hZ w1) (mvT hZ w2) (own_selPriv hz (mvT hZ w5) hp (mvT hZ w2) hy) hp (mvT hZ w4) hy (backOf (W := W) hM hZ w4 w6 hf hl) hg hsize (Steps.refl _) (a := a) (by rw [eT]; exact q) q' hlen hstack hW hdg (fun _ _ => ⟨has, eT, hc, hs⟩)
  dsimp only [Pt.U, Pt.locs, Pt.cells, Pt.slots] at X' l1 y1 z1 st hQ
  subst l1 y1 z1
  exact ⟨v, T', Lc, X', hQ, fun t k => st.trans k⟩
theorem own_get {O n d : String} (X : Stand p l e R s m args below meth c T locs cells slots) (hx : p.tables.exec = Jvm.exec) (hZ : Z.Warmed39 s.vm) (hown : s.vm.findClass own = some m.cls) (w : (Cond.fieldLink own index O n d).before a0 Z = true)
    (eT : T.heap = h) {a : Addr} {v : Value} (F : Fld Z h a O n d v) {g : JFrame} (hg : g.method = m) {rest : List Value} (hs : g.stack = .ref a :: rest) (hd : decode c.code g.pc = .ok (.getfield index, 3)) : ∃ T', Stand p l e R s m args below meth c T' locs cells slots ∧ T'.heap = h ∧ ∀ target, Steps p.tables e below (T'.setTop { g with pc := g.pc + 3, stack := v :: rest }) target → Steps p.tables e below (T.setTop g) target :=
  getF X hx hZ hown (host := "") (Or.inl w) Via.refl eT F hg hs hd
end Calls
section Cps
variable {p : Program} {l : Launch} {e : Env} {R : Room} {s : State} {m : MethodId} {args : Array Value} {below : List Frame} {meth : Method} {c : Code} {T : State} {locs : List Loc} {cells slots : Nat} {Z : State} {a0 : Array Value} {h : Heap} {own : String} {index maxL W : Nat} {y : MethodName} {bytes : ByteArray} {ret : Option FieldType} {rm : Room} {as' : Array Value} {Q : Option Value → Heap → List Loc → Prop} {G : State → JFrame → Prop} {pc : Nat} {Ls : Array Slot} {S S0 : List Value}
abbrev own_Cl (tb : Tables) (e : Env) (below : List Frame) (G : State → JFrame → Prop) : Prop := ∀ (T T' : State) (g g' : JFrame), (∀ t, Steps tb e below (T'.setTop g') t → Steps tb e below (T.setTop g) t) → G T' g' → G T g
theorem cG {tb : Tables} {P : State → Outcome → Prop} : own_Cl tb e below (own_Go tb e below P) := fun _ _ _ _ st k => own_go st k
theorem cT {tb : Tables} {P : State → List Loc → Int64 → Prop} {gJ : Int64 → JFrame} : own_Cl tb e below (own_Tj tb e below P gJ) := fun _ _ _ _ st k => own_tj st k
theorem cW {tb : Tables} {P : State → List Loc → Int32 → Int32 → Prop} {gJ : Int32 → Int32 → JFrame} : own_Cl tb e below (own_Wj tb e below P gJ) := fun _ _ _ _ st k => own_wj st k
theorem cs_iloadN (gC : own_Cl p.tables e below G) (X : Stand p l e R s m args below meth c T locs cells slots) (hx : p.tables.exec = Jvm.exec) {k : Fin 4} {v : Int32} (hd : decode c.code pc = .ok (.iload_n k, 1)) (hl : Ls[k.val]? = some (.val (.int v))) (K : G T (mkF m (pc + 1) Ls (.int v :: S))) : G T (mkF m pc Ls S) := gC _ _ _ _ (fun t q => XS.iloadN X.here hx rfl hd hl q) K
theorem cs_iload (gC : own_Cl p.tables e below G) (X : Stand p l e R s m args below meth c T locs cells slots) (hx : p.tables.exec = Jvm.exec) {k : Nat} {v : Int32} (hd : decode c.code pc = .ok (.iload k, 2)) (hl : Ls[k]? = some (.val (.int v))) (K : G T (mkF m (pc + 2) Ls (.int v :: S))) : G T (mkF m pc Ls S) := gC _ _ _ _ (fun t q => XS.iload X.here hx rfl hd hl q) K
theorem cs_istoreN (gC : own_Cl p.tables e below G) (X : Stand p l e R s m args below meth c T locs cells slots) (hx : p.tables.exec = Jvm.exec) {k : Fin 4} {x : Int32} {l' : Array Slot} (hd : decode c.code pc = .ok (.istore_n k, 1)) (hl : storeLocals Ls k.val (.int x) = some l') (K : G T (mkF m (pc + 1) l' S)) : G T (mkF m pc Ls (.int x :: S)) := gC _ _ _ _ (fun t q => XS.istoreN X.here hx rfl hd rfl hl q) K
theorem cs_istore (gC : own_Cl p.tables e below G) (X : Stand p l e R s m args below meth c T locs cells slots) (hx : p.tables.exec = Jvm.exec) {k : Nat} {x : Int32} {l' : Array Slot} (hd : decode c.code pc = .ok (.istore k, 2)) (hl : storeLocals Ls k (.int x) = some l') (K : G T (mkF m (pc + 2) l' S)) : G T (mkF m pc Ls (.int x :: S)) := gC _ _ _ _ (fun t q => XS.istore X.here hx rfl hd rfl hl q) K
theorem cs_lloadN (gC : own_Cl p.tables e below G) (X : Stand p l e R s m args below meth c T locs cells slots) (hx : p.tables.exec = Jvm.exec) {k : Fin 4} {v : Int64} (hd : decode c.code pc = .ok (.lload_n k, 1)) (hl : Ls[k.val]? = some (.val (.long v))) (K : G T (mkF m (pc + 1) Ls (.long v :: S))) : G T (mkF m pc Ls S) := gC _ _ _ _ (fun t q => XS.lloadN X.here hx rfl hd hl q) K
theorem cs_lload (gC : own_Cl p.tables e below G) (X : Stand p l e R s m args below meth c T locs cells slots) (hx : p.tables.exec = Jvm.exec) {k : Nat} {v : Int64} (hd : decode c.code pc = .ok (.lload k, 2)) (hl : Ls[k]? = some (.val (.long v))) (K : G T (mkF m (pc + 2) Ls (.long v :: S))) : G T (mkF m pc Ls S) := gC _ _ _ _ (fun t q => XS.lload X.here hx rfl hd hl q) K
theorem cs_lstoreN (gC : own_Cl p.tables e below G) (X : Stand p l e R s m args below meth c T locs cells slots) (hx : p.tables.exec = Jvm.exec) {k : Fin 4} {x : Int64} {l' : Array Slot} (hd : decode c.code pc = .ok (.lstore_n k, 1)) (hl : storeLocals Ls k.val (.long x) = some l') (K : G T (mkF m (pc + 1) l' S)) : G T (mkF m pc Ls (.long x :: S)) := gC _ _ _ _ (fun t q => XS.lstoreN X.here hx rfl hd rfl hl q) K
theorem cs_lstore (gC : own_Cl p.tables e below G) (X : Stand p l e R s m args below meth c T locs cells slots) (hx : p.tables.exec = Jvm.exec) {k : Nat} {x : Int64} {l' : Array Slot} (hd : decode c.code pc = .ok (.lstore k, 2)) (hl : storeLocals Ls k (.long x) = some l') (K : G T (mkF m (pc + 2) l' S)) : G T (mkF m pc Ls (.long x :: S)) := gC _ _ _ _ (fun t q => XS.lstore X.here hx rfl hd rfl hl q) K
theorem cs_aloadN (gC : own_Cl p.tables e below G) (X : Stand p l e R s m args below meth c T locs cells slots) (hx : p.tables.exec = Jvm.exec) {k : Fin 4} {v : Value} (hd : decode c.code pc = .ok (.aload_n k, 1)) (hl : Ls[k.val]? = some (.val v)) (hv : v.isRef = true) (K : G T (mkF m (pc + 1) Ls (v :: S))) : G T (mkF m pc Ls S) := gC _ _ _ _ (fun t q => XS.aloadN X.here hx rfl hd hl hv q) K
theorem cs_aload (gC : own_Cl p.tables e below G) (X : Stand p l e R s m args below meth c T locs cells slots) (hx : p.tables.exec = Jvm.exec) {k : Nat} {v : Value} (hd : decode c.code pc = .ok (.aload k, 2)) (hl : Ls[k]? = some (.val v)) (hv : v.isRef = true) (K : G T (mkF m (pc + 2) Ls (v :: S))) : G T (mkF m pc Ls S) := gC _ _ _ _ (fun t q => XS.aload X.here hx rfl hd hl hv q) K
theorem cs_astoreN (gC : own_Cl p.tables e below G) (X : Stand p l e R s m args below meth c T locs cells slots) (hx : p.tables.exec = Jvm.exec) {k : Fin 4} {x : Value} {l' : Array Slot} (hd : decode c.code pc = .ok (.astore_n k, 1)) (hv : x.isRef = true) (hl : storeLocals Ls k.val x = some l') (K : G T (mkF m (pc + 1) l' S)) : G T (mkF m pc Ls (x :: S)) := gC _ _ _ _ (fun t q => XS.astoreN X.here hx rfl hd rfl hv hl q) K
theorem cs_astore (gC : own_Cl p.tables e below G) (X : Stand p l e R s m args below meth c T locs cells slots) (hx : p.tables.exec = Jvm.exec) {k : Nat} {x : Value} {l' : Array Slot} (hd : decode c.code pc = .ok (.astore k, 2)) (hv : x.isRef = true) (hl : storeLocals Ls k x = some l') (K : G T (mkF m (pc + 2) l' S)) : G T (mkF m pc Ls (x :: S)) := gC _ _ _ _ (fun t q => XS.astore X.here hx rfl hd rfl hv hl q) K
theorem cs_iconst (gC : own_Cl p.tables e below G) (X : Stand p l e R s m args below meth c T locs cells slots) (hx : p.tables.exec = Jvm.exec) {i : Int} {z : Int32} (hd : decode c.code pc = .ok (.iconst i, 1)) (hz : Int32.ofInt i = z) (K : G T (mkF m (pc + 1) Ls (.int z :: S))) : G T (mkF m pc Ls S) := gC _ _ _ _ (fun t q => XS.iconst X.here hx rfl hd (hz ▸ q)) K
theorem cs_bipush (gC : own_Cl p.tables e below G) (X : Stand p l e R s m args below meth c T locs cells slots) (hx : p.tables.exec = Jvm.exec) {i : Int} {z : Int32} (hd : decode c.code pc = .ok (.bipush i, 2)) (hz : (Int8.ofInt i).toInt32 = z) (K : G T (mkF m (pc + 2) Ls (.int z :: S))) : G T (mkF m pc Ls S) := gC _ _ _ _ (fun t q => XS.bipush X.here hx rfl hd (hz ▸ q)) K
theorem cs_lconst (gC : own_Cl p.tables e below G) (X : Stand p l e R s m args below meth c T locs cells slots) (hx : p.tables.exec = Jvm.exec) {k : Fin 2} {z : Int64} (hd : decode c.code pc = .ok (.lconst k, 1)) (hz : Int64.ofNat k = z) (K : G T (mkF m (pc + 1) Ls (.long z :: S))) : G T (mkF m pc Ls S) := gC _ _ _ _ (fun t q => XS.lconst X.here hx rfl hd (hz ▸ q)) K
theorem cs_aconstNull (gC : own_Cl p.tables e below G) (X : Stand p l e R s m args below meth c T locs cells slots) (hx : p.tables.exec = Jvm.exec)  (hd : decode c.code pc = .ok (.aconst_null, 1))  (K : G T (mkF m (pc + 1) Ls (.null :: S))) : G T (mkF m pc Ls S) := gC _ _ _ _ (fun t q => XS.aconstNull X.here hx rfl hd q) K
theorem cs_iadd (gC : own_Cl p.tables e below G) (X : Stand p l e R s m args below meth c T locs cells slots) (hx : p.tables.exec = Jvm.exec) {x y z : Int32} (hd : decode c.code pc = .ok (.iadd, 1)) (hz : x + y = z) (K : G T (mkF m (pc + 1) Ls (.int z :: S))) : G T (mkF m pc Ls (.int y :: .int x :: S)) := gC _ _ _ _ (fun t q => XS.iadd X.here hx rfl hd rfl (hz ▸ q)) K
theorem cs_isub (gC : own_Cl p.tables e below G) (X : Stand p l e R s m args below meth c T locs cells slots) (hx : p.tables.exec = Jvm.exec) {x y z : Int32} (hd : decode c.code pc = .ok (.isub, 1)) (hz : x - y = z) (K : G T (mkF m (pc + 1) Ls (.int z :: S))) : G T (mkF m pc Ls (.int y :: .int x :: S)) := gC _ _ _ _ (fun t q => XS.isub X.here hx rfl hd rfl (hz ▸ q)) K
theorem cs_iand (gC : own_Cl p.tables e below G) (X : Stand p l e R s m args below meth c T locs cells slots) (hx : p.tables.exec = Jvm.exec) {x y z : Int32} (hd : decode c.code pc = .ok (.iand, 1)) (hz : x &&& y = z) (K : G T (mkF m (pc + 1) Ls (.int z :: S))) : G T (mkF m pc Ls (.int y :: .int x :: S)) := gC _ _ _ _ (fun t q => XS.iand X.here hx rfl hd rfl (hz ▸ q)) K
theorem cs_ixor (gC : own_Cl p.tables e below G) (X : Stand p l e R s m args below meth c T locs cells slots) (hx : p.tables.exec = Jvm.exec) {x y z : Int32} (hd : decode c.code pc = .ok (.ixor, 1)) (hz : x ^^^ y = z) (K : G T (mkF m (pc + 1) Ls (.int z :: S))) : G T (mkF m pc Ls (.int y :: .int x :: S)) := gC _ _ _ _ (fun t q => XS.ixor X.here hx rfl hd rfl (hz ▸ q)) K
theorem cs_iushr (gC : own_Cl p.tables e below G) (X : Stand p l e R s m args below meth c T locs cells slots) (hx : p.tables.exec = Jvm.exec) {x y z : Int32} (hd : decode c.code pc = .ok (.iushr, 1)) (hz : (x.toUInt32 >>> (y &&& 31).toUInt32).toInt32 = z) (K : G T (mkF m (pc + 1) Ls (.int z :: S))) : G T (mkF m pc Ls (.int y :: .int x :: S)) := gC _ _ _ _ (fun t q => XS.iushr X.here hx rfl hd rfl (hz ▸ q)) K
theorem cs_ladd (gC : own_Cl p.tables e below G) (X : Stand p l e R s m args below meth c T locs cells slots) (hx : p.tables.exec = Jvm.exec) {x y z : Int64} (hd : decode c.code pc = .ok (.ladd, 1)) (hz : x + y = z) (K : G T (mkF m (pc + 1) Ls (.long z :: S))) : G T (mkF m pc Ls (.long y :: .long x :: S)) := gC _ _ _ _ (fun t q => XS.ladd X.here hx rfl hd rfl (hz ▸ q)) K
theorem cs_lsub (gC : own_Cl p.tables e below G) (X : Stand p l e R s m args below meth c T locs cells slots) (hx : p.tables.exec = Jvm.exec) {x y z : Int64} (hd : decode c.code pc = .ok (.lsub, 1)) (hz : x - y = z) (K : G T (mkF m (pc + 1) Ls (.long z :: S))) : G T (mkF m pc Ls (.long y :: .long x :: S)) := gC _ _ _ _ (fun t q => XS.lsub X.here hx rfl hd rfl (hz ▸ q)) K
theorem cs_lmul (gC : own_Cl p.tables e below G) (X : Stand p l e R s m args below meth c T locs cells slots) (hx : p.tables.exec = Jvm.exec) {x y z : Int64} (hd : decode c.code pc = .ok (.lmul, 1)) (hz : x * y = z) (K : G T (mkF m (pc + 1) Ls (.long z :: S))) : G T (mkF m pc Ls (.long y :: .long x :: S)) := gC _ _ _ _ (fun t q => XS.lmul X.here hx rfl hd rfl (hz ▸ q)) K
theorem cs_ldiv (gC : own_Cl p.tables e below G) (X : Stand p l e R s m args below meth c T locs cells slots) (hx : p.tables.exec = Jvm.exec) {x y z : Int64} (hd : decode c.code pc = .ok (.ldiv, 1)) (hz : x / y = z) (hy : ¬ (y = (0 : Int64))) (K : G T (mkF m (pc + 1) Ls (.long z :: S))) : G T (mkF m pc Ls (.long y :: .long x :: S)) := gC _ _ _ _ (fun t q => XS.ldiv X.here hx rfl hd rfl hy (hz ▸ q)) K
theorem cs_lrem (gC : own_Cl p.tables e below G) (X : Stand p l e R s m args below meth c T locs cells slots) (hx : p.tables.exec = Jvm.exec) {x y z : Int64} (hd : decode c.code pc = .ok (.lrem, 1)) (hz : x - (x / y) * y = z) (hy : ¬ (y = (0 : Int64))) (K : G T (mkF m (pc + 1) Ls (.long z :: S))) : G T (mkF m pc Ls (.long y :: .long x :: S)) := gC _ _ _ _ (fun t q => XS.lrem X.here hx rfl hd rfl hy (hz ▸ q)) K
theorem cs_irem (gC : own_Cl p.tables e below G) (X : Stand p l e R s m args below meth c T locs cells slots) (hx : p.tables.exec = Jvm.exec) {x y z : Int32} (hd : decode c.code pc = .ok (.irem, 1)) (hz : x % y = z) (hy : ¬ (y = (0 : Int32))) (K : G T (mkF m (pc + 1) Ls (.int z :: S))) : G T (mkF m pc Ls (.int y :: .int x :: S)) := gC _ _ _ _ (fun t q => iremM X hx rfl hd rfl hy (hz ▸ q)) K
theorem cs_i2l (gC : own_Cl p.tables e below G) (X : Stand p l e R s m args below meth c T locs cells slots) (hx : p.tables.exec = Jvm.exec) {x : Int32} {z : Int64} (hd : decode c.code pc = .ok (.i2l, 1)) (hz : x.toInt64 = z) (K : G T (mkF m (pc + 1) Ls (.long z :: S))) : G T (mkF m pc Ls (.int x :: S)) := gC _ _ _ _ (fun t q => XS.i2l X.here hx rfl hd rfl (hz ▸ q)) K
theorem cs_l2i (gC : own_Cl p.tables e below G) (X : Stand p l e R s m args below meth c T locs cells slots) (hx : p.tables.exec = Jvm.exec) {x : Int64} {z : Int32} (hd : decode c.code pc = .ok (.l2i, 1)) (hz : x.toInt32 = z) (K : G T (mkF m (pc + 1) Ls (.int z :: S))) : G T (mkF m pc Ls (.long x :: S)) := gC _ _ _ _ (fun t q => XS.l2i X.here hx rfl hd rfl (hz ▸ q)) K
theorem cs_lcmp (gC : own_Cl p.tables e below G) (X : Stand p l e R s m args below meth c T locs cells slots) (hx : p.tables.exec = Jvm.exec) {x y : Int64} (hd : decode c.code pc = .ok (.lcmp, 1))  (K : G T (mkF m (pc + 1) Ls (.int (lcmpW x y) :: S))) : G T (mkF m pc Ls (.long y :: .long x :: S)) := gC _ _ _ _ (fun t q => XS.lcmp X.here hx rfl hd rfl q) K
theorem cs_iinc (gC : own_Cl p.tables e below G) (X : Stand p l e R s m args below meth c T locs cells slots) (hx : p.tables.exec = Jvm.exec) {k : Nat} {cst : Int} {x : Int32} {l' : Array Slot} (hd : decode c.code pc = .ok (.iinc k cst, 3)) (hl : Ls[k]? = some (.val (.int x))) (hl' : storeLocals Ls k (.int (x + Int32.ofInt cst)) = some l') (K : G T (mkF m (pc + 3) l' S)) : G T (mkF m pc Ls S) := gC _ _ _ _ (fun t q => XS.iinc X.here hx rfl hd hl hl' q) K
theorem cs_dup (gC : own_Cl p.tables e below G) (X : Stand p l e R s m args below meth c T locs cells slots) (hx : p.tables.exec = Jvm.exec) {x : Value} (hd : decode c.code pc = .ok (.dup, 1)) (hc : x.category = 1) (K : G T (mkF m (pc + 1) Ls (x :: x :: S))) : G T (mkF m pc Ls (x :: S)) := gC _ _ _ _ (fun t q => XS.dup X.here hx rfl hd rfl hc q) K
theorem cs_dupX1 (gC : own_Cl p.tables e below G) (X : Stand p l e R s m args below meth c T locs cells slots) (hx : p.tables.exec = Jvm.exec) {x y : Value} (hd : decode c.code pc = .ok (.dup_x1, 1)) (hc : x.category = 1) (hc' : y.category = 1) (K : G T (mkF m (pc + 1) Ls (x :: y :: x :: S))) : G T (mkF m pc Ls (x :: y :: S)) := gC _ _ _ _ (fun t q => XS.dupX1 X.here hx rfl hd rfl hc hc' q) K
theorem cs_pop (gC : own_Cl p.tables e below G) (X : Stand p l e R s m args below meth c T locs cells slots) (hx : p.tables.exec = Jvm.exec) {x : Value} (hd : decode c.code pc = .ok (.pop, 1)) (hc : x.category = 1) (K : G T (mkF m (pc + 1) Ls S)) : G T (mkF m pc Ls (x :: S)) := gC _ _ _ _ (fun t q => XS.pop X.here hx rfl hd rfl hc q) K
theorem cs_goto (gC : own_Cl p.tables e below G) (X : Stand p l e R s m args below meth c T locs cells slots) (hx : p.tables.exec = Jvm.exec) {o : Int} {pc' : Nat} (hd : decode c.code pc = .ok (.goto o, 3)) (ho : 0 ≤ (pc : Int) + o) (hp : ((pc : Int) + o).toNat = pc') (K : G T (mkF m pc' Ls S)) : G T (mkF m pc Ls S) := gC _ _ _ _ (fun t q => XS.goto X.here hx rfl rfl hd ho hp q) K
theorem cs_ifYes (gC : own_Cl p.tables e below G) (X : Stand p l e R s m args below meth c T locs cells slots) (hx : p.tables.exec = Jvm.exec) {cd : ClassFile.Cond} {x : Int32} {o : Int} {pc' : Nat} (hd : decode c.code pc = .ok (.ifCond cd o, 3)) (hc : ifCond.holds cd x = true) (ho : 0 ≤ (pc : Int) + o) (hp : ((pc : Int) + o).toNat = pc') (K : G T (mkF m pc' Ls S)) : G T (mkF m pc Ls (.int x :: S)) := gC _ _ _ _ (fun t q => XS.ifYes X.here hx rfl rfl hd rfl hc ho hp q) K
theorem cs_ifNo (gC : own_Cl p.tables e below G) (X : Stand p l e R s m args below meth c T locs cells slots) (hx : p.tables.exec = Jvm.exec) {cd : ClassFile.Cond} {x : Int32} {o : Int} (hd : decode c.code pc = .ok (.ifCond cd o, 3)) (hc : ifCond.holds cd x = false) (K : G T (mkF m (pc + 3) Ls S)) : G T (mkF m pc Ls (.int x :: S)) := gC _ _ _ _ (fun t q => XS.ifNo X.here hx rfl hd rfl hc q) K
theorem cs_icmpYes (gC : own_Cl p.tables e below G) (X : Stand p l e R s m args below meth c T locs cells slots) (hx : p.tables.exec = Jvm.exec) {cd : ClassFile.Cond} {x y : Int32} {o : Int} {pc' : Nat} (hd : decode c.code pc = .ok (.if_icmp cd o, 3)) (hc : if_icmp.holds cd x y = true) (ho : 0 ≤ (pc : Int) + o) (hp : ((pc : Int) + o).toNat = pc') (K : G T (mkF m pc' Ls S)) : G T (mkF m pc Ls (.int y :: .int x :: S)) := gC _ _ _ _ (fun t q => XS.icmpYes X.here hx rfl rfl hd rfl hc ho hp q) K
theorem cs_icmpNo (gC : own_Cl p.tables e below G) (X : Stand p l e R s m args below meth c T locs cells slots) (hx : p.tables.exec = Jvm.exec) {cd : ClassFile.Cond} {x y : Int32} {o : Int} (hd : decode c.code pc = .ok (.if_icmp cd o, 3)) (hc : if_icmp.holds cd x y = false) (K : G T (mkF m (pc + 3) Ls S)) : G T (mkF m pc Ls (.int y :: .int x :: S)) := gC _ _ _ _ (fun t q => XS.icmpNo X.here hx rfl hd rfl hc q) K
theorem cs_ifnullNo (gC : own_Cl p.tables e below G) (X : Stand p l e R s m args below meth c T locs cells slots) (hx : p.tables.exec = Jvm.exec) {o : Int} {b : Addr} (hd : decode c.code pc = .ok (.ifnull o, 3))  (K : G T (mkF m (pc + 3) Ls S)) : G T (mkF m pc Ls (.ref b :: S)) := gC _ _ _ _ (fun t q => XS.ifnullNo X.here hx rfl hd rfl q) K
theorem cs_ifnullYes (gC : own_Cl p.tables e below G) (X : Stand p l e R s m args below meth c T locs cells slots) (hx : p.tables.exec = Jvm.exec) {o : Int} {pc' : Nat} (hd : decode c.code pc = .ok (.ifnull o, 3)) (ho : 0 ≤ (pc : Int) + o) (hp : ((pc : Int) + o).toNat = pc') (K : G T (mkF m pc' Ls S)) : G T (mkF m pc Ls (.null :: S)) := gC _ _ _ _ (fun t q => XS.ifnullYes X.here hx rfl rfl hd rfl ho hp q) K
theorem cs_ldc2 (gC : own_Cl p.tables e below G) (X : Stand p l e R s m args below meth c T locs cells slots) (hx : p.tables.exec = Jvm.exec) (hZ : Z.Warmed39 s.vm) (hown : s.vm.findClass own = some m.cls) {v : Int64} (w : (Cond.constantLong own index v).before a0 Z = true) (hd : decode c.code pc = .ok (.ldc2_w index, 3)) (K : G T (mkF m (pc + 3) Ls (.long v :: S))) : G T (mkF m pc Ls S) := gC _ _ _ _ (fun t q => X.ldc2Long hx hown (mvT hZ w) (g := mkF m pc Ls S) rfl hd _ q) K
theorem cs_ldc (gC : own_Cl p.tables e below G) (X : Stand p l e R s m args below meth c T locs cells slots) (hx : p.tables.exec = Jvm.exec) (hZ : Z.Warmed39 s.vm) (hown : s.vm.findClass own = some m.cls) {v : Int32} (w : (Cond.constant own index v).before a0 Z = true) (hd : decode c.code pc = .ok (.ldc index, 2)) (K : G T (mkF m (pc + 2) Ls (.int v :: S))) : G T (mkF m pc Ls S) := gC _ _ _ _ (fun t q => X.ldcInt hx hown (mvT hZ w) (g := mkF m pc Ls S) rfl hd _ q) K
theorem cs_get {O n d : String} (gC : own_Cl p.tables e below G) (X : Stand p l e R s m args below meth c T locs cells slots) (hx : p.tables.exec = Jvm.exec) (hZ : Z.Warmed39 s.vm) (hown : s.vm.findClass own = some m.cls) (w : (Cond.fieldLink own index O n d).before a0 Z = true) (eT : T.heap = h) {a : Addr} {v : Value} (F : Fld Z h a O n d v) (hd : decode c.code pc = .ok (.getfield index, 3)) (K : ∀ T', Stand p l e R s m args below meth c T' locs cells slots → T'.heap = h → G T' (mkF m (pc + 3) Ls (v :: S))) : G T (mkF m pc Ls (.ref a :: S)) := by
  obtain ⟨T', X', e', st⟩ := getF X hx hZ hown (host := "") (Or.inl w) Via.refl eT F (g := mkF m pc Ls (.ref a :: S)) rfl rfl hd
  exact gC _ _ _ _ st (K T' X' e')
theorem cs_getN {O n d host : String} (gC : own_Cl p.tables e below G) (X : Stand p l e R s m args below meth c T locs cells slots) (hx : p.tables.exec = Jvm.exec) (hZ : Z.Warmed39 s.vm) (hown : s.vm.findClass own = some m.cls) (w : (Cond.fieldLinkNest own index O n d host).before a0 Z = true) (eT : T.heap = h) {a : Addr} {v : Value} (F : Fld Z h a O n d v) (hd : decode c.code pc = .ok (.getfield index, 3)) (K : ∀ T', Stand p l e R s m args below meth c T' locs cells slots → T'.heap = h → G T' (mkF m (pc + 3) Ls (v :: S))) : G T (mkF m pc Ls (.ref a :: S)) := by
  obtain ⟨T', X', e', st⟩ := getF X hx hZ hown (Or.inr w) Via.refl eT F (g := mkF m pc Ls (.ref a :: S)) rfl rfl hd
  exact gC _ _ _ _ st (K T' X' e')
theorem cs_getR {O n d : String} (gC : own_Cl p.tables e below G) (X : Stand p l e R s m args below meth c T locs cells slots) (hx : p.tables.exec = Jvm.exec) (hZ : Z.Warmed39 s.vm) (hown : s.vm.findClass own = some m.cls) (w : (Cond.fieldRef own index O n d).before a0 Z = true) (eT : T.heap = h) {a : Addr} {v : Value} (F : Fld Z h a O n d v) (hd : decode c.code pc = .ok (.getfield index, 3)) (K : G T (mkF m (pc + 3) Ls (v :: S))) : G T (mkF m pc Ls (.ref a :: S)) := gC _ _ _ _ (own_getR X hx hZ hown w eT F (g := mkF m pc Ls (.ref a :: S)) rfl rfl hd) K
theorem cs_put {O n d C : String} {kk : Nat} {ty : FieldType} (gC : own_Cl p.tables e below G) (X : Stand p l e R s m args below meth c T locs cells slots) (hx : p.tables.exec = Jvm.exec) (hZ : Z.Warmed39 s.vm) (hown : s.vm.findClass own = some m.cls) (w : (Cond.fieldLink own index O n d).before a0 Z = true) (eT : T.heap = h) {a : Addr} {v old : Value} (F : Fld Z h a O n d old) (E : Exa Z h a C) (L : (Cond.lays C O n d).before a0 Z = true ∨ ((Cond.laysFinal C O n d).before a0 Z = true ∧ own = O ∧ meth.name = "<init>")) (wi : (Cond.instantiable C kk).before a0 Z = true) (hty : parseFieldDescriptor d = some ty) (hn : narrow ty v = v) (hf : fits ty v = true) (hd : decode c.code pc = .ok (.putfield index, 3)) (K : ∀ T' h', Stand p l e R s m args below meth c T' (locs ++ [⟨a, slotOf Z O n d⟩]) cells slots → T'.heap = h' → Wr h h' a (slotOf Z O n d) v → G T' (mkF m (pc + 3) Ls S)) : G T (mkF m pc Ls (v :: .ref a :: S)) := by
  obtain ⟨T', h', X', e', W', st⟩ := putF X hx hZ hown (host := "") (Or.inl w) Via.refl eT F E L wi hty hn hf (g := mkF m pc Ls (v :: .ref a :: S)) rfl rfl hd
  exact gC _ _ _ _ st (K T' h' X' e' W')
theorem cs_cast {K0 : String} (gC : own_Cl p.tables e below G) (X : Stand p l e R s m args below meth c T locs cells slots) (hx : p.tables.exec = Jvm.exec) (hZ : Z.Warmed39 s.vm) (hown : s.vm.findClass own = some m.cls) (w : (Cond.classLink own index K0).before a0 Z = true) (eT : T.heap = h) {a : Addr} (F : Ins Z h a K0 true) (hd : decode c.code pc = .ok (.checkcast index, 3)) (K : ∀ T', Stand p l e R s m args below meth c T' locs cells slots → T'.heap = h → G T' (mkF m (pc + 3) Ls (.ref a :: S))) : G T (mkF m pc Ls (.ref a :: S)) := by
  obtain ⟨T', X', e', st⟩ := castY X hx hZ hown w eT F (g := mkF m pc Ls (.ref a :: S)) rfl rfl hd
  exact gC _ _ _ _ st (K T' X' e')
theorem cs_S  (gC : own_Cl p.tables e below G) (X : Stand p l e R s m args below meth c T locs cells slots) (hx : p.tables.exec = Jvm.exec) (hZ : Z.Warmed39 s.vm) (hown : s.vm.findClass own = some m.cls) (w1 : (Cond.methodLink own index y).before a0 Z = true) (w2 : (Cond.static y).before a0 Z = true) (w3 : (Cond.initialized y.cls).before a0 Z = true) (w4 : (Cond.code y bytes maxL ret).before a0 Z = true) (hy : y.cls ≠ "java/lang/invoke/MethodHandle" ∧ y.cls ≠ "java/lang/invoke/VarHandle") (hM : own_Met l y bytes maxL ret [] rm as' Z h Q) (hf : rm.frames + 1 ≤ R.frames) (hl : W + (maxL + 11) + rm.locals ≤ R.locals) (hc : cells + rm.cells ≤ R.cells) (hs : slots + rm.slots ≤ R.slots) (eT : T.heap = h)  (hsize : Ls.size = c.maxLocals) {argsL : List Value} (hlen : ∀ sig, parseMethodDescriptor y.desc = some sig → argsL.length = sig.parameters.length) (hstack : S0 = argsL.reverse ++ S) (hW : 2 * (mkF m pc Ls S0).monitorRoom + (S.map fun v => v.category).sum ≤ W) (hd : decode c.code pc = .ok (.invokestatic index, 3)) (has : (argsL).toArray = as') (K : ∀ v T' L', Stand p l e R s m args below meth c T' (locs ++ L') (cells + rm.cells) (slots + rm.slots) → Q v T'.heap L' → G T' (mkF m (pc + 3) Ls (v.toList ++ S))) : G T (mkF m pc Ls S0) := by
  obtain ⟨v, T', L', X', hQ, st⟩ := own_callS X hx hZ hown w1 w2 w3 w4 hy hM hf hl hc hs eT (g := mkF m pc Ls S0) rfl hsize hlen hstack hW hd has
  exact gC _ _ _ _ st (K v T' L' X' hQ)
theorem cs_V {C : String} {a : Addr} (gC : own_Cl p.tables e below G) (X : Stand p l e R s m args below meth c T locs cells slots) (hx : p.tables.exec = Jvm.exec) (hZ : Z.Warmed39 s.vm) (hown : s.vm.findClass own = some m.cls) (w1 : (Cond.methodLink own index y).before a0 Z = true) (w2 : (Cond.declares y).before a0 Z = true) (w3 : (Cond.selects C y y).before a0 Z = true) (w5 : (Cond.instanceMethod y).before a0 Z = true) (w6 : (Cond.initialized y.cls).before a0 Z = true) (w4 : (Cond.code y bytes maxL ret).before a0 Z = true) (hy : y.cls ≠ "java/lang/invoke/MethodHandle" ∧ y.cls ≠ "java/lang/invoke/VarHandle") (hM : own_Met l y bytes maxL ret [] rm as' Z h Q) (hf : rm.frames + 1 ≤ R.frames) (hl : W + (maxL + 11) + rm.locals ≤ R.locals) (hc : cells + rm.cells ≤ R.cells) (hs : slots + rm.slots ≤ R.slots) (eT : T.heap = h) (E : Exa Z h a C) (hsize : Ls.size = c.maxLocals) {argsL : List Value} (hlen : ∀ sig, parseMethodDescriptor y.desc = some sig → argsL.length = sig.parameters.length) (hstack : S0 = argsL.reverse ++ .ref a :: S) (hW : 2 * (mkF m pc Ls S0).monitorRoom + (S.map fun v => v.category).sum ≤ W) (hd : decode c.code pc = .ok (.invokevirtual index, 3)) (has : (.ref a :: argsL).toArray = as') (K : ∀ v T' L', Stand p l e R s m args below meth c T' (locs ++ L') (cells + rm.cells) (slots + rm.slots) → Q v T'.heap L' → G T' (mkF m (pc + 3) Ls (v.toList ++ S))) : G T (mkF m pc Ls S0) := by
  obtain ⟨v, T', L', X', hQ, st⟩ := own_callV X hx hZ hown w1 w2 w3 w5 w6 w4 hy hM hf hl hc hs eT E (g := mkF m pc Ls S0) rfl hsize hlen hstack hW hd has
  exact gC _ _ _ _ st (K v T' L' X' hQ)
theorem cs_P {C : String} {z : MethodName} {a : Addr} (gC : own_Cl p.tables e below G) (X : Stand p l e R s m args below meth c T locs cells slots) (hx : p.tables.exec = Jvm.exec) (hZ : Z.Warmed39 s.vm) (hown : s.vm.findClass own = some m.cls) (w1 : (Cond.methodLink own index y).before a0 Z = true) (w2 : (Cond.instanceMethod y).before a0 Z = true) (w3 : (Cond.privateMethod y).before a0 Z = true) (w5 : (Cond.selects y.cls z z).before a0 Z = true) (hz : z.cls = y.cls) (w6 : (Cond.initialized y.cls).before a0 Z = true) (w4 : (Cond.code y bytes maxL ret).before a0 Z = true) (hy : y.cls ≠ "java/lang/invoke/MethodHandle" ∧ y.cls ≠ "java/lang/invoke/VarHandle") (hM : own_Met l y bytes maxL ret [] rm as' Z h Q) (hf : rm.frames + 1 ≤ R.frames) (hl : W + (maxL + 11) + rm.locals ≤ R.locals) (hc : cells + rm.cells ≤ R.cells) (hs : slots + rm.slots ≤ R.slots) (eT : T.heap = h) (E : Exa Z h a C) (hsize : Ls.size = c.maxLocals) {argsL : List Value} (hlen : ∀ sig, parseMethodDescriptor y.desc = some sig → argsL.length = sig.parameters.length) (hstack : S0 = argsL.reverse ++ .ref a :: S) (hW : 2 * (mkF m pc Ls S0).monitorRoom + (S.map fun v => v.category).sum ≤ W) (hd : decode c.code pc = .ok (.invokevirtual index, 3)) (has : (.ref a :: argsL).toArray = as') (K : ∀ v T' L', Stand p l e R s m args below meth c T' (locs ++ L') (cells + rm.cells) (slots + rm.slots) → Q v T'.heap L' → G T' (mkF m (pc + 3) Ls (v.toList ++ S))) : G T (mkF m pc Ls S0) := by
  obtain ⟨v, T', L', X', hQ, st⟩ := own_callP X hx hZ hown w1 w2 w3 w5 hz w6 w4 hy hM hf hl hc hs eT E (g := mkF m pc Ls S0) rfl hsize hlen hstack hW hd has
  exact gC _ _ _ _ st (K v T' L' X' hQ)
theorem cs_I {a : Addr} (gC : own_Cl p.tables e below G) (X : Stand p l e R s m args below meth c T locs cells slots) (hx : p.tables.exec = Jvm.exec) (hZ : Z.Warmed39 s.vm) (hown : s.vm.findClass own = some m.cls) (w1 : (Cond.methodLink own index y).before a0 Z = true) (w2 : (Cond.instanceMethod y).before a0 Z = true) (w3 : (Cond.initialized y.cls).before a0 Z = true) (w4 : (Cond.code y bytes maxL none).before a0 Z = true) (hn : y.name = "<init>") (hy : y.cls ≠ "java/lang/invoke/MethodHandle" ∧ y.cls ≠ "java/lang/invoke/VarHandle") (hM : own_Met l y bytes maxL none [] rm as' Z h Q) (hf : rm.frames + 1 ≤ R.frames) (hl : W + (maxL + 11) + rm.locals ≤ R.locals) (hc : cells + rm.cells ≤ R.cells) (hs : slots + rm.slots ≤ R.slots) (eT : T.heap = h) (hsize : Ls.size = c.maxLocals) {argsL : List Value} (hlen : ∀ sig, parseMethodDescriptor y.desc = some sig → argsL.length = sig.parameters.length) (hstack : S0 = argsL.reverse ++ .ref a :: S) (hW : 2 * (mkF m pc Ls S0).monitorRoom + (S.map fun v => v.category).sum ≤ W) (hd : decode c.code pc = .ok (.invokespecial index, 3)) (has : (.ref a :: argsL).toArray = as') (K : ∀ v T' L', Stand p l e R s m args below meth c T' (locs ++ L') (cells + rm.cells) (slots + rm.slots) → Q v T'.heap L' → G T' (mkF m (pc + 3) Ls (v.toList ++ S))) : G T (mkF m pc Ls S0) := by
  obtain ⟨v, T', L', X', hQ, st⟩ := own_callI X hx hZ hown w1 w2 w3 w4 hn hy hM hf hl hc hs eT (g := mkF m pc Ls S0) rfl hsize hlen hstack hW hd has
  exact gC _ _ _ _ st (K v T' L' X' hQ)
end Cps
end New
end Jvm.RoadKit
namespace Jvm.Pilot.@@N@@
open Jvm Jvm.ClassFile Sem Op Lib Jvm.Free Jvm.Stand Jvm.LawKit Jvm.RoadKit Bundle Jvm.Pilot.@@N@@.Jvm.D
abbrev own_cP : String := "com/example/caliper2/caliper2/NonOverlappingCount$Progression"
abbrev own_cC : String := "com/example/caliper2/caliper2/NonOverlappingCount"
abbrev own_cD : String := "java/util/ArrayDeque"
abbrev own_cW : String := "com/example/caliper2/caliper2/NonOverlappingCountCountPinLaw"
abbrev vi (x : Int32) : Slot := .val (.int x)
abbrev vj (x : Int64) : Slot := .val (.long x)
abbrev vr (x : Addr) : Slot := .val (.ref x)
theorem d4_0 : decode jdk_22_method_1_code 0 = .ok (.aload_n 0, 1) := by decide +kernel
theorem d4_1 : decode jdk_22_method_1_code 1 = .ok (.invokespecial 1, 3) := by decide +kernel
theorem d4_4 : decode jdk_22_method_1_code 4 = .ok (.return_, 1) := by decide +kernel
theorem pn_0 : plainName "java/util/AbstractCollection" = true := by first | (simp [plainName, overriddenIn]; done) | decide +kernel
theorem ef_4 (m : MethodId) (a1 : Addr) : entryFrame m #[(.ref a1)] 1 = mkF m 0 #[.val (.ref a1)] [] := by first | (simp [entryFrame, mkF, argsToLocals, Value.category]; done) | rfl
def Q4 (Z : State) (a1 : Addr) (h0 : Heap) (n0 : Nat) (v : Option Value) (h : Heap) (L : List Loc) : Prop := v = none ∧ Fr n0 L ∧ h = h0
set_option maxRecDepth 65536 in
set_option maxHeartbeats 40000000 in
theorem rm4 (l : Launch) (Z : State) (a0 : Array Value) (hw : ∀ d ∈ tables_1, d.before a0 Z = true) (ws : List Jvm.Cond) (a1 : Addr) (h0 : Heap) (n0 : Nat) (Z0 : n0 ≤ h0.size) :
    own_Met l (⟨"java/util/AbstractCollection", "<init>", "()V"⟩ : MethodName) jdk_22_method_1_code 1 none ws ({ frames := 1, cells := 0, slots := 0, locals := 12 } : Room) #[(.ref a1)] Z h0 (Q4 Z a1 h0 n0) := by
  refine own_met (plainFor_of_name pn_0) ?_
  intro p e s m below meth c s₁ Bd hx hby hml hZ hown hnm X0 e0
  have wd : ∀ (i : Nat) (d : Jvm.Cond), tables_1[i]? = some d → d.before a0 Z = true := fun i d q => hw d (List.mem_of_getElem? q)
  have NN := Fr.nil n0
  have KK : Keep h0 h0 [] := Keep.refl h0 _
  refine own_start (ef_4 m a1) ?_
  refine cs_aloadN cG X0 hx (hb hby d4_0) rfl rfl ?_
  obtain ⟨T1, X1, e1, st1⟩ := initO X0 hx hZ hown (wd 22 _ rfl) (wd 8 _ rfl) (wd 9 _ rfl) e0 (g := (mkF m 1 #[vr a1] [(.ref a1)])) rfl (by rw [hml]; rfl) rfl (hb hby d4_1) (by decide) (W := 0) (by show 2 * 0 + _ ≤ _; exact Nat.le_of_eq rfl) (by decide)
  refine own_go st1 ?_
  show own_Go _ _ _ _ T1 (mkF m 4 #[vr a1] [])
  show own_Go _ _ _ _ T1 (mkF m 4 #[vr a1] [])
  obtain ⟨fs, hr, hrun, hended, hW, hsame⟩ := X1.leave (v := none) (fun _ => rfl)
  refine ⟨_, _, ?_, hrun, hended, _, _, rfl, ?_, ⟨_, rfl⟩, hW, hsame.mono (by decide) (by decide)⟩
  · exact X1.returnOut hx Bd.returns (hb hby d4_4) hr
  · show Q4 Z a1 h0 n0 _ T1.heap _
    rw [e1]
    exact ⟨rfl, NN, rfl⟩
theorem d3_0 : decode jdk_21_method_3_code 0 = .ok (.aload_n 0, 1) := by decide +kernel
theorem d3_1 : decode jdk_21_method_3_code 1 = .ok (.invokespecial 42, 3) := by decide +kernel
theorem d3_4 : decode jdk_21_method_3_code 4 = .ok (.aload_n 0, 1) := by decide +kernel
theorem d3_5 : decode jdk_21_method_3_code 5 = .ok (.bipush 17, 2) := by decide +kernel
theorem d3_7 : decode jdk_21_method_3_code 7 = .ok (.anewarray 47, 3) := by decide +kernel
theorem d3_10 : decode jdk_21_method_3_code 10 = .ok (.putfield 3, 3) := by decide +kernel
theorem d3_13 : decode jdk_21_method_3_code 13 = .ok (.return_, 1) := by decide +kernel
theorem pn_1 : plainName own_cD = true := by first | (simp [plainName, overriddenIn]; done) | decide +kernel
theorem pd_1 : parseMethodDescriptor "()V" = some ⟨[], none⟩ := by decide +kernel
theorem ef_3 (m : MethodId) (a1 : Addr) : entryFrame m #[(.ref a1)] 1 = mkF m 0 #[.val (.ref a1)] [] := by first | (simp [entryFrame, mkF, argsToLocals, Value.category]; done) | rfl
def Q3 (Z : State) (a1 : Addr) (w_head_a1 : Int32) (w_tail_a1 : Int32) (u_elements_a1 : Value) (h0 : Heap) (n0 : Nat) (v : Option Value) (h : Heap) (L : List Loc) : Prop := ∃ (b2 : Addr), ∃ (k2 : ClassId), v = none ∧ Fr n0 L ∧ Keep h0 h [a1] ∧ Exa Z h a1 own_cD ∧ Fld Z h a1 own_cD "head" "I" (.int w_head_a1) ∧ Fld Z h a1 own_cD "tail" "I" (.int w_tail_a1) ∧ Fld Z h a1 own_cD "elements" "[Ljava/lang/Object;" (.ref b2) ∧ n0 ≤ b2 ∧ h0.size ≤ b2 ∧ Arv Z h b2 k2 (.object "java/lang/Object") (17 : Int32) [.null, .null, .null, .null, .null, .null, .null, .null, .null, .null, .null, .null, .null, .null, .null, .null, .null] .null ∧ Ovr Z k2 "java/lang/Object"
set_option maxRecDepth 65536 in
set_option maxHeartbeats 40000000 in
theorem rm3 (l : Launch) (Z : State) (a0 : Array Value) (hw : ∀ d ∈ tables_1, d.before a0 Z = true) (ws : List Jvm.Cond) (a1 : Addr) (w_head_a1 : Int32) (w_tail_a1 : Int32) (u_elements_a1 : Value) (h0 : Heap) (n0 : Nat) (Z0 : n0 ≤ h0.size) (F_a1_head : Fld Z h0 a1 own_cD "head" "I" (.int w_head_a1)) (F_a1_tail : Fld Z h0 a1 own_cD "tail" "I" (.int w_tail_a1)) (E_a1 : Exa Z h0 a1 own_cD) (F_a1_elements : Fld Z h0 a1 own_cD "elements" "[Ljava/lang/Object;" u_elements_a1) (g_a1 : n0 ≤ a1) :
    own_Met l (⟨own_cD, "<init>", "()V"⟩ : MethodName) jdk_21_method_3_code 1 none ws ({ frames := 2, cells := 1, slots := 17, locals := 24 } : Room) #[(.ref a1)] Z h0 (Q3 Z a1 w_head_a1 w_tail_a1 u_elements_a1 h0 n0) := by
  refine own_met (plainFor_of_name pn_1) ?_
  intro p e s m below meth c s₁ Bd hx hby hml hZ hown hnm X0 e0
  have wd : ∀ (i : Nat) (d : Jvm.Cond), tables_1[i]? = some d → d.before a0 Z = true := fun i d q => hw d (List.mem_of_getElem? q)
  have NN := Fr.nil n0
  have KK : Keep h0 h0 [a1] := Keep.refl h0 _
  refine own_start (ef_3 m a1) ?_
  refine cs_aloadN cG X0 hx (hb hby d3_0) rfl rfl ?_
  refine cs_I cG X0 hx hZ hown (wd 16 _ rfl) (wd 17 _ rfl) (wd 20 _ rfl) (wd 21 _ rfl) rfl (by decide) (rm4 l Z a0 hw [] a1 h0 n0 Z0 ) (by decide) (by decide) (by decide) (by decide) e0 (by rw [hml]; rfl) (argsL := []) (S := []) (lenOf pd_1 rfl) rfl (W := 0) (Nat.le_of_eq rfl) (hb hby d3_1) rfl ?_
  intro v1 T1 L1 X1 hQ1
  obtain ⟨rfl, N1q, e1⟩ := hQ1
  have NN := Fr.app NN N1q
  show own_Go _ _ _ _ T1 (mkF m 4 #[vr a1] [])
  refine cs_aloadN cG X1 hx (hb hby d3_4) rfl rfl ?_
  refine cs_bipush cG X1 hx (hb hby d3_5) (z := (17 : Int32)) rfl ?_
  obtain ⟨T2, h2, k2, X2, e2, E2, A2, O2, st2⟩ := newR X1 hx hZ hown (wd 23 _ rfl) (wd 24 _ rfl) e1 (g := (mkF m 7 #[vr a1] [(.int (17 : Int32)), (.ref a1)])) rfl (hb hby d3_7) rfl (by decide) (cap := 17) (by decide) (by decide) (by decide) (by decide)
  obtain ⟨b2, g2⟩ : ∃ z, z = h0.size := ⟨_, rfl⟩
  rw [← g2] at A2 st2
  have g_b2 : n0 ≤ b2 := Nat.le_trans Z0 (Nat.le_of_eq g2.symm)
  have sz_b2 : h0.size ≤ b2 := Nat.le_trans KK.1 (Nat.le_of_eq g2.symm)
  have ne_a1_b2 : a1 ≠ b2 := Nat.ne_of_lt (Nat.lt_of_lt_of_le F_a1_head.lt (Nat.le_of_eq g2.symm))
  have F_a1_head := F_a1_head.ext E2
  have F_a1_tail := F_a1_tail.ext E2
  have E_a1 := E_a1.ext E2
  have F_a1_elements := F_a1_elements.ext E2
  have KK := KK.ext E2
  have O_b2 := O2
  have V_b2 : Arv Z h2 b2 k2 (.object "java/lang/Object") (17 : Int32) [.null, .null, .null, .null, .null, .null, .null, .null, .null, .null, .null, .null, .null, .null, .null, .null, .null] .null := (Arv.new A2 (by decide)).pad (pad_rep [] .null 17)
  refine own_go st2 ?_
  show own_Go _ _ _ _ T2 (mkF m 10 #[vr a1] [(.ref b2), (.ref a1)])
  refine cs_put cG X2 hx hZ hown (wd 25 _ rfl) e2 F_a1_elements E_a1 (Or.inl (wd 26 _ rfl)) (wd 11 _ rfl) (ty := (.array (.object "java/lang/Object"))) (by decide) rfl rfl (hb hby d3_10) ?_
  intro T3 h3 X3 e3 W3
  have F_a1_head := F_a1_head.other W3 (Or.inr (slot_ne (Or.inl (wd 50 _ rfl)) (Or.inl (wd 26 _ rfl)) (by decide) (t := .int) (t' := (.array (.object "java/lang/Object"))) (by decide) (by decide)))
  have F_a1_tail := F_a1_tail.other W3 (Or.inr (slot_ne (Or.inl (wd 52 _ rfl)) (Or.inl (wd 26 _ rfl)) (by decide) (t := .int) (t' := (.array (.object "java/lang/Object"))) (by decide) (by decide)))
  have E_a1 := E_a1.wr W3
  have F_a1_elements := F_a1_elements.same W3
  have V_b2 := V_b2.other W3 (Ne.symm ne_a1_b2)
  have KK := KK.wr W3 (Or.inl (List.mem_of_getElem? (i := 0) rfl))
  have NN := Fr.snoc X3 NN g_a1
  show own_Go _ _ _ _ T3 (mkF m 13 #[vr a1] [])
  obtain ⟨fs, hr, hrun, hended, hW, hsame⟩ := X3.leave (v := none) (fun _ => rfl)
  refine ⟨_, _, ?_, hrun, hended, _, _, rfl, ?_, ⟨_, rfl⟩, hW, hsame.mono (by decide) (by decide)⟩
  · exact X3.returnOut hx Bd.returns (hb hby d3_13) hr
  · show Q3 Z a1 w_head_a1 w_tail_a1 u_elements_a1 h0 n0 _ T3.heap _
    rw [e3]
    exact ⟨b2, k2, rfl, NN, KK, E_a1, F_a1_head, F_a1_tail, F_a1_elements, g_b2, sz_b2, V_b2, O_b2⟩
theorem d17_0 : decode jdk_21_method_6_code 0 = .ok (.iinc 0 1, 3) := by decide +kernel
theorem d17_3 : decode jdk_21_method_6_code 3 = .ok (.iload_n 0, 1) := by decide +kernel
theorem d17_4 : decode jdk_21_method_6_code 4 = .ok (.iload_n 1, 1) := by decide +kernel
theorem d17_5 : decode jdk_21_method_6_code 5 = .ok (.if_icmp .lt 5, 3) := by decide +kernel
theorem d17_10 : decode jdk_21_method_6_code 10 = .ok (.iload_n 0, 1) := by decide +kernel
theorem d17_11 : decode jdk_21_method_6_code 11 = .ok (.ireturn, 1) := by decide +kernel
theorem ef_17_0 (m : MethodId)  : entryFrame m #[(.int (0 : Int32)), (.int (17 : Int32))] 2 = mkF m 0 #[.val (.int (0 : Int32)), .val (.int (17 : Int32))] [] := by first | (simp [entryFrame, mkF, argsToLocals, Value.category]; done) | rfl
def Q17_0 (Z : State)  (h0 : Heap) (n0 : Nat) (v : Option Value) (h : Heap) (L : List Loc) : Prop := v = some (.int (1 : Int32)) ∧ Fr n0 L ∧ h = h0
set_option maxRecDepth 65536 in
set_option maxHeartbeats 40000000 in
theorem rm17_0 (l : Launch) (Z : State) (a0 : Array Value) (hw : ∀ d ∈ tables_1, d.before a0 Z = true) (ws : List Jvm.Cond)  (h0 : Heap) (n0 : Nat) (Z0 : n0 ≤ h0.size) :
    own_Met l (⟨own_cD, "inc", "(II)I"⟩ : MethodName) jdk_21_method_6_code 2 (some .int) ws ({ frames := 0, cells := 0, slots := 0, locals := 0 } : Room) #[(.int (0 : Int32)), (.int (17 : Int32))] Z h0 (Q17_0 Z  h0 n0) := by
  refine own_met (plainFor_of_name pn_1) ?_
  intro p e s m below meth c s₁ Bd hx hby hml hZ hown hnm X0 e0
  have wd : ∀ (i : Nat) (d : Jvm.Cond), tables_1[i]? = some d → d.before a0 Z = true := fun i d q => hw d (List.mem_of_getElem? q)
  have NN := Fr.nil n0
  have KK : Keep h0 h0 [] := Keep.refl h0 _
  refine own_start (ef_17_0 m ) ?_
  refine cs_iinc cG X0 hx (hb hby d17_0) rfl (l' := #[vi (1 : Int32), vi (17 : Int32)]) rfl ?_
  refine cs_iloadN cG X0 hx (hb hby d17_3) rfl ?_
  refine cs_iloadN cG X0 hx (hb hby d17_4) rfl ?_
  refine cs_icmpYes cG X0 hx (pc' := 10) (hb hby d17_5) (tlt (by decide : (1 : Int32) < (17 : Int32))).1 (by decide) (by decide) ?_
  refine cs_iloadN cG X0 hx (hb hby d17_10) rfl ?_
  show own_Go _ _ _ _ s₁ (mkF m 11 #[vi (1 : Int32), vi (17 : Int32)] [(.int (1 : Int32))])
  obtain ⟨fs, hr, hrun, hended, hW, hsame⟩ := X0.leave (v := some (.int (1 : Int32))) (fun h => by rw [Bd.returns] at h; cases h)
  refine ⟨_, _, ?_, hrun, hended, _, _, rfl, ?_, ⟨_, rfl⟩, hW, hsame.mono (by decide) (by decide)⟩
  · exact retI X0 hx Bd.returns (hb hby d17_11) hr
  · show Q17_0 Z  h0 n0 _ s₁.heap _
    rw [e0]
    exact ⟨rfl, NN, rfl⟩
theorem ef_17_1 (m : MethodId)  : entryFrame m #[(.int (1 : Int32)), (.int (17 : Int32))] 2 = mkF m 0 #[.val (.int (1 : Int32)), .val (.int (17 : Int32))] [] := by first | (simp [entryFrame, mkF, argsToLocals, Value.category]; done) | rfl
def Q17_1 (Z : State)  (h0 : Heap) (n0 : Nat) (v : Option Value) (h : Heap) (L : List Loc) : Prop := v = some (.int (2 : Int32)) ∧ Fr n0 L ∧ h = h0
set_option maxRecDepth 65536 in
set_option maxHeartbeats 40000000 in
theorem rm17_1 (l : Launch) (Z : State) (a0 : Array Value) (hw : ∀ d ∈ tables_1, d.before a0 Z = true) (ws : List Jvm.Cond)  (h0 : Heap) (n0 : Nat) (Z0 : n0 ≤ h0.size) :
    own_Met l (⟨own_cD, "inc", "(II)I"⟩ : MethodName) jdk_21_method_6_code 2 (some .int) ws ({ frames := 0, cells := 0, slots := 0, locals := 0 } : Room) #[(.int (1 : Int32)), (.int (17 : Int32))] Z h0 (Q17_1 Z  h0 n0) := by
  refine own_met (plainFor_of_name pn_1) ?_
  intro p e s m below meth c s₁ Bd hx hby hml hZ hown hnm X0 e0
  have wd : ∀ (i : Nat) (d : Jvm.Cond), tables_1[i]? = some d → d.before a0 Z = true := fun i d q => hw d (List.mem_of_getElem? q)
  have NN := Fr.nil n0
  have KK : Keep h0 h0 [] := Keep.refl h0 _
  refine own_start (ef_17_1 m ) ?_
  refine cs_iinc cG X0 hx (hb hby d17_0) rfl (l' := #[vi (2 : Int32), vi (17 : Int32)]) rfl ?_
  refine cs_iloadN cG X0 hx (hb hby d17_3) rfl ?_
  refine cs_iloadN cG X0 hx (hb hby d17_4) rfl ?_
  refine cs_icmpYes cG X0 hx (pc' := 10) (hb hby d17_5) (tlt (by decide : (2 : Int32) < (17 : Int32))).1 (by decide) (by decide) ?_
  refine cs_iloadN cG X0 hx (hb hby d17_10) rfl ?_
  show own_Go _ _ _ _ s₁ (mkF m 11 #[vi (2 : Int32), vi (17 : Int32)] [(.int (2 : Int32))])
  obtain ⟨fs, hr, hrun, hended, hW, hsame⟩ := X0.leave (v := some (.int (2 : Int32))) (fun h => by rw [Bd.returns] at h; cases h)
  refine ⟨_, _, ?_, hrun, hended, _, _, rfl, ?_, ⟨_, rfl⟩, hW, hsame.mono (by decide) (by decide)⟩
  · exact retI X0 hx Bd.returns (hb hby d17_11) hr
  · show Q17_1 Z  h0 n0 _ s₁.heap _
    rw [e0]
    exact ⟨rfl, NN, rfl⟩
theorem ef_17_2 (m : MethodId)  : entryFrame m #[(.int (2 : Int32)), (.int (17 : Int32))] 2 = mkF m 0 #[.val (.int (2 : Int32)), .val (.int (17 : Int32))] [] := by first | (simp [entryFrame, mkF, argsToLocals, Value.category]; done) | rfl
def Q17_2 (Z : State)  (h0 : Heap) (n0 : Nat) (v : Option Value) (h : Heap) (L : List Loc) : Prop := v = some (.int (3 : Int32)) ∧ Fr n0 L ∧ h = h0
set_option maxRecDepth 65536 in
set_option maxHeartbeats 40000000 in
theorem rm17_2 (l : Launch) (Z : State) (a0 : Array Value) (hw : ∀ d ∈ tables_1, d.before a0 Z = true) (ws : List Jvm.Cond)  (h0 : Heap) (n0 : Nat) (Z0 : n0 ≤ h0.size) :
    own_Met l (⟨own_cD, "inc", "(II)I"⟩ : MethodName) jdk_21_method_6_code 2 (some .int) ws ({ frames := 0, cells := 0, slots := 0, locals := 0 } : Room) #[(.int (2 : Int32)), (.int (17 : Int32))] Z h0 (Q17_2 Z  h0 n0) := by
  refine own_met (plainFor_of_name pn_1) ?_
  intro p e s m below meth c s₁ Bd hx hby hml hZ hown hnm X0 e0
  have wd : ∀ (i : Nat) (d : Jvm.Cond), tables_1[i]? = some d → d.before a0 Z = true := fun i d q => hw d (List.mem_of_getElem? q)
  have NN := Fr.nil n0
  have KK : Keep h0 h0 [] := Keep.refl h0 _
  refine own_start (ef_17_2 m ) ?_
  refine cs_iinc cG X0 hx (hb hby d17_0) rfl (l' := #[vi (3 : Int32), vi (17 : Int32)]) rfl ?_
  refine cs_iloadN cG X0 hx (hb hby d17_3) rfl ?_
  refine cs_iloadN cG X0 hx (hb hby d17_4) rfl ?_
  refine cs_icmpYes cG X0 hx (pc' := 10) (hb hby d17_5) (tlt (by decide : (3 : Int32) < (17 : Int32))).1 (by decide) (by decide) ?_
  refine cs_iloadN cG X0 hx (hb hby d17_10) rfl ?_
  show own_Go _ _ _ _ s₁ (mkF m 11 #[vi (3 : Int32), vi (17 : Int32)] [(.int (3 : Int32))])
  obtain ⟨fs, hr, hrun, hended, hW, hsame⟩ := X0.leave (v := some (.int (3 : Int32))) (fun h => by rw [Bd.returns] at h; cases h)
  refine ⟨_, _, ?_, hrun, hended, _, _, rfl, ?_, ⟨_, rfl⟩, hW, hsame.mono (by decide) (by decide)⟩
  · exact retI X0 hx Bd.returns (hb hby d17_11) hr
  · show Q17_2 Z  h0 n0 _ s₁.heap _
    rw [e0]
    exact ⟨rfl, NN, rfl⟩
theorem d13_0 : decode jdk_21_method_7_code 0 = .ok (.iinc 0 (-1), 3) := by decide +kernel
theorem d13_3 : decode jdk_21_method_7_code 3 = .ok (.iload_n 0, 1) := by decide +kernel
theorem d13_4 : decode jdk_21_method_7_code 4 = .ok (.ifCond .ge 7, 3) := by decide +kernel
theorem d13_7 : decode jdk_21_method_7_code 7 = .ok (.iload_n 1, 1) := by decide +kernel
theorem d13_8 : decode jdk_21_method_7_code 8 = .ok (.iconst 1, 1) := by decide +kernel
theorem d13_9 : decode jdk_21_method_7_code 9 = .ok (.isub, 1) := by decide +kernel
theorem d13_10 : decode jdk_21_method_7_code 10 = .ok (.istore_n 0, 1) := by decide +kernel
theorem d13_11 : decode jdk_21_method_7_code 11 = .ok (.iload_n 0, 1) := by decide +kernel
theorem d13_12 : decode jdk_21_method_7_code 12 = .ok (.ireturn, 1) := by decide +kernel
theorem ef_13_0 (m : MethodId)  : entryFrame m #[(.int (0 : Int32)), (.int (17 : Int32))] 2 = mkF m 0 #[.val (.int (0 : Int32)), .val (.int (17 : Int32))] [] := by first | (simp [entryFrame, mkF, argsToLocals, Value.category]; done) | rfl
def Q13_0 (Z : State)  (h0 : Heap) (n0 : Nat) (v : Option Value) (h : Heap) (L : List Loc) : Prop := v = some (.int (16 : Int32)) ∧ Fr n0 L ∧ h = h0
set_option maxRecDepth 65536 in
set_option maxHeartbeats 40000000 in
theorem rm13_0 (l : Launch) (Z : State) (a0 : Array Value) (hw : ∀ d ∈ tables_1, d.before a0 Z = true) (ws : List Jvm.Cond)  (h0 : Heap) (n0 : Nat) (Z0 : n0 ≤ h0.size) :
    own_Met l (⟨own_cD, "dec", "(II)I"⟩ : MethodName) jdk_21_method_7_code 2 (some .int) ws ({ frames := 0, cells := 0, slots := 0, locals := 0 } : Room) #[(.int (0 : Int32)), (.int (17 : Int32))] Z h0 (Q13_0 Z  h0 n0) := by
  refine own_met (plainFor_of_name pn_1) ?_
  intro p e s m below meth c s₁ Bd hx hby hml hZ hown hnm X0 e0
  have wd : ∀ (i : Nat) (d : Jvm.Cond), tables_1[i]? = some d → d.before a0 Z = true := fun i d q => hw d (List.mem_of_getElem? q)
  have NN := Fr.nil n0
  have KK : Keep h0 h0 [] := Keep.refl h0 _
  refine own_start (ef_13_0 m ) ?_
  refine cs_iinc cG X0 hx (hb hby d13_0) rfl (l' := #[vi (-1 : Int32), vi (17 : Int32)]) rfl ?_
  refine cs_iloadN cG X0 hx (hb hby d13_3) rfl ?_
  refine cs_ifNo cG X0 hx (hb hby d13_4) ((if0 _ _).trans (tlt (by decide : (-1 : Int32) < (0 : Int32))).2.1) ?_
  refine cs_iloadN cG X0 hx (hb hby d13_7) rfl ?_
  refine cs_iconst cG X0 hx (hb hby d13_8) (z := (1 : Int32)) rfl ?_
  refine cs_isub cG X0 hx (hb hby d13_9) (z := (16 : Int32)) rfl ?_
  refine cs_istoreN cG X0 hx (hb hby d13_10) (l' := #[vi (16 : Int32), vi (17 : Int32)]) rfl ?_
  refine cs_iloadN cG X0 hx (hb hby d13_11) rfl ?_
  show own_Go _ _ _ _ s₁ (mkF m 12 #[vi (16 : Int32), vi (17 : Int32)] [(.int (16 : Int32))])
  obtain ⟨fs, hr, hrun, hended, hW, hsame⟩ := X0.leave (v := some (.int (16 : Int32))) (fun h => by rw [Bd.returns] at h; cases h)
  refine ⟨_, _, ?_, hrun, hended, _, _, rfl, ?_, ⟨_, rfl⟩, hW, hsame.mono (by decide) (by decide)⟩
  · exact retI X0 hx Bd.returns (hb hby d13_12) hr
  · show Q13_0 Z  h0 n0 _ s₁.heap _
    rw [e0]
    exact ⟨rfl, NN, rfl⟩
theorem ef_13_1 (m : MethodId)  : entryFrame m #[(.int (1 : Int32)), (.int (17 : Int32))] 2 = mkF m 0 #[.val (.int (1 : Int32)), .val (.int (17 : Int32))] [] := by first | (simp [entryFrame, mkF, argsToLocals, Value.category]; done) | rfl
def Q13_1 (Z : State)  (h0 : Heap) (n0 : Nat) (v : Option Value) (h : Heap) (L : List Loc) : Prop := v = some (.int (0 : Int32)) ∧ Fr n0 L ∧ h = h0
set_option maxRecDepth 65536 in
set_option maxHeartbeats 40000000 in
theorem rm13_1 (l : Launch) (Z : State) (a0 : Array Value) (hw : ∀ d ∈ tables_1, d.before a0 Z = true) (ws : List Jvm.Cond)  (h0 : Heap) (n0 : Nat) (Z0 : n0 ≤ h0.size) :
    own_Met l (⟨own_cD, "dec", "(II)I"⟩ : MethodName) jdk_21_method_7_code 2 (some .int) ws ({ frames := 0, cells := 0, slots := 0, locals := 0 } : Room) #[(.int (1 : Int32)), (.int (17 : Int32))] Z h0 (Q13_1 Z  h0 n0) := by
  refine own_met (plainFor_of_name pn_1) ?_
  intro p e s m below meth c s₁ Bd hx hby hml hZ hown hnm X0 e0
  have wd : ∀ (i : Nat) (d : Jvm.Cond), tables_1[i]? = some d → d.before a0 Z = true := fun i d q => hw d (List.mem_of_getElem? q)
  have NN := Fr.nil n0
  have KK : Keep h0 h0 [] := Keep.refl h0 _
  refine own_start (ef_13_1 m ) ?_
  refine cs_iinc cG X0 hx (hb hby d13_0) rfl (l' := #[vi (0 : Int32), vi (17 : Int32)]) rfl ?_
  refine cs_iloadN cG X0 hx (hb hby d13_3) rfl ?_
  refine cs_ifYes cG X0 hx (pc' := 11) (hb hby d13_4) ((if0 _ _).trans (flt (Int32.lt_irrefl)).2.1) (by decide) (by decide) ?_
  refine cs_iloadN cG X0 hx (hb hby d13_11) rfl ?_
  show own_Go _ _ _ _ s₁ (mkF m 12 #[vi (0 : Int32), vi (17 : Int32)] [(.int (0 : Int32))])
  obtain ⟨fs, hr, hrun, hended, hW, hsame⟩ := X0.leave (v := some (.int (0 : Int32))) (fun h => by rw [Bd.returns] at h; cases h)
  refine ⟨_, _, ?_, hrun, hended, _, _, rfl, ?_, ⟨_, rfl⟩, hW, hsame.mono (by decide) (by decide)⟩
  · exact retI X0 hx Bd.returns (hb hby d13_12) hr
  · show Q13_1 Z  h0 n0 _ s₁.heap _
    rw [e0]
    exact ⟨rfl, NN, rfl⟩
theorem ef_13_2 (m : MethodId)  : entryFrame m #[(.int (2 : Int32)), (.int (17 : Int32))] 2 = mkF m 0 #[.val (.int (2 : Int32)), .val (.int (17 : Int32))] [] := by first | (simp [entryFrame, mkF, argsToLocals, Value.category]; done) | rfl
def Q13_2 (Z : State)  (h0 : Heap) (n0 : Nat) (v : Option Value) (h : Heap) (L : List Loc) : Prop := v = some (.int (1 : Int32)) ∧ Fr n0 L ∧ h = h0
set_option maxRecDepth 65536 in
set_option maxHeartbeats 40000000 in
theorem rm13_2 (l : Launch) (Z : State) (a0 : Array Value) (hw : ∀ d ∈ tables_1, d.before a0 Z = true) (ws : List Jvm.Cond)  (h0 : Heap) (n0 : Nat) (Z0 : n0 ≤ h0.size) :
    own_Met l (⟨own_cD, "dec", "(II)I"⟩ : MethodName) jdk_21_method_7_code 2 (some .int) ws ({ frames := 0, cells := 0, slots := 0, locals := 0 } : Room) #[(.int (2 : Int32)), (.int (17 : Int32))] Z h0 (Q13_2 Z  h0 n0) := by
  refine own_met (plainFor_of_name pn_1) ?_
  intro p e s m below meth c s₁ Bd hx hby hml hZ hown hnm X0 e0
  have wd : ∀ (i : Nat) (d : Jvm.Cond), tables_1[i]? = some d → d.before a0 Z = true := fun i d q => hw d (List.mem_of_getElem? q)
  have NN := Fr.nil n0
  have KK : Keep h0 h0 [] := Keep.refl h0 _
  refine own_start (ef_13_2 m ) ?_
  refine cs_iinc cG X0 hx (hb hby d13_0) rfl (l' := #[vi (1 : Int32), vi (17 : Int32)]) rfl ?_
  refine cs_iloadN cG X0 hx (hb hby d13_3) rfl ?_
  refine cs_ifYes cG X0 hx (pc' := 11) (hb hby d13_4) ((if0 _ _).trans (flt (by decide : ¬ ((1 : Int32) < (0 : Int32)))).2.1) (by decide) (by decide) ?_
  refine cs_iloadN cG X0 hx (hb hby d13_11) rfl ?_
  show own_Go _ _ _ _ s₁ (mkF m 12 #[vi (1 : Int32), vi (17 : Int32)] [(.int (1 : Int32))])
  obtain ⟨fs, hr, hrun, hended, hW, hsame⟩ := X0.leave (v := some (.int (1 : Int32))) (fun h => by rw [Bd.returns] at h; cases h)
  refine ⟨_, _, ?_, hrun, hended, _, _, rfl, ?_, ⟨_, rfl⟩, hW, hsame.mono (by decide) (by decide)⟩
  · exact retI X0 hx Bd.returns (hb hby d13_12) hr
  · show Q13_2 Z  h0 n0 _ s₁.heap _
    rw [e0]
    exact ⟨rfl, NN, rfl⟩
theorem d22_0 : decode jdk_21_method_9_code 0 = .ok (.iload_n 0, 1) := by decide +kernel
theorem d22_1 : decode jdk_21_method_9_code 1 = .ok (.iload_n 1, 1) := by decide +kernel
theorem d22_2 : decode jdk_21_method_9_code 2 = .ok (.isub, 1) := by decide +kernel
theorem d22_3 : decode jdk_21_method_9_code 3 = .ok (.dup, 1) := by decide +kernel
theorem d22_4 : decode jdk_21_method_9_code 4 = .ok (.istore_n 0, 1) := by decide +kernel
theorem d22_5 : decode jdk_21_method_9_code 5 = .ok (.ifCond .ge 7, 3) := by decide +kernel
theorem d22_12 : decode jdk_21_method_9_code 12 = .ok (.iload_n 0, 1) := by decide +kernel
theorem d22_13 : decode jdk_21_method_9_code 13 = .ok (.ireturn, 1) := by decide +kernel
theorem ef_22_1_0 (m : MethodId)  : entryFrame m #[(.int (1 : Int32)), (.int (0 : Int32)), (.int (17 : Int32))] 3 = mkF m 0 #[.val (.int (1 : Int32)), .val (.int (0 : Int32)), .val (.int (17 : Int32))] [] := by first | (simp [entryFrame, mkF, argsToLocals, Value.category]; done) | rfl
def Q22_1_0 (Z : State)  (h0 : Heap) (n0 : Nat) (v : Option Value) (h : Heap) (L : List Loc) : Prop := v = some (.int (1 : Int32)) ∧ Fr n0 L ∧ h = h0
set_option maxRecDepth 65536 in
set_option maxHeartbeats 40000000 in
theorem rm22_1_0 (l : Launch) (Z : State) (a0 : Array Value) (hw : ∀ d ∈ tables_1, d.before a0 Z = true) (ws : List Jvm.Cond)  (h0 : Heap) (n0 : Nat) (Z0 : n0 ≤ h0.size) :
    own_Met l (⟨own_cD, "sub", "(III)I"⟩ : MethodName) jdk_21_method_9_code 3 (some .int) ws ({ frames := 0, cells := 0, slots := 0, locals := 0 } : Room) #[(.int (1 : Int32)), (.int (0 : Int32)), (.int (17 : Int32))] Z h0 (Q22_1_0 Z  h0 n0) := by
  refine own_met (plainFor_of_name pn_1) ?_
  intro p e s m below meth c s₁ Bd hx hby hml hZ hown hnm X0 e0
  have wd : ∀ (i : Nat) (d : Jvm.Cond), tables_1[i]? = some d → d.before a0 Z = true := fun i d q => hw d (List.mem_of_getElem? q)
  have NN := Fr.nil n0
  have KK : Keep h0 h0 [] := Keep.refl h0 _
  refine own_start (ef_22_1_0 m ) ?_
  refine cs_iloadN cG X0 hx (hb hby d22_0) rfl ?_
  refine cs_iloadN cG X0 hx (hb hby d22_1) rfl ?_
  refine cs_isub cG X0 hx (hb hby d22_2) (z := (1 : Int32)) rfl ?_
  refine cs_dup cG X0 hx (hb hby d22_3) rfl ?_
  refine cs_istoreN cG X0 hx (hb hby d22_4) (l' := #[vi (1 : Int32), vi (0 : Int32), vi (17 : Int32)]) rfl ?_
  refine cs_ifYes cG X0 hx (pc' := 12) (hb hby d22_5) ((if0 _ _).trans (flt (by decide : ¬ ((1 : Int32) < (0 : Int32)))).2.1) (by decide) (by decide) ?_
  refine cs_iloadN cG X0 hx (hb hby d22_12) rfl ?_
  show own_Go _ _ _ _ s₁ (mkF m 13 #[vi (1 : Int32), vi (0 : Int32), vi (17 : Int32)] [(.int (1 : Int32))])
  obtain ⟨fs, hr, hrun, hended, hW, hsame⟩ := X0.leave (v := some (.int (1 : Int32))) (fun h => by rw [Bd.returns] at h; cases h)
  refine ⟨_, _, ?_, hrun, hended, _, _, rfl, ?_, ⟨_, rfl⟩, hW, hsame.mono (by decide) (by decide)⟩
  · exact retI X0 hx Bd.returns (hb hby d22_13) hr
  · show Q22_1_0 Z  h0 n0 _ s₁.heap _
    rw [e0]
    exact ⟨rfl, NN, rfl⟩
theorem ef_22_2_0 (m : MethodId)  : entryFrame m #[(.int (2 : Int32)), (.int (0 : Int32)), (.int (17 : Int32))] 3 = mkF m 0 #[.val (.int (2 : Int32)), .val (.int (0 : Int32)), .val (.int (17 : Int32))] [] := by first | (simp [entryFrame, mkF, argsToLocals, Value.category]; done) | rfl
def Q22_2_0 (Z : State)  (h0 : Heap) (n0 : Nat) (v : Option Value) (h : Heap) (L : List Loc) : Prop := v = some (.int (2 : Int32)) ∧ Fr n0 L ∧ h = h0
set_option maxRecDepth 65536 in
set_option maxHeartbeats 40000000 in
theorem rm22_2_0 (l : Launch) (Z : State) (a0 : Array Value) (hw : ∀ d ∈ tables_1, d.before a0 Z = true) (ws : List Jvm.Cond)  (h0 : Heap) (n0 : Nat) (Z0 : n0 ≤ h0.size) :
    own_Met l (⟨own_cD, "sub", "(III)I"⟩ : MethodName) jdk_21_method_9_code 3 (some .int) ws ({ frames := 0, cells := 0, slots := 0, locals := 0 } : Room) #[(.int (2 : Int32)), (.int (0 : Int32)), (.int (17 : Int32))] Z h0 (Q22_2_0 Z  h0 n0) := by
  refine own_met (plainFor_of_name pn_1) ?_
  intro p e s m below meth c s₁ Bd hx hby hml hZ hown hnm X0 e0
  have wd : ∀ (i : Nat) (d : Jvm.Cond), tables_1[i]? = some d → d.before a0 Z = true := fun i d q => hw d (List.mem_of_getElem? q)
  have NN := Fr.nil n0
  have KK : Keep h0 h0 [] := Keep.refl h0 _
  refine own_start (ef_22_2_0 m ) ?_
  refine cs_iloadN cG X0 hx (hb hby d22_0) rfl ?_
  refine cs_iloadN cG X0 hx (hb hby d22_1) rfl ?_
  refine cs_isub cG X0 hx (hb hby d22_2) (z := (2 : Int32)) rfl ?_
  refine cs_dup cG X0 hx (hb hby d22_3) rfl ?_
  refine cs_istoreN cG X0 hx (hb hby d22_4) (l' := #[vi (2 : Int32), vi (0 : Int32), vi (17 : Int32)]) rfl ?_
  refine cs_ifYes cG X0 hx (pc' := 12) (hb hby d22_5) ((if0 _ _).trans (flt (by decide : ¬ ((2 : Int32) < (0 : Int32)))).2.1) (by decide) (by decide) ?_
  refine cs_iloadN cG X0 hx (hb hby d22_12) rfl ?_
  show own_Go _ _ _ _ s₁ (mkF m 13 #[vi (2 : Int32), vi (0 : Int32), vi (17 : Int32)] [(.int (2 : Int32))])
  obtain ⟨fs, hr, hrun, hended, hW, hsame⟩ := X0.leave (v := some (.int (2 : Int32))) (fun h => by rw [Bd.returns] at h; cases h)
  refine ⟨_, _, ?_, hrun, hended, _, _, rfl, ?_, ⟨_, rfl⟩, hW, hsame.mono (by decide) (by decide)⟩
  · exact retI X0 hx Bd.returns (hb hby d22_13) hr
  · show Q22_2_0 Z  h0 n0 _ s₁.heap _
    rw [e0]
    exact ⟨rfl, NN, rfl⟩
theorem ef_22_2_1 (m : MethodId)  : entryFrame m #[(.int (2 : Int32)), (.int (1 : Int32)), (.int (17 : Int32))] 3 = mkF m 0 #[.val (.int (2 : Int32)), .val (.int (1 : Int32)), .val (.int (17 : Int32))] [] := by first | (simp [entryFrame, mkF, argsToLocals, Value.category]; done) | rfl
def Q22_2_1 (Z : State)  (h0 : Heap) (n0 : Nat) (v : Option Value) (h : Heap) (L : List Loc) : Prop := v = some (.int (1 : Int32)) ∧ Fr n0 L ∧ h = h0
set_option maxRecDepth 65536 in
set_option maxHeartbeats 40000000 in
theorem rm22_2_1 (l : Launch) (Z : State) (a0 : Array Value) (hw : ∀ d ∈ tables_1, d.before a0 Z = true) (ws : List Jvm.Cond)  (h0 : Heap) (n0 : Nat) (Z0 : n0 ≤ h0.size) :
    own_Met l (⟨own_cD, "sub", "(III)I"⟩ : MethodName) jdk_21_method_9_code 3 (some .int) ws ({ frames := 0, cells := 0, slots := 0, locals := 0 } : Room) #[(.int (2 : Int32)), (.int (1 : Int32)), (.int (17 : Int32))] Z h0 (Q22_2_1 Z  h0 n0) := by
  refine own_met (plainFor_of_name pn_1) ?_
  intro p e s m below meth c s₁ Bd hx hby hml hZ hown hnm X0 e0
  have wd : ∀ (i : Nat) (d : Jvm.Cond), tables_1[i]? = some d → d.before a0 Z = true := fun i d q => hw d (List.mem_of_getElem? q)
  have NN := Fr.nil n0
  have KK : Keep h0 h0 [] := Keep.refl h0 _
  refine own_start (ef_22_2_1 m ) ?_
  refine cs_iloadN cG X0 hx (hb hby d22_0) rfl ?_
  refine cs_iloadN cG X0 hx (hb hby d22_1) rfl ?_
  refine cs_isub cG X0 hx (hb hby d22_2) (z := (1 : Int32)) rfl ?_
  refine cs_dup cG X0 hx (hb hby d22_3) rfl ?_
  refine cs_istoreN cG X0 hx (hb hby d22_4) (l' := #[vi (1 : Int32), vi (1 : Int32), vi (17 : Int32)]) rfl ?_
  refine cs_ifYes cG X0 hx (pc' := 12) (hb hby d22_5) ((if0 _ _).trans (flt (by decide : ¬ ((1 : Int32) < (0 : Int32)))).2.1) (by decide) (by decide) ?_
  refine cs_iloadN cG X0 hx (hb hby d22_12) rfl ?_
  show own_Go _ _ _ _ s₁ (mkF m 13 #[vi (1 : Int32), vi (1 : Int32), vi (17 : Int32)] [(.int (1 : Int32))])
  obtain ⟨fs, hr, hrun, hended, hW, hsame⟩ := X0.leave (v := some (.int (1 : Int32))) (fun h => by rw [Bd.returns] at h; cases h)
  refine ⟨_, _, ?_, hrun, hended, _, _, rfl, ?_, ⟨_, rfl⟩, hW, hsame.mono (by decide) (by decide)⟩
  · exact retI X0 hx Bd.returns (hb hby d22_13) hr
  · show Q22_2_1 Z  h0 n0 _ s₁.heap _
    rw [e0]
    exact ⟨rfl, NN, rfl⟩
theorem ef_22_3_2 (m : MethodId)  : entryFrame m #[(.int (3 : Int32)), (.int (2 : Int32)), (.int (17 : Int32))] 3 = mkF m 0 #[.val (.int (3 : Int32)), .val (.int (2 : Int32)), .val (.int (17 : Int32))] [] := by first | (simp [entryFrame, mkF, argsToLocals, Value.category]; done) | rfl
def Q22_3_2 (Z : State)  (h0 : Heap) (n0 : Nat) (v : Option Value) (h : Heap) (L : List Loc) : Prop := v = some (.int (1 : Int32)) ∧ Fr n0 L ∧ h = h0
set_option maxRecDepth 65536 in
set_option maxHeartbeats 40000000 in
theorem rm22_3_2 (l : Launch) (Z : State) (a0 : Array Value) (hw : ∀ d ∈ tables_1, d.before a0 Z = true) (ws : List Jvm.Cond)  (h0 : Heap) (n0 : Nat) (Z0 : n0 ≤ h0.size) :
    own_Met l (⟨own_cD, "sub", "(III)I"⟩ : MethodName) jdk_21_method_9_code 3 (some .int) ws ({ frames := 0, cells := 0, slots := 0, locals := 0 } : Room) #[(.int (3 : Int32)), (.int (2 : Int32)), (.int (17 : Int32))] Z h0 (Q22_3_2 Z  h0 n0) := by
  refine own_met (plainFor_of_name pn_1) ?_
  intro p e s m below meth c s₁ Bd hx hby hml hZ hown hnm X0 e0
  have wd : ∀ (i : Nat) (d : Jvm.Cond), tables_1[i]? = some d → d.before a0 Z = true := fun i d q => hw d (List.mem_of_getElem? q)
  have NN := Fr.nil n0
  have KK : Keep h0 h0 [] := Keep.refl h0 _
  refine own_start (ef_22_3_2 m ) ?_
  refine cs_iloadN cG X0 hx (hb hby d22_0) rfl ?_
  refine cs_iloadN cG X0 hx (hb hby d22_1) rfl ?_
  refine cs_isub cG X0 hx (hb hby d22_2) (z := (1 : Int32)) rfl ?_
  refine cs_dup cG X0 hx (hb hby d22_3) rfl ?_
  refine cs_istoreN cG X0 hx (hb hby d22_4) (l' := #[vi (1 : Int32), vi (2 : Int32), vi (17 : Int32)]) rfl ?_
  refine cs_ifYes cG X0 hx (pc' := 12) (hb hby d22_5) ((if0 _ _).trans (flt (by decide : ¬ ((1 : Int32) < (0 : Int32)))).2.1) (by decide) (by decide) ?_
  refine cs_iloadN cG X0 hx (hb hby d22_12) rfl ?_
  show own_Go _ _ _ _ s₁ (mkF m 13 #[vi (1 : Int32), vi (2 : Int32), vi (17 : Int32)] [(.int (1 : Int32))])
  obtain ⟨fs, hr, hrun, hended, hW, hsame⟩ := X0.leave (v := some (.int (1 : Int32))) (fun h => by rw [Bd.returns] at h; cases h)
  refine ⟨_, _, ?_, hrun, hended, _, _, rfl, ?_, ⟨_, rfl⟩, hW, hsame.mono (by decide) (by decide)⟩
  · exact retI X0 hx Bd.returns (hb hby d22_13) hr
  · show Q22_3_2 Z  h0 n0 _ s₁.heap _
    rw [e0]
    exact ⟨rfl, NN, rfl⟩
theorem d10_0 : decode jdk_29_method_70_code 0 = .ok (.lload_n 0, 1) := by decide +kernel
theorem d10_1 : decode jdk_29_method_70_code 1 = .ok (.lload_n 2, 1) := by decide +kernel
theorem d10_2 : decode jdk_29_method_70_code 2 = .ok (.lcmp, 1) := by decide +kernel
theorem d10_3 : decode jdk_29_method_70_code 3 = .ok (.ifCond .gt 7, 3) := by decide +kernel
theorem d10_6 : decode jdk_29_method_70_code 6 = .ok (.lload_n 0, 1) := by decide +kernel
theorem d10_7 : decode jdk_29_method_70_code 7 = .ok (.goto 4, 3) := by decide +kernel
theorem d10_10 : decode jdk_29_method_70_code 10 = .ok (.lload_n 2, 1) := by decide +kernel
theorem d10_11 : decode jdk_29_method_70_code 11 = .ok (.lreturn, 1) := by decide +kernel
theorem ef_10 (m : MethodId) (q1 : Int64) (q2 : Int64) : entryFrame m #[(.long q1), (.long q2)] 4 = mkF m 0 #[.val (.long q1), .second, .val (.long q2), .second] [] := by first | (simp [entryFrame, mkF, argsToLocals, Value.category]; done) | rfl
def r_10 (q1 : Int64) (q2 : Int64) : Int64 := ((if q2 < q1 then q2 else q1))
def Q10 (Z : State) (q1 : Int64) (q2 : Int64) (h0 : Heap) (n0 : Nat) (v : Option Value) (h : Heap) (L : List Loc) : Prop := v = some (.long (r_10 q1 q2)) ∧ Fr n0 L ∧ h = h0
set_option maxRecDepth 65536 in
set_option maxHeartbeats 40000000 in
theorem rm10 (l : Launch) (Z : State) (a0 : Array Value) (hw : ∀ d ∈ tables_1, d.before a0 Z = true) (ws : List Jvm.Cond) (q1 : Int64) (q2 : Int64) (h0 : Heap) (n0 : Nat) (Z0 : n0 ≤ h0.size) :
    own_Met l (⟨"java/lang/Math", "min", "(JJ)J"⟩ : MethodName) jdk_29_method_70_code 4 (some .long) ws ({ frames := 0, cells := 0, slots := 0, locals := 0 } : Room) #[(.long q1), (.long q2)] Z h0 (Q10 Z q1 q2 h0 n0) := by
  refine own_met (Jvm.Free.JP.mathPlain rfl (by decide +kernel)) ?_
  intro p e s m below meth c s₁ Bd hx hby hml hZ hown hnm X0 e0
  have wd : ∀ (i : Nat) (d : Jvm.Cond), tables_1[i]? = some d → d.before a0 Z = true := fun i d q => hw d (List.mem_of_getElem? q)
  have NN := Fr.nil n0
  have KK : Keep h0 h0 [] := Keep.refl h0 _
  refine own_start (ef_10 m q1 q2) ?_
  refine cs_lloadN cG X0 hx (hb hby d10_0) rfl ?_
  refine cs_lloadN cG X0 hx (hb hby d10_1) rfl ?_
  refine cs_lcmp cG X0 hx (hb hby d10_2) ?_
  show own_Go _ _ _ _ s₁ (mkF m 3 #[vj q1, .second, vj q2, .second] [(.int (lcmpW q1 q2))])
  obtain ⟨j1, hj1, st2⟩ : ∃ (j1 : Int64), j1 = (if q2 < q1 then q2 else q1) ∧ ∀ t, Steps p.tables e below (s₁.setTop (mkF m 11 #[vj q1, .second, vj q2, .second] [(.long j1)])) t → Steps p.tables e below (s₁.setTop (mkF m 3 #[vj q1, .second, vj q2, .second] [(.int (lcmpW q1 q2))])) t := by
    by_cases hc3_1 : q2 < q1
    · skip
      refine ⟨q2, (by simp only [if_pos hc3_1]), fun t k => ?_⟩
      show Steps _ _ _ (s₁.setTop (mkF m 3 #[vj q1, .second, vj q2, .second] [(.int (lcmpW q1 q2))])) _
      refine XS.ifYes X0.here hx rfl (pc0 := 3) (pc' := 10) rfl (hb hby d10_3) rfl ((if0 _ _).trans (tlt ((lw_gt q1 q2).mpr hc3_1)).2.2.1) (by decide) (by decide) ?_
      show Steps _ _ _ (s₁.setTop (mkF m 10 #[vj q1, .second, vj q2, .second] [])) _
      refine XS.lloadN X0.here hx rfl (hb hby d10_10) rfl ?_
      exact k
    · skip
      refine ⟨q1, (by simp only [if_neg hc3_1]), fun t k => ?_⟩
      show Steps _ _ _ (s₁.setTop (mkF m 3 #[vj q1, .second, vj q2, .second] [(.int (lcmpW q1 q2))])) _
      refine XS.ifNo X0.here hx rfl (hb hby d10_3) rfl ((if0 _ _).trans (flt (fun q => hc3_1 ((lw_gt q1 q2).mp q))).2.2.1) ?_
      show Steps _ _ _ (s₁.setTop (mkF m 6 #[vj q1, .second, vj q2, .second] [])) _
      refine XS.lloadN X0.here hx rfl (hb hby d10_6) rfl ?_
      show Steps _ _ _ (s₁.setTop (mkF m 7 #[vj q1, .second, vj q2, .second] [(.long q1)])) _
      refine XS.goto X0.here hx rfl (pc0 := 7) (pc' := 11) rfl (hb hby d10_7) (by decide) (by decide) ?_
      exact k
  refine own_go st2 ?_
  show own_Go _ _ _ _ s₁ (mkF m 11 #[vj q1, .second, vj q2, .second] [(.long j1)])
  obtain ⟨fs, hr, hrun, hended, hW, hsame⟩ := X0.leave (v := some (.long j1)) (fun h => by rw [Bd.returns] at h; cases h)
  refine ⟨_, _, ?_, hrun, hended, _, _, rfl, ?_, ⟨_, rfl⟩, hW, hsame.mono (by decide) (by decide)⟩
  · exact own_retJ X0 hx Bd.returns (hb hby d10_11) hr
  · show Q10 Z q1 q2 h0 n0 _ s₁.heap _
    rw [e0]
    exact ⟨(by first | (simp only [hj1, r_10]; done) | (subst hj1; first | (simp only [r_10]; done) | rfl)), NN, rfl⟩
theorem d18_0 : decode jdk_29_method_50_code 0 = .ok (.iload_n 0, 1) := by decide +kernel
theorem d18_1 : decode jdk_29_method_50_code 1 = .ok (.iload_n 1, 1) := by decide +kernel
theorem d18_2 : decode jdk_29_method_50_code 2 = .ok (.irem, 1) := by decide +kernel
theorem d18_3 : decode jdk_29_method_50_code 3 = .ok (.istore_n 2, 1) := by decide +kernel
theorem d18_4 : decode jdk_29_method_50_code 4 = .ok (.iload_n 0, 1) := by decide +kernel
theorem d18_5 : decode jdk_29_method_50_code 5 = .ok (.iload_n 1, 1) := by decide +kernel
theorem d18_6 : decode jdk_29_method_50_code 6 = .ok (.ixor, 1) := by decide +kernel
theorem d18_7 : decode jdk_29_method_50_code 7 = .ok (.ifCond .ge 11, 3) := by decide +kernel
theorem d18_10 : decode jdk_29_method_50_code 10 = .ok (.iload_n 2, 1) := by decide +kernel
theorem d18_11 : decode jdk_29_method_50_code 11 = .ok (.ifCond .eq 7, 3) := by decide +kernel
theorem d18_14 : decode jdk_29_method_50_code 14 = .ok (.iload_n 2, 1) := by decide +kernel
theorem d18_15 : decode jdk_29_method_50_code 15 = .ok (.iload_n 1, 1) := by decide +kernel
theorem d18_16 : decode jdk_29_method_50_code 16 = .ok (.iadd, 1) := by decide +kernel
theorem d18_17 : decode jdk_29_method_50_code 17 = .ok (.ireturn, 1) := by decide +kernel
theorem d18_18 : decode jdk_29_method_50_code 18 = .ok (.iload_n 2, 1) := by decide +kernel
theorem d18_19 : decode jdk_29_method_50_code 19 = .ok (.ireturn, 1) := by decide +kernel
theorem ef_18 (m : MethodId) (p1 : Int32) (p2 : Int32) : entryFrame m #[(.int p1), (.int p2)] 3 = mkF m 0 #[.val (.int p1), .val (.int p2), .unset] [] := by first | (simp [entryFrame, mkF, argsToLocals, Value.category]; done) | rfl
def r_18 (p1 : Int32) (p2 : Int32) : Int32 := (if (p1 ^^^ p2) < (0 : Int32) then (if (p1 % p2) = (0 : Int32) then (p1 % p2) else ((p1 % p2) + p2)) else (p1 % p2))
def Q18 (Z : State) (p1 : Int32) (p2 : Int32) (h0 : Heap) (n0 : Nat) (v : Option Value) (h : Heap) (L : List Loc) : Prop := v = some (.int (r_18 p1 p2)) ∧ Fr n0 L ∧ h = h0
set_option maxRecDepth 65536 in
set_option maxHeartbeats 40000000 in
theorem rm18 (l : Launch) (Z : State) (a0 : Array Value) (hw : ∀ d ∈ tables_1, d.before a0 Z = true) (ws : List Jvm.Cond) (p1 : Int32) (p2 : Int32) (h0 : Heap) (n0 : Nat) (Z0 : n0 ≤ h0.size) (hnz2 : ¬ (p2 = (0 : Int32))) :
    own_Met l (⟨"java/lang/Math", "floorMod", "(II)I"⟩ : MethodName) jdk_29_method_50_code 3 (some .int) ws ({ frames := 0, cells := 0, slots := 0, locals := 0 } : Room) #[(.int p1), (.int p2)] Z h0 (Q18 Z p1 p2 h0 n0) := by
  refine own_met (Jvm.Free.JP.mathPlain rfl (by decide +kernel)) ?_
  intro p e s m below meth c s₁ Bd hx hby hml hZ hown hnm X0 e0
  have wd : ∀ (i : Nat) (d : Jvm.Cond), tables_1[i]? = some d → d.before a0 Z = true := fun i d q => hw d (List.mem_of_getElem? q)
  have NN := Fr.nil n0
  have KK : Keep h0 h0 [] := Keep.refl h0 _
  refine own_start (ef_18 m p1 p2) ?_
  refine cs_iloadN cG X0 hx (hb hby d18_0) rfl ?_
  refine cs_iloadN cG X0 hx (hb hby d18_1) rfl ?_
  refine cs_irem cG X0 hx (hb hby d18_2) rfl hnz2 ?_
  refine cs_istoreN cG X0 hx (hb hby d18_3) (l' := #[vi p1, vi p2, vi (p1 % p2)]) rfl ?_
  refine cs_iloadN cG X0 hx (hb hby d18_4) rfl ?_
  refine cs_iloadN cG X0 hx (hb hby d18_5) rfl ?_
  refine cs_ixor cG X0 hx (hb hby d18_6) rfl ?_
  by_cases hc7_1 : (p1 ^^^ p2) < (0 : Int32)
  · skip
    refine cs_ifNo cG X0 hx (hb hby d18_7) ((if0 _ _).trans (tlt hc7_1).2.1) ?_
    refine cs_iloadN cG X0 hx (hb hby d18_10) rfl ?_
    by_cases hc11_2 : (p1 % p2) = (0 : Int32)
    · skip
      refine cs_ifYes cG X0 hx (pc' := 18) (hb hby d18_11) ((if0 _ _).trans (teq hc11_2).1) (by decide) (by decide) ?_
      refine cs_iloadN cG X0 hx (hb hby d18_18) rfl ?_
      show own_Go _ _ _ _ s₁ (mkF m 19 #[vi p1, vi p2, vi (p1 % p2)] [(.int (p1 % p2))])
      obtain ⟨fs, hr, hrun, hended, hW, hsame⟩ := X0.leave (v := some (.int (p1 % p2))) (fun h => by rw [Bd.returns] at h; cases h)
      refine ⟨_, _, ?_, hrun, hended, _, _, rfl, ?_, ⟨_, rfl⟩, hW, hsame.mono (by decide) (by decide)⟩
      · exact retI X0 hx Bd.returns (hb hby d18_19) hr
      · show Q18 Z p1 p2 h0 n0 _ s₁.heap _
        rw [e0]
        exact ⟨(by simp only [r_18, if_pos hc7_1, if_pos hc11_2]), NN, rfl⟩
    · skip
      refine cs_ifNo cG X0 hx (hb hby d18_11) ((if0 _ _).trans (feq hc11_2).1) ?_
      refine cs_iloadN cG X0 hx (hb hby d18_14) rfl ?_
      refine cs_iloadN cG X0 hx (hb hby d18_15) rfl ?_
      refine cs_iadd cG X0 hx (hb hby d18_16) rfl ?_
      show own_Go _ _ _ _ s₁ (mkF m 17 #[vi p1, vi p2, vi (p1 % p2)] [(.int ((p1 % p2) + p2))])
      obtain ⟨fs, hr, hrun, hended, hW, hsame⟩ := X0.leave (v := some (.int ((p1 % p2) + p2))) (fun h => by rw [Bd.returns] at h; cases h)
      refine ⟨_, _, ?_, hrun, hended, _, _, rfl, ?_, ⟨_, rfl⟩, hW, hsame.mono (by decide) (by decide)⟩
      · exact retI X0 hx Bd.returns (hb hby d18_17) hr
      · show Q18 Z p1 p2 h0 n0 _ s₁.heap _
        rw [e0]
        exact ⟨(by simp only [r_18, if_pos hc7_1, if_neg hc11_2]), NN, rfl⟩
  · skip
    refine cs_ifYes cG X0 hx (pc' := 18) (hb hby d18_7) ((if0 _ _).trans (flt hc7_1).2.1) (by decide) (by decide) ?_
    refine cs_iloadN cG X0 hx (hb hby d18_18) rfl ?_
    show own_Go _ _ _ _ s₁ (mkF m 19 #[vi p1, vi p2, vi (p1 % p2)] [(.int (p1 % p2))])
    obtain ⟨fs, hr, hrun, hended, hW, hsame⟩ := X0.leave (v := some (.int (p1 % p2))) (fun h => by rw [Bd.returns] at h; cases h)
    refine ⟨_, _, ?_, hrun, hended, _, _, rfl, ?_, ⟨_, rfl⟩, hW, hsame.mono (by decide) (by decide)⟩
    · exact retI X0 hx Bd.returns (hb hby d18_19) hr
    · show Q18 Z p1 p2 h0 n0 _ s₁.heap _
      rw [e0]
      exact ⟨(by simp only [r_18, if_neg hc7_1]), NN, rfl⟩
theorem d7_0 : decode jdk_21_method_38_code 0 = .ok (.aload_n 0, 1) := by decide +kernel
theorem d7_1 : decode jdk_21_method_38_code 1 = .ok (.getfield 24, 3) := by decide +kernel
theorem d7_4 : decode jdk_21_method_38_code 4 = .ok (.aload_n 0, 1) := by decide +kernel
theorem d7_5 : decode jdk_21_method_38_code 5 = .ok (.getfield 20, 3) := by decide +kernel
theorem d7_8 : decode jdk_21_method_38_code 8 = .ok (.if_icmp .ne 7, 3) := by decide +kernel
theorem d7_11 : decode jdk_21_method_38_code 11 = .ok (.iconst 1, 1) := by decide +kernel
theorem d7_12 : decode jdk_21_method_38_code 12 = .ok (.goto 4, 3) := by decide +kernel
theorem d7_16 : decode jdk_21_method_38_code 16 = .ok (.ireturn, 1) := by decide +kernel
theorem ef_7_0_0 (m : MethodId) (a1 : Addr) : entryFrame m #[(.ref a1)] 1 = mkF m 0 #[.val (.ref a1)] [] := by first | (simp [entryFrame, mkF, argsToLocals, Value.category]; done) | rfl
def Q7_0_0 (Z : State) (a1 : Addr) (h0 : Heap) (n0 : Nat) (v : Option Value) (h : Heap) (L : List Loc) : Prop := v = some (.int (1 : Int32)) ∧ Fr n0 L ∧ h = h0
set_option maxRecDepth 65536 in
set_option maxHeartbeats 40000000 in
theorem rm7_0_0 (l : Launch) (Z : State) (a0 : Array Value) (hw : ∀ d ∈ tables_1, d.before a0 Z = true) (ws : List Jvm.Cond) (a1 : Addr) (h0 : Heap) (n0 : Nat) (Z0 : n0 ≤ h0.size) (F_a1_head : Fld Z h0 a1 own_cD "head" "I" (.int (0 : Int32))) (F_a1_tail : Fld Z h0 a1 own_cD "tail" "I" (.int (0 : Int32))) :
    own_Met l (⟨own_cD, "isEmpty", "()Z"⟩ : MethodName) jdk_21_method_38_code 1 (some .boolean) ws ({ frames := 0, cells := 0, slots := 0, locals := 0 } : Room) #[(.ref a1)] Z h0 (Q7_0_0 Z a1 h0 n0) := by
  refine own_met (plainFor_of_name pn_1) ?_
  intro p e s m below meth c s₁ Bd hx hby hml hZ hown hnm X0 e0
  have wd : ∀ (i : Nat) (d : Jvm.Cond), tables_1[i]? = some d → d.before a0 Z = true := fun i d q => hw d (List.mem_of_getElem? q)
  have NN := Fr.nil n0
  have KK : Keep h0 h0 [] := Keep.refl h0 _
  refine own_start (ef_7_0_0 m a1) ?_
  refine cs_aloadN cG X0 hx (hb hby d7_0) rfl rfl ?_
  refine cs_get cG X0 hx hZ hown (wd 49 _ rfl) e0 F_a1_head (hb hby d7_1) ?_
  intro T1 X1 e1
  refine cs_aloadN cG X1 hx (hb hby d7_4) rfl rfl ?_
  refine cs_get cG X1 hx hZ hown (wd 51 _ rfl) e1 F_a1_tail (hb hby d7_5) ?_
  intro T2 X2 e2
  refine cs_icmpNo cG X2 hx (hb hby d7_8) (teq (rfl : (0 : Int32) = (0 : Int32))).2 ?_
  refine cs_iconst cG X2 hx (hb hby d7_11) (z := (1 : Int32)) rfl ?_
  refine cs_goto cG X2 hx (pc' := 16) (hb hby d7_12) (by decide) (by decide) ?_
  show own_Go _ _ _ _ T2 (mkF m 16 #[vr a1] [(.int (1 : Int32))])
  obtain ⟨fs, hr, hrun, hended, hW, hsame⟩ := X2.leave (v := some (.int (1 : Int32))) (fun h => by rw [Bd.returns] at h; cases h)
  refine ⟨_, _, ?_, hrun, hended, _, _, rfl, ?_, ⟨_, rfl⟩, hW, hsame.mono (by decide) (by decide)⟩
  · exact retN X2 hx (t := .boolean) Bd.returns (by simp) (hb hby d7_16) hr
  · show Q7_0_0 Z a1 h0 n0 _ T2.heap _
    rw [e2]
    exact ⟨rfl, NN, rfl⟩
theorem d7_15 : decode jdk_21_method_38_code 15 = .ok (.iconst 0, 1) := by decide +kernel
theorem ef_7_0_1 (m : MethodId) (a1 : Addr) : entryFrame m #[(.ref a1)] 1 = mkF m 0 #[.val (.ref a1)] [] := by first | (simp [entryFrame, mkF, argsToLocals, Value.category]; done) | rfl
def Q7_0_1 (Z : State) (a1 : Addr) (h0 : Heap) (n0 : Nat) (v : Option Value) (h : Heap) (L : List Loc) : Prop := v = some (.int (0 : Int32)) ∧ Fr n0 L ∧ h = h0
set_option maxRecDepth 65536 in
set_option maxHeartbeats 40000000 in
theorem rm7_0_1 (l : Launch) (Z : State) (a0 : Array Value) (hw : ∀ d ∈ tables_1, d.before a0 Z = true) (ws : List Jvm.Cond) (a1 : Addr) (h0 : Heap) (n0 : Nat) (Z0 : n0 ≤ h0.size) (F_a1_head : Fld Z h0 a1 own_cD "head" "I" (.int (0 : Int32))) (F_a1_tail : Fld Z h0 a1 own_cD "tail" "I" (.int (1 : Int32))) :
    own_Met l (⟨own_cD, "isEmpty", "()Z"⟩ : MethodName) jdk_21_method_38_code 1 (some .boolean) ws ({ frames := 0, cells := 0, slots := 0, locals := 0 } : Room) #[(.ref a1)] Z h0 (Q7_0_1 Z a1 h0 n0) := by
  refine own_met (plainFor_of_name pn_1) ?_
  intro p e s m below meth c s₁ Bd hx hby hml hZ hown hnm X0 e0
  have wd : ∀ (i : Nat) (d : Jvm.Cond), tables_1[i]? = some d → d.before a0 Z = true := fun i d q => hw d (List.mem_of_getElem? q)
  have NN := Fr.nil n0
  have KK : Keep h0 h0 [] := Keep.refl h0 _
  refine own_start (ef_7_0_1 m a1) ?_
  refine cs_aloadN cG X0 hx (hb hby d7_0) rfl rfl ?_
  refine cs_get cG X0 hx hZ hown (wd 49 _ rfl) e0 F_a1_head (hb hby d7_1) ?_
  intro T1 X1 e1
  refine cs_aloadN cG X1 hx (hb hby d7_4) rfl rfl ?_
  refine cs_get cG X1 hx hZ hown (wd 51 _ rfl) e1 F_a1_tail (hb hby d7_5) ?_
  intro T2 X2 e2
  refine cs_icmpYes cG X2 hx (pc' := 15) (hb hby d7_8) (feq (by decide : ¬ ((0 : Int32) = (1 : Int32)))).2 (by decide) (by decide) ?_
  refine cs_iconst cG X2 hx (hb hby d7_15) (z := (0 : Int32)) rfl ?_
  show own_Go _ _ _ _ T2 (mkF m 16 #[vr a1] [(.int (0 : Int32))])
  obtain ⟨fs, hr, hrun, hended, hW, hsame⟩ := X2.leave (v := some (.int (0 : Int32))) (fun h => by rw [Bd.returns] at h; cases h)
  refine ⟨_, _, ?_, hrun, hended, _, _, rfl, ?_, ⟨_, rfl⟩, hW, hsame.mono (by decide) (by decide)⟩
  · exact retN X2 hx (t := .boolean) Bd.returns (by simp) (hb hby d7_16) hr
  · show Q7_0_1 Z a1 h0 n0 _ T2.heap _
    rw [e2]
    exact ⟨rfl, NN, rfl⟩
theorem ef_7_1_1 (m : MethodId) (a1 : Addr) : entryFrame m #[(.ref a1)] 1 = mkF m 0 #[.val (.ref a1)] [] := by first | (simp [entryFrame, mkF, argsToLocals, Value.category]; done) | rfl
def Q7_1_1 (Z : State) (a1 : Addr) (h0 : Heap) (n0 : Nat) (v : Option Value) (h : Heap) (L : List Loc) : Prop := v = some (.int (1 : Int32)) ∧ Fr n0 L ∧ h = h0
set_option maxRecDepth 65536 in
set_option maxHeartbeats 40000000 in
theorem rm7_1_1 (l : Launch) (Z : State) (a0 : Array Value) (hw : ∀ d ∈ tables_1, d.before a0 Z = true) (ws : List Jvm.Cond) (a1 : Addr) (h0 : Heap) (n0 : Nat) (Z0 : n0 ≤ h0.size) (F_a1_head : Fld Z h0 a1 own_cD "head" "I" (.int (1 : Int32))) (F_a1_tail : Fld Z h0 a1 own_cD "tail" "I" (.int (1 : Int32))) :
    own_Met l (⟨own_cD, "isEmpty", "()Z"⟩ : MethodName) jdk_21_method_38_code 1 (some .boolean) ws ({ frames := 0, cells := 0, slots := 0, locals := 0 } : Room) #[(.ref a1)] Z h0 (Q7_1_1 Z a1 h0 n0) := by
  refine own_met (plainFor_of_name pn_1) ?_
  intro p e s m below meth c s₁ Bd hx hby hml hZ hown hnm X0 e0
  have wd : ∀ (i : Nat) (d : Jvm.Cond), tables_1[i]? = some d → d.before a0 Z = true := fun i d q => hw d (List.mem_of_getElem? q)
  have NN := Fr.nil n0
  have KK : Keep h0 h0 [] := Keep.refl h0 _
  refine own_start (ef_7_1_1 m a1) ?_
  refine cs_aloadN cG X0 hx (hb hby d7_0) rfl rfl ?_
  refine cs_get cG X0 hx hZ hown (wd 49 _ rfl) e0 F_a1_head (hb hby d7_1) ?_
  intro T1 X1 e1
  refine cs_aloadN cG X1 hx (hb hby d7_4) rfl rfl ?_
  refine cs_get cG X1 hx hZ hown (wd 51 _ rfl) e1 F_a1_tail (hb hby d7_5) ?_
  intro T2 X2 e2
  refine cs_icmpNo cG X2 hx (hb hby d7_8) (teq (rfl : (1 : Int32) = (1 : Int32))).2 ?_
  refine cs_iconst cG X2 hx (hb hby d7_11) (z := (1 : Int32)) rfl ?_
  refine cs_goto cG X2 hx (pc' := 16) (hb hby d7_12) (by decide) (by decide) ?_
  show own_Go _ _ _ _ T2 (mkF m 16 #[vr a1] [(.int (1 : Int32))])
  obtain ⟨fs, hr, hrun, hended, hW, hsame⟩ := X2.leave (v := some (.int (1 : Int32))) (fun h => by rw [Bd.returns] at h; cases h)
  refine ⟨_, _, ?_, hrun, hended, _, _, rfl, ?_, ⟨_, rfl⟩, hW, hsame.mono (by decide) (by decide)⟩
  · exact retN X2 hx (t := .boolean) Bd.returns (by simp) (hb hby d7_16) hr
  · show Q7_1_1 Z a1 h0 n0 _ T2.heap _
    rw [e2]
    exact ⟨rfl, NN, rfl⟩
theorem ef_7_0_2 (m : MethodId) (a1 : Addr) : entryFrame m #[(.ref a1)] 1 = mkF m 0 #[.val (.ref a1)] [] := by first | (simp [entryFrame, mkF, argsToLocals, Value.category]; done) | rfl
def Q7_0_2 (Z : State) (a1 : Addr) (h0 : Heap) (n0 : Nat) (v : Option Value) (h : Heap) (L : List Loc) : Prop := v = some (.int (0 : Int32)) ∧ Fr n0 L ∧ h = h0
set_option maxRecDepth 65536 in
set_option maxHeartbeats 40000000 in
theorem rm7_0_2 (l : Launch) (Z : State) (a0 : Array Value) (hw : ∀ d ∈ tables_1, d.before a0 Z = true) (ws : List Jvm.Cond) (a1 : Addr) (h0 : Heap) (n0 : Nat) (Z0 : n0 ≤ h0.size) (F_a1_head : Fld Z h0 a1 own_cD "head" "I" (.int (0 : Int32))) (F_a1_tail : Fld Z h0 a1 own_cD "tail" "I" (.int (2 : Int32))) :
    own_Met l (⟨own_cD, "isEmpty", "()Z"⟩ : MethodName) jdk_21_method_38_code 1 (some .boolean) ws ({ frames := 0, cells := 0, slots := 0, locals := 0 } : Room) #[(.ref a1)] Z h0 (Q7_0_2 Z a1 h0 n0) := by
  refine own_met (plainFor_of_name pn_1) ?_
  intro p e s m below meth c s₁ Bd hx hby hml hZ hown hnm X0 e0
  have wd : ∀ (i : Nat) (d : Jvm.Cond), tables_1[i]? = some d → d.before a0 Z = true := fun i d q => hw d (List.mem_of_getElem? q)
  have NN := Fr.nil n0
  have KK : Keep h0 h0 [] := Keep.refl h0 _
  refine own_start (ef_7_0_2 m a1) ?_
  refine cs_aloadN cG X0 hx (hb hby d7_0) rfl rfl ?_
  refine cs_get cG X0 hx hZ hown (wd 49 _ rfl) e0 F_a1_head (hb hby d7_1) ?_
  intro T1 X1 e1
  refine cs_aloadN cG X1 hx (hb hby d7_4) rfl rfl ?_
  refine cs_get cG X1 hx hZ hown (wd 51 _ rfl) e1 F_a1_tail (hb hby d7_5) ?_
  intro T2 X2 e2
  refine cs_icmpYes cG X2 hx (pc' := 15) (hb hby d7_8) (feq (by decide : ¬ ((0 : Int32) = (2 : Int32)))).2 (by decide) (by decide) ?_
  refine cs_iconst cG X2 hx (hb hby d7_15) (z := (0 : Int32)) rfl ?_
  show own_Go _ _ _ _ T2 (mkF m 16 #[vr a1] [(.int (0 : Int32))])
  obtain ⟨fs, hr, hrun, hended, hW, hsame⟩ := X2.leave (v := some (.int (0 : Int32))) (fun h => by rw [Bd.returns] at h; cases h)
  refine ⟨_, _, ?_, hrun, hended, _, _, rfl, ?_, ⟨_, rfl⟩, hW, hsame.mono (by decide) (by decide)⟩
  · exact retN X2 hx (t := .boolean) Bd.returns (by simp) (hb hby d7_16) hr
  · show Q7_0_2 Z a1 h0 n0 _ T2.heap _
    rw [e2]
    exact ⟨rfl, NN, rfl⟩
theorem ef_7_1_2 (m : MethodId) (a1 : Addr) : entryFrame m #[(.ref a1)] 1 = mkF m 0 #[.val (.ref a1)] [] := by first | (simp [entryFrame, mkF, argsToLocals, Value.category]; done) | rfl
def Q7_1_2 (Z : State) (a1 : Addr) (h0 : Heap) (n0 : Nat) (v : Option Value) (h : Heap) (L : List Loc) : Prop := v = some (.int (0 : Int32)) ∧ Fr n0 L ∧ h = h0
set_option maxRecDepth 65536 in
set_option maxHeartbeats 40000000 in
theorem rm7_1_2 (l : Launch) (Z : State) (a0 : Array Value) (hw : ∀ d ∈ tables_1, d.before a0 Z = true) (ws : List Jvm.Cond) (a1 : Addr) (h0 : Heap) (n0 : Nat) (Z0 : n0 ≤ h0.size) (F_a1_head : Fld Z h0 a1 own_cD "head" "I" (.int (1 : Int32))) (F_a1_tail : Fld Z h0 a1 own_cD "tail" "I" (.int (2 : Int32))) :
    own_Met l (⟨own_cD, "isEmpty", "()Z"⟩ : MethodName) jdk_21_method_38_code 1 (some .boolean) ws ({ frames := 0, cells := 0, slots := 0, locals := 0 } : Room) #[(.ref a1)] Z h0 (Q7_1_2 Z a1 h0 n0) := by
  refine own_met (plainFor_of_name pn_1) ?_
  intro p e s m below meth c s₁ Bd hx hby hml hZ hown hnm X0 e0
  have wd : ∀ (i : Nat) (d : Jvm.Cond), tables_1[i]? = some d → d.before a0 Z = true := fun i d q => hw d (List.mem_of_getElem? q)
  have NN := Fr.nil n0
  have KK : Keep h0 h0 [] := Keep.refl h0 _
  refine own_start (ef_7_1_2 m a1) ?_
  refine cs_aloadN cG X0 hx (hb hby d7_0) rfl rfl ?_
  refine cs_get cG X0 hx hZ hown (wd 49 _ rfl) e0 F_a1_head (hb hby d7_1) ?_
  intro T1 X1 e1
  refine cs_aloadN cG X1 hx (hb hby d7_4) rfl rfl ?_
  refine cs_get cG X1 hx hZ hown (wd 51 _ rfl) e1 F_a1_tail (hb hby d7_5) ?_
  intro T2 X2 e2
  refine cs_icmpYes cG X2 hx (pc' := 15) (hb hby d7_8) (feq (by decide : ¬ ((1 : Int32) = (2 : Int32)))).2 (by decide) (by decide) ?_
  refine cs_iconst cG X2 hx (hb hby d7_15) (z := (0 : Int32)) rfl ?_
  show own_Go _ _ _ _ T2 (mkF m 16 #[vr a1] [(.int (0 : Int32))])
  obtain ⟨fs, hr, hrun, hended, hW, hsame⟩ := X2.leave (v := some (.int (0 : Int32))) (fun h => by rw [Bd.returns] at h; cases h)
  refine ⟨_, _, ?_, hrun, hended, _, _, rfl, ?_, ⟨_, rfl⟩, hW, hsame.mono (by decide) (by decide)⟩
  · exact retN X2 hx (t := .boolean) Bd.returns (by simp) (hb hby d7_16) hr
  · show Q7_1_2 Z a1 h0 n0 _ T2.heap _
    rw [e2]
    exact ⟨rfl, NN, rfl⟩
theorem ef_7_2_2 (m : MethodId) (a1 : Addr) : entryFrame m #[(.ref a1)] 1 = mkF m 0 #[.val (.ref a1)] [] := by first | (simp [entryFrame, mkF, argsToLocals, Value.category]; done) | rfl
def Q7_2_2 (Z : State) (a1 : Addr) (h0 : Heap) (n0 : Nat) (v : Option Value) (h : Heap) (L : List Loc) : Prop := v = some (.int (1 : Int32)) ∧ Fr n0 L ∧ h = h0
set_option maxRecDepth 65536 in
set_option maxHeartbeats 40000000 in
theorem rm7_2_2 (l : Launch) (Z : State) (a0 : Array Value) (hw : ∀ d ∈ tables_1, d.before a0 Z = true) (ws : List Jvm.Cond) (a1 : Addr) (h0 : Heap) (n0 : Nat) (Z0 : n0 ≤ h0.size) (F_a1_head : Fld Z h0 a1 own_cD "head" "I" (.int (2 : Int32))) (F_a1_tail : Fld Z h0 a1 own_cD "tail" "I" (.int (2 : Int32))) :
    own_Met l (⟨own_cD, "isEmpty", "()Z"⟩ : MethodName) jdk_21_method_38_code 1 (some .boolean) ws ({ frames := 0, cells := 0, slots := 0, locals := 0 } : Room) #[(.ref a1)] Z h0 (Q7_2_2 Z a1 h0 n0) := by
  refine own_met (plainFor_of_name pn_1) ?_
  intro p e s m below meth c s₁ Bd hx hby hml hZ hown hnm X0 e0
  have wd : ∀ (i : Nat) (d : Jvm.Cond), tables_1[i]? = some d → d.before a0 Z = true := fun i d q => hw d (List.mem_of_getElem? q)
  have NN := Fr.nil n0
  have KK : Keep h0 h0 [] := Keep.refl h0 _
  refine own_start (ef_7_2_2 m a1) ?_
  refine cs_aloadN cG X0 hx (hb hby d7_0) rfl rfl ?_
  refine cs_get cG X0 hx hZ hown (wd 49 _ rfl) e0 F_a1_head (hb hby d7_1) ?_
  intro T1 X1 e1
  refine cs_aloadN cG X1 hx (hb hby d7_4) rfl rfl ?_
  refine cs_get cG X1 hx hZ hown (wd 51 _ rfl) e1 F_a1_tail (hb hby d7_5) ?_
  intro T2 X2 e2
  refine cs_icmpNo cG X2 hx (hb hby d7_8) (teq (rfl : (2 : Int32) = (2 : Int32))).2 ?_
  refine cs_iconst cG X2 hx (hb hby d7_11) (z := (1 : Int32)) rfl ?_
  refine cs_goto cG X2 hx (pc' := 16) (hb hby d7_12) (by decide) (by decide) ?_
  show own_Go _ _ _ _ T2 (mkF m 16 #[vr a1] [(.int (1 : Int32))])
  obtain ⟨fs, hr, hrun, hended, hW, hsame⟩ := X2.leave (v := some (.int (1 : Int32))) (fun h => by rw [Bd.returns] at h; cases h)
  refine ⟨_, _, ?_, hrun, hended, _, _, rfl, ?_, ⟨_, rfl⟩, hW, hsame.mono (by decide) (by decide)⟩
  · exact retN X2 hx (t := .boolean) Bd.returns (by simp) (hb hby d7_16) hr
  · show Q7_2_2 Z a1 h0 n0 _ T2.heap _
    rw [e2]
    exact ⟨rfl, NN, rfl⟩
theorem d14_0 : decode jdk_21_method_10_code 0 = .ok (.aload_n 0, 1) := by decide +kernel
theorem d14_1 : decode jdk_21_method_10_code 1 = .ok (.iload_n 1, 1) := by decide +kernel
theorem d14_2 : decode jdk_21_method_10_code 2 = .ok (.aaload, 1) := by decide +kernel
theorem d14_3 : decode jdk_21_method_10_code 3 = .ok (.areturn, 1) := by decide +kernel
theorem ef_14_0_0_16 (m : MethodId) (a1 : Addr) : entryFrame m #[(.ref a1), (.int (16 : Int32))] 2 = mkF m 0 #[.val (.ref a1), .val (.int (16 : Int32))] [] := by first | (simp [entryFrame, mkF, argsToLocals, Value.category]; done) | rfl
def Q14_0_0_16 (Z : State) (a1 : Addr) (k_a1 : ClassId) (h0 : Heap) (n0 : Nat) (v : Option Value) (h : Heap) (L : List Loc) : Prop := v = some .null ∧ Fr n0 L ∧ h = h0
set_option maxRecDepth 65536 in
set_option maxHeartbeats 40000000 in
theorem rm14_0_0_16 (l : Launch) (Z : State) (a0 : Array Value) (hw : ∀ d ∈ tables_1, d.before a0 Z = true) (ws : List Jvm.Cond) (a1 : Addr) (k_a1 : ClassId) (h0 : Heap) (n0 : Nat) (Z0 : n0 ≤ h0.size) (V_a1 : Arv Z h0 a1 k_a1 (.object "java/lang/Object") (17 : Int32) [.null, .null, .null, .null, .null, .null, .null, .null, .null, .null, .null, .null, .null, .null, .null, .null, .null] .null) :
    own_Met l (⟨own_cD, "elementAt", "([Ljava/lang/Object;I)Ljava/lang/Object;"⟩ : MethodName) jdk_21_method_10_code 2 (some (.object "java/lang/Object")) ws ({ frames := 0, cells := 0, slots := 0, locals := 0 } : Room) #[(.ref a1), (.int (16 : Int32))] Z h0 (Q14_0_0_16 Z a1 k_a1 h0 n0) := by
  refine own_met (plainFor_of_name pn_1) ?_
  intro p e s m below meth c s₁ Bd hx hby hml hZ hown hnm X0 e0
  have wd : ∀ (i : Nat) (d : Jvm.Cond), tables_1[i]? = some d → d.before a0 Z = true := fun i d q => hw d (List.mem_of_getElem? q)
  have NN := Fr.nil n0
  have KK : Keep h0 h0 [] := Keep.refl h0 _
  refine own_start (ef_14_0_0_16 m a1) ?_
  refine cs_aloadN cG X0 hx (hb hby d14_0) rfl rfl ?_
  refine cs_iloadN cG X0 hx (hb hby d14_1) rfl ?_
  have Vq := V_a1
  obtain ⟨cl1, Ar1, q1, Sz1, Ng1, Hs1, Gs1⟩ := Vq
  have hin1 : ¬ ((16 : Int32) < 0 ∨ cl1.slots.size ≤ ((16 : Int32)).toNatClampNeg) := inb_of Sz1 ⟨by decide, by decide⟩
  have hat1 : cl1.slots[((16 : Int32)).toNatClampNeg]? = some .null := Hs1.at hin1 rfl
  refine own_go (fun t k => X0.aaload hx (j := (16 : Int32)) (v := .null) (by rw [e0]; exact Ar1.1) (State.isArrayOf_alike hZ.alike Ar1.2.1) rfl Ar1.2.2 hin1 hat1 (g := (mkF m 2 #[vr a1, vi (16 : Int32)] [(.int (16 : Int32)), (.ref a1)])) rfl rfl (hb hby d14_2) t k) ?_
  show own_Go _ _ _ _ s₁ (mkF m 3 #[vr a1, vi (16 : Int32)] [.null])
  show own_Go _ _ _ _ s₁ (mkF m 3 #[vr a1, vi (16 : Int32)] [.null])
  obtain ⟨fs, hr, hrun, hended, hW, hsame⟩ := X0.leave (v := some .null) (fun h => by rw [Bd.returns] at h; cases h)
  refine ⟨_, _, ?_, hrun, hended, _, _, rfl, ?_, ⟨_, rfl⟩, hW, hsame.mono (by decide) (by decide)⟩
  · exact own_retR X0 hx Bd.returns rfl rfl (hb hby d14_3) hr
  · show Q14_0_0_16 Z a1 k_a1 h0 n0 _ s₁.heap _
    rw [e0]
    exact ⟨rfl, NN, rfl⟩
theorem ef_14_1_1_0 (m : MethodId) (a1 : Addr) : entryFrame m #[(.ref a1), (.int (0 : Int32))] 2 = mkF m 0 #[.val (.ref a1), .val (.int (0 : Int32))] [] := by first | (simp [entryFrame, mkF, argsToLocals, Value.category]; done) | rfl
def Q14_1_1_0 (Z : State) (a1 : Addr) (k_a1 : ClassId) (h0 : Heap) (n0 : Nat) (v : Option Value) (h : Heap) (L : List Loc) : Prop := v = some .null ∧ Fr n0 L ∧ h = h0
set_option maxRecDepth 65536 in
set_option maxHeartbeats 40000000 in
theorem rm14_1_1_0 (l : Launch) (Z : State) (a0 : Array Value) (hw : ∀ d ∈ tables_1, d.before a0 Z = true) (ws : List Jvm.Cond) (a1 : Addr) (k_a1 : ClassId) (h0 : Heap) (n0 : Nat) (Z0 : n0 ≤ h0.size) (V_a1 : Arv Z h0 a1 k_a1 (.object "java/lang/Object") (17 : Int32) [.null, .null, .null, .null, .null, .null, .null, .null, .null, .null, .null, .null, .null, .null, .null, .null, .null] .null) :
    own_Met l (⟨own_cD, "elementAt", "([Ljava/lang/Object;I)Ljava/lang/Object;"⟩ : MethodName) jdk_21_method_10_code 2 (some (.object "java/lang/Object")) ws ({ frames := 0, cells := 0, slots := 0, locals := 0 } : Room) #[(.ref a1), (.int (0 : Int32))] Z h0 (Q14_1_1_0 Z a1 k_a1 h0 n0) := by
  refine own_met (plainFor_of_name pn_1) ?_
  intro p e s m below meth c s₁ Bd hx hby hml hZ hown hnm X0 e0
  have wd : ∀ (i : Nat) (d : Jvm.Cond), tables_1[i]? = some d → d.before a0 Z = true := fun i d q => hw d (List.mem_of_getElem? q)
  have NN := Fr.nil n0
  have KK : Keep h0 h0 [] := Keep.refl h0 _
  refine own_start (ef_14_1_1_0 m a1) ?_
  refine cs_aloadN cG X0 hx (hb hby d14_0) rfl rfl ?_
  refine cs_iloadN cG X0 hx (hb hby d14_1) rfl ?_
  have Vq := V_a1
  obtain ⟨cl1, Ar1, q1, Sz1, Ng1, Hs1, Gs1⟩ := Vq
  have hin1 : ¬ ((0 : Int32) < 0 ∨ cl1.slots.size ≤ ((0 : Int32)).toNatClampNeg) := inb_of Sz1 ⟨by decide, by decide⟩
  have hat1 : cl1.slots[((0 : Int32)).toNatClampNeg]? = some .null := Hs1.at hin1 rfl
  refine own_go (fun t k => X0.aaload hx (j := (0 : Int32)) (v := .null) (by rw [e0]; exact Ar1.1) (State.isArrayOf_alike hZ.alike Ar1.2.1) rfl Ar1.2.2 hin1 hat1 (g := (mkF m 2 #[vr a1, vi (0 : Int32)] [(.int (0 : Int32)), (.ref a1)])) rfl rfl (hb hby d14_2) t k) ?_
  show own_Go _ _ _ _ s₁ (mkF m 3 #[vr a1, vi (0 : Int32)] [.null])
  show own_Go _ _ _ _ s₁ (mkF m 3 #[vr a1, vi (0 : Int32)] [.null])
  obtain ⟨fs, hr, hrun, hended, hW, hsame⟩ := X0.leave (v := some .null) (fun h => by rw [Bd.returns] at h; cases h)
  refine ⟨_, _, ?_, hrun, hended, _, _, rfl, ?_, ⟨_, rfl⟩, hW, hsame.mono (by decide) (by decide)⟩
  · exact own_retR X0 hx Bd.returns rfl rfl (hb hby d14_3) hr
  · show Q14_1_1_0 Z a1 k_a1 h0 n0 _ s₁.heap _
    rw [e0]
    exact ⟨rfl, NN, rfl⟩
theorem ef_14_2_2_1 (m : MethodId) (a1 : Addr) : entryFrame m #[(.ref a1), (.int (1 : Int32))] 2 = mkF m 0 #[.val (.ref a1), .val (.int (1 : Int32))] [] := by first | (simp [entryFrame, mkF, argsToLocals, Value.category]; done) | rfl
def Q14_2_2_1 (Z : State) (a1 : Addr) (k_a1 : ClassId) (h0 : Heap) (n0 : Nat) (v : Option Value) (h : Heap) (L : List Loc) : Prop := v = some .null ∧ Fr n0 L ∧ h = h0
set_option maxRecDepth 65536 in
set_option maxHeartbeats 40000000 in
theorem rm14_2_2_1 (l : Launch) (Z : State) (a0 : Array Value) (hw : ∀ d ∈ tables_1, d.before a0 Z = true) (ws : List Jvm.Cond) (a1 : Addr) (k_a1 : ClassId) (h0 : Heap) (n0 : Nat) (Z0 : n0 ≤ h0.size) (V_a1 : Arv Z h0 a1 k_a1 (.object "java/lang/Object") (17 : Int32) [.null, .null, .null, .null, .null, .null, .null, .null, .null, .null, .null, .null, .null, .null, .null, .null, .null] .null) :
    own_Met l (⟨own_cD, "elementAt", "([Ljava/lang/Object;I)Ljava/lang/Object;"⟩ : MethodName) jdk_21_method_10_code 2 (some (.object "java/lang/Object")) ws ({ frames := 0, cells := 0, slots := 0, locals := 0 } : Room) #[(.ref a1), (.int (1 : Int32))] Z h0 (Q14_2_2_1 Z a1 k_a1 h0 n0) := by
  refine own_met (plainFor_of_name pn_1) ?_
  intro p e s m below meth c s₁ Bd hx hby hml hZ hown hnm X0 e0
  have wd : ∀ (i : Nat) (d : Jvm.Cond), tables_1[i]? = some d → d.before a0 Z = true := fun i d q => hw d (List.mem_of_getElem? q)
  have NN := Fr.nil n0
  have KK : Keep h0 h0 [] := Keep.refl h0 _
  refine own_start (ef_14_2_2_1 m a1) ?_
  refine cs_aloadN cG X0 hx (hb hby d14_0) rfl rfl ?_
  refine cs_iloadN cG X0 hx (hb hby d14_1) rfl ?_
  have Vq := V_a1
  obtain ⟨cl1, Ar1, q1, Sz1, Ng1, Hs1, Gs1⟩ := Vq
  have hin1 : ¬ ((1 : Int32) < 0 ∨ cl1.slots.size ≤ ((1 : Int32)).toNatClampNeg) := inb_of Sz1 ⟨by decide, by decide⟩
  have hat1 : cl1.slots[((1 : Int32)).toNatClampNeg]? = some .null := Hs1.at hin1 rfl
  refine own_go (fun t k => X0.aaload hx (j := (1 : Int32)) (v := .null) (by rw [e0]; exact Ar1.1) (State.isArrayOf_alike hZ.alike Ar1.2.1) rfl Ar1.2.2 hin1 hat1 (g := (mkF m 2 #[vr a1, vi (1 : Int32)] [(.int (1 : Int32)), (.ref a1)])) rfl rfl (hb hby d14_2) t k) ?_
  show own_Go _ _ _ _ s₁ (mkF m 3 #[vr a1, vi (1 : Int32)] [.null])
  show own_Go _ _ _ _ s₁ (mkF m 3 #[vr a1, vi (1 : Int32)] [.null])
  obtain ⟨fs, hr, hrun, hended, hW, hsame⟩ := X0.leave (v := some .null) (fun h => by rw [Bd.returns] at h; cases h)
  refine ⟨_, _, ?_, hrun, hended, _, _, rfl, ?_, ⟨_, rfl⟩, hW, hsame.mono (by decide) (by decide)⟩
  · exact own_retR X0 hx Bd.returns rfl rfl (hb hby d14_3) hr
  · show Q14_2_2_1 Z a1 k_a1 h0 n0 _ s₁.heap _
    rw [e0]
    exact ⟨rfl, NN, rfl⟩
theorem ef_14_0_1_0 (m : MethodId) (a1 : Addr) : entryFrame m #[(.ref a1), (.int (0 : Int32))] 2 = mkF m 0 #[.val (.ref a1), .val (.int (0 : Int32))] [] := by first | (simp [entryFrame, mkF, argsToLocals, Value.category]; done) | rfl
def Q14_0_1_0 (Z : State) (a1 : Addr) (k_a1 : ClassId) (x0 : Addr) (h0 : Heap) (n0 : Nat) (v : Option Value) (h : Heap) (L : List Loc) : Prop := v = some (.ref x0) ∧ Fr n0 L ∧ h = h0
set_option maxRecDepth 65536 in
set_option maxHeartbeats 40000000 in
theorem rm14_0_1_0 (l : Launch) (Z : State) (a0 : Array Value) (hw : ∀ d ∈ tables_1, d.before a0 Z = true) (ws : List Jvm.Cond) (a1 : Addr) (k_a1 : ClassId) (x0 : Addr) (h0 : Heap) (n0 : Nat) (Z0 : n0 ≤ h0.size) (V_a1 : Arv Z h0 a1 k_a1 (.object "java/lang/Object") (17 : Int32) [(.ref x0), .null, .null, .null, .null, .null, .null, .null, .null, .null, .null, .null, .null, .null, .null, .null, .null] .null) :
    own_Met l (⟨own_cD, "elementAt", "([Ljava/lang/Object;I)Ljava/lang/Object;"⟩ : MethodName) jdk_21_method_10_code 2 (some (.object "java/lang/Object")) ws ({ frames := 0, cells := 0, slots := 0, locals := 0 } : Room) #[(.ref a1), (.int (0 : Int32))] Z h0 (Q14_0_1_0 Z a1 k_a1 x0 h0 n0) := by
  refine own_met (plainFor_of_name pn_1) ?_
  intro p e s m below meth c s₁ Bd hx hby hml hZ hown hnm X0 e0
  have wd : ∀ (i : Nat) (d : Jvm.Cond), tables_1[i]? = some d → d.before a0 Z = true := fun i d q => hw d (List.mem_of_getElem? q)
  have NN := Fr.nil n0
  have KK : Keep h0 h0 [] := Keep.refl h0 _
  refine own_start (ef_14_0_1_0 m a1) ?_
  refine cs_aloadN cG X0 hx (hb hby d14_0) rfl rfl ?_
  refine cs_iloadN cG X0 hx (hb hby d14_1) rfl ?_
  have Vq := V_a1
  obtain ⟨cl1, Ar1, q1, Sz1, Ng1, Hs1, Gs1⟩ := Vq
  have hin1 : ¬ ((0 : Int32) < 0 ∨ cl1.slots.size ≤ ((0 : Int32)).toNatClampNeg) := inb_of Sz1 ⟨by decide, by decide⟩
  have hat1 : cl1.slots[((0 : Int32)).toNatClampNeg]? = some (.ref x0) := Hs1.at hin1 rfl
  refine own_go (fun t k => X0.aaload hx (j := (0 : Int32)) (v := (.ref x0)) (by rw [e0]; exact Ar1.1) (State.isArrayOf_alike hZ.alike Ar1.2.1) rfl Ar1.2.2 hin1 hat1 (g := (mkF m 2 #[vr a1, vi (0 : Int32)] [(.int (0 : Int32)), (.ref a1)])) rfl rfl (hb hby d14_2) t k) ?_
  show own_Go _ _ _ _ s₁ (mkF m 3 #[vr a1, vi (0 : Int32)] [(.ref x0)])
  show own_Go _ _ _ _ s₁ (mkF m 3 #[vr a1, vi (0 : Int32)] [(.ref x0)])
  obtain ⟨fs, hr, hrun, hended, hW, hsame⟩ := X0.leave (v := some (.ref x0)) (fun h => by rw [Bd.returns] at h; cases h)
  refine ⟨_, _, ?_, hrun, hended, _, _, rfl, ?_, ⟨_, rfl⟩, hW, hsame.mono (by decide) (by decide)⟩
  · exact own_retR X0 hx Bd.returns rfl rfl (hb hby d14_3) hr
  · show Q14_0_1_0 Z a1 k_a1 x0 h0 n0 _ s₁.heap _
    rw [e0]
    exact ⟨rfl, NN, rfl⟩
theorem ef_14_0_2_0 (m : MethodId) (a1 : Addr) : entryFrame m #[(.ref a1), (.int (0 : Int32))] 2 = mkF m 0 #[.val (.ref a1), .val (.int (0 : Int32))] [] := by first | (simp [entryFrame, mkF, argsToLocals, Value.category]; done) | rfl
def Q14_0_2_0 (Z : State) (a1 : Addr) (k_a1 : ClassId) (x0 : Addr) (x1 : Addr) (h0 : Heap) (n0 : Nat) (v : Option Value) (h : Heap) (L : List Loc) : Prop := v = some (.ref x0) ∧ Fr n0 L ∧ h = h0
set_option maxRecDepth 65536 in
set_option maxHeartbeats 40000000 in
theorem rm14_0_2_0 (l : Launch) (Z : State) (a0 : Array Value) (hw : ∀ d ∈ tables_1, d.before a0 Z = true) (ws : List Jvm.Cond) (a1 : Addr) (k_a1 : ClassId) (x0 : Addr) (x1 : Addr) (h0 : Heap) (n0 : Nat) (Z0 : n0 ≤ h0.size) (V_a1 : Arv Z h0 a1 k_a1 (.object "java/lang/Object") (17 : Int32) [(.ref x0), (.ref x1), .null, .null, .null, .null, .null, .null, .null, .null, .null, .null, .null, .null, .null, .null, .null] .null) :
    own_Met l (⟨own_cD, "elementAt", "([Ljava/lang/Object;I)Ljava/lang/Object;"⟩ : MethodName) jdk_21_method_10_code 2 (some (.object "java/lang/Object")) ws ({ frames := 0, cells := 0, slots := 0, locals := 0 } : Room) #[(.ref a1), (.int (0 : Int32))] Z h0 (Q14_0_2_0 Z a1 k_a1 x0 x1 h0 n0) := by
  refine own_met (plainFor_of_name pn_1) ?_
  intro p e s m below meth c s₁ Bd hx hby hml hZ hown hnm X0 e0
  have wd : ∀ (i : Nat) (d : Jvm.Cond), tables_1[i]? = some d → d.before a0 Z = true := fun i d q => hw d (List.mem_of_getElem? q)
  have NN := Fr.nil n0
  have KK : Keep h0 h0 [] := Keep.refl h0 _
  refine own_start (ef_14_0_2_0 m a1) ?_
  refine cs_aloadN cG X0 hx (hb hby d14_0) rfl rfl ?_
  refine cs_iloadN cG X0 hx (hb hby d14_1) rfl ?_
  have Vq := V_a1
  obtain ⟨cl1, Ar1, q1, Sz1, Ng1, Hs1, Gs1⟩ := Vq
  have hin1 : ¬ ((0 : Int32) < 0 ∨ cl1.slots.size ≤ ((0 : Int32)).toNatClampNeg) := inb_of Sz1 ⟨by decide, by decide⟩
  have hat1 : cl1.slots[((0 : Int32)).toNatClampNeg]? = some (.ref x0) := Hs1.at hin1 rfl
  refine own_go (fun t k => X0.aaload hx (j := (0 : Int32)) (v := (.ref x0)) (by rw [e0]; exact Ar1.1) (State.isArrayOf_alike hZ.alike Ar1.2.1) rfl Ar1.2.2 hin1 hat1 (g := (mkF m 2 #[vr a1, vi (0 : Int32)] [(.int (0 : Int32)), (.ref a1)])) rfl rfl (hb hby d14_2) t k) ?_
  show own_Go _ _ _ _ s₁ (mkF m 3 #[vr a1, vi (0 : Int32)] [(.ref x0)])
  show own_Go _ _ _ _ s₁ (mkF m 3 #[vr a1, vi (0 : Int32)] [(.ref x0)])
  obtain ⟨fs, hr, hrun, hended, hW, hsame⟩ := X0.leave (v := some (.ref x0)) (fun h => by rw [Bd.returns] at h; cases h)
  refine ⟨_, _, ?_, hrun, hended, _, _, rfl, ?_, ⟨_, rfl⟩, hW, hsame.mono (by decide) (by decide)⟩
  · exact own_retR X0 hx Bd.returns rfl rfl (hb hby d14_3) hr
  · show Q14_0_2_0 Z a1 k_a1 x0 x1 h0 n0 _ s₁.heap _
    rw [e0]
    exact ⟨rfl, NN, rfl⟩
theorem ef_14_0_2_1 (m : MethodId) (a1 : Addr) : entryFrame m #[(.ref a1), (.int (1 : Int32))] 2 = mkF m 0 #[.val (.ref a1), .val (.int (1 : Int32))] [] := by first | (simp [entryFrame, mkF, argsToLocals, Value.category]; done) | rfl
def Q14_0_2_1 (Z : State) (a1 : Addr) (k_a1 : ClassId) (x0 : Addr) (x1 : Addr) (h0 : Heap) (n0 : Nat) (v : Option Value) (h : Heap) (L : List Loc) : Prop := v = some (.ref x1) ∧ Fr n0 L ∧ h = h0
set_option maxRecDepth 65536 in
set_option maxHeartbeats 40000000 in
theorem rm14_0_2_1 (l : Launch) (Z : State) (a0 : Array Value) (hw : ∀ d ∈ tables_1, d.before a0 Z = true) (ws : List Jvm.Cond) (a1 : Addr) (k_a1 : ClassId) (x0 : Addr) (x1 : Addr) (h0 : Heap) (n0 : Nat) (Z0 : n0 ≤ h0.size) (V_a1 : Arv Z h0 a1 k_a1 (.object "java/lang/Object") (17 : Int32) [(.ref x0), (.ref x1), .null, .null, .null, .null, .null, .null, .null, .null, .null, .null, .null, .null, .null, .null, .null] .null) :
    own_Met l (⟨own_cD, "elementAt", "([Ljava/lang/Object;I)Ljava/lang/Object;"⟩ : MethodName) jdk_21_method_10_code 2 (some (.object "java/lang/Object")) ws ({ frames := 0, cells := 0, slots := 0, locals := 0 } : Room) #[(.ref a1), (.int (1 : Int32))] Z h0 (Q14_0_2_1 Z a1 k_a1 x0 x1 h0 n0) := by
  refine own_met (plainFor_of_name pn_1) ?_
  intro p e s m below meth c s₁ Bd hx hby hml hZ hown hnm X0 e0
  have wd : ∀ (i : Nat) (d : Jvm.Cond), tables_1[i]? = some d → d.before a0 Z = true := fun i d q => hw d (List.mem_of_getElem? q)
  have NN := Fr.nil n0
  have KK : Keep h0 h0 [] := Keep.refl h0 _
  refine own_start (ef_14_0_2_1 m a1) ?_
  refine cs_aloadN cG X0 hx (hb hby d14_0) rfl rfl ?_
  refine cs_iloadN cG X0 hx (hb hby d14_1) rfl ?_
  have Vq := V_a1
  obtain ⟨cl1, Ar1, q1, Sz1, Ng1, Hs1, Gs1⟩ := Vq
  have hin1 : ¬ ((1 : Int32) < 0 ∨ cl1.slots.size ≤ ((1 : Int32)).toNatClampNeg) := inb_of Sz1 ⟨by decide, by decide⟩
  have hat1 : cl1.slots[((1 : Int32)).toNatClampNeg]? = some (.ref x1) := Hs1.at hin1 rfl
  refine own_go (fun t k => X0.aaload hx (j := (1 : Int32)) (v := (.ref x1)) (by rw [e0]; exact Ar1.1) (State.isArrayOf_alike hZ.alike Ar1.2.1) rfl Ar1.2.2 hin1 hat1 (g := (mkF m 2 #[vr a1, vi (1 : Int32)] [(.int (1 : Int32)), (.ref a1)])) rfl rfl (hb hby d14_2) t k) ?_
  show own_Go _ _ _ _ s₁ (mkF m 3 #[vr a1, vi (1 : Int32)] [(.ref x1)])
  show own_Go _ _ _ _ s₁ (mkF m 3 #[vr a1, vi (1 : Int32)] [(.ref x1)])
  obtain ⟨fs, hr, hrun, hended, hW, hsame⟩ := X0.leave (v := some (.ref x1)) (fun h => by rw [Bd.returns] at h; cases h)
  refine ⟨_, _, ?_, hrun, hended, _, _, rfl, ?_, ⟨_, rfl⟩, hW, hsame.mono (by decide) (by decide)⟩
  · exact own_retR X0 hx Bd.returns rfl rfl (hb hby d14_3) hr
  · show Q14_0_2_1 Z a1 k_a1 x0 x1 h0 n0 _ s₁.heap _
    rw [e0]
    exact ⟨rfl, NN, rfl⟩
theorem ef_14_1_2_1 (m : MethodId) (a1 : Addr) : entryFrame m #[(.ref a1), (.int (1 : Int32))] 2 = mkF m 0 #[.val (.ref a1), .val (.int (1 : Int32))] [] := by first | (simp [entryFrame, mkF, argsToLocals, Value.category]; done) | rfl
def Q14_1_2_1 (Z : State) (a1 : Addr) (k_a1 : ClassId) (x1 : Addr) (h0 : Heap) (n0 : Nat) (v : Option Value) (h : Heap) (L : List Loc) : Prop := v = some (.ref x1) ∧ Fr n0 L ∧ h = h0
set_option maxRecDepth 65536 in
set_option maxHeartbeats 40000000 in
theorem rm14_1_2_1 (l : Launch) (Z : State) (a0 : Array Value) (hw : ∀ d ∈ tables_1, d.before a0 Z = true) (ws : List Jvm.Cond) (a1 : Addr) (k_a1 : ClassId) (x1 : Addr) (h0 : Heap) (n0 : Nat) (Z0 : n0 ≤ h0.size) (V_a1 : Arv Z h0 a1 k_a1 (.object "java/lang/Object") (17 : Int32) [.null, (.ref x1), .null, .null, .null, .null, .null, .null, .null, .null, .null, .null, .null, .null, .null, .null, .null] .null) :
    own_Met l (⟨own_cD, "elementAt", "([Ljava/lang/Object;I)Ljava/lang/Object;"⟩ : MethodName) jdk_21_method_10_code 2 (some (.object "java/lang/Object")) ws ({ frames := 0, cells := 0, slots := 0, locals := 0 } : Room) #[(.ref a1), (.int (1 : Int32))] Z h0 (Q14_1_2_1 Z a1 k_a1 x1 h0 n0) := by
  refine own_met (plainFor_of_name pn_1) ?_
  intro p e s m below meth c s₁ Bd hx hby hml hZ hown hnm X0 e0
  have wd : ∀ (i : Nat) (d : Jvm.Cond), tables_1[i]? = some d → d.before a0 Z = true := fun i d q => hw d (List.mem_of_getElem? q)
  have NN := Fr.nil n0
  have KK : Keep h0 h0 [] := Keep.refl h0 _
  refine own_start (ef_14_1_2_1 m a1) ?_
  refine cs_aloadN cG X0 hx (hb hby d14_0) rfl rfl ?_
  refine cs_iloadN cG X0 hx (hb hby d14_1) rfl ?_
  have Vq := V_a1
  obtain ⟨cl1, Ar1, q1, Sz1, Ng1, Hs1, Gs1⟩ := Vq
  have hin1 : ¬ ((1 : Int32) < 0 ∨ cl1.slots.size ≤ ((1 : Int32)).toNatClampNeg) := inb_of Sz1 ⟨by decide, by decide⟩
  have hat1 : cl1.slots[((1 : Int32)).toNatClampNeg]? = some (.ref x1) := Hs1.at hin1 rfl
  refine own_go (fun t k => X0.aaload hx (j := (1 : Int32)) (v := (.ref x1)) (by rw [e0]; exact Ar1.1) (State.isArrayOf_alike hZ.alike Ar1.2.1) rfl Ar1.2.2 hin1 hat1 (g := (mkF m 2 #[vr a1, vi (1 : Int32)] [(.int (1 : Int32)), (.ref a1)])) rfl rfl (hb hby d14_2) t k) ?_
  show own_Go _ _ _ _ s₁ (mkF m 3 #[vr a1, vi (1 : Int32)] [(.ref x1)])
  show own_Go _ _ _ _ s₁ (mkF m 3 #[vr a1, vi (1 : Int32)] [(.ref x1)])
  obtain ⟨fs, hr, hrun, hended, hW, hsame⟩ := X0.leave (v := some (.ref x1)) (fun h => by rw [Bd.returns] at h; cases h)
  refine ⟨_, _, ?_, hrun, hended, _, _, rfl, ?_, ⟨_, rfl⟩, hW, hsame.mono (by decide) (by decide)⟩
  · exact own_retR X0 hx Bd.returns rfl rfl (hb hby d14_3) hr
  · show Q14_1_2_1 Z a1 k_a1 x1 h0 n0 _ s₁.heap _
    rw [e0]
    exact ⟨rfl, NN, rfl⟩
theorem ef_14_2_3_2 (m : MethodId) (a1 : Addr) : entryFrame m #[(.ref a1), (.int (2 : Int32))] 2 = mkF m 0 #[.val (.ref a1), .val (.int (2 : Int32))] [] := by first | (simp [entryFrame, mkF, argsToLocals, Value.category]; done) | rfl
def Q14_2_3_2 (Z : State) (a1 : Addr) (k_a1 : ClassId) (x2 : Addr) (h0 : Heap) (n0 : Nat) (v : Option Value) (h : Heap) (L : List Loc) : Prop := v = some (.ref x2) ∧ Fr n0 L ∧ h = h0
set_option maxRecDepth 65536 in
set_option maxHeartbeats 40000000 in
theorem rm14_2_3_2 (l : Launch) (Z : State) (a0 : Array Value) (hw : ∀ d ∈ tables_1, d.before a0 Z = true) (ws : List Jvm.Cond) (a1 : Addr) (k_a1 : ClassId) (x2 : Addr) (h0 : Heap) (n0 : Nat) (Z0 : n0 ≤ h0.size) (V_a1 : Arv Z h0 a1 k_a1 (.object "java/lang/Object") (17 : Int32) [.null, .null, (.ref x2), .null, .null, .null, .null, .null, .null, .null, .null, .null, .null, .null, .null, .null, .null] .null) :
    own_Met l (⟨own_cD, "elementAt", "([Ljava/lang/Object;I)Ljava/lang/Object;"⟩ : MethodName) jdk_21_method_10_code 2 (some (.object "java/lang/Object")) ws ({ frames := 0, cells := 0, slots := 0, locals := 0 } : Room) #[(.ref a1), (.int (2 : Int32))] Z h0 (Q14_2_3_2 Z a1 k_a1 x2 h0 n0) := by
  refine own_met (plainFor_of_name pn_1) ?_
  intro p e s m below meth c s₁ Bd hx hby hml hZ hown hnm X0 e0
  have wd : ∀ (i : Nat) (d : Jvm.Cond), tables_1[i]? = some d → d.before a0 Z = true := fun i d q => hw d (List.mem_of_getElem? q)
  have NN := Fr.nil n0
  have KK : Keep h0 h0 [] := Keep.refl h0 _
  refine own_start (ef_14_2_3_2 m a1) ?_
  refine cs_aloadN cG X0 hx (hb hby d14_0) rfl rfl ?_
  refine cs_iloadN cG X0 hx (hb hby d14_1) rfl ?_
  have Vq := V_a1
  obtain ⟨cl1, Ar1, q1, Sz1, Ng1, Hs1, Gs1⟩ := Vq
  have hin1 : ¬ ((2 : Int32) < 0 ∨ cl1.slots.size ≤ ((2 : Int32)).toNatClampNeg) := inb_of Sz1 ⟨by decide, by decide⟩
  have hat1 : cl1.slots[((2 : Int32)).toNatClampNeg]? = some (.ref x2) := Hs1.at hin1 rfl
  refine own_go (fun t k => X0.aaload hx (j := (2 : Int32)) (v := (.ref x2)) (by rw [e0]; exact Ar1.1) (State.isArrayOf_alike hZ.alike Ar1.2.1) rfl Ar1.2.2 hin1 hat1 (g := (mkF m 2 #[vr a1, vi (2 : Int32)] [(.int (2 : Int32)), (.ref a1)])) rfl rfl (hb hby d14_2) t k) ?_
  show own_Go _ _ _ _ s₁ (mkF m 3 #[vr a1, vi (2 : Int32)] [(.ref x2)])
  show own_Go _ _ _ _ s₁ (mkF m 3 #[vr a1, vi (2 : Int32)] [(.ref x2)])
  obtain ⟨fs, hr, hrun, hended, hW, hsame⟩ := X0.leave (v := some (.ref x2)) (fun h => by rw [Bd.returns] at h; cases h)
  refine ⟨_, _, ?_, hrun, hended, _, _, rfl, ?_, ⟨_, rfl⟩, hW, hsame.mono (by decide) (by decide)⟩
  · exact own_retR X0 hx Bd.returns rfl rfl (hb hby d14_3) hr
  · show Q14_2_3_2 Z a1 k_a1 x2 h0 n0 _ s₁.heap _
    rw [e0]
    exact ⟨rfl, NN, rfl⟩
theorem d19_0 : decode jdk_21_method_22_code 0 = .ok (.aload_n 0, 1) := by decide +kernel
theorem d19_1 : decode jdk_21_method_22_code 1 = .ok (.getfield 3, 3) := by decide +kernel
theorem d19_4 : decode jdk_21_method_22_code 4 = .ok (.aload_n 0, 1) := by decide +kernel
theorem d19_5 : decode jdk_21_method_22_code 5 = .ok (.getfield 24, 3) := by decide +kernel
theorem d19_8 : decode jdk_21_method_22_code 8 = .ok (.invokestatic 103, 3) := by decide +kernel
theorem d19_11 : decode jdk_21_method_22_code 11 = .ok (.astore_n 1, 1) := by decide +kernel
theorem d19_12 : decode jdk_21_method_22_code 12 = .ok (.aload_n 1, 1) := by decide +kernel
theorem d19_13 : decode jdk_21_method_22_code 13 = .ok (.ifnonnull 11, 3) := by decide +kernel
theorem d19_24 : decode jdk_21_method_22_code 24 = .ok (.aload_n 1, 1) := by decide +kernel
theorem d19_25 : decode jdk_21_method_22_code 25 = .ok (.areturn, 1) := by decide +kernel
theorem pd_11 : parseMethodDescriptor "([Ljava/lang/Object;I)Ljava/lang/Object;" = some ⟨[(.array (.object "java/lang/Object")), .int], some (.object "java/lang/Object")⟩ := by decide +kernel
theorem ef_19_0_1 (m : MethodId) (a1 : Addr) : entryFrame m #[(.ref a1)] 2 = mkF m 0 #[.val (.ref a1), .unset] [] := by first | (simp [entryFrame, mkF, argsToLocals, Value.category]; done) | rfl
def Q19_0_1 (Z : State) (a1 : Addr) (ar : Addr) (k_ar : ClassId) (x0 : Addr) (h0 : Heap) (n0 : Nat) (v : Option Value) (h : Heap) (L : List Loc) : Prop := v = some (.ref x0) ∧ Fr n0 L ∧ h = h0
set_option maxRecDepth 65536 in
set_option maxHeartbeats 40000000 in
theorem rm19_0_1 (l : Launch) (Z : State) (a0 : Array Value) (hw : ∀ d ∈ tables_1, d.before a0 Z = true) (ws : List Jvm.Cond) (a1 : Addr) (ar : Addr) (k_ar : ClassId) (x0 : Addr) (h0 : Heap) (n0 : Nat) (Z0 : n0 ≤ h0.size) (F_a1_elements : Fld Z h0 a1 own_cD "elements" "[Ljava/lang/Object;" (.ref ar)) (F_a1_head : Fld Z h0 a1 own_cD "head" "I" (.int (0 : Int32))) (V_ar : Arv Z h0 ar k_ar (.object "java/lang/Object") (17 : Int32) [(.ref x0), .null, .null, .null, .null, .null, .null, .null, .null, .null, .null, .null, .null, .null, .null, .null, .null] .null) :
    own_Met l (⟨own_cD, "getFirst", "()Ljava/lang/Object;"⟩ : MethodName) jdk_21_method_22_code 2 (some (.object "java/lang/Object")) ws ({ frames := 1, cells := 0, slots := 0, locals := 13 } : Room) #[(.ref a1)] Z h0 (Q19_0_1 Z a1 ar k_ar x0 h0 n0) := by
  refine own_met (plainFor_of_name pn_1) ?_
  intro p e s m below meth c s₁ Bd hx hby hml hZ hown hnm X0 e0
  have wd : ∀ (i : Nat) (d : Jvm.Cond), tables_1[i]? = some d → d.before a0 Z = true := fun i d q => hw d (List.mem_of_getElem? q)
  have NN := Fr.nil n0
  have KK : Keep h0 h0 [] := Keep.refl h0 _
  refine own_start (ef_19_0_1 m a1) ?_
  refine cs_aloadN cG X0 hx (hb hby d19_0) rfl rfl ?_
  refine cs_get cG X0 hx hZ hown (wd 25 _ rfl) e0 F_a1_elements (hb hby d19_1) ?_
  intro T1 X1 e1
  refine cs_aloadN cG X1 hx (hb hby d19_4) rfl rfl ?_
  refine cs_get cG X1 hx hZ hown (wd 49 _ rfl) e1 F_a1_head (hb hby d19_5) ?_
  intro T2 X2 e2
  refine cs_S cG X2 hx hZ hown (wd 81 _ rfl) (wd 82 _ rfl) (wd 12 _ rfl) (wd 83 _ rfl) (by decide) (rm14_0_1_0 l Z a0 hw [] ar k_ar x0 h0 n0 Z0 V_ar) (by decide) (by decide) (by decide) (by decide) e2 (by rw [hml]; rfl) (argsL := [(.ref ar), (.int (0 : Int32))]) (S := []) (lenOf pd_11 rfl) rfl (W := 0) (Nat.le_of_eq rfl) (hb hby d19_8) rfl ?_
  intro v3 T3 L3 X3 hQ3
  obtain ⟨rfl, N3q, e3⟩ := hQ3
  have NN := Fr.app NN N3q
  show own_Go _ _ _ _ T3 (mkF m 11 #[vr a1, .unset] [(.ref x0)])
  refine cs_astoreN cG X3 hx (hb hby d19_11) rfl (l' := #[vr a1, vr x0]) rfl ?_
  refine cs_aloadN cG X3 hx (hb hby d19_12) rfl rfl ?_
  refine own_go (g' := _) (fun t k => XS.ifnonnullYes X3.here hx rfl (pc0 := 13) (pc' := 24) rfl (hb hby d19_13) rfl (by decide) (by decide) k) ?_
  show own_Go _ _ _ _ T3 (mkF m 24 #[vr a1, vr x0] [])
  refine cs_aloadN cG X3 hx (hb hby d19_24) rfl rfl ?_
  show own_Go _ _ _ _ T3 (mkF m 25 #[vr a1, vr x0] [(.ref x0)])
  obtain ⟨fs, hr, hrun, hended, hW, hsame⟩ := X3.leave (v := some (.ref x0)) (fun h => by rw [Bd.returns] at h; cases h)
  refine ⟨_, _, ?_, hrun, hended, _, _, rfl, ?_, ⟨_, rfl⟩, hW, hsame.mono (by decide) (by decide)⟩
  · exact own_retR X3 hx Bd.returns rfl rfl (hb hby d19_25) hr
  · show Q19_0_1 Z a1 ar k_ar x0 h0 n0 _ T3.heap _
    rw [e3]
    exact ⟨rfl, NN, rfl⟩
theorem ef_19_0_2 (m : MethodId) (a1 : Addr) : entryFrame m #[(.ref a1)] 2 = mkF m 0 #[.val (.ref a1), .unset] [] := by first | (simp [entryFrame, mkF, argsToLocals, Value.category]; done) | rfl
def Q19_0_2 (Z : State) (a1 : Addr) (ar : Addr) (k_ar : ClassId) (x0 : Addr) (x1 : Addr) (h0 : Heap) (n0 : Nat) (v : Option Value) (h : Heap) (L : List Loc) : Prop := v = some (.ref x0) ∧ Fr n0 L ∧ h = h0
set_option maxRecDepth 65536 in
set_option maxHeartbeats 40000000 in
theorem rm19_0_2 (l : Launch) (Z : State) (a0 : Array Value) (hw : ∀ d ∈ tables_1, d.before a0 Z = true) (ws : List Jvm.Cond) (a1 : Addr) (ar : Addr) (k_ar : ClassId) (x0 : Addr) (x1 : Addr) (h0 : Heap) (n0 : Nat) (Z0 : n0 ≤ h0.size) (F_a1_elements : Fld Z h0 a1 own_cD "elements" "[Ljava/lang/Object;" (.ref ar)) (F_a1_head : Fld Z h0 a1 own_cD "head" "I" (.int (0 : Int32))) (V_ar : Arv Z h0 ar k_ar (.object "java/lang/Object") (17 : Int32) [(.ref x0), (.ref x1), .null, .null, .null, .null, .null, .null, .null, .null, .null, .null, .null, .null, .null, .null, .null] .null) :
    own_Met l (⟨own_cD, "getFirst", "()Ljava/lang/Object;"⟩ : MethodName) jdk_21_method_22_code 2 (some (.object "java/lang/Object")) ws ({ frames := 1, cells := 0, slots := 0, locals := 13 } : Room) #[(.ref a1)] Z h0 (Q19_0_2 Z a1 ar k_ar x0 x1 h0 n0) := by
  refine own_met (plainFor_of_name pn_1) ?_
  intro p e s m below meth c s₁ Bd hx hby hml hZ hown hnm X0 e0
  have wd : ∀ (i : Nat) (d : Jvm.Cond), tables_1[i]? = some d → d.before a0 Z = true := fun i d q => hw d (List.mem_of_getElem? q)
  have NN := Fr.nil n0
  have KK : Keep h0 h0 [] := Keep.refl h0 _
  refine own_start (ef_19_0_2 m a1) ?_
  refine cs_aloadN cG X0 hx (hb hby d19_0) rfl rfl ?_
  refine cs_get cG X0 hx hZ hown (wd 25 _ rfl) e0 F_a1_elements (hb hby d19_1) ?_
  intro T1 X1 e1
  refine cs_aloadN cG X1 hx (hb hby d19_4) rfl rfl ?_
  refine cs_get cG X1 hx hZ hown (wd 49 _ rfl) e1 F_a1_head (hb hby d19_5) ?_
  intro T2 X2 e2
  refine cs_S cG X2 hx hZ hown (wd 81 _ rfl) (wd 82 _ rfl) (wd 12 _ rfl) (wd 83 _ rfl) (by decide) (rm14_0_2_0 l Z a0 hw [] ar k_ar x0 x1 h0 n0 Z0 V_ar) (by decide) (by decide) (by decide) (by decide) e2 (by rw [hml]; rfl) (argsL := [(.ref ar), (.int (0 : Int32))]) (S := []) (lenOf pd_11 rfl) rfl (W := 0) (Nat.le_of_eq rfl) (hb hby d19_8) rfl ?_
  intro v3 T3 L3 X3 hQ3
  obtain ⟨rfl, N3q, e3⟩ := hQ3
  have NN := Fr.app NN N3q
  show own_Go _ _ _ _ T3 (mkF m 11 #[vr a1, .unset] [(.ref x0)])
  refine cs_astoreN cG X3 hx (hb hby d19_11) rfl (l' := #[vr a1, vr x0]) rfl ?_
  refine cs_aloadN cG X3 hx (hb hby d19_12) rfl rfl ?_
  refine own_go (g' := _) (fun t k => XS.ifnonnullYes X3.here hx rfl (pc0 := 13) (pc' := 24) rfl (hb hby d19_13) rfl (by decide) (by decide) k) ?_
  show own_Go _ _ _ _ T3 (mkF m 24 #[vr a1, vr x0] [])
  refine cs_aloadN cG X3 hx (hb hby d19_24) rfl rfl ?_
  show own_Go _ _ _ _ T3 (mkF m 25 #[vr a1, vr x0] [(.ref x0)])
  obtain ⟨fs, hr, hrun, hended, hW, hsame⟩ := X3.leave (v := some (.ref x0)) (fun h => by rw [Bd.returns] at h; cases h)
  refine ⟨_, _, ?_, hrun, hended, _, _, rfl, ?_, ⟨_, rfl⟩, hW, hsame.mono (by decide) (by decide)⟩
  · exact own_retR X3 hx Bd.returns rfl rfl (hb hby d19_25) hr
  · show Q19_0_2 Z a1 ar k_ar x0 x1 h0 n0 _ T3.heap _
    rw [e3]
    exact ⟨rfl, NN, rfl⟩
theorem ef_19_1_2 (m : MethodId) (a1 : Addr) : entryFrame m #[(.ref a1)] 2 = mkF m 0 #[.val (.ref a1), .unset] [] := by first | (simp [entryFrame, mkF, argsToLocals, Value.category]; done) | rfl
def Q19_1_2 (Z : State) (a1 : Addr) (ar : Addr) (k_ar : ClassId) (x1 : Addr) (h0 : Heap) (n0 : Nat) (v : Option Value) (h : Heap) (L : List Loc) : Prop := v = some (.ref x1) ∧ Fr n0 L ∧ h = h0
set_option maxRecDepth 65536 in
set_option maxHeartbeats 40000000 in
theorem rm19_1_2 (l : Launch) (Z : State) (a0 : Array Value) (hw : ∀ d ∈ tables_1, d.before a0 Z = true) (ws : List Jvm.Cond) (a1 : Addr) (ar : Addr) (k_ar : ClassId) (x1 : Addr) (h0 : Heap) (n0 : Nat) (Z0 : n0 ≤ h0.size) (F_a1_elements : Fld Z h0 a1 own_cD "elements" "[Ljava/lang/Object;" (.ref ar)) (F_a1_head : Fld Z h0 a1 own_cD "head" "I" (.int (1 : Int32))) (V_ar : Arv Z h0 ar k_ar (.object "java/lang/Object") (17 : Int32) [.null, (.ref x1), .null, .null, .null, .null, .null, .null, .null, .null, .null, .null, .null, .null, .null, .null, .null] .null) :
    own_Met l (⟨own_cD, "getFirst", "()Ljava/lang/Object;"⟩ : MethodName) jdk_21_method_22_code 2 (some (.object "java/lang/Object")) ws ({ frames := 1, cells := 0, slots := 0, locals := 13 } : Room) #[(.ref a1)] Z h0 (Q19_1_2 Z a1 ar k_ar x1 h0 n0) := by
  refine own_met (plainFor_of_name pn_1) ?_
  intro p e s m below meth c s₁ Bd hx hby hml hZ hown hnm X0 e0
  have wd : ∀ (i : Nat) (d : Jvm.Cond), tables_1[i]? = some d → d.before a0 Z = true := fun i d q => hw d (List.mem_of_getElem? q)
  have NN := Fr.nil n0
  have KK : Keep h0 h0 [] := Keep.refl h0 _
  refine own_start (ef_19_1_2 m a1) ?_
  refine cs_aloadN cG X0 hx (hb hby d19_0) rfl rfl ?_
  refine cs_get cG X0 hx hZ hown (wd 25 _ rfl) e0 F_a1_elements (hb hby d19_1) ?_
  intro T1 X1 e1
  refine cs_aloadN cG X1 hx (hb hby d19_4) rfl rfl ?_
  refine cs_get cG X1 hx hZ hown (wd 49 _ rfl) e1 F_a1_head (hb hby d19_5) ?_
  intro T2 X2 e2
  refine cs_S cG X2 hx hZ hown (wd 81 _ rfl) (wd 82 _ rfl) (wd 12 _ rfl) (wd 83 _ rfl) (by decide) (rm14_1_2_1 l Z a0 hw [] ar k_ar x1 h0 n0 Z0 V_ar) (by decide) (by decide) (by decide) (by decide) e2 (by rw [hml]; rfl) (argsL := [(.ref ar), (.int (1 : Int32))]) (S := []) (lenOf pd_11 rfl) rfl (W := 0) (Nat.le_of_eq rfl) (hb hby d19_8) rfl ?_
  intro v3 T3 L3 X3 hQ3
  obtain ⟨rfl, N3q, e3⟩ := hQ3
  have NN := Fr.app NN N3q
  show own_Go _ _ _ _ T3 (mkF m 11 #[vr a1, .unset] [(.ref x1)])
  refine cs_astoreN cG X3 hx (hb hby d19_11) rfl (l' := #[vr a1, vr x1]) rfl ?_
  refine cs_aloadN cG X3 hx (hb hby d19_12) rfl rfl ?_
  refine own_go (g' := _) (fun t k => XS.ifnonnullYes X3.here hx rfl (pc0 := 13) (pc' := 24) rfl (hb hby d19_13) rfl (by decide) (by decide) k) ?_
  show own_Go _ _ _ _ T3 (mkF m 24 #[vr a1, vr x1] [])
  refine cs_aloadN cG X3 hx (hb hby d19_24) rfl rfl ?_
  show own_Go _ _ _ _ T3 (mkF m 25 #[vr a1, vr x1] [(.ref x1)])
  obtain ⟨fs, hr, hrun, hended, hW, hsame⟩ := X3.leave (v := some (.ref x1)) (fun h => by rw [Bd.returns] at h; cases h)
  refine ⟨_, _, ?_, hrun, hended, _, _, rfl, ?_, ⟨_, rfl⟩, hW, hsame.mono (by decide) (by decide)⟩
  · exact own_retR X3 hx Bd.returns rfl rfl (hb hby d19_25) hr
  · show Q19_1_2 Z a1 ar k_ar x1 h0 n0 _ T3.heap _
    rw [e3]
    exact ⟨rfl, NN, rfl⟩
theorem ef_19_2_3 (m : MethodId) (a1 : Addr) : entryFrame m #[(.ref a1)] 2 = mkF m 0 #[.val (.ref a1), .unset] [] := by first | (simp [entryFrame, mkF, argsToLocals, Value.category]; done) | rfl
def Q19_2_3 (Z : State) (a1 : Addr) (ar : Addr) (k_ar : ClassId) (x2 : Addr) (h0 : Heap) (n0 : Nat) (v : Option Value) (h : Heap) (L : List Loc) : Prop := v = some (.ref x2) ∧ Fr n0 L ∧ h = h0
set_option maxRecDepth 65536 in
set_option maxHeartbeats 40000000 in
theorem rm19_2_3 (l : Launch) (Z : State) (a0 : Array Value) (hw : ∀ d ∈ tables_1, d.before a0 Z = true) (ws : List Jvm.Cond) (a1 : Addr) (ar : Addr) (k_ar : ClassId) (x2 : Addr) (h0 : Heap) (n0 : Nat) (Z0 : n0 ≤ h0.size) (F_a1_elements : Fld Z h0 a1 own_cD "elements" "[Ljava/lang/Object;" (.ref ar)) (F_a1_head : Fld Z h0 a1 own_cD "head" "I" (.int (2 : Int32))) (V_ar : Arv Z h0 ar k_ar (.object "java/lang/Object") (17 : Int32) [.null, .null, (.ref x2), .null, .null, .null, .null, .null, .null, .null, .null, .null, .null, .null, .null, .null, .null] .null) :
    own_Met l (⟨own_cD, "getFirst", "()Ljava/lang/Object;"⟩ : MethodName) jdk_21_method_22_code 2 (some (.object "java/lang/Object")) ws ({ frames := 1, cells := 0, slots := 0, locals := 13 } : Room) #[(.ref a1)] Z h0 (Q19_2_3 Z a1 ar k_ar x2 h0 n0) := by
  refine own_met (plainFor_of_name pn_1) ?_
  intro p e s m below meth c s₁ Bd hx hby hml hZ hown hnm X0 e0
  have wd : ∀ (i : Nat) (d : Jvm.Cond), tables_1[i]? = some d → d.before a0 Z = true := fun i d q => hw d (List.mem_of_getElem? q)
  have NN := Fr.nil n0
  have KK : Keep h0 h0 [] := Keep.refl h0 _
  refine own_start (ef_19_2_3 m a1) ?_
  refine cs_aloadN cG X0 hx (hb hby d19_0) rfl rfl ?_
  refine cs_get cG X0 hx hZ hown (wd 25 _ rfl) e0 F_a1_elements (hb hby d19_1) ?_
  intro T1 X1 e1
  refine cs_aloadN cG X1 hx (hb hby d19_4) rfl rfl ?_
  refine cs_get cG X1 hx hZ hown (wd 49 _ rfl) e1 F_a1_head (hb hby d19_5) ?_
  intro T2 X2 e2
  refine cs_S cG X2 hx hZ hown (wd 81 _ rfl) (wd 82 _ rfl) (wd 12 _ rfl) (wd 83 _ rfl) (by decide) (rm14_2_3_2 l Z a0 hw [] ar k_ar x2 h0 n0 Z0 V_ar) (by decide) (by decide) (by decide) (by decide) e2 (by rw [hml]; rfl) (argsL := [(.ref ar), (.int (2 : Int32))]) (S := []) (lenOf pd_11 rfl) rfl (W := 0) (Nat.le_of_eq rfl) (hb hby d19_8) rfl ?_
  intro v3 T3 L3 X3 hQ3
  obtain ⟨rfl, N3q, e3⟩ := hQ3
  have NN := Fr.app NN N3q
  show own_Go _ _ _ _ T3 (mkF m 11 #[vr a1, .unset] [(.ref x2)])
  refine cs_astoreN cG X3 hx (hb hby d19_11) rfl (l' := #[vr a1, vr x2]) rfl ?_
  refine cs_aloadN cG X3 hx (hb hby d19_12) rfl rfl ?_
  refine own_go (g' := _) (fun t k => XS.ifnonnullYes X3.here hx rfl (pc0 := 13) (pc' := 24) rfl (hb hby d19_13) rfl (by decide) (by decide) k) ?_
  show own_Go _ _ _ _ T3 (mkF m 24 #[vr a1, vr x2] [])
  refine cs_aloadN cG X3 hx (hb hby d19_24) rfl rfl ?_
  show own_Go _ _ _ _ T3 (mkF m 25 #[vr a1, vr x2] [(.ref x2)])
  obtain ⟨fs, hr, hrun, hended, hW, hsame⟩ := X3.leave (v := some (.ref x2)) (fun h => by rw [Bd.returns] at h; cases h)
  refine ⟨_, _, ?_, hrun, hended, _, _, rfl, ?_, ⟨_, rfl⟩, hW, hsame.mono (by decide) (by decide)⟩
  · exact own_retR X3 hx Bd.returns rfl rfl (hb hby d19_25) hr
  · show Q19_2_3 Z a1 ar k_ar x2 h0 n0 _ T3.heap _
    rw [e3]
    exact ⟨rfl, NN, rfl⟩
theorem d12_0 : decode jdk_21_method_25_code 0 = .ok (.aload_n 0, 1) := by decide +kernel
theorem d12_1 : decode jdk_21_method_25_code 1 = .ok (.getfield 3, 3) := by decide +kernel
theorem d12_4 : decode jdk_21_method_25_code 4 = .ok (.dup, 1) := by decide +kernel
theorem d12_5 : decode jdk_21_method_25_code 5 = .ok (.astore_n 1, 1) := by decide +kernel
theorem d12_6 : decode jdk_21_method_25_code 6 = .ok (.aload_n 0, 1) := by decide +kernel
theorem d12_7 : decode jdk_21_method_25_code 7 = .ok (.getfield 20, 3) := by decide +kernel
theorem d12_10 : decode jdk_21_method_25_code 10 = .ok (.aload_n 1, 1) := by decide +kernel
theorem d12_11 : decode jdk_21_method_25_code 11 = .ok (.arraylength, 1) := by decide +kernel
theorem d12_12 : decode jdk_21_method_25_code 12 = .ok (.invokestatic 68, 3) := by decide +kernel
theorem d12_15 : decode jdk_21_method_25_code 15 = .ok (.invokestatic 103, 3) := by decide +kernel
theorem d12_18 : decode jdk_21_method_25_code 18 = .ok (.areturn, 1) := by decide +kernel
theorem pd_10 : parseMethodDescriptor "(II)I" = some ⟨[.int, .int], some .int⟩ := by decide +kernel
theorem ef_12_0_0 (m : MethodId) (a1 : Addr) : entryFrame m #[(.ref a1)] 2 = mkF m 0 #[.val (.ref a1), .unset] [] := by first | (simp [entryFrame, mkF, argsToLocals, Value.category]; done) | rfl
def Q12_0_0 (Z : State) (a1 : Addr) (ar : Addr) (k_ar : ClassId) (h0 : Heap) (n0 : Nat) (v : Option Value) (h : Heap) (L : List Loc) : Prop := v = some .null ∧ Fr n0 L ∧ h = h0
set_option maxRecDepth 65536 in
set_option maxHeartbeats 40000000 in
theorem rm12_0_0 (l : Launch) (Z : State) (a0 : Array Value) (hw : ∀ d ∈ tables_1, d.before a0 Z = true) (ws : List Jvm.Cond) (a1 : Addr) (ar : Addr) (k_ar : ClassId) (h0 : Heap) (n0 : Nat) (Z0 : n0 ≤ h0.size) (F_a1_elements : Fld Z h0 a1 own_cD "elements" "[Ljava/lang/Object;" (.ref ar)) (F_a1_tail : Fld Z h0 a1 own_cD "tail" "I" (.int (0 : Int32))) (V_ar : Arv Z h0 ar k_ar (.object "java/lang/Object") (17 : Int32) [.null, .null, .null, .null, .null, .null, .null, .null, .null, .null, .null, .null, .null, .null, .null, .null, .null] .null) :
    own_Met l (⟨own_cD, "peekLast", "()Ljava/lang/Object;"⟩ : MethodName) jdk_21_method_25_code 2 (some (.object "java/lang/Object")) ws ({ frames := 1, cells := 0, slots := 0, locals := 14 } : Room) #[(.ref a1)] Z h0 (Q12_0_0 Z a1 ar k_ar h0 n0) := by
  refine own_met (plainFor_of_name pn_1) ?_
  intro p e s m below meth c s₁ Bd hx hby hml hZ hown hnm X0 e0
  have wd : ∀ (i : Nat) (d : Jvm.Cond), tables_1[i]? = some d → d.before a0 Z = true := fun i d q => hw d (List.mem_of_getElem? q)
  have NN := Fr.nil n0
  have KK : Keep h0 h0 [] := Keep.refl h0 _
  refine own_start (ef_12_0_0 m a1) ?_
  refine cs_aloadN cG X0 hx (hb hby d12_0) rfl rfl ?_
  refine cs_get cG X0 hx hZ hown (wd 25 _ rfl) e0 F_a1_elements (hb hby d12_1) ?_
  intro T1 X1 e1
  refine cs_dup cG X1 hx (hb hby d12_4) rfl ?_
  refine cs_astoreN cG X1 hx (hb hby d12_5) rfl (l' := #[vr a1, vr ar]) rfl ?_
  refine cs_aloadN cG X1 hx (hb hby d12_6) rfl rfl ?_
  refine cs_get cG X1 hx hZ hown (wd 51 _ rfl) e1 F_a1_tail (hb hby d12_7) ?_
  intro T2 X2 e2
  refine cs_aloadN cG X2 hx (hb hby d12_10) rfl rfl ?_
  have Vq := V_ar
  obtain ⟨cl11, Ar11, -, Sz11, Ng11, -, -⟩ := Vq
  refine own_go (fun t k => X2.arraylength hx (by rw [e2]; exact Ar11.1) (State.isArrayOf_alike hZ.alike Ar11.2.1) (g := (mkF m 11 #[vr a1, vr ar] [(.ref ar), (.int (0 : Int32)), (.ref ar)])) rfl rfl (hb hby d12_11) t k) ?_
  rw [len_of Sz11 Ng11]
  show own_Go _ _ _ _ T2 (mkF m 12 #[vr a1, vr ar] [(.int (17 : Int32)), (.int (0 : Int32)), (.ref ar)])
  refine cs_S cG X2 hx hZ hown (wd 78 _ rfl) (wd 79 _ rfl) (wd 12 _ rfl) (wd 80 _ rfl) (by decide) (rm13_0 l Z a0 hw []  h0 n0 Z0 ) (by decide) (by decide) (by decide) (by decide) e2 (by rw [hml]; rfl) (argsL := [(.int (0 : Int32)), (.int (17 : Int32))]) (S := [(.ref ar)]) (lenOf pd_10 rfl) rfl (W := 1) (Nat.le_of_eq rfl) (hb hby d12_12) rfl ?_
  intro v3 T3 L3 X3 hQ3
  obtain ⟨rfl, N3q, e3⟩ := hQ3
  have NN := Fr.app NN N3q
  show own_Go _ _ _ _ T3 (mkF m 15 #[vr a1, vr ar] [(.int (16 : Int32)), (.ref ar)])
  refine cs_S cG X3 hx hZ hown (wd 81 _ rfl) (wd 82 _ rfl) (wd 12 _ rfl) (wd 83 _ rfl) (by decide) (rm14_0_0_16 l Z a0 hw [] ar k_ar h0 n0 Z0 V_ar) (by decide) (by decide) (by decide) (by decide) e3 (by rw [hml]; rfl) (argsL := [(.ref ar), (.int (16 : Int32))]) (S := []) (lenOf pd_11 rfl) rfl (W := 0) (Nat.le_of_eq rfl) (hb hby d12_15) rfl ?_
  intro v4 T4 L4 X4 hQ4
  obtain ⟨rfl, N4q, e4⟩ := hQ4
  have NN := Fr.app NN N4q
  show own_Go _ _ _ _ T4 (mkF m 18 #[vr a1, vr ar] [.null])
  show own_Go _ _ _ _ T4 (mkF m 18 #[vr a1, vr ar] [.null])
  obtain ⟨fs, hr, hrun, hended, hW, hsame⟩ := X4.leave (v := some .null) (fun h => by rw [Bd.returns] at h; cases h)
  refine ⟨_, _, ?_, hrun, hended, _, _, rfl, ?_, ⟨_, rfl⟩, hW, hsame.mono (by decide) (by decide)⟩
  · exact own_retR X4 hx Bd.returns rfl rfl (hb hby d12_18) hr
  · show Q12_0_0 Z a1 ar k_ar h0 n0 _ T4.heap _
    rw [e4]
    exact ⟨rfl, NN, rfl⟩
theorem ef_12_0_1 (m : MethodId) (a1 : Addr) : entryFrame m #[(.ref a1)] 2 = mkF m 0 #[.val (.ref a1), .unset] [] := by first | (simp [entryFrame, mkF, argsToLocals, Value.category]; done) | rfl
def Q12_0_1 (Z : State) (a1 : Addr) (ar : Addr) (k_ar : ClassId) (x0 : Addr) (h0 : Heap) (n0 : Nat) (v : Option Value) (h : Heap) (L : List Loc) : Prop := v = some (.ref x0) ∧ Fr n0 L ∧ h = h0
set_option maxRecDepth 65536 in
set_option maxHeartbeats 40000000 in
theorem rm12_0_1 (l : Launch) (Z : State) (a0 : Array Value) (hw : ∀ d ∈ tables_1, d.before a0 Z = true) (ws : List Jvm.Cond) (a1 : Addr) (ar : Addr) (k_ar : ClassId) (x0 : Addr) (h0 : Heap) (n0 : Nat) (Z0 : n0 ≤ h0.size) (F_a1_elements : Fld Z h0 a1 own_cD "elements" "[Ljava/lang/Object;" (.ref ar)) (F_a1_tail : Fld Z h0 a1 own_cD "tail" "I" (.int (1 : Int32))) (V_ar : Arv Z h0 ar k_ar (.object "java/lang/Object") (17 : Int32) [(.ref x0), .null, .null, .null, .null, .null, .null, .null, .null, .null, .null, .null, .null, .null, .null, .null, .null] .null) :
    own_Met l (⟨own_cD, "peekLast", "()Ljava/lang/Object;"⟩ : MethodName) jdk_21_method_25_code 2 (some (.object "java/lang/Object")) ws ({ frames := 1, cells := 0, slots := 0, locals := 14 } : Room) #[(.ref a1)] Z h0 (Q12_0_1 Z a1 ar k_ar x0 h0 n0) := by
  refine own_met (plainFor_of_name pn_1) ?_
  intro p e s m below meth c s₁ Bd hx hby hml hZ hown hnm X0 e0
  have wd : ∀ (i : Nat) (d : Jvm.Cond), tables_1[i]? = some d → d.before a0 Z = true := fun i d q => hw d (List.mem_of_getElem? q)
  have NN := Fr.nil n0
  have KK : Keep h0 h0 [] := Keep.refl h0 _
  refine own_start (ef_12_0_1 m a1) ?_
  refine cs_aloadN cG X0 hx (hb hby d12_0) rfl rfl ?_
  refine cs_get cG X0 hx hZ hown (wd 25 _ rfl) e0 F_a1_elements (hb hby d12_1) ?_
  intro T1 X1 e1
  refine cs_dup cG X1 hx (hb hby d12_4) rfl ?_
  refine cs_astoreN cG X1 hx (hb hby d12_5) rfl (l' := #[vr a1, vr ar]) rfl ?_
  refine cs_aloadN cG X1 hx (hb hby d12_6) rfl rfl ?_
  refine cs_get cG X1 hx hZ hown (wd 51 _ rfl) e1 F_a1_tail (hb hby d12_7) ?_
  intro T2 X2 e2
  refine cs_aloadN cG X2 hx (hb hby d12_10) rfl rfl ?_
  have Vq := V_ar
  obtain ⟨cl11, Ar11, -, Sz11, Ng11, -, -⟩ := Vq
  refine own_go (fun t k => X2.arraylength hx (by rw [e2]; exact Ar11.1) (State.isArrayOf_alike hZ.alike Ar11.2.1) (g := (mkF m 11 #[vr a1, vr ar] [(.ref ar), (.int (1 : Int32)), (.ref ar)])) rfl rfl (hb hby d12_11) t k) ?_
  rw [len_of Sz11 Ng11]
  show own_Go _ _ _ _ T2 (mkF m 12 #[vr a1, vr ar] [(.int (17 : Int32)), (.int (1 : Int32)), (.ref ar)])
  refine cs_S cG X2 hx hZ hown (wd 78 _ rfl) (wd 79 _ rfl) (wd 12 _ rfl) (wd 80 _ rfl) (by decide) (rm13_1 l Z a0 hw []  h0 n0 Z0 ) (by decide) (by decide) (by decide) (by decide) e2 (by rw [hml]; rfl) (argsL := [(.int (1 : Int32)), (.int (17 : Int32))]) (S := [(.ref ar)]) (lenOf pd_10 rfl) rfl (W := 1) (Nat.le_of_eq rfl) (hb hby d12_12) rfl ?_
  intro v3 T3 L3 X3 hQ3
  obtain ⟨rfl, N3q, e3⟩ := hQ3
  have NN := Fr.app NN N3q
  show own_Go _ _ _ _ T3 (mkF m 15 #[vr a1, vr ar] [(.int (0 : Int32)), (.ref ar)])
  refine cs_S cG X3 hx hZ hown (wd 81 _ rfl) (wd 82 _ rfl) (wd 12 _ rfl) (wd 83 _ rfl) (by decide) (rm14_0_1_0 l Z a0 hw [] ar k_ar x0 h0 n0 Z0 V_ar) (by decide) (by decide) (by decide) (by decide) e3 (by rw [hml]; rfl) (argsL := [(.ref ar), (.int (0 : Int32))]) (S := []) (lenOf pd_11 rfl) rfl (W := 0) (Nat.le_of_eq rfl) (hb hby d12_15) rfl ?_
  intro v4 T4 L4 X4 hQ4
  obtain ⟨rfl, N4q, e4⟩ := hQ4
  have NN := Fr.app NN N4q
  show own_Go _ _ _ _ T4 (mkF m 18 #[vr a1, vr ar] [(.ref x0)])
  show own_Go _ _ _ _ T4 (mkF m 18 #[vr a1, vr ar] [(.ref x0)])
  obtain ⟨fs, hr, hrun, hended, hW, hsame⟩ := X4.leave (v := some (.ref x0)) (fun h => by rw [Bd.returns] at h; cases h)
  refine ⟨_, _, ?_, hrun, hended, _, _, rfl, ?_, ⟨_, rfl⟩, hW, hsame.mono (by decide) (by decide)⟩
  · exact own_retR X4 hx Bd.returns rfl rfl (hb hby d12_18) hr
  · show Q12_0_1 Z a1 ar k_ar x0 h0 n0 _ T4.heap _
    rw [e4]
    exact ⟨rfl, NN, rfl⟩
theorem ef_12_1_1 (m : MethodId) (a1 : Addr) : entryFrame m #[(.ref a1)] 2 = mkF m 0 #[.val (.ref a1), .unset] [] := by first | (simp [entryFrame, mkF, argsToLocals, Value.category]; done) | rfl
def Q12_1_1 (Z : State) (a1 : Addr) (ar : Addr) (k_ar : ClassId) (h0 : Heap) (n0 : Nat) (v : Option Value) (h : Heap) (L : List Loc) : Prop := v = some .null ∧ Fr n0 L ∧ h = h0
set_option maxRecDepth 65536 in
set_option maxHeartbeats 40000000 in
theorem rm12_1_1 (l : Launch) (Z : State) (a0 : Array Value) (hw : ∀ d ∈ tables_1, d.before a0 Z = true) (ws : List Jvm.Cond) (a1 : Addr) (ar : Addr) (k_ar : ClassId) (h0 : Heap) (n0 : Nat) (Z0 : n0 ≤ h0.size) (F_a1_elements : Fld Z h0 a1 own_cD "elements" "[Ljava/lang/Object;" (.ref ar)) (F_a1_tail : Fld Z h0 a1 own_cD "tail" "I" (.int (1 : Int32))) (V_ar : Arv Z h0 ar k_ar (.object "java/lang/Object") (17 : Int32) [.null, .null, .null, .null, .null, .null, .null, .null, .null, .null, .null, .null, .null, .null, .null, .null, .null] .null) :
    own_Met l (⟨own_cD, "peekLast", "()Ljava/lang/Object;"⟩ : MethodName) jdk_21_method_25_code 2 (some (.object "java/lang/Object")) ws ({ frames := 1, cells := 0, slots := 0, locals := 14 } : Room) #[(.ref a1)] Z h0 (Q12_1_1 Z a1 ar k_ar h0 n0) := by
  refine own_met (plainFor_of_name pn_1) ?_
  intro p e s m below meth c s₁ Bd hx hby hml hZ hown hnm X0 e0
  have wd : ∀ (i : Nat) (d : Jvm.Cond), tables_1[i]? = some d → d.before a0 Z = true := fun i d q => hw d (List.mem_of_getElem? q)
  have NN := Fr.nil n0
  have KK : Keep h0 h0 [] := Keep.refl h0 _
  refine own_start (ef_12_1_1 m a1) ?_
  refine cs_aloadN cG X0 hx (hb hby d12_0) rfl rfl ?_
  refine cs_get cG X0 hx hZ hown (wd 25 _ rfl) e0 F_a1_elements (hb hby d12_1) ?_
  intro T1 X1 e1
  refine cs_dup cG X1 hx (hb hby d12_4) rfl ?_
  refine cs_astoreN cG X1 hx (hb hby d12_5) rfl (l' := #[vr a1, vr ar]) rfl ?_
  refine cs_aloadN cG X1 hx (hb hby d12_6) rfl rfl ?_
  refine cs_get cG X1 hx hZ hown (wd 51 _ rfl) e1 F_a1_tail (hb hby d12_7) ?_
  intro T2 X2 e2
  refine cs_aloadN cG X2 hx (hb hby d12_10) rfl rfl ?_
  have Vq := V_ar
  obtain ⟨cl11, Ar11, -, Sz11, Ng11, -, -⟩ := Vq
  refine own_go (fun t k => X2.arraylength hx (by rw [e2]; exact Ar11.1) (State.isArrayOf_alike hZ.alike Ar11.2.1) (g := (mkF m 11 #[vr a1, vr ar] [(.ref ar), (.int (1 : Int32)), (.ref ar)])) rfl rfl (hb hby d12_11) t k) ?_
  rw [len_of Sz11 Ng11]
  show own_Go _ _ _ _ T2 (mkF m 12 #[vr a1, vr ar] [(.int (17 : Int32)), (.int (1 : Int32)), (.ref ar)])
  refine cs_S cG X2 hx hZ hown (wd 78 _ rfl) (wd 79 _ rfl) (wd 12 _ rfl) (wd 80 _ rfl) (by decide) (rm13_1 l Z a0 hw []  h0 n0 Z0 ) (by decide) (by decide) (by decide) (by decide) e2 (by rw [hml]; rfl) (argsL := [(.int (1 : Int32)), (.int (17 : Int32))]) (S := [(.ref ar)]) (lenOf pd_10 rfl) rfl (W := 1) (Nat.le_of_eq rfl) (hb hby d12_12) rfl ?_
  intro v3 T3 L3 X3 hQ3
  obtain ⟨rfl, N3q, e3⟩ := hQ3
  have NN := Fr.app NN N3q
  show own_Go _ _ _ _ T3 (mkF m 15 #[vr a1, vr ar] [(.int (0 : Int32)), (.ref ar)])
  refine cs_S cG X3 hx hZ hown (wd 81 _ rfl) (wd 82 _ rfl) (wd 12 _ rfl) (wd 83 _ rfl) (by decide) (rm14_1_1_0 l Z a0 hw [] ar k_ar h0 n0 Z0 V_ar) (by decide) (by decide) (by decide) (by decide) e3 (by rw [hml]; rfl) (argsL := [(.ref ar), (.int (0 : Int32))]) (S := []) (lenOf pd_11 rfl) rfl (W := 0) (Nat.le_of_eq rfl) (hb hby d12_15) rfl ?_
  intro v4 T4 L4 X4 hQ4
  obtain ⟨rfl, N4q, e4⟩ := hQ4
  have NN := Fr.app NN N4q
  show own_Go _ _ _ _ T4 (mkF m 18 #[vr a1, vr ar] [.null])
  show own_Go _ _ _ _ T4 (mkF m 18 #[vr a1, vr ar] [.null])
  obtain ⟨fs, hr, hrun, hended, hW, hsame⟩ := X4.leave (v := some .null) (fun h => by rw [Bd.returns] at h; cases h)
  refine ⟨_, _, ?_, hrun, hended, _, _, rfl, ?_, ⟨_, rfl⟩, hW, hsame.mono (by decide) (by decide)⟩
  · exact own_retR X4 hx Bd.returns rfl rfl (hb hby d12_18) hr
  · show Q12_1_1 Z a1 ar k_ar h0 n0 _ T4.heap _
    rw [e4]
    exact ⟨rfl, NN, rfl⟩
theorem ef_12_0_2 (m : MethodId) (a1 : Addr) : entryFrame m #[(.ref a1)] 2 = mkF m 0 #[.val (.ref a1), .unset] [] := by first | (simp [entryFrame, mkF, argsToLocals, Value.category]; done) | rfl
def Q12_0_2 (Z : State) (a1 : Addr) (ar : Addr) (k_ar : ClassId) (x0 : Addr) (x1 : Addr) (h0 : Heap) (n0 : Nat) (v : Option Value) (h : Heap) (L : List Loc) : Prop := v = some (.ref x1) ∧ Fr n0 L ∧ h = h0
set_option maxRecDepth 65536 in
set_option maxHeartbeats 40000000 in
theorem rm12_0_2 (l : Launch) (Z : State) (a0 : Array Value) (hw : ∀ d ∈ tables_1, d.before a0 Z = true) (ws : List Jvm.Cond) (a1 : Addr) (ar : Addr) (k_ar : ClassId) (x0 : Addr) (x1 : Addr) (h0 : Heap) (n0 : Nat) (Z0 : n0 ≤ h0.size) (F_a1_elements : Fld Z h0 a1 own_cD "elements" "[Ljava/lang/Object;" (.ref ar)) (F_a1_tail : Fld Z h0 a1 own_cD "tail" "I" (.int (2 : Int32))) (V_ar : Arv Z h0 ar k_ar (.object "java/lang/Object") (17 : Int32) [(.ref x0), (.ref x1), .null, .null, .null, .null, .null, .null, .null, .null, .null, .null, .null, .null, .null, .null, .null] .null) :
    own_Met l (⟨own_cD, "peekLast", "()Ljava/lang/Object;"⟩ : MethodName) jdk_21_method_25_code 2 (some (.object "java/lang/Object")) ws ({ frames := 1, cells := 0, slots := 0, locals := 14 } : Room) #[(.ref a1)] Z h0 (Q12_0_2 Z a1 ar k_ar x0 x1 h0 n0) := by
  refine own_met (plainFor_of_name pn_1) ?_
  intro p e s m below meth c s₁ Bd hx hby hml hZ hown hnm X0 e0
  have wd : ∀ (i : Nat) (d : Jvm.Cond), tables_1[i]? = some d → d.before a0 Z = true := fun i d q => hw d (List.mem_of_getElem? q)
  have NN := Fr.nil n0
  have KK : Keep h0 h0 [] := Keep.refl h0 _
  refine own_start (ef_12_0_2 m a1) ?_
  refine cs_aloadN cG X0 hx (hb hby d12_0) rfl rfl ?_
  refine cs_get cG X0 hx hZ hown (wd 25 _ rfl) e0 F_a1_elements (hb hby d12_1) ?_
  intro T1 X1 e1
  refine cs_dup cG X1 hx (hb hby d12_4) rfl ?_
  refine cs_astoreN cG X1 hx (hb hby d12_5) rfl (l' := #[vr a1, vr ar]) rfl ?_
  refine cs_aloadN cG X1 hx (hb hby d12_6) rfl rfl ?_
  refine cs_get cG X1 hx hZ hown (wd 51 _ rfl) e1 F_a1_tail (hb hby d12_7) ?_
  intro T2 X2 e2
  refine cs_aloadN cG X2 hx (hb hby d12_10) rfl rfl ?_
  have Vq := V_ar
  obtain ⟨cl11, Ar11, -, Sz11, Ng11, -, -⟩ := Vq
  refine own_go (fun t k => X2.arraylength hx (by rw [e2]; exact Ar11.1) (State.isArrayOf_alike hZ.alike Ar11.2.1) (g := (mkF m 11 #[vr a1, vr ar] [(.ref ar), (.int (2 : Int32)), (.ref ar)])) rfl rfl (hb hby d12_11) t k) ?_
  rw [len_of Sz11 Ng11]
  show own_Go _ _ _ _ T2 (mkF m 12 #[vr a1, vr ar] [(.int (17 : Int32)), (.int (2 : Int32)), (.ref ar)])
  refine cs_S cG X2 hx hZ hown (wd 78 _ rfl) (wd 79 _ rfl) (wd 12 _ rfl) (wd 80 _ rfl) (by decide) (rm13_2 l Z a0 hw []  h0 n0 Z0 ) (by decide) (by decide) (by decide) (by decide) e2 (by rw [hml]; rfl) (argsL := [(.int (2 : Int32)), (.int (17 : Int32))]) (S := [(.ref ar)]) (lenOf pd_10 rfl) rfl (W := 1) (Nat.le_of_eq rfl) (hb hby d12_12) rfl ?_
  intro v3 T3 L3 X3 hQ3
  obtain ⟨rfl, N3q, e3⟩ := hQ3
  have NN := Fr.app NN N3q
  show own_Go _ _ _ _ T3 (mkF m 15 #[vr a1, vr ar] [(.int (1 : Int32)), (.ref ar)])
  refine cs_S cG X3 hx hZ hown (wd 81 _ rfl) (wd 82 _ rfl) (wd 12 _ rfl) (wd 83 _ rfl) (by decide) (rm14_0_2_1 l Z a0 hw [] ar k_ar x0 x1 h0 n0 Z0 V_ar) (by decide) (by decide) (by decide) (by decide) e3 (by rw [hml]; rfl) (argsL := [(.ref ar), (.int (1 : Int32))]) (S := []) (lenOf pd_11 rfl) rfl (W := 0) (Nat.le_of_eq rfl) (hb hby d12_15) rfl ?_
  intro v4 T4 L4 X4 hQ4
  obtain ⟨rfl, N4q, e4⟩ := hQ4
  have NN := Fr.app NN N4q
  show own_Go _ _ _ _ T4 (mkF m 18 #[vr a1, vr ar] [(.ref x1)])
  show own_Go _ _ _ _ T4 (mkF m 18 #[vr a1, vr ar] [(.ref x1)])
  obtain ⟨fs, hr, hrun, hended, hW, hsame⟩ := X4.leave (v := some (.ref x1)) (fun h => by rw [Bd.returns] at h; cases h)
  refine ⟨_, _, ?_, hrun, hended, _, _, rfl, ?_, ⟨_, rfl⟩, hW, hsame.mono (by decide) (by decide)⟩
  · exact own_retR X4 hx Bd.returns rfl rfl (hb hby d12_18) hr
  · show Q12_0_2 Z a1 ar k_ar x0 x1 h0 n0 _ T4.heap _
    rw [e4]
    exact ⟨rfl, NN, rfl⟩
theorem ef_12_1_2 (m : MethodId) (a1 : Addr) : entryFrame m #[(.ref a1)] 2 = mkF m 0 #[.val (.ref a1), .unset] [] := by first | (simp [entryFrame, mkF, argsToLocals, Value.category]; done) | rfl
def Q12_1_2 (Z : State) (a1 : Addr) (ar : Addr) (k_ar : ClassId) (x1 : Addr) (h0 : Heap) (n0 : Nat) (v : Option Value) (h : Heap) (L : List Loc) : Prop := v = some (.ref x1) ∧ Fr n0 L ∧ h = h0
set_option maxRecDepth 65536 in
set_option maxHeartbeats 40000000 in
theorem rm12_1_2 (l : Launch) (Z : State) (a0 : Array Value) (hw : ∀ d ∈ tables_1, d.before a0 Z = true) (ws : List Jvm.Cond) (a1 : Addr) (ar : Addr) (k_ar : ClassId) (x1 : Addr) (h0 : Heap) (n0 : Nat) (Z0 : n0 ≤ h0.size) (F_a1_elements : Fld Z h0 a1 own_cD "elements" "[Ljava/lang/Object;" (.ref ar)) (F_a1_tail : Fld Z h0 a1 own_cD "tail" "I" (.int (2 : Int32))) (V_ar : Arv Z h0 ar k_ar (.object "java/lang/Object") (17 : Int32) [.null, (.ref x1), .null, .null, .null, .null, .null, .null, .null, .null, .null, .null, .null, .null, .null, .null, .null] .null) :
    own_Met l (⟨own_cD, "peekLast", "()Ljava/lang/Object;"⟩ : MethodName) jdk_21_method_25_code 2 (some (.object "java/lang/Object")) ws ({ frames := 1, cells := 0, slots := 0, locals := 14 } : Room) #[(.ref a1)] Z h0 (Q12_1_2 Z a1 ar k_ar x1 h0 n0) := by
  refine own_met (plainFor_of_name pn_1) ?_
  intro p e s m below meth c s₁ Bd hx hby hml hZ hown hnm X0 e0
  have wd : ∀ (i : Nat) (d : Jvm.Cond), tables_1[i]? = some d → d.before a0 Z = true := fun i d q => hw d (List.mem_of_getElem? q)
  have NN := Fr.nil n0
  have KK : Keep h0 h0 [] := Keep.refl h0 _
  refine own_start (ef_12_1_2 m a1) ?_
  refine cs_aloadN cG X0 hx (hb hby d12_0) rfl rfl ?_
  refine cs_get cG X0 hx hZ hown (wd 25 _ rfl) e0 F_a1_elements (hb hby d12_1) ?_
  intro T1 X1 e1
  refine cs_dup cG X1 hx (hb hby d12_4) rfl ?_
  refine cs_astoreN cG X1 hx (hb hby d12_5) rfl (l' := #[vr a1, vr ar]) rfl ?_
  refine cs_aloadN cG X1 hx (hb hby d12_6) rfl rfl ?_
  refine cs_get cG X1 hx hZ hown (wd 51 _ rfl) e1 F_a1_tail (hb hby d12_7) ?_
  intro T2 X2 e2
  refine cs_aloadN cG X2 hx (hb hby d12_10) rfl rfl ?_
  have Vq := V_ar
  obtain ⟨cl11, Ar11, -, Sz11, Ng11, -, -⟩ := Vq
  refine own_go (fun t k => X2.arraylength hx (by rw [e2]; exact Ar11.1) (State.isArrayOf_alike hZ.alike Ar11.2.1) (g := (mkF m 11 #[vr a1, vr ar] [(.ref ar), (.int (2 : Int32)), (.ref ar)])) rfl rfl (hb hby d12_11) t k) ?_
  rw [len_of Sz11 Ng11]
  show own_Go _ _ _ _ T2 (mkF m 12 #[vr a1, vr ar] [(.int (17 : Int32)), (.int (2 : Int32)), (.ref ar)])
  refine cs_S cG X2 hx hZ hown (wd 78 _ rfl) (wd 79 _ rfl) (wd 12 _ rfl) (wd 80 _ rfl) (by decide) (rm13_2 l Z a0 hw []  h0 n0 Z0 ) (by decide) (by decide) (by decide) (by decide) e2 (by rw [hml]; rfl) (argsL := [(.int (2 : Int32)), (.int (17 : Int32))]) (S := [(.ref ar)]) (lenOf pd_10 rfl) rfl (W := 1) (Nat.le_of_eq rfl) (hb hby d12_12) rfl ?_
  intro v3 T3 L3 X3 hQ3
  obtain ⟨rfl, N3q, e3⟩ := hQ3
  have NN := Fr.app NN N3q
  show own_Go _ _ _ _ T3 (mkF m 15 #[vr a1, vr ar] [(.int (1 : Int32)), (.ref ar)])
  refine cs_S cG X3 hx hZ hown (wd 81 _ rfl) (wd 82 _ rfl) (wd 12 _ rfl) (wd 83 _ rfl) (by decide) (rm14_1_2_1 l Z a0 hw [] ar k_ar x1 h0 n0 Z0 V_ar) (by decide) (by decide) (by decide) (by decide) e3 (by rw [hml]; rfl) (argsL := [(.ref ar), (.int (1 : Int32))]) (S := []) (lenOf pd_11 rfl) rfl (W := 0) (Nat.le_of_eq rfl) (hb hby d12_15) rfl ?_
  intro v4 T4 L4 X4 hQ4
  obtain ⟨rfl, N4q, e4⟩ := hQ4
  have NN := Fr.app NN N4q
  show own_Go _ _ _ _ T4 (mkF m 18 #[vr a1, vr ar] [(.ref x1)])
  show own_Go _ _ _ _ T4 (mkF m 18 #[vr a1, vr ar] [(.ref x1)])
  obtain ⟨fs, hr, hrun, hended, hW, hsame⟩ := X4.leave (v := some (.ref x1)) (fun h => by rw [Bd.returns] at h; cases h)
  refine ⟨_, _, ?_, hrun, hended, _, _, rfl, ?_, ⟨_, rfl⟩, hW, hsame.mono (by decide) (by decide)⟩
  · exact own_retR X4 hx Bd.returns rfl rfl (hb hby d12_18) hr
  · show Q12_1_2 Z a1 ar k_ar x1 h0 n0 _ T4.heap _
    rw [e4]
    exact ⟨rfl, NN, rfl⟩
theorem ef_12_2_2 (m : MethodId) (a1 : Addr) : entryFrame m #[(.ref a1)] 2 = mkF m 0 #[.val (.ref a1), .unset] [] := by first | (simp [entryFrame, mkF, argsToLocals, Value.category]; done) | rfl
def Q12_2_2 (Z : State) (a1 : Addr) (ar : Addr) (k_ar : ClassId) (h0 : Heap) (n0 : Nat) (v : Option Value) (h : Heap) (L : List Loc) : Prop := v = some .null ∧ Fr n0 L ∧ h = h0
set_option maxRecDepth 65536 in
set_option maxHeartbeats 40000000 in
theorem rm12_2_2 (l : Launch) (Z : State) (a0 : Array Value) (hw : ∀ d ∈ tables_1, d.before a0 Z = true) (ws : List Jvm.Cond) (a1 : Addr) (ar : Addr) (k_ar : ClassId) (h0 : Heap) (n0 : Nat) (Z0 : n0 ≤ h0.size) (F_a1_elements : Fld Z h0 a1 own_cD "elements" "[Ljava/lang/Object;" (.ref ar)) (F_a1_tail : Fld Z h0 a1 own_cD "tail" "I" (.int (2 : Int32))) (V_ar : Arv Z h0 ar k_ar (.object "java/lang/Object") (17 : Int32) [.null, .null, .null, .null, .null, .null, .null, .null, .null, .null, .null, .null, .null, .null, .null, .null, .null] .null) :
    own_Met l (⟨own_cD, "peekLast", "()Ljava/lang/Object;"⟩ : MethodName) jdk_21_method_25_code 2 (some (.object "java/lang/Object")) ws ({ frames := 1, cells := 0, slots := 0, locals := 14 } : Room) #[(.ref a1)] Z h0 (Q12_2_2 Z a1 ar k_ar h0 n0) := by
  refine own_met (plainFor_of_name pn_1) ?_
  intro p e s m below meth c s₁ Bd hx hby hml hZ hown hnm X0 e0
  have wd : ∀ (i : Nat) (d : Jvm.Cond), tables_1[i]? = some d → d.before a0 Z = true := fun i d q => hw d (List.mem_of_getElem? q)
  have NN := Fr.nil n0
  have KK : Keep h0 h0 [] := Keep.refl h0 _
  refine own_start (ef_12_2_2 m a1) ?_
  refine cs_aloadN cG X0 hx (hb hby d12_0) rfl rfl ?_
  refine cs_get cG X0 hx hZ hown (wd 25 _ rfl) e0 F_a1_elements (hb hby d12_1) ?_
  intro T1 X1 e1
  refine cs_dup cG X1 hx (hb hby d12_4) rfl ?_
  refine cs_astoreN cG X1 hx (hb hby d12_5) rfl (l' := #[vr a1, vr ar]) rfl ?_
  refine cs_aloadN cG X1 hx (hb hby d12_6) rfl rfl ?_
  refine cs_get cG X1 hx hZ hown (wd 51 _ rfl) e1 F_a1_tail (hb hby d12_7) ?_
  intro T2 X2 e2
  refine cs_aloadN cG X2 hx (hb hby d12_10) rfl rfl ?_
  have Vq := V_ar
  obtain ⟨cl11, Ar11, -, Sz11, Ng11, -, -⟩ := Vq
  refine own_go (fun t k => X2.arraylength hx (by rw [e2]; exact Ar11.1) (State.isArrayOf_alike hZ.alike Ar11.2.1) (g := (mkF m 11 #[vr a1, vr ar] [(.ref ar), (.int (2 : Int32)), (.ref ar)])) rfl rfl (hb hby d12_11) t k) ?_
  rw [len_of Sz11 Ng11]
  show own_Go _ _ _ _ T2 (mkF m 12 #[vr a1, vr ar] [(.int (17 : Int32)), (.int (2 : Int32)), (.ref ar)])
  refine cs_S cG X2 hx hZ hown (wd 78 _ rfl) (wd 79 _ rfl) (wd 12 _ rfl) (wd 80 _ rfl) (by decide) (rm13_2 l Z a0 hw []  h0 n0 Z0 ) (by decide) (by decide) (by decide) (by decide) e2 (by rw [hml]; rfl) (argsL := [(.int (2 : Int32)), (.int (17 : Int32))]) (S := [(.ref ar)]) (lenOf pd_10 rfl) rfl (W := 1) (Nat.le_of_eq rfl) (hb hby d12_12) rfl ?_
  intro v3 T3 L3 X3 hQ3
  obtain ⟨rfl, N3q, e3⟩ := hQ3
  have NN := Fr.app NN N3q
  show own_Go _ _ _ _ T3 (mkF m 15 #[vr a1, vr ar] [(.int (1 : Int32)), (.ref ar)])
  refine cs_S cG X3 hx hZ hown (wd 81 _ rfl) (wd 82 _ rfl) (wd 12 _ rfl) (wd 83 _ rfl) (by decide) (rm14_2_2_1 l Z a0 hw [] ar k_ar h0 n0 Z0 V_ar) (by decide) (by decide) (by decide) (by decide) e3 (by rw [hml]; rfl) (argsL := [(.ref ar), (.int (1 : Int32))]) (S := []) (lenOf pd_11 rfl) rfl (W := 0) (Nat.le_of_eq rfl) (hb hby d12_15) rfl ?_
  intro v4 T4 L4 X4 hQ4
  obtain ⟨rfl, N4q, e4⟩ := hQ4
  have NN := Fr.app NN N4q
  show own_Go _ _ _ _ T4 (mkF m 18 #[vr a1, vr ar] [.null])
  show own_Go _ _ _ _ T4 (mkF m 18 #[vr a1, vr ar] [.null])
  obtain ⟨fs, hr, hrun, hended, hW, hsame⟩ := X4.leave (v := some .null) (fun h => by rw [Bd.returns] at h; cases h)
  refine ⟨_, _, ?_, hrun, hended, _, _, rfl, ?_, ⟨_, rfl⟩, hW, hsame.mono (by decide) (by decide)⟩
  · exact own_retR X4 hx Bd.returns rfl rfl (hb hby d12_18) hr
  · show Q12_2_2 Z a1 ar k_ar h0 n0 _ T4.heap _
    rw [e4]
    exact ⟨rfl, NN, rfl⟩
theorem d16_0 : decode jdk_21_method_13_code 0 = .ok (.aload_n 1, 1) := by decide +kernel
theorem d16_1 : decode jdk_21_method_13_code 1 = .ok (.ifnonnull 11, 3) := by decide +kernel
theorem d16_12 : decode jdk_21_method_13_code 12 = .ok (.aload_n 0, 1) := by decide +kernel
theorem d16_13 : decode jdk_21_method_13_code 13 = .ok (.getfield 3, 3) := by decide +kernel
theorem d16_16 : decode jdk_21_method_13_code 16 = .ok (.astore_n 2, 1) := by decide +kernel
theorem d16_17 : decode jdk_21_method_13_code 17 = .ok (.aload_n 2, 1) := by decide +kernel
theorem d16_18 : decode jdk_21_method_13_code 18 = .ok (.aload_n 0, 1) := by decide +kernel
theorem d16_19 : decode jdk_21_method_13_code 19 = .ok (.getfield 20, 3) := by decide +kernel
theorem d16_22 : decode jdk_21_method_13_code 22 = .ok (.aload_n 1, 1) := by decide +kernel
theorem d16_23 : decode jdk_21_method_13_code 23 = .ok (.aastore, 1) := by decide +kernel
theorem d16_24 : decode jdk_21_method_13_code 24 = .ok (.aload_n 0, 1) := by decide +kernel
theorem d16_25 : decode jdk_21_method_13_code 25 = .ok (.getfield 24, 3) := by decide +kernel
theorem d16_28 : decode jdk_21_method_13_code 28 = .ok (.aload_n 0, 1) := by decide +kernel
theorem d16_29 : decode jdk_21_method_13_code 29 = .ok (.aload_n 0, 1) := by decide +kernel
theorem d16_30 : decode jdk_21_method_13_code 30 = .ok (.getfield 20, 3) := by decide +kernel
theorem d16_33 : decode jdk_21_method_13_code 33 = .ok (.aload_n 2, 1) := by decide +kernel
theorem d16_34 : decode jdk_21_method_13_code 34 = .ok (.arraylength, 1) := by decide +kernel
theorem d16_35 : decode jdk_21_method_13_code 35 = .ok (.invokestatic 74, 3) := by decide +kernel
theorem d16_38 : decode jdk_21_method_13_code 38 = .ok (.dup_x1, 1) := by decide +kernel
theorem d16_39 : decode jdk_21_method_13_code 39 = .ok (.putfield 20, 3) := by decide +kernel
theorem d16_42 : decode jdk_21_method_13_code 42 = .ok (.if_icmp .ne 8, 3) := by decide +kernel
theorem d16_50 : decode jdk_21_method_13_code 50 = .ok (.return_, 1) := by decide +kernel
theorem ef_16_0_0 (m : MethodId) (a1 : Addr) (a2 : Addr) : entryFrame m #[(.ref a1), (.ref a2)] 3 = mkF m 0 #[.val (.ref a1), .val (.ref a2), .unset] [] := by first | (simp [entryFrame, mkF, argsToLocals, Value.category]; done) | rfl
def Q16_0_0 (Z : State) (a1 : Addr) (a2 : Addr) (ar : Addr) (k_ar : ClassId) (h0 : Heap) (n0 : Nat) (v : Option Value) (h : Heap) (L : List Loc) : Prop := v = none ∧ Fr n0 L ∧ Keep h0 h [ar, a1] ∧ Arv Z h ar k_ar (.object "java/lang/Object") (17 : Int32) [(.ref a2), .null, .null, .null, .null, .null, .null, .null, .null, .null, .null, .null, .null, .null, .null, .null, .null] .null ∧ Exa Z h a1 own_cD ∧ Fld Z h a1 own_cD "elements" "[Ljava/lang/Object;" (.ref ar) ∧ Fld Z h a1 own_cD "tail" "I" (.int (1 : Int32)) ∧ Fld Z h a1 own_cD "head" "I" (.int (0 : Int32))
set_option maxRecDepth 65536 in
set_option maxHeartbeats 40000000 in
theorem rm16_0_0 (l : Launch) (Z : State) (a0 : Array Value) (hw : ∀ d ∈ tables_1, d.before a0 Z = true) (ws : List Jvm.Cond) (a1 : Addr) (a2 : Addr) (ar : Addr) (k_ar : ClassId) (h0 : Heap) (n0 : Nat) (Z0 : n0 ≤ h0.size) (F_a1_elements : Fld Z h0 a1 own_cD "elements" "[Ljava/lang/Object;" (.ref ar)) (F_a1_tail : Fld Z h0 a1 own_cD "tail" "I" (.int (0 : Int32))) (O_ar : Ovr Z k_ar "java/lang/Object") (V_ar : Arv Z h0 ar k_ar (.object "java/lang/Object") (17 : Int32) [.null, .null, .null, .null, .null, .null, .null, .null, .null, .null, .null, .null, .null, .null, .null, .null, .null] .null) (E_a2 : Exa Z h0 a2 own_cP) (ne_a1_ar : a1 ≠ ar) (g_ar : n0 ≤ ar) (F_a1_head : Fld Z h0 a1 own_cD "head" "I" (.int (0 : Int32))) (E_a1 : Exa Z h0 a1 own_cD) (g_a1 : n0 ≤ a1) :
    own_Met l (⟨own_cD, "addLast", "(Ljava/lang/Object;)V"⟩ : MethodName) jdk_21_method_13_code 3 none ws ({ frames := 1, cells := 0, slots := 0, locals := 15 } : Room) #[(.ref a1), (.ref a2)] Z h0 (Q16_0_0 Z a1 a2 ar k_ar h0 n0) := by
  refine own_met (plainFor_of_name pn_1) ?_
  intro p e s m below meth c s₁ Bd hx hby hml hZ hown hnm X0 e0
  have wd : ∀ (i : Nat) (d : Jvm.Cond), tables_1[i]? = some d → d.before a0 Z = true := fun i d q => hw d (List.mem_of_getElem? q)
  have NN := Fr.nil n0
  have KK : Keep h0 h0 [ar, a1] := Keep.refl h0 _
  refine own_start (ef_16_0_0 m a1 a2) ?_
  refine cs_aloadN cG X0 hx (hb hby d16_0) rfl rfl ?_
  refine own_go (g' := _) (fun t k => XS.ifnonnullYes X0.here hx rfl (pc0 := 1) (pc' := 12) rfl (hb hby d16_1) rfl (by decide) (by decide) k) ?_
  show own_Go _ _ _ _ s₁ (mkF m 12 #[vr a1, vr a2, .unset] [])
  refine cs_aloadN cG X0 hx (hb hby d16_12) rfl rfl ?_
  refine cs_get cG X0 hx hZ hown (wd 25 _ rfl) e0 F_a1_elements (hb hby d16_13) ?_
  intro T1 X1 e1
  refine cs_astoreN cG X1 hx (hb hby d16_16) rfl (l' := #[vr a1, vr a2, vr ar]) rfl ?_
  refine cs_aloadN cG X1 hx (hb hby d16_17) rfl rfl ?_
  refine cs_aloadN cG X1 hx (hb hby d16_18) rfl rfl ?_
  refine cs_get cG X1 hx hZ hown (wd 51 _ rfl) e1 F_a1_tail (hb hby d16_19) ?_
  intro T2 X2 e2
  refine cs_aloadN cG X2 hx (hb hby d16_22) rfl rfl ?_
  have Vq := V_ar
  obtain ⟨cl3, Ar3, q3, Sz3, Ng3, Hs3, Gs3⟩ := Vq
  have hin3 : ¬ ((0 : Int32) < 0 ∨ cl3.slots.size ≤ ((0 : Int32)).toNatClampNeg) := inb_of Sz3 ⟨by decide, by decide⟩
  obtain ⟨T4, h4, X4, e4, W4, st4⟩ := stR X2 hx hZ e2 Ar3 (j := (0 : Int32)) hin3 rfl (Sto.ofV Ar3 q3 O_ar (Ins.of_exa E_a2 (wd 104 _ rfl))) (g := (mkF m 23 #[vr a1, vr a2, vr ar] [(.ref a2), (.int (0 : Int32)), (.ref ar)])) rfl rfl (hb hby d16_23)
  refine own_go st4 ?_
  have F_a1_elements := F_a1_elements.other W4 (Or.inl ne_a1_ar)
  have F_a1_tail := F_a1_tail.other W4 (Or.inl ne_a1_ar)
  have F_a1_head := F_a1_head.other W4 (Or.inl ne_a1_ar)
  have E_a1 := E_a1.wr W4
  have Z0 := Nat.le_trans Z0 (Keep.of_wr W4).1
  have KK := KK.wr W4 (Or.inl (List.mem_of_getElem? (i := 0) rfl))
  have NN := Fr.snoc X4 NN g_ar
  have V_ar : Arv Z h4 ar k_ar (.object "java/lang/Object") (17 : Int32) [(.ref a2), .null, .null, .null, .null, .null, .null, .null, .null, .null, .null, .null, .null, .null, .null, .null, .null] .null := Arv.set Ar3 q3 Sz3 Ng3 Hs3 Gs3 rfl W4 0 rfl (Nat.le_of_ble_eq_true rfl)
  show own_Go _ _ _ _ T4 (mkF m 24 #[vr a1, vr a2, vr ar] [])
  refine cs_aloadN cG X4 hx (hb hby d16_24) rfl rfl ?_
  refine cs_get cG X4 hx hZ hown (wd 49 _ rfl) e4 F_a1_head (hb hby d16_25) ?_
  intro T5 X5 e5
  refine cs_aloadN cG X5 hx (hb hby d16_28) rfl rfl ?_
  refine cs_aloadN cG X5 hx (hb hby d16_29) rfl rfl ?_
  refine cs_get cG X5 hx hZ hown (wd 51 _ rfl) e5 F_a1_tail (hb hby d16_30) ?_
  intro T6 X6 e6
  refine cs_aloadN cG X6 hx (hb hby d16_33) rfl rfl ?_
  have Vq := V_ar
  obtain ⟨cl34, Ar34, -, Sz34, Ng34, -, -⟩ := Vq
  refine own_go (fun t k => X6.arraylength hx (by rw [e6]; exact Ar34.1) (State.isArrayOf_alike hZ.alike Ar34.2.1) (g := (mkF m 34 #[vr a1, vr a2, vr ar] [(.ref ar), (.int (0 : Int32)), (.ref a1), (.int (0 : Int32))])) rfl rfl (hb hby d16_34) t k) ?_
  rw [len_of Sz34 Ng34]
  show own_Go _ _ _ _ T6 (mkF m 35 #[vr a1, vr a2, vr ar] [(.int (17 : Int32)), (.int (0 : Int32)), (.ref a1), (.int (0 : Int32))])
  refine cs_S cG X6 hx hZ hown (wd 105 _ rfl) (wd 106 _ rfl) (wd 12 _ rfl) (wd 107 _ rfl) (by decide) (rm17_0 l Z a0 hw []  h4 n0 Z0 ) (by decide) (by decide) (by decide) (by decide) e6 (by rw [hml]; rfl) (argsL := [(.int (0 : Int32)), (.int (17 : Int32))]) (S := [(.ref a1), (.int (0 : Int32))]) (lenOf pd_10 rfl) rfl (W := 2) (Nat.le_of_eq rfl) (hb hby d16_35) rfl ?_
  intro v7 T7 L7 X7 hQ7
  obtain ⟨rfl, N7q, e7⟩ := hQ7
  have NN := Fr.app NN N7q
  show own_Go _ _ _ _ T7 (mkF m 38 #[vr a1, vr a2, vr ar] [(.int (1 : Int32)), (.ref a1), (.int (0 : Int32))])
  refine cs_dupX1 cG X7 hx (hb hby d16_38) rfl rfl ?_
  refine cs_put cG X7 hx hZ hown (wd 51 _ rfl) e7 F_a1_tail E_a1 (Or.inl (wd 52 _ rfl)) (wd 11 _ rfl) (ty := .int) (by decide) rfl rfl (hb hby d16_39) ?_
  intro T8 h8 X8 e8 W8
  have F_a1_elements := F_a1_elements.other W8 (Or.inr (slot_ne (Or.inl (wd 26 _ rfl)) (Or.inl (wd 52 _ rfl)) (by decide) (t := (.array (.object "java/lang/Object"))) (t' := .int) (by decide) (by decide)))
  have F_a1_tail := F_a1_tail.same W8
  have V_ar := V_ar.other W8 (Ne.symm ne_a1_ar)
  have F_a1_head := F_a1_head.other W8 (Or.inr (slot_ne (Or.inl (wd 50 _ rfl)) (Or.inl (wd 52 _ rfl)) (by decide) (t := .int) (t' := .int) (by decide) (by decide)))
  have E_a1 := E_a1.wr W8
  have KK := KK.wr W8 (Or.inl (List.mem_of_getElem? (i := 1) rfl))
  have NN := Fr.snoc X8 NN g_a1
  refine cs_icmpYes cG X8 hx (pc' := 50) (hb hby d16_42) (feq (by decide : ¬ ((0 : Int32) = (1 : Int32)))).2 (by decide) (by decide) ?_
  show own_Go _ _ _ _ T8 (mkF m 50 #[vr a1, vr a2, vr ar] [])
  obtain ⟨fs, hr, hrun, hended, hW, hsame⟩ := X8.leave (v := none) (fun _ => rfl)
  refine ⟨_, _, ?_, hrun, hended, _, _, rfl, ?_, ⟨_, rfl⟩, hW, hsame.mono (by decide) (by decide)⟩
  · exact X8.returnOut hx Bd.returns (hb hby d16_50) hr
  · show Q16_0_0 Z a1 a2 ar k_ar h0 n0 _ T8.heap _
    rw [e8]
    exact ⟨rfl, NN, KK, V_ar, E_a1, F_a1_elements, F_a1_tail, F_a1_head⟩
theorem ef_16_0_1 (m : MethodId) (a1 : Addr) (a2 : Addr) : entryFrame m #[(.ref a1), (.ref a2)] 3 = mkF m 0 #[.val (.ref a1), .val (.ref a2), .unset] [] := by first | (simp [entryFrame, mkF, argsToLocals, Value.category]; done) | rfl
def Q16_0_1 (Z : State) (a1 : Addr) (a2 : Addr) (ar : Addr) (k_ar : ClassId) (x0 : Addr) (h0 : Heap) (n0 : Nat) (v : Option Value) (h : Heap) (L : List Loc) : Prop := v = none ∧ Fr n0 L ∧ Keep h0 h [ar, a1] ∧ Arv Z h ar k_ar (.object "java/lang/Object") (17 : Int32) [(.ref x0), (.ref a2), .null, .null, .null, .null, .null, .null, .null, .null, .null, .null, .null, .null, .null, .null, .null] .null ∧ Exa Z h a1 own_cD ∧ Fld Z h a1 own_cD "elements" "[Ljava/lang/Object;" (.ref ar) ∧ Fld Z h a1 own_cD "tail" "I" (.int (2 : Int32)) ∧ Fld Z h a1 own_cD "head" "I" (.int (0 : Int32))
set_option maxRecDepth 65536 in
set_option maxHeartbeats 40000000 in
theorem rm16_0_1 (l : Launch) (Z : State) (a0 : Array Value) (hw : ∀ d ∈ tables_1, d.before a0 Z = true) (ws : List Jvm.Cond) (a1 : Addr) (a2 : Addr) (ar : Addr) (k_ar : ClassId) (x0 : Addr) (h0 : Heap) (n0 : Nat) (Z0 : n0 ≤ h0.size) (F_a1_elements : Fld Z h0 a1 own_cD "elements" "[Ljava/lang/Object;" (.ref ar)) (F_a1_tail : Fld Z h0 a1 own_cD "tail" "I" (.int (1 : Int32))) (O_ar : Ovr Z k_ar "java/lang/Object") (V_ar : Arv Z h0 ar k_ar (.object "java/lang/Object") (17 : Int32) [(.ref x0), .null, .null, .null, .null, .null, .null, .null, .null, .null, .null, .null, .null, .null, .null, .null, .null] .null) (E_a2 : Exa Z h0 a2 own_cP) (ne_a1_ar : a1 ≠ ar) (g_ar : n0 ≤ ar) (F_a1_head : Fld Z h0 a1 own_cD "head" "I" (.int (0 : Int32))) (E_a1 : Exa Z h0 a1 own_cD) (g_a1 : n0 ≤ a1) :
    own_Met l (⟨own_cD, "addLast", "(Ljava/lang/Object;)V"⟩ : MethodName) jdk_21_method_13_code 3 none ws ({ frames := 1, cells := 0, slots := 0, locals := 15 } : Room) #[(.ref a1), (.ref a2)] Z h0 (Q16_0_1 Z a1 a2 ar k_ar x0 h0 n0) := by
  refine own_met (plainFor_of_name pn_1) ?_
  intro p e s m below meth c s₁ Bd hx hby hml hZ hown hnm X0 e0
  have wd : ∀ (i : Nat) (d : Jvm.Cond), tables_1[i]? = some d → d.before a0 Z = true := fun i d q => hw d (List.mem_of_getElem? q)
  have NN := Fr.nil n0
  have KK : Keep h0 h0 [ar, a1] := Keep.refl h0 _
  refine own_start (ef_16_0_1 m a1 a2) ?_
  refine cs_aloadN cG X0 hx (hb hby d16_0) rfl rfl ?_
  refine own_go (g' := _) (fun t k => XS.ifnonnullYes X0.here hx rfl (pc0 := 1) (pc' := 12) rfl (hb hby d16_1) rfl (by decide) (by decide) k) ?_
  show own_Go _ _ _ _ s₁ (mkF m 12 #[vr a1, vr a2, .unset] [])
  refine cs_aloadN cG X0 hx (hb hby d16_12) rfl rfl ?_
  refine cs_get cG X0 hx hZ hown (wd 25 _ rfl) e0 F_a1_elements (hb hby d16_13) ?_
  intro T1 X1 e1
  refine cs_astoreN cG X1 hx (hb hby d16_16) rfl (l' := #[vr a1, vr a2, vr ar]) rfl ?_
  refine cs_aloadN cG X1 hx (hb hby d16_17) rfl rfl ?_
  refine cs_aloadN cG X1 hx (hb hby d16_18) rfl rfl ?_
  refine cs_get cG X1 hx hZ hown (wd 51 _ rfl) e1 F_a1_tail (hb hby d16_19) ?_
  intro T2 X2 e2
  refine cs_aloadN cG X2 hx (hb hby d16_22) rfl rfl ?_
  have Vq := V_ar
  obtain ⟨cl3, Ar3, q3, Sz3, Ng3, Hs3, Gs3⟩ := Vq
  have hin3 : ¬ ((1 : Int32) < 0 ∨ cl3.slots.size ≤ ((1 : Int32)).toNatClampNeg) := inb_of Sz3 ⟨by decide, by decide⟩
  obtain ⟨T4, h4, X4, e4, W4, st4⟩ := stR X2 hx hZ e2 Ar3 (j := (1 : Int32)) hin3 rfl (Sto.ofV Ar3 q3 O_ar (Ins.of_exa E_a2 (wd 104 _ rfl))) (g := (mkF m 23 #[vr a1, vr a2, vr ar] [(.ref a2), (.int (1 : Int32)), (.ref ar)])) rfl rfl (hb hby d16_23)
  refine own_go st4 ?_
  have F_a1_elements := F_a1_elements.other W4 (Or.inl ne_a1_ar)
  have F_a1_tail := F_a1_tail.other W4 (Or.inl ne_a1_ar)
  have F_a1_head := F_a1_head.other W4 (Or.inl ne_a1_ar)
  have E_a1 := E_a1.wr W4
  have Z0 := Nat.le_trans Z0 (Keep.of_wr W4).1
  have KK := KK.wr W4 (Or.inl (List.mem_of_getElem? (i := 0) rfl))
  have NN := Fr.snoc X4 NN g_ar
  have V_ar : Arv Z h4 ar k_ar (.object "java/lang/Object") (17 : Int32) [(.ref x0), (.ref a2), .null, .null, .null, .null, .null, .null, .null, .null, .null, .null, .null, .null, .null, .null, .null] .null := Arv.set Ar3 q3 Sz3 Ng3 Hs3 Gs3 rfl W4 1 rfl (Nat.le_of_ble_eq_true rfl)
  show own_Go _ _ _ _ T4 (mkF m 24 #[vr a1, vr a2, vr ar] [])
  refine cs_aloadN cG X4 hx (hb hby d16_24) rfl rfl ?_
  refine cs_get cG X4 hx hZ hown (wd 49 _ rfl) e4 F_a1_head (hb hby d16_25) ?_
  intro T5 X5 e5
  refine cs_aloadN cG X5 hx (hb hby d16_28) rfl rfl ?_
  refine cs_aloadN cG X5 hx (hb hby d16_29) rfl rfl ?_
  refine cs_get cG X5 hx hZ hown (wd 51 _ rfl) e5 F_a1_tail (hb hby d16_30) ?_
  intro T6 X6 e6
  refine cs_aloadN cG X6 hx (hb hby d16_33) rfl rfl ?_
  have Vq := V_ar
  obtain ⟨cl34, Ar34, -, Sz34, Ng34, -, -⟩ := Vq
  refine own_go (fun t k => X6.arraylength hx (by rw [e6]; exact Ar34.1) (State.isArrayOf_alike hZ.alike Ar34.2.1) (g := (mkF m 34 #[vr a1, vr a2, vr ar] [(.ref ar), (.int (1 : Int32)), (.ref a1), (.int (0 : Int32))])) rfl rfl (hb hby d16_34) t k) ?_
  rw [len_of Sz34 Ng34]
  show own_Go _ _ _ _ T6 (mkF m 35 #[vr a1, vr a2, vr ar] [(.int (17 : Int32)), (.int (1 : Int32)), (.ref a1), (.int (0 : Int32))])
  refine cs_S cG X6 hx hZ hown (wd 105 _ rfl) (wd 106 _ rfl) (wd 12 _ rfl) (wd 107 _ rfl) (by decide) (rm17_1 l Z a0 hw []  h4 n0 Z0 ) (by decide) (by decide) (by decide) (by decide) e6 (by rw [hml]; rfl) (argsL := [(.int (1 : Int32)), (.int (17 : Int32))]) (S := [(.ref a1), (.int (0 : Int32))]) (lenOf pd_10 rfl) rfl (W := 2) (Nat.le_of_eq rfl) (hb hby d16_35) rfl ?_
  intro v7 T7 L7 X7 hQ7
  obtain ⟨rfl, N7q, e7⟩ := hQ7
  have NN := Fr.app NN N7q
  show own_Go _ _ _ _ T7 (mkF m 38 #[vr a1, vr a2, vr ar] [(.int (2 : Int32)), (.ref a1), (.int (0 : Int32))])
  refine cs_dupX1 cG X7 hx (hb hby d16_38) rfl rfl ?_
  refine cs_put cG X7 hx hZ hown (wd 51 _ rfl) e7 F_a1_tail E_a1 (Or.inl (wd 52 _ rfl)) (wd 11 _ rfl) (ty := .int) (by decide) rfl rfl (hb hby d16_39) ?_
  intro T8 h8 X8 e8 W8
  have F_a1_elements := F_a1_elements.other W8 (Or.inr (slot_ne (Or.inl (wd 26 _ rfl)) (Or.inl (wd 52 _ rfl)) (by decide) (t := (.array (.object "java/lang/Object"))) (t' := .int) (by decide) (by decide)))
  have F_a1_tail := F_a1_tail.same W8
  have V_ar := V_ar.other W8 (Ne.symm ne_a1_ar)
  have F_a1_head := F_a1_head.other W8 (Or.inr (slot_ne (Or.inl (wd 50 _ rfl)) (Or.inl (wd 52 _ rfl)) (by decide) (t := .int) (t' := .int) (by decide) (by decide)))
  have E_a1 := E_a1.wr W8
  have KK := KK.wr W8 (Or.inl (List.mem_of_getElem? (i := 1) rfl))
  have NN := Fr.snoc X8 NN g_a1
  refine cs_icmpYes cG X8 hx (pc' := 50) (hb hby d16_42) (feq (by decide : ¬ ((0 : Int32) = (2 : Int32)))).2 (by decide) (by decide) ?_
  show own_Go _ _ _ _ T8 (mkF m 50 #[vr a1, vr a2, vr ar] [])
  obtain ⟨fs, hr, hrun, hended, hW, hsame⟩ := X8.leave (v := none) (fun _ => rfl)
  refine ⟨_, _, ?_, hrun, hended, _, _, rfl, ?_, ⟨_, rfl⟩, hW, hsame.mono (by decide) (by decide)⟩
  · exact X8.returnOut hx Bd.returns (hb hby d16_50) hr
  · show Q16_0_1 Z a1 a2 ar k_ar x0 h0 n0 _ T8.heap _
    rw [e8]
    exact ⟨rfl, NN, KK, V_ar, E_a1, F_a1_elements, F_a1_tail, F_a1_head⟩
theorem ef_16_1_1 (m : MethodId) (a1 : Addr) (a2 : Addr) : entryFrame m #[(.ref a1), (.ref a2)] 3 = mkF m 0 #[.val (.ref a1), .val (.ref a2), .unset] [] := by first | (simp [entryFrame, mkF, argsToLocals, Value.category]; done) | rfl
def Q16_1_1 (Z : State) (a1 : Addr) (a2 : Addr) (ar : Addr) (k_ar : ClassId) (h0 : Heap) (n0 : Nat) (v : Option Value) (h : Heap) (L : List Loc) : Prop := v = none ∧ Fr n0 L ∧ Keep h0 h [ar, a1] ∧ Arv Z h ar k_ar (.object "java/lang/Object") (17 : Int32) [.null, (.ref a2), .null, .null, .null, .null, .null, .null, .null, .null, .null, .null, .null, .null, .null, .null, .null] .null ∧ Exa Z h a1 own_cD ∧ Fld Z h a1 own_cD "elements" "[Ljava/lang/Object;" (.ref ar) ∧ Fld Z h a1 own_cD "tail" "I" (.int (2 : Int32)) ∧ Fld Z h a1 own_cD "head" "I" (.int (1 : Int32))
set_option maxRecDepth 65536 in
set_option maxHeartbeats 40000000 in
theorem rm16_1_1 (l : Launch) (Z : State) (a0 : Array Value) (hw : ∀ d ∈ tables_1, d.before a0 Z = true) (ws : List Jvm.Cond) (a1 : Addr) (a2 : Addr) (ar : Addr) (k_ar : ClassId) (h0 : Heap) (n0 : Nat) (Z0 : n0 ≤ h0.size) (F_a1_elements : Fld Z h0 a1 own_cD "elements" "[Ljava/lang/Object;" (.ref ar)) (F_a1_tail : Fld Z h0 a1 own_cD "tail" "I" (.int (1 : Int32))) (O_ar : Ovr Z k_ar "java/lang/Object") (V_ar : Arv Z h0 ar k_ar (.object "java/lang/Object") (17 : Int32) [.null, .null, .null, .null, .null, .null, .null, .null, .null, .null, .null, .null, .null, .null, .null, .null, .null] .null) (E_a2 : Exa Z h0 a2 own_cP) (ne_a1_ar : a1 ≠ ar) (g_ar : n0 ≤ ar) (F_a1_head : Fld Z h0 a1 own_cD "head" "I" (.int (1 : Int32))) (E_a1 : Exa Z h0 a1 own_cD) (g_a1 : n0 ≤ a1) :
    own_Met l (⟨own_cD, "addLast", "(Ljava/lang/Object;)V"⟩ : MethodName) jdk_21_method_13_code 3 none ws ({ frames := 1, cells := 0, slots := 0, locals := 15 } : Room) #[(.ref a1), (.ref a2)] Z h0 (Q16_1_1 Z a1 a2 ar k_ar h0 n0) := by
  refine own_met (plainFor_of_name pn_1) ?_
  intro p e s m below meth c s₁ Bd hx hby hml hZ hown hnm X0 e0
  have wd : ∀ (i : Nat) (d : Jvm.Cond), tables_1[i]? = some d → d.before a0 Z = true := fun i d q => hw d (List.mem_of_getElem? q)
  have NN := Fr.nil n0
  have KK : Keep h0 h0 [ar, a1] := Keep.refl h0 _
  refine own_start (ef_16_1_1 m a1 a2) ?_
  refine cs_aloadN cG X0 hx (hb hby d16_0) rfl rfl ?_
  refine own_go (g' := _) (fun t k => XS.ifnonnullYes X0.here hx rfl (pc0 := 1) (pc' := 12) rfl (hb hby d16_1) rfl (by decide) (by decide) k) ?_
  show own_Go _ _ _ _ s₁ (mkF m 12 #[vr a1, vr a2, .unset] [])
  refine cs_aloadN cG X0 hx (hb hby d16_12) rfl rfl ?_
  refine cs_get cG X0 hx hZ hown (wd 25 _ rfl) e0 F_a1_elements (hb hby d16_13) ?_
  intro T1 X1 e1
  refine cs_astoreN cG X1 hx (hb hby d16_16) rfl (l' := #[vr a1, vr a2, vr ar]) rfl ?_
  refine cs_aloadN cG X1 hx (hb hby d16_17) rfl rfl ?_
  refine cs_aloadN cG X1 hx (hb hby d16_18) rfl rfl ?_
  refine cs_get cG X1 hx hZ hown (wd 51 _ rfl) e1 F_a1_tail (hb hby d16_19) ?_
  intro T2 X2 e2
  refine cs_aloadN cG X2 hx (hb hby d16_22) rfl rfl ?_
  have Vq := V_ar
  obtain ⟨cl3, Ar3, q3, Sz3, Ng3, Hs3, Gs3⟩ := Vq
  have hin3 : ¬ ((1 : Int32) < 0 ∨ cl3.slots.size ≤ ((1 : Int32)).toNatClampNeg) := inb_of Sz3 ⟨by decide, by decide⟩
  obtain ⟨T4, h4, X4, e4, W4, st4⟩ := stR X2 hx hZ e2 Ar3 (j := (1 : Int32)) hin3 rfl (Sto.ofV Ar3 q3 O_ar (Ins.of_exa E_a2 (wd 104 _ rfl))) (g := (mkF m 23 #[vr a1, vr a2, vr ar] [(.ref a2), (.int (1 : Int32)), (.ref ar)])) rfl rfl (hb hby d16_23)
  refine own_go st4 ?_
  have F_a1_elements := F_a1_elements.other W4 (Or.inl ne_a1_ar)
  have F_a1_tail := F_a1_tail.other W4 (Or.inl ne_a1_ar)
  have F_a1_head := F_a1_head.other W4 (Or.inl ne_a1_ar)
  have E_a1 := E_a1.wr W4
  have Z0 := Nat.le_trans Z0 (Keep.of_wr W4).1
  have KK := KK.wr W4 (Or.inl (List.mem_of_getElem? (i := 0) rfl))
  have NN := Fr.snoc X4 NN g_ar
  have V_ar : Arv Z h4 ar k_ar (.object "java/lang/Object") (17 : Int32) [.null, (.ref a2), .null, .null, .null, .null, .null, .null, .null, .null, .null, .null, .null, .null, .null, .null, .null] .null := Arv.set Ar3 q3 Sz3 Ng3 Hs3 Gs3 rfl W4 1 rfl (Nat.le_of_ble_eq_true rfl)
  show own_Go _ _ _ _ T4 (mkF m 24 #[vr a1, vr a2, vr ar] [])
  refine cs_aloadN cG X4 hx (hb hby d16_24) rfl rfl ?_
  refine cs_get cG X4 hx hZ hown (wd 49 _ rfl) e4 F_a1_head (hb hby d16_25) ?_
  intro T5 X5 e5
  refine cs_aloadN cG X5 hx (hb hby d16_28) rfl rfl ?_
  refine cs_aloadN cG X5 hx (hb hby d16_29) rfl rfl ?_
  refine cs_get cG X5 hx hZ hown (wd 51 _ rfl) e5 F_a1_tail (hb hby d16_30) ?_
  intro T6 X6 e6
  refine cs_aloadN cG X6 hx (hb hby d16_33) rfl rfl ?_
  have Vq := V_ar
  obtain ⟨cl34, Ar34, -, Sz34, Ng34, -, -⟩ := Vq
  refine own_go (fun t k => X6.arraylength hx (by rw [e6]; exact Ar34.1) (State.isArrayOf_alike hZ.alike Ar34.2.1) (g := (mkF m 34 #[vr a1, vr a2, vr ar] [(.ref ar), (.int (1 : Int32)), (.ref a1), (.int (1 : Int32))])) rfl rfl (hb hby d16_34) t k) ?_
  rw [len_of Sz34 Ng34]
  show own_Go _ _ _ _ T6 (mkF m 35 #[vr a1, vr a2, vr ar] [(.int (17 : Int32)), (.int (1 : Int32)), (.ref a1), (.int (1 : Int32))])
  refine cs_S cG X6 hx hZ hown (wd 105 _ rfl) (wd 106 _ rfl) (wd 12 _ rfl) (wd 107 _ rfl) (by decide) (rm17_1 l Z a0 hw []  h4 n0 Z0 ) (by decide) (by decide) (by decide) (by decide) e6 (by rw [hml]; rfl) (argsL := [(.int (1 : Int32)), (.int (17 : Int32))]) (S := [(.ref a1), (.int (1 : Int32))]) (lenOf pd_10 rfl) rfl (W := 2) (Nat.le_of_eq rfl) (hb hby d16_35) rfl ?_
  intro v7 T7 L7 X7 hQ7
  obtain ⟨rfl, N7q, e7⟩ := hQ7
  have NN := Fr.app NN N7q
  show own_Go _ _ _ _ T7 (mkF m 38 #[vr a1, vr a2, vr ar] [(.int (2 : Int32)), (.ref a1), (.int (1 : Int32))])
  refine cs_dupX1 cG X7 hx (hb hby d16_38) rfl rfl ?_
  refine cs_put cG X7 hx hZ hown (wd 51 _ rfl) e7 F_a1_tail E_a1 (Or.inl (wd 52 _ rfl)) (wd 11 _ rfl) (ty := .int) (by decide) rfl rfl (hb hby d16_39) ?_
  intro T8 h8 X8 e8 W8
  have F_a1_elements := F_a1_elements.other W8 (Or.inr (slot_ne (Or.inl (wd 26 _ rfl)) (Or.inl (wd 52 _ rfl)) (by decide) (t := (.array (.object "java/lang/Object"))) (t' := .int) (by decide) (by decide)))
  have F_a1_tail := F_a1_tail.same W8
  have V_ar := V_ar.other W8 (Ne.symm ne_a1_ar)
  have F_a1_head := F_a1_head.other W8 (Or.inr (slot_ne (Or.inl (wd 50 _ rfl)) (Or.inl (wd 52 _ rfl)) (by decide) (t := .int) (t' := .int) (by decide) (by decide)))
  have E_a1 := E_a1.wr W8
  have KK := KK.wr W8 (Or.inl (List.mem_of_getElem? (i := 1) rfl))
  have NN := Fr.snoc X8 NN g_a1
  refine cs_icmpYes cG X8 hx (pc' := 50) (hb hby d16_42) (feq (by decide : ¬ ((1 : Int32) = (2 : Int32)))).2 (by decide) (by decide) ?_
  show own_Go _ _ _ _ T8 (mkF m 50 #[vr a1, vr a2, vr ar] [])
  obtain ⟨fs, hr, hrun, hended, hW, hsame⟩ := X8.leave (v := none) (fun _ => rfl)
  refine ⟨_, _, ?_, hrun, hended, _, _, rfl, ?_, ⟨_, rfl⟩, hW, hsame.mono (by decide) (by decide)⟩
  · exact X8.returnOut hx Bd.returns (hb hby d16_50) hr
  · show Q16_1_1 Z a1 a2 ar k_ar h0 n0 _ T8.heap _
    rw [e8]
    exact ⟨rfl, NN, KK, V_ar, E_a1, F_a1_elements, F_a1_tail, F_a1_head⟩
theorem ef_16_2_2 (m : MethodId) (a1 : Addr) (a2 : Addr) : entryFrame m #[(.ref a1), (.ref a2)] 3 = mkF m 0 #[.val (.ref a1), .val (.ref a2), .unset] [] := by first | (simp [entryFrame, mkF, argsToLocals, Value.category]; done) | rfl
def Q16_2_2 (Z : State) (a1 : Addr) (a2 : Addr) (ar : Addr) (k_ar : ClassId) (h0 : Heap) (n0 : Nat) (v : Option Value) (h : Heap) (L : List Loc) : Prop := v = none ∧ Fr n0 L ∧ Keep h0 h [ar, a1] ∧ Arv Z h ar k_ar (.object "java/lang/Object") (17 : Int32) [.null, .null, (.ref a2), .null, .null, .null, .null, .null, .null, .null, .null, .null, .null, .null, .null, .null, .null] .null ∧ Exa Z h a1 own_cD ∧ Fld Z h a1 own_cD "elements" "[Ljava/lang/Object;" (.ref ar) ∧ Fld Z h a1 own_cD "tail" "I" (.int (3 : Int32)) ∧ Fld Z h a1 own_cD "head" "I" (.int (2 : Int32))
set_option maxRecDepth 65536 in
set_option maxHeartbeats 40000000 in
theorem rm16_2_2 (l : Launch) (Z : State) (a0 : Array Value) (hw : ∀ d ∈ tables_1, d.before a0 Z = true) (ws : List Jvm.Cond) (a1 : Addr) (a2 : Addr) (ar : Addr) (k_ar : ClassId) (h0 : Heap) (n0 : Nat) (Z0 : n0 ≤ h0.size) (F_a1_elements : Fld Z h0 a1 own_cD "elements" "[Ljava/lang/Object;" (.ref ar)) (F_a1_tail : Fld Z h0 a1 own_cD "tail" "I" (.int (2 : Int32))) (O_ar : Ovr Z k_ar "java/lang/Object") (V_ar : Arv Z h0 ar k_ar (.object "java/lang/Object") (17 : Int32) [.null, .null, .null, .null, .null, .null, .null, .null, .null, .null, .null, .null, .null, .null, .null, .null, .null] .null) (E_a2 : Exa Z h0 a2 own_cP) (ne_a1_ar : a1 ≠ ar) (g_ar : n0 ≤ ar) (F_a1_head : Fld Z h0 a1 own_cD "head" "I" (.int (2 : Int32))) (E_a1 : Exa Z h0 a1 own_cD) (g_a1 : n0 ≤ a1) :
    own_Met l (⟨own_cD, "addLast", "(Ljava/lang/Object;)V"⟩ : MethodName) jdk_21_method_13_code 3 none ws ({ frames := 1, cells := 0, slots := 0, locals := 15 } : Room) #[(.ref a1), (.ref a2)] Z h0 (Q16_2_2 Z a1 a2 ar k_ar h0 n0) := by
  refine own_met (plainFor_of_name pn_1) ?_
  intro p e s m below meth c s₁ Bd hx hby hml hZ hown hnm X0 e0
  have wd : ∀ (i : Nat) (d : Jvm.Cond), tables_1[i]? = some d → d.before a0 Z = true := fun i d q => hw d (List.mem_of_getElem? q)
  have NN := Fr.nil n0
  have KK : Keep h0 h0 [ar, a1] := Keep.refl h0 _
  refine own_start (ef_16_2_2 m a1 a2) ?_
  refine cs_aloadN cG X0 hx (hb hby d16_0) rfl rfl ?_
  refine own_go (g' := _) (fun t k => XS.ifnonnullYes X0.here hx rfl (pc0 := 1) (pc' := 12) rfl (hb hby d16_1) rfl (by decide) (by decide) k) ?_
  show own_Go _ _ _ _ s₁ (mkF m 12 #[vr a1, vr a2, .unset] [])
  refine cs_aloadN cG X0 hx (hb hby d16_12) rfl rfl ?_
  refine cs_get cG X0 hx hZ hown (wd 25 _ rfl) e0 F_a1_elements (hb hby d16_13) ?_
  intro T1 X1 e1
  refine cs_astoreN cG X1 hx (hb hby d16_16) rfl (l' := #[vr a1, vr a2, vr ar]) rfl ?_
  refine cs_aloadN cG X1 hx (hb hby d16_17) rfl rfl ?_
  refine cs_aloadN cG X1 hx (hb hby d16_18) rfl rfl ?_
  refine cs_get cG X1 hx hZ hown (wd 51 _ rfl) e1 F_a1_tail (hb hby d16_19) ?_
  intro T2 X2 e2
  refine cs_aloadN cG X2 hx (hb hby d16_22) rfl rfl ?_
  have Vq := V_ar
  obtain ⟨cl3, Ar3, q3, Sz3, Ng3, Hs3, Gs3⟩ := Vq
  have hin3 : ¬ ((2 : Int32) < 0 ∨ cl3.slots.size ≤ ((2 : Int32)).toNatClampNeg) := inb_of Sz3 ⟨by decide, by decide⟩
  obtain ⟨T4, h4, X4, e4, W4, st4⟩ := stR X2 hx hZ e2 Ar3 (j := (2 : Int32)) hin3 rfl (Sto.ofV Ar3 q3 O_ar (Ins.of_exa E_a2 (wd 104 _ rfl))) (g := (mkF m 23 #[vr a1, vr a2, vr ar] [(.ref a2), (.int (2 : Int32)), (.ref ar)])) rfl rfl (hb hby d16_23)
  refine own_go st4 ?_
  have F_a1_elements := F_a1_elements.other W4 (Or.inl ne_a1_ar)
  have F_a1_tail := F_a1_tail.other W4 (Or.inl ne_a1_ar)
  have F_a1_head := F_a1_head.other W4 (Or.inl ne_a1_ar)
  have E_a1 := E_a1.wr W4
  have Z0 := Nat.le_trans Z0 (Keep.of_wr W4).1
  have KK := KK.wr W4 (Or.inl (List.mem_of_getElem? (i := 0) rfl))
  have NN := Fr.snoc X4 NN g_ar
  have V_ar : Arv Z h4 ar k_ar (.object "java/lang/Object") (17 : Int32) [.null, .null, (.ref a2), .null, .null, .null, .null, .null, .null, .null, .null, .null, .null, .null, .null, .null, .null] .null := Arv.set Ar3 q3 Sz3 Ng3 Hs3 Gs3 rfl W4 2 rfl (Nat.le_of_ble_eq_true rfl)
  show own_Go _ _ _ _ T4 (mkF m 24 #[vr a1, vr a2, vr ar] [])
  refine cs_aloadN cG X4 hx (hb hby d16_24) rfl rfl ?_
  refine cs_get cG X4 hx hZ hown (wd 49 _ rfl) e4 F_a1_head (hb hby d16_25) ?_
  intro T5 X5 e5
  refine cs_aloadN cG X5 hx (hb hby d16_28) rfl rfl ?_
  refine cs_aloadN cG X5 hx (hb hby d16_29) rfl rfl ?_
  refine cs_get cG X5 hx hZ hown (wd 51 _ rfl) e5 F_a1_tail (hb hby d16_30) ?_
  intro T6 X6 e6
  refine cs_aloadN cG X6 hx (hb hby d16_33) rfl rfl ?_
  have Vq := V_ar
  obtain ⟨cl34, Ar34, -, Sz34, Ng34, -, -⟩ := Vq
  refine own_go (fun t k => X6.arraylength hx (by rw [e6]; exact Ar34.1) (State.isArrayOf_alike hZ.alike Ar34.2.1) (g := (mkF m 34 #[vr a1, vr a2, vr ar] [(.ref ar), (.int (2 : Int32)), (.ref a1), (.int (2 : Int32))])) rfl rfl (hb hby d16_34) t k) ?_
  rw [len_of Sz34 Ng34]
  show own_Go _ _ _ _ T6 (mkF m 35 #[vr a1, vr a2, vr ar] [(.int (17 : Int32)), (.int (2 : Int32)), (.ref a1), (.int (2 : Int32))])
  refine cs_S cG X6 hx hZ hown (wd 105 _ rfl) (wd 106 _ rfl) (wd 12 _ rfl) (wd 107 _ rfl) (by decide) (rm17_2 l Z a0 hw []  h4 n0 Z0 ) (by decide) (by decide) (by decide) (by decide) e6 (by rw [hml]; rfl) (argsL := [(.int (2 : Int32)), (.int (17 : Int32))]) (S := [(.ref a1), (.int (2 : Int32))]) (lenOf pd_10 rfl) rfl (W := 2) (Nat.le_of_eq rfl) (hb hby d16_35) rfl ?_
  intro v7 T7 L7 X7 hQ7
  obtain ⟨rfl, N7q, e7⟩ := hQ7
  have NN := Fr.app NN N7q
  show own_Go _ _ _ _ T7 (mkF m 38 #[vr a1, vr a2, vr ar] [(.int (3 : Int32)), (.ref a1), (.int (2 : Int32))])
  refine cs_dupX1 cG X7 hx (hb hby d16_38) rfl rfl ?_
  refine cs_put cG X7 hx hZ hown (wd 51 _ rfl) e7 F_a1_tail E_a1 (Or.inl (wd 52 _ rfl)) (wd 11 _ rfl) (ty := .int) (by decide) rfl rfl (hb hby d16_39) ?_
  intro T8 h8 X8 e8 W8
  have F_a1_elements := F_a1_elements.other W8 (Or.inr (slot_ne (Or.inl (wd 26 _ rfl)) (Or.inl (wd 52 _ rfl)) (by decide) (t := (.array (.object "java/lang/Object"))) (t' := .int) (by decide) (by decide)))
  have F_a1_tail := F_a1_tail.same W8
  have V_ar := V_ar.other W8 (Ne.symm ne_a1_ar)
  have F_a1_head := F_a1_head.other W8 (Or.inr (slot_ne (Or.inl (wd 50 _ rfl)) (Or.inl (wd 52 _ rfl)) (by decide) (t := .int) (t' := .int) (by decide) (by decide)))
  have E_a1 := E_a1.wr W8
  have KK := KK.wr W8 (Or.inl (List.mem_of_getElem? (i := 1) rfl))
  have NN := Fr.snoc X8 NN g_a1
  refine cs_icmpYes cG X8 hx (pc' := 50) (hb hby d16_42) (feq (by decide : ¬ ((2 : Int32) = (3 : Int32)))).2 (by decide) (by decide) ?_
  show own_Go _ _ _ _ T8 (mkF m 50 #[vr a1, vr a2, vr ar] [])
  obtain ⟨fs, hr, hrun, hended, hW, hsame⟩ := X8.leave (v := none) (fun _ => rfl)
  refine ⟨_, _, ?_, hrun, hended, _, _, rfl, ?_, ⟨_, rfl⟩, hW, hsame.mono (by decide) (by decide)⟩
  · exact X8.returnOut hx Bd.returns (hb hby d16_50) hr
  · show Q16_2_2 Z a1 a2 ar k_ar h0 n0 _ T8.heap _
    rw [e8]
    exact ⟨rfl, NN, KK, V_ar, E_a1, F_a1_elements, F_a1_tail, F_a1_head⟩
theorem d25_0 : decode jdk_21_method_20_code 0 = .ok (.aload_n 0, 1) := by decide +kernel
theorem d25_1 : decode jdk_21_method_20_code 1 = .ok (.getfield 3, 3) := by decide +kernel
theorem d25_4 : decode jdk_21_method_20_code 4 = .ok (.dup, 1) := by decide +kernel
theorem d25_5 : decode jdk_21_method_20_code 5 = .ok (.astore_n 1, 1) := by decide +kernel
theorem d25_6 : decode jdk_21_method_20_code 6 = .ok (.aload_n 0, 1) := by decide +kernel
theorem d25_7 : decode jdk_21_method_20_code 7 = .ok (.getfield 24, 3) := by decide +kernel
theorem d25_10 : decode jdk_21_method_20_code 10 = .ok (.dup, 1) := by decide +kernel
theorem d25_11 : decode jdk_21_method_20_code 11 = .ok (.istore_n 2, 1) := by decide +kernel
theorem d25_12 : decode jdk_21_method_20_code 12 = .ok (.invokestatic 103, 3) := by decide +kernel
theorem d25_15 : decode jdk_21_method_20_code 15 = .ok (.astore_n 3, 1) := by decide +kernel
theorem d25_16 : decode jdk_21_method_20_code 16 = .ok (.aload_n 3, 1) := by decide +kernel
theorem d25_17 : decode jdk_21_method_20_code 17 = .ok (.ifnull 17, 3) := by decide +kernel
theorem d25_20 : decode jdk_21_method_20_code 20 = .ok (.aload_n 1, 1) := by decide +kernel
theorem d25_21 : decode jdk_21_method_20_code 21 = .ok (.iload_n 2, 1) := by decide +kernel
theorem d25_22 : decode jdk_21_method_20_code 22 = .ok (.aconst_null, 1) := by decide +kernel
theorem d25_23 : decode jdk_21_method_20_code 23 = .ok (.aastore, 1) := by decide +kernel
theorem d25_24 : decode jdk_21_method_20_code 24 = .ok (.aload_n 0, 1) := by decide +kernel
theorem d25_25 : decode jdk_21_method_20_code 25 = .ok (.iload_n 2, 1) := by decide +kernel
theorem d25_26 : decode jdk_21_method_20_code 26 = .ok (.aload_n 1, 1) := by decide +kernel
theorem d25_27 : decode jdk_21_method_20_code 27 = .ok (.arraylength, 1) := by decide +kernel
theorem d25_28 : decode jdk_21_method_20_code 28 = .ok (.invokestatic 74, 3) := by decide +kernel
theorem d25_31 : decode jdk_21_method_20_code 31 = .ok (.putfield 24, 3) := by decide +kernel
theorem d25_34 : decode jdk_21_method_20_code 34 = .ok (.aload_n 3, 1) := by decide +kernel
theorem d25_35 : decode jdk_21_method_20_code 35 = .ok (.areturn, 1) := by decide +kernel
theorem ef_25_0_1 (m : MethodId) (a1 : Addr) : entryFrame m #[(.ref a1)] 4 = mkF m 0 #[.val (.ref a1), .unset, .unset, .unset] [] := by first | (simp [entryFrame, mkF, argsToLocals, Value.category]; done) | rfl
def Q25_0_1 (Z : State) (a1 : Addr) (ar : Addr) (k_ar : ClassId) (x0 : Addr) (h0 : Heap) (n0 : Nat) (v : Option Value) (h : Heap) (L : List Loc) : Prop := v = some (.ref x0) ∧ Fr n0 L ∧ Keep h0 h [ar, a1] ∧ Arv Z h ar k_ar (.object "java/lang/Object") (17 : Int32) [.null, .null, .null, .null, .null, .null, .null, .null, .null, .null, .null, .null, .null, .null, .null, .null, .null] .null ∧ Exa Z h a1 own_cD ∧ Fld Z h a1 own_cD "tail" "I" (.int (1 : Int32)) ∧ Fld Z h a1 own_cD "elements" "[Ljava/lang/Object;" (.ref ar) ∧ Fld Z h a1 own_cD "head" "I" (.int (1 : Int32))
set_option maxRecDepth 65536 in
set_option maxHeartbeats 40000000 in
theorem rm25_0_1 (l : Launch) (Z : State) (a0 : Array Value) (hw : ∀ d ∈ tables_1, d.before a0 Z = true) (ws : List Jvm.Cond) (a1 : Addr) (ar : Addr) (k_ar : ClassId) (x0 : Addr) (h0 : Heap) (n0 : Nat) (Z0 : n0 ≤ h0.size) (F_a1_tail : Fld Z h0 a1 own_cD "tail" "I" (.int (1 : Int32))) (F_a1_elements : Fld Z h0 a1 own_cD "elements" "[Ljava/lang/Object;" (.ref ar)) (F_a1_head : Fld Z h0 a1 own_cD "head" "I" (.int (0 : Int32))) (O_ar : Ovr Z k_ar "java/lang/Object") (V_ar : Arv Z h0 ar k_ar (.object "java/lang/Object") (17 : Int32) [(.ref x0), .null, .null, .null, .null, .null, .null, .null, .null, .null, .null, .null, .null, .null, .null, .null, .null] .null) (ne_a1_ar : a1 ≠ ar) (g_ar : n0 ≤ ar) (E_a1 : Exa Z h0 a1 own_cD) (g_a1 : n0 ≤ a1) :
    own_Met l (⟨own_cD, "pollFirst", "()Ljava/lang/Object;"⟩ : MethodName) jdk_21_method_20_code 4 (some (.object "java/lang/Object")) ws ({ frames := 1, cells := 0, slots := 0, locals := 14 } : Room) #[(.ref a1)] Z h0 (Q25_0_1 Z a1 ar k_ar x0 h0 n0) := by
  refine own_met (plainFor_of_name pn_1) ?_
  intro p e s m below meth c s₁ Bd hx hby hml hZ hown hnm X0 e0
  have wd : ∀ (i : Nat) (d : Jvm.Cond), tables_1[i]? = some d → d.before a0 Z = true := fun i d q => hw d (List.mem_of_getElem? q)
  have NN := Fr.nil n0
  have KK : Keep h0 h0 [ar, a1] := Keep.refl h0 _
  refine own_start (ef_25_0_1 m a1) ?_
  refine cs_aloadN cG X0 hx (hb hby d25_0) rfl rfl ?_
  refine cs_get cG X0 hx hZ hown (wd 25 _ rfl) e0 F_a1_elements (hb hby d25_1) ?_
  intro T1 X1 e1
  refine cs_dup cG X1 hx (hb hby d25_4) rfl ?_
  refine cs_astoreN cG X1 hx (hb hby d25_5) rfl (l' := #[vr a1, vr ar, .unset, .unset]) rfl ?_
  refine cs_aloadN cG X1 hx (hb hby d25_6) rfl rfl ?_
  refine cs_get cG X1 hx hZ hown (wd 49 _ rfl) e1 F_a1_head (hb hby d25_7) ?_
  intro T2 X2 e2
  refine cs_dup cG X2 hx (hb hby d25_10) rfl ?_
  refine cs_istoreN cG X2 hx (hb hby d25_11) (l' := #[vr a1, vr ar, vi (0 : Int32), .unset]) rfl ?_
  refine cs_S cG X2 hx hZ hown (wd 81 _ rfl) (wd 82 _ rfl) (wd 12 _ rfl) (wd 83 _ rfl) (by decide) (rm14_0_1_0 l Z a0 hw [] ar k_ar x0 h0 n0 Z0 V_ar) (by decide) (by decide) (by decide) (by decide) e2 (by rw [hml]; rfl) (argsL := [(.ref ar), (.int (0 : Int32))]) (S := []) (lenOf pd_11 rfl) rfl (W := 0) (Nat.le_of_eq rfl) (hb hby d25_12) rfl ?_
  intro v3 T3 L3 X3 hQ3
  obtain ⟨rfl, N3q, e3⟩ := hQ3
  have NN := Fr.app NN N3q
  show own_Go _ _ _ _ T3 (mkF m 15 #[vr a1, vr ar, vi (0 : Int32), .unset] [(.ref x0)])
  refine cs_astoreN cG X3 hx (hb hby d25_15) rfl (l' := #[vr a1, vr ar, vi (0 : Int32), vr x0]) rfl ?_
  refine cs_aloadN cG X3 hx (hb hby d25_16) rfl rfl ?_
  refine cs_ifnullNo cG X3 hx (hb hby d25_17) ?_
  refine cs_aloadN cG X3 hx (hb hby d25_20) rfl rfl ?_
  refine cs_iloadN cG X3 hx (hb hby d25_21) rfl ?_
  refine cs_aconstNull cG X3 hx (hb hby d25_22) ?_
  have Vq := V_ar
  obtain ⟨cl4, Ar4, q4, Sz4, Ng4, Hs4, Gs4⟩ := Vq
  have hin4 : ¬ ((0 : Int32) < 0 ∨ cl4.slots.size ≤ ((0 : Int32)).toNatClampNeg) := inb_of Sz4 ⟨by decide, by decide⟩
  obtain ⟨T5, h5, X5, e5, W5, st5⟩ := stR X3 hx hZ e3 Ar4 (j := (0 : Int32)) hin4 rfl (Or.inl rfl) (g := (mkF m 23 #[vr a1, vr ar, vi (0 : Int32), vr x0] [.null, (.int (0 : Int32)), (.ref ar)])) rfl rfl (hb hby d25_23)
  refine own_go st5 ?_
  have F_a1_tail := F_a1_tail.other W5 (Or.inl ne_a1_ar)
  have F_a1_elements := F_a1_elements.other W5 (Or.inl ne_a1_ar)
  have F_a1_head := F_a1_head.other W5 (Or.inl ne_a1_ar)
  have E_a1 := E_a1.wr W5
  have Z0 := Nat.le_trans Z0 (Keep.of_wr W5).1
  have KK := KK.wr W5 (Or.inl (List.mem_of_getElem? (i := 0) rfl))
  have NN := Fr.snoc X5 NN g_ar
  have V_ar : Arv Z h5 ar k_ar (.object "java/lang/Object") (17 : Int32) [.null, .null, .null, .null, .null, .null, .null, .null, .null, .null, .null, .null, .null, .null, .null, .null, .null] .null := Arv.set Ar4 q4 Sz4 Ng4 Hs4 Gs4 rfl W5 0 rfl (Nat.le_of_ble_eq_true rfl)
  show own_Go _ _ _ _ T5 (mkF m 24 #[vr a1, vr ar, vi (0 : Int32), vr x0] [])
  refine cs_aloadN cG X5 hx (hb hby d25_24) rfl rfl ?_
  refine cs_iloadN cG X5 hx (hb hby d25_25) rfl ?_
  refine cs_aloadN cG X5 hx (hb hby d25_26) rfl rfl ?_
  have Vq := V_ar
  obtain ⟨cl27, Ar27, -, Sz27, Ng27, -, -⟩ := Vq
  refine own_go (fun t k => X5.arraylength hx (by rw [e5]; exact Ar27.1) (State.isArrayOf_alike hZ.alike Ar27.2.1) (g := (mkF m 27 #[vr a1, vr ar, vi (0 : Int32), vr x0] [(.ref ar), (.int (0 : Int32)), (.ref a1)])) rfl rfl (hb hby d25_27) t k) ?_
  rw [len_of Sz27 Ng27]
  show own_Go _ _ _ _ T5 (mkF m 28 #[vr a1, vr ar, vi (0 : Int32), vr x0] [(.int (17 : Int32)), (.int (0 : Int32)), (.ref a1)])
  refine cs_S cG X5 hx hZ hown (wd 105 _ rfl) (wd 106 _ rfl) (wd 12 _ rfl) (wd 107 _ rfl) (by decide) (rm17_0 l Z a0 hw []  h5 n0 Z0 ) (by decide) (by decide) (by decide) (by decide) e5 (by rw [hml]; rfl) (argsL := [(.int (0 : Int32)), (.int (17 : Int32))]) (S := [(.ref a1)]) (lenOf pd_10 rfl) rfl (W := 1) (Nat.le_of_eq rfl) (hb hby d25_28) rfl ?_
  intro v6 T6 L6 X6 hQ6
  obtain ⟨rfl, N6q, e6⟩ := hQ6
  have NN := Fr.app NN N6q
  show own_Go _ _ _ _ T6 (mkF m 31 #[vr a1, vr ar, vi (0 : Int32), vr x0] [(.int (1 : Int32)), (.ref a1)])
  refine cs_put cG X6 hx hZ hown (wd 49 _ rfl) e6 F_a1_head E_a1 (Or.inl (wd 50 _ rfl)) (wd 11 _ rfl) (ty := .int) (by decide) rfl rfl (hb hby d25_31) ?_
  intro T7 h7 X7 e7 W7
  have F_a1_tail := F_a1_tail.other W7 (Or.inr (slot_ne (Or.inl (wd 52 _ rfl)) (Or.inl (wd 50 _ rfl)) (by decide) (t := .int) (t' := .int) (by decide) (by decide)))
  have F_a1_elements := F_a1_elements.other W7 (Or.inr (slot_ne (Or.inl (wd 26 _ rfl)) (Or.inl (wd 50 _ rfl)) (by decide) (t := (.array (.object "java/lang/Object"))) (t' := .int) (by decide) (by decide)))
  have F_a1_head := F_a1_head.same W7
  have V_ar := V_ar.other W7 (Ne.symm ne_a1_ar)
  have E_a1 := E_a1.wr W7
  have KK := KK.wr W7 (Or.inl (List.mem_of_getElem? (i := 1) rfl))
  have NN := Fr.snoc X7 NN g_a1
  refine cs_aloadN cG X7 hx (hb hby d25_34) rfl rfl ?_
  show own_Go _ _ _ _ T7 (mkF m 35 #[vr a1, vr ar, vi (0 : Int32), vr x0] [(.ref x0)])
  obtain ⟨fs, hr, hrun, hended, hW, hsame⟩ := X7.leave (v := some (.ref x0)) (fun h => by rw [Bd.returns] at h; cases h)
  refine ⟨_, _, ?_, hrun, hended, _, _, rfl, ?_, ⟨_, rfl⟩, hW, hsame.mono (by decide) (by decide)⟩
  · exact own_retR X7 hx Bd.returns rfl rfl (hb hby d25_35) hr
  · show Q25_0_1 Z a1 ar k_ar x0 h0 n0 _ T7.heap _
    rw [e7]
    exact ⟨rfl, NN, KK, V_ar, E_a1, F_a1_tail, F_a1_elements, F_a1_head⟩
theorem d24_0 : decode jdk_21_method_18_code 0 = .ok (.aload_n 0, 1) := by decide +kernel
theorem d24_1 : decode jdk_21_method_18_code 1 = .ok (.invokevirtual 93, 3) := by decide +kernel
theorem d24_4 : decode jdk_21_method_18_code 4 = .ok (.astore_n 1, 1) := by decide +kernel
theorem d24_5 : decode jdk_21_method_18_code 5 = .ok (.aload_n 1, 1) := by decide +kernel
theorem d24_6 : decode jdk_21_method_18_code 6 = .ok (.ifnonnull 11, 3) := by decide +kernel
theorem d24_17 : decode jdk_21_method_18_code 17 = .ok (.aload_n 1, 1) := by decide +kernel
theorem d24_18 : decode jdk_21_method_18_code 18 = .ok (.areturn, 1) := by decide +kernel
theorem pd_9 : parseMethodDescriptor "()Ljava/lang/Object;" = some ⟨[], some (.object "java/lang/Object")⟩ := by decide +kernel
theorem ef_24_0_1 (m : MethodId) (a1 : Addr) : entryFrame m #[(.ref a1)] 2 = mkF m 0 #[.val (.ref a1), .unset] [] := by first | (simp [entryFrame, mkF, argsToLocals, Value.category]; done) | rfl
def Q24_0_1 (Z : State) (a1 : Addr) (ar : Addr) (k_ar : ClassId) (x0 : Addr) (h0 : Heap) (n0 : Nat) (v : Option Value) (h : Heap) (L : List Loc) : Prop := v = some (.ref x0) ∧ Fr n0 L ∧ Keep h0 h [a1, ar] ∧ Exa Z h a1 own_cD ∧ Fld Z h a1 own_cD "tail" "I" (.int (1 : Int32)) ∧ Fld Z h a1 own_cD "elements" "[Ljava/lang/Object;" (.ref ar) ∧ Fld Z h a1 own_cD "head" "I" (.int (1 : Int32)) ∧ Arv Z h ar k_ar (.object "java/lang/Object") (17 : Int32) [.null, .null, .null, .null, .null, .null, .null, .null, .null, .null, .null, .null, .null, .null, .null, .null, .null] .null
set_option maxRecDepth 65536 in
set_option maxHeartbeats 40000000 in
theorem rm24_0_1 (l : Launch) (Z : State) (a0 : Array Value) (hw : ∀ d ∈ tables_1, d.before a0 Z = true) (ws : List Jvm.Cond) (a1 : Addr) (ar : Addr) (k_ar : ClassId) (x0 : Addr) (h0 : Heap) (n0 : Nat) (Z0 : n0 ≤ h0.size) (F_a1_tail : Fld Z h0 a1 own_cD "tail" "I" (.int (1 : Int32))) (F_a1_elements : Fld Z h0 a1 own_cD "elements" "[Ljava/lang/Object;" (.ref ar)) (F_a1_head : Fld Z h0 a1 own_cD "head" "I" (.int (0 : Int32))) (O_ar : Ovr Z k_ar "java/lang/Object") (V_ar : Arv Z h0 ar k_ar (.object "java/lang/Object") (17 : Int32) [(.ref x0), .null, .null, .null, .null, .null, .null, .null, .null, .null, .null, .null, .null, .null, .null, .null, .null] .null) (ne_a1_ar : a1 ≠ ar) (g_ar : n0 ≤ ar) (E_a1 : Exa Z h0 a1 own_cD) (g_a1 : n0 ≤ a1) :
    own_Met l (⟨own_cD, "removeFirst", "()Ljava/lang/Object;"⟩ : MethodName) jdk_21_method_18_code 2 (some (.object "java/lang/Object")) ws ({ frames := 2, cells := 0, slots := 0, locals := 29 } : Room) #[(.ref a1)] Z h0 (Q24_0_1 Z a1 ar k_ar x0 h0 n0) := by
  refine own_met (plainFor_of_name pn_1) ?_
  intro p e s m below meth c s₁ Bd hx hby hml hZ hown hnm X0 e0
  have wd : ∀ (i : Nat) (d : Jvm.Cond), tables_1[i]? = some d → d.before a0 Z = true := fun i d q => hw d (List.mem_of_getElem? q)
  have NN := Fr.nil n0
  have KK : Keep h0 h0 [a1, ar] := Keep.refl h0 _
  refine own_start (ef_24_0_1 m a1) ?_
  refine cs_aloadN cG X0 hx (hb hby d24_0) rfl rfl ?_
  refine cs_V cG X0 hx hZ hown (wd 147 _ rfl) (wd 148 _ rfl) (wd 150 _ rfl) (wd 149 _ rfl) (wd 12 _ rfl) (wd 151 _ rfl) (by decide) (rm25_0_1 l Z a0 hw [] a1 ar k_ar x0 h0 n0 Z0 F_a1_tail F_a1_elements F_a1_head O_ar V_ar ne_a1_ar g_ar E_a1 g_a1) (by decide) (by decide) (by decide) (by decide) e0 E_a1 (by rw [hml]; rfl) (argsL := []) (S := []) (lenOf pd_9 rfl) rfl (W := 0) (Nat.le_of_eq rfl) (hb hby d24_1) rfl ?_
  intro v1 T1 L1 X1 hQ1
  obtain ⟨rfl, N1q, K1, Q1_0, Q1_1, Q1_2, Q1_3, Q1_4⟩ := hQ1
  have V_ar := Q1_0
  have E_a1 := Q1_1
  have F_a1_tail := Q1_2
  have F_a1_elements := Q1_3
  have F_a1_head := Q1_4
  have KK := KK.trans K1 (allS (Or.inl (List.mem_of_getElem? (i := 1) rfl)) (allS (Or.inl (List.mem_of_getElem? (i := 0) rfl)) all0))
  have NN := Fr.app NN N1q
  show own_Go _ _ _ _ T1 (mkF m 4 #[vr a1, .unset] [(.ref x0)])
  refine cs_astoreN cG X1 hx (hb hby d24_4) rfl (l' := #[vr a1, vr x0]) rfl ?_
  refine cs_aloadN cG X1 hx (hb hby d24_5) rfl rfl ?_
  refine own_go (g' := _) (fun t k => XS.ifnonnullYes X1.here hx rfl (pc0 := 6) (pc' := 17) rfl (hb hby d24_6) rfl (by decide) (by decide) k) ?_
  show own_Go _ _ _ _ T1 (mkF m 17 #[vr a1, vr x0] [])
  refine cs_aloadN cG X1 hx (hb hby d24_17) rfl rfl ?_
  show own_Go _ _ _ _ T1 (mkF m 18 #[vr a1, vr x0] [(.ref x0)])
  obtain ⟨fs, hr, hrun, hended, hW, hsame⟩ := X1.leave (v := some (.ref x0)) (fun h => by rw [Bd.returns] at h; cases h)
  refine ⟨_, _, ?_, hrun, hended, _, _, rfl, ?_, ⟨_, rfl⟩, hW, hsame.mono (by decide) (by decide)⟩
  · exact own_retR X1 hx Bd.returns rfl rfl (hb hby d24_18) hr
  · show Q24_0_1 Z a1 ar k_ar x0 h0 n0 _ T1.heap _
    exact ⟨rfl, NN, KK, E_a1, F_a1_tail, F_a1_elements, F_a1_head, V_ar⟩
theorem ef_25_0_2 (m : MethodId) (a1 : Addr) : entryFrame m #[(.ref a1)] 4 = mkF m 0 #[.val (.ref a1), .unset, .unset, .unset] [] := by first | (simp [entryFrame, mkF, argsToLocals, Value.category]; done) | rfl
def Q25_0_2 (Z : State) (a1 : Addr) (ar : Addr) (k_ar : ClassId) (x0 : Addr) (x1 : Addr) (h0 : Heap) (n0 : Nat) (v : Option Value) (h : Heap) (L : List Loc) : Prop := v = some (.ref x0) ∧ Fr n0 L ∧ Keep h0 h [ar, a1] ∧ Arv Z h ar k_ar (.object "java/lang/Object") (17 : Int32) [.null, (.ref x1), .null, .null, .null, .null, .null, .null, .null, .null, .null, .null, .null, .null, .null, .null, .null] .null ∧ Exa Z h a1 own_cD ∧ Fld Z h a1 own_cD "tail" "I" (.int (2 : Int32)) ∧ Fld Z h a1 own_cD "elements" "[Ljava/lang/Object;" (.ref ar) ∧ Fld Z h a1 own_cD "head" "I" (.int (1 : Int32))
set_option maxRecDepth 65536 in
set_option maxHeartbeats 40000000 in
theorem rm25_0_2 (l : Launch) (Z : State) (a0 : Array Value) (hw : ∀ d ∈ tables_1, d.before a0 Z = true) (ws : List Jvm.Cond) (a1 : Addr) (ar : Addr) (k_ar : ClassId) (x0 : Addr) (x1 : Addr) (h0 : Heap) (n0 : Nat) (Z0 : n0 ≤ h0.size) (F_a1_tail : Fld Z h0 a1 own_cD "tail" "I" (.int (2 : Int32))) (F_a1_elements : Fld Z h0 a1 own_cD "elements" "[Ljava/lang/Object;" (.ref ar)) (F_a1_head : Fld Z h0 a1 own_cD "head" "I" (.int (0 : Int32))) (O_ar : Ovr Z k_ar "java/lang/Object") (V_ar : Arv Z h0 ar k_ar (.object "java/lang/Object") (17 : Int32) [(.ref x0), (.ref x1), .null, .null, .null, .null, .null, .null, .null, .null, .null, .null, .null, .null, .null, .null, .null] .null) (ne_a1_ar : a1 ≠ ar) (g_ar : n0 ≤ ar) (E_a1 : Exa Z h0 a1 own_cD) (g_a1 : n0 ≤ a1) :
    own_Met l (⟨own_cD, "pollFirst", "()Ljava/lang/Object;"⟩ : MethodName) jdk_21_method_20_code 4 (some (.object "java/lang/Object")) ws ({ frames := 1, cells := 0, slots := 0, locals := 14 } : Room) #[(.ref a1)] Z h0 (Q25_0_2 Z a1 ar k_ar x0 x1 h0 n0) := by
  refine own_met (plainFor_of_name pn_1) ?_
  intro p e s m below meth c s₁ Bd hx hby hml hZ hown hnm X0 e0
  have wd : ∀ (i : Nat) (d : Jvm.Cond), tables_1[i]? = some d → d.before a0 Z = true := fun i d q => hw d (List.mem_of_getElem? q)
  have NN := Fr.nil n0
  have KK : Keep h0 h0 [ar, a1] := Keep.refl h0 _
  refine own_start (ef_25_0_2 m a1) ?_
  refine cs_aloadN cG X0 hx (hb hby d25_0) rfl rfl ?_
  refine cs_get cG X0 hx hZ hown (wd 25 _ rfl) e0 F_a1_elements (hb hby d25_1) ?_
  intro T1 X1 e1
  refine cs_dup cG X1 hx (hb hby d25_4) rfl ?_
  refine cs_astoreN cG X1 hx (hb hby d25_5) rfl (l' := #[vr a1, vr ar, .unset, .unset]) rfl ?_
  refine cs_aloadN cG X1 hx (hb hby d25_6) rfl rfl ?_
  refine cs_get cG X1 hx hZ hown (wd 49 _ rfl) e1 F_a1_head (hb hby d25_7) ?_
  intro T2 X2 e2
  refine cs_dup cG X2 hx (hb hby d25_10) rfl ?_
  refine cs_istoreN cG X2 hx (hb hby d25_11) (l' := #[vr a1, vr ar, vi (0 : Int32), .unset]) rfl ?_
  refine cs_S cG X2 hx hZ hown (wd 81 _ rfl) (wd 82 _ rfl) (wd 12 _ rfl) (wd 83 _ rfl) (by decide) (rm14_0_2_0 l Z a0 hw [] ar k_ar x0 x1 h0 n0 Z0 V_ar) (by decide) (by decide) (by decide) (by decide) e2 (by rw [hml]; rfl) (argsL := [(.ref ar), (.int (0 : Int32))]) (S := []) (lenOf pd_11 rfl) rfl (W := 0) (Nat.le_of_eq rfl) (hb hby d25_12) rfl ?_
  intro v3 T3 L3 X3 hQ3
  obtain ⟨rfl, N3q, e3⟩ := hQ3
  have NN := Fr.app NN N3q
  show own_Go _ _ _ _ T3 (mkF m 15 #[vr a1, vr ar, vi (0 : Int32), .unset] [(.ref x0)])
  refine cs_astoreN cG X3 hx (hb hby d25_15) rfl (l' := #[vr a1, vr ar, vi (0 : Int32), vr x0]) rfl ?_
  refine cs_aloadN cG X3 hx (hb hby d25_16) rfl rfl ?_
  refine cs_ifnullNo cG X3 hx (hb hby d25_17) ?_
  refine cs_aloadN cG X3 hx (hb hby d25_20) rfl rfl ?_
  refine cs_iloadN cG X3 hx (hb hby d25_21) rfl ?_
  refine cs_aconstNull cG X3 hx (hb hby d25_22) ?_
  have Vq := V_ar
  obtain ⟨cl4, Ar4, q4, Sz4, Ng4, Hs4, Gs4⟩ := Vq
  have hin4 : ¬ ((0 : Int32) < 0 ∨ cl4.slots.size ≤ ((0 : Int32)).toNatClampNeg) := inb_of Sz4 ⟨by decide, by decide⟩
  obtain ⟨T5, h5, X5, e5, W5, st5⟩ := stR X3 hx hZ e3 Ar4 (j := (0 : Int32)) hin4 rfl (Or.inl rfl) (g := (mkF m 23 #[vr a1, vr ar, vi (0 : Int32), vr x0] [.null, (.int (0 : Int32)), (.ref ar)])) rfl rfl (hb hby d25_23)
  refine own_go st5 ?_
  have F_a1_tail := F_a1_tail.other W5 (Or.inl ne_a1_ar)
  have F_a1_elements := F_a1_elements.other W5 (Or.inl ne_a1_ar)
  have F_a1_head := F_a1_head.other W5 (Or.inl ne_a1_ar)
  have E_a1 := E_a1.wr W5
  have Z0 := Nat.le_trans Z0 (Keep.of_wr W5).1
  have KK := KK.wr W5 (Or.inl (List.mem_of_getElem? (i := 0) rfl))
  have NN := Fr.snoc X5 NN g_ar
  have V_ar : Arv Z h5 ar k_ar (.object "java/lang/Object") (17 : Int32) [.null, (.ref x1), .null, .null, .null, .null, .null, .null, .null, .null, .null, .null, .null, .null, .null, .null, .null] .null := Arv.set Ar4 q4 Sz4 Ng4 Hs4 Gs4 rfl W5 0 rfl (Nat.le_of_ble_eq_true rfl)
  show own_Go _ _ _ _ T5 (mkF m 24 #[vr a1, vr ar, vi (0 : Int32), vr x0] [])
  refine cs_aloadN cG X5 hx (hb hby d25_24) rfl rfl ?_
  refine cs_iloadN cG X5 hx (hb hby d25_25) rfl ?_
  refine cs_aloadN cG X5 hx (hb hby d25_26) rfl rfl ?_
  have Vq := V_ar
  obtain ⟨cl27, Ar27, -, Sz27, Ng27, -, -⟩ := Vq
  refine own_go (fun t k => X5.arraylength hx (by rw [e5]; exact Ar27.1) (State.isArrayOf_alike hZ.alike Ar27.2.1) (g := (mkF m 27 #[vr a1, vr ar, vi (0 : Int32), vr x0] [(.ref ar), (.int (0 : Int32)), (.ref a1)])) rfl rfl (hb hby d25_27) t k) ?_
  rw [len_of Sz27 Ng27]
  show own_Go _ _ _ _ T5 (mkF m 28 #[vr a1, vr ar, vi (0 : Int32), vr x0] [(.int (17 : Int32)), (.int (0 : Int32)), (.ref a1)])
  refine cs_S cG X5 hx hZ hown (wd 105 _ rfl) (wd 106 _ rfl) (wd 12 _ rfl) (wd 107 _ rfl) (by decide) (rm17_0 l Z a0 hw []  h5 n0 Z0 ) (by decide) (by decide) (by decide) (by decide) e5 (by rw [hml]; rfl) (argsL := [(.int (0 : Int32)), (.int (17 : Int32))]) (S := [(.ref a1)]) (lenOf pd_10 rfl) rfl (W := 1) (Nat.le_of_eq rfl) (hb hby d25_28) rfl ?_
  intro v6 T6 L6 X6 hQ6
  obtain ⟨rfl, N6q, e6⟩ := hQ6
  have NN := Fr.app NN N6q
  show own_Go _ _ _ _ T6 (mkF m 31 #[vr a1, vr ar, vi (0 : Int32), vr x0] [(.int (1 : Int32)), (.ref a1)])
  refine cs_put cG X6 hx hZ hown (wd 49 _ rfl) e6 F_a1_head E_a1 (Or.inl (wd 50 _ rfl)) (wd 11 _ rfl) (ty := .int) (by decide) rfl rfl (hb hby d25_31) ?_
  intro T7 h7 X7 e7 W7
  have F_a1_tail := F_a1_tail.other W7 (Or.inr (slot_ne (Or.inl (wd 52 _ rfl)) (Or.inl (wd 50 _ rfl)) (by decide) (t := .int) (t' := .int) (by decide) (by decide)))
  have F_a1_elements := F_a1_elements.other W7 (Or.inr (slot_ne (Or.inl (wd 26 _ rfl)) (Or.inl (wd 50 _ rfl)) (by decide) (t := (.array (.object "java/lang/Object"))) (t' := .int) (by decide) (by decide)))
  have F_a1_head := F_a1_head.same W7
  have V_ar := V_ar.other W7 (Ne.symm ne_a1_ar)
  have E_a1 := E_a1.wr W7
  have KK := KK.wr W7 (Or.inl (List.mem_of_getElem? (i := 1) rfl))
  have NN := Fr.snoc X7 NN g_a1
  refine cs_aloadN cG X7 hx (hb hby d25_34) rfl rfl ?_
  show own_Go _ _ _ _ T7 (mkF m 35 #[vr a1, vr ar, vi (0 : Int32), vr x0] [(.ref x0)])
  obtain ⟨fs, hr, hrun, hended, hW, hsame⟩ := X7.leave (v := some (.ref x0)) (fun h => by rw [Bd.returns] at h; cases h)
  refine ⟨_, _, ?_, hrun, hended, _, _, rfl, ?_, ⟨_, rfl⟩, hW, hsame.mono (by decide) (by decide)⟩
  · exact own_retR X7 hx Bd.returns rfl rfl (hb hby d25_35) hr
  · show Q25_0_2 Z a1 ar k_ar x0 x1 h0 n0 _ T7.heap _
    rw [e7]
    exact ⟨rfl, NN, KK, V_ar, E_a1, F_a1_tail, F_a1_elements, F_a1_head⟩
theorem ef_24_0_2 (m : MethodId) (a1 : Addr) : entryFrame m #[(.ref a1)] 2 = mkF m 0 #[.val (.ref a1), .unset] [] := by first | (simp [entryFrame, mkF, argsToLocals, Value.category]; done) | rfl
def Q24_0_2 (Z : State) (a1 : Addr) (ar : Addr) (k_ar : ClassId) (x0 : Addr) (x1 : Addr) (h0 : Heap) (n0 : Nat) (v : Option Value) (h : Heap) (L : List Loc) : Prop := v = some (.ref x0) ∧ Fr n0 L ∧ Keep h0 h [a1, ar] ∧ Exa Z h a1 own_cD ∧ Fld Z h a1 own_cD "tail" "I" (.int (2 : Int32)) ∧ Fld Z h a1 own_cD "elements" "[Ljava/lang/Object;" (.ref ar) ∧ Fld Z h a1 own_cD "head" "I" (.int (1 : Int32)) ∧ Arv Z h ar k_ar (.object "java/lang/Object") (17 : Int32) [.null, (.ref x1), .null, .null, .null, .null, .null, .null, .null, .null, .null, .null, .null, .null, .null, .null, .null] .null
set_option maxRecDepth 65536 in
set_option maxHeartbeats 40000000 in
theorem rm24_0_2 (l : Launch) (Z : State) (a0 : Array Value) (hw : ∀ d ∈ tables_1, d.before a0 Z = true) (ws : List Jvm.Cond) (a1 : Addr) (ar : Addr) (k_ar : ClassId) (x0 : Addr) (x1 : Addr) (h0 : Heap) (n0 : Nat) (Z0 : n0 ≤ h0.size) (F_a1_tail : Fld Z h0 a1 own_cD "tail" "I" (.int (2 : Int32))) (F_a1_elements : Fld Z h0 a1 own_cD "elements" "[Ljava/lang/Object;" (.ref ar)) (F_a1_head : Fld Z h0 a1 own_cD "head" "I" (.int (0 : Int32))) (O_ar : Ovr Z k_ar "java/lang/Object") (V_ar : Arv Z h0 ar k_ar (.object "java/lang/Object") (17 : Int32) [(.ref x0), (.ref x1), .null, .null, .null, .null, .null, .null, .null, .null, .null, .null, .null, .null, .null, .null, .null] .null) (ne_a1_ar : a1 ≠ ar) (g_ar : n0 ≤ ar) (E_a1 : Exa Z h0 a1 own_cD) (g_a1 : n0 ≤ a1) :
    own_Met l (⟨own_cD, "removeFirst", "()Ljava/lang/Object;"⟩ : MethodName) jdk_21_method_18_code 2 (some (.object "java/lang/Object")) ws ({ frames := 2, cells := 0, slots := 0, locals := 29 } : Room) #[(.ref a1)] Z h0 (Q24_0_2 Z a1 ar k_ar x0 x1 h0 n0) := by
  refine own_met (plainFor_of_name pn_1) ?_
  intro p e s m below meth c s₁ Bd hx hby hml hZ hown hnm X0 e0
  have wd : ∀ (i : Nat) (d : Jvm.Cond), tables_1[i]? = some d → d.before a0 Z = true := fun i d q => hw d (List.mem_of_getElem? q)
  have NN := Fr.nil n0
  have KK : Keep h0 h0 [a1, ar] := Keep.refl h0 _
  refine own_start (ef_24_0_2 m a1) ?_
  refine cs_aloadN cG X0 hx (hb hby d24_0) rfl rfl ?_
  refine cs_V cG X0 hx hZ hown (wd 147 _ rfl) (wd 148 _ rfl) (wd 150 _ rfl) (wd 149 _ rfl) (wd 12 _ rfl) (wd 151 _ rfl) (by decide) (rm25_0_2 l Z a0 hw [] a1 ar k_ar x0 x1 h0 n0 Z0 F_a1_tail F_a1_elements F_a1_head O_ar V_ar ne_a1_ar g_ar E_a1 g_a1) (by decide) (by decide) (by decide) (by decide) e0 E_a1 (by rw [hml]; rfl) (argsL := []) (S := []) (lenOf pd_9 rfl) rfl (W := 0) (Nat.le_of_eq rfl) (hb hby d24_1) rfl ?_
  intro v1 T1 L1 X1 hQ1
  obtain ⟨rfl, N1q, K1, Q1_0, Q1_1, Q1_2, Q1_3, Q1_4⟩ := hQ1
  have V_ar := Q1_0
  have E_a1 := Q1_1
  have F_a1_tail := Q1_2
  have F_a1_elements := Q1_3
  have F_a1_head := Q1_4
  have KK := KK.trans K1 (allS (Or.inl (List.mem_of_getElem? (i := 1) rfl)) (allS (Or.inl (List.mem_of_getElem? (i := 0) rfl)) all0))
  have NN := Fr.app NN N1q
  show own_Go _ _ _ _ T1 (mkF m 4 #[vr a1, .unset] [(.ref x0)])
  refine cs_astoreN cG X1 hx (hb hby d24_4) rfl (l' := #[vr a1, vr x0]) rfl ?_
  refine cs_aloadN cG X1 hx (hb hby d24_5) rfl rfl ?_
  refine own_go (g' := _) (fun t k => XS.ifnonnullYes X1.here hx rfl (pc0 := 6) (pc' := 17) rfl (hb hby d24_6) rfl (by decide) (by decide) k) ?_
  show own_Go _ _ _ _ T1 (mkF m 17 #[vr a1, vr x0] [])
  refine cs_aloadN cG X1 hx (hb hby d24_17) rfl rfl ?_
  show own_Go _ _ _ _ T1 (mkF m 18 #[vr a1, vr x0] [(.ref x0)])
  obtain ⟨fs, hr, hrun, hended, hW, hsame⟩ := X1.leave (v := some (.ref x0)) (fun h => by rw [Bd.returns] at h; cases h)
  refine ⟨_, _, ?_, hrun, hended, _, _, rfl, ?_, ⟨_, rfl⟩, hW, hsame.mono (by decide) (by decide)⟩
  · exact own_retR X1 hx Bd.returns rfl rfl (hb hby d24_18) hr
  · show Q24_0_2 Z a1 ar k_ar x0 x1 h0 n0 _ T1.heap _
    exact ⟨rfl, NN, KK, E_a1, F_a1_tail, F_a1_elements, F_a1_head, V_ar⟩
theorem ef_25_1_2 (m : MethodId) (a1 : Addr) : entryFrame m #[(.ref a1)] 4 = mkF m 0 #[.val (.ref a1), .unset, .unset, .unset] [] := by first | (simp [entryFrame, mkF, argsToLocals, Value.category]; done) | rfl
def Q25_1_2 (Z : State) (a1 : Addr) (ar : Addr) (k_ar : ClassId) (x1 : Addr) (h0 : Heap) (n0 : Nat) (v : Option Value) (h : Heap) (L : List Loc) : Prop := v = some (.ref x1) ∧ Fr n0 L ∧ Keep h0 h [ar, a1] ∧ Arv Z h ar k_ar (.object "java/lang/Object") (17 : Int32) [.null, .null, .null, .null, .null, .null, .null, .null, .null, .null, .null, .null, .null, .null, .null, .null, .null] .null ∧ Exa Z h a1 own_cD ∧ Fld Z h a1 own_cD "tail" "I" (.int (2 : Int32)) ∧ Fld Z h a1 own_cD "elements" "[Ljava/lang/Object;" (.ref ar) ∧ Fld Z h a1 own_cD "head" "I" (.int (2 : Int32))
set_option maxRecDepth 65536 in
set_option maxHeartbeats 40000000 in
theorem rm25_1_2 (l : Launch) (Z : State) (a0 : Array Value) (hw : ∀ d ∈ tables_1, d.before a0 Z = true) (ws : List Jvm.Cond) (a1 : Addr) (ar : Addr) (k_ar : ClassId) (x1 : Addr) (h0 : Heap) (n0 : Nat) (Z0 : n0 ≤ h0.size) (F_a1_tail : Fld Z h0 a1 own_cD "tail" "I" (.int (2 : Int32))) (F_a1_elements : Fld Z h0 a1 own_cD "elements" "[Ljava/lang/Object;" (.ref ar)) (F_a1_head : Fld Z h0 a1 own_cD "head" "I" (.int (1 : Int32))) (O_ar : Ovr Z k_ar "java/lang/Object") (V_ar : Arv Z h0 ar k_ar (.object "java/lang/Object") (17 : Int32) [.null, (.ref x1), .null, .null, .null, .null, .null, .null, .null, .null, .null, .null, .null, .null, .null, .null, .null] .null) (ne_a1_ar : a1 ≠ ar) (g_ar : n0 ≤ ar) (E_a1 : Exa Z h0 a1 own_cD) (g_a1 : n0 ≤ a1) :
    own_Met l (⟨own_cD, "pollFirst", "()Ljava/lang/Object;"⟩ : MethodName) jdk_21_method_20_code 4 (some (.object "java/lang/Object")) ws ({ frames := 1, cells := 0, slots := 0, locals := 14 } : Room) #[(.ref a1)] Z h0 (Q25_1_2 Z a1 ar k_ar x1 h0 n0) := by
  refine own_met (plainFor_of_name pn_1) ?_
  intro p e s m below meth c s₁ Bd hx hby hml hZ hown hnm X0 e0
  have wd : ∀ (i : Nat) (d : Jvm.Cond), tables_1[i]? = some d → d.before a0 Z = true := fun i d q => hw d (List.mem_of_getElem? q)
  have NN := Fr.nil n0
  have KK : Keep h0 h0 [ar, a1] := Keep.refl h0 _
  refine own_start (ef_25_1_2 m a1) ?_
  refine cs_aloadN cG X0 hx (hb hby d25_0) rfl rfl ?_
  refine cs_get cG X0 hx hZ hown (wd 25 _ rfl) e0 F_a1_elements (hb hby d25_1) ?_
  intro T1 X1 e1
  refine cs_dup cG X1 hx (hb hby d25_4) rfl ?_
  refine cs_astoreN cG X1 hx (hb hby d25_5) rfl (l' := #[vr a1, vr ar, .unset, .unset]) rfl ?_
  refine cs_aloadN cG X1 hx (hb hby d25_6) rfl rfl ?_
  refine cs_get cG X1 hx hZ hown (wd 49 _ rfl) e1 F_a1_head (hb hby d25_7) ?_
  intro T2 X2 e2
  refine cs_dup cG X2 hx (hb hby d25_10) rfl ?_
  refine cs_istoreN cG X2 hx (hb hby d25_11) (l' := #[vr a1, vr ar, vi (1 : Int32), .unset]) rfl ?_
  refine cs_S cG X2 hx hZ hown (wd 81 _ rfl) (wd 82 _ rfl) (wd 12 _ rfl) (wd 83 _ rfl) (by decide) (rm14_1_2_1 l Z a0 hw [] ar k_ar x1 h0 n0 Z0 V_ar) (by decide) (by decide) (by decide) (by decide) e2 (by rw [hml]; rfl) (argsL := [(.ref ar), (.int (1 : Int32))]) (S := []) (lenOf pd_11 rfl) rfl (W := 0) (Nat.le_of_eq rfl) (hb hby d25_12) rfl ?_
  intro v3 T3 L3 X3 hQ3
  obtain ⟨rfl, N3q, e3⟩ := hQ3
  have NN := Fr.app NN N3q
  show own_Go _ _ _ _ T3 (mkF m 15 #[vr a1, vr ar, vi (1 : Int32), .unset] [(.ref x1)])
  refine cs_astoreN cG X3 hx (hb hby d25_15) rfl (l' := #[vr a1, vr ar, vi (1 : Int32), vr x1]) rfl ?_
  refine cs_aloadN cG X3 hx (hb hby d25_16) rfl rfl ?_
  refine cs_ifnullNo cG X3 hx (hb hby d25_17) ?_
  refine cs_aloadN cG X3 hx (hb hby d25_20) rfl rfl ?_
  refine cs_iloadN cG X3 hx (hb hby d25_21) rfl ?_
  refine cs_aconstNull cG X3 hx (hb hby d25_22) ?_
  have Vq := V_ar
  obtain ⟨cl4, Ar4, q4, Sz4, Ng4, Hs4, Gs4⟩ := Vq
  have hin4 : ¬ ((1 : Int32) < 0 ∨ cl4.slots.size ≤ ((1 : Int32)).toNatClampNeg) := inb_of Sz4 ⟨by decide, by decide⟩
  obtain ⟨T5, h5, X5, e5, W5, st5⟩ := stR X3 hx hZ e3 Ar4 (j := (1 : Int32)) hin4 rfl (Or.inl rfl) (g := (mkF m 23 #[vr a1, vr ar, vi (1 : Int32), vr x1] [.null, (.int (1 : Int32)), (.ref ar)])) rfl rfl (hb hby d25_23)
  refine own_go st5 ?_
  have F_a1_tail := F_a1_tail.other W5 (Or.inl ne_a1_ar)
  have F_a1_elements := F_a1_elements.other W5 (Or.inl ne_a1_ar)
  have F_a1_head := F_a1_head.other W5 (Or.inl ne_a1_ar)
  have E_a1 := E_a1.wr W5
  have Z0 := Nat.le_trans Z0 (Keep.of_wr W5).1
  have KK := KK.wr W5 (Or.inl (List.mem_of_getElem? (i := 0) rfl))
  have NN := Fr.snoc X5 NN g_ar
  have V_ar : Arv Z h5 ar k_ar (.object "java/lang/Object") (17 : Int32) [.null, .null, .null, .null, .null, .null, .null, .null, .null, .null, .null, .null, .null, .null, .null, .null, .null] .null := Arv.set Ar4 q4 Sz4 Ng4 Hs4 Gs4 rfl W5 1 rfl (Nat.le_of_ble_eq_true rfl)
  show own_Go _ _ _ _ T5 (mkF m 24 #[vr a1, vr ar, vi (1 : Int32), vr x1] [])
  refine cs_aloadN cG X5 hx (hb hby d25_24) rfl rfl ?_
  refine cs_iloadN cG X5 hx (hb hby d25_25) rfl ?_
  refine cs_aloadN cG X5 hx (hb hby d25_26) rfl rfl ?_
  have Vq := V_ar
  obtain ⟨cl27, Ar27, -, Sz27, Ng27, -, -⟩ := Vq
  refine own_go (fun t k => X5.arraylength hx (by rw [e5]; exact Ar27.1) (State.isArrayOf_alike hZ.alike Ar27.2.1) (g := (mkF m 27 #[vr a1, vr ar, vi (1 : Int32), vr x1] [(.ref ar), (.int (1 : Int32)), (.ref a1)])) rfl rfl (hb hby d25_27) t k) ?_
  rw [len_of Sz27 Ng27]
  show own_Go _ _ _ _ T5 (mkF m 28 #[vr a1, vr ar, vi (1 : Int32), vr x1] [(.int (17 : Int32)), (.int (1 : Int32)), (.ref a1)])
  refine cs_S cG X5 hx hZ hown (wd 105 _ rfl) (wd 106 _ rfl) (wd 12 _ rfl) (wd 107 _ rfl) (by decide) (rm17_1 l Z a0 hw []  h5 n0 Z0 ) (by decide) (by decide) (by decide) (by decide) e5 (by rw [hml]; rfl) (argsL := [(.int (1 : Int32)), (.int (17 : Int32))]) (S := [(.ref a1)]) (lenOf pd_10 rfl) rfl (W := 1) (Nat.le_of_eq rfl) (hb hby d25_28) rfl ?_
  intro v6 T6 L6 X6 hQ6
  obtain ⟨rfl, N6q, e6⟩ := hQ6
  have NN := Fr.app NN N6q
  show own_Go _ _ _ _ T6 (mkF m 31 #[vr a1, vr ar, vi (1 : Int32), vr x1] [(.int (2 : Int32)), (.ref a1)])
  refine cs_put cG X6 hx hZ hown (wd 49 _ rfl) e6 F_a1_head E_a1 (Or.inl (wd 50 _ rfl)) (wd 11 _ rfl) (ty := .int) (by decide) rfl rfl (hb hby d25_31) ?_
  intro T7 h7 X7 e7 W7
  have F_a1_tail := F_a1_tail.other W7 (Or.inr (slot_ne (Or.inl (wd 52 _ rfl)) (Or.inl (wd 50 _ rfl)) (by decide) (t := .int) (t' := .int) (by decide) (by decide)))
  have F_a1_elements := F_a1_elements.other W7 (Or.inr (slot_ne (Or.inl (wd 26 _ rfl)) (Or.inl (wd 50 _ rfl)) (by decide) (t := (.array (.object "java/lang/Object"))) (t' := .int) (by decide) (by decide)))
  have F_a1_head := F_a1_head.same W7
  have V_ar := V_ar.other W7 (Ne.symm ne_a1_ar)
  have E_a1 := E_a1.wr W7
  have KK := KK.wr W7 (Or.inl (List.mem_of_getElem? (i := 1) rfl))
  have NN := Fr.snoc X7 NN g_a1
  refine cs_aloadN cG X7 hx (hb hby d25_34) rfl rfl ?_
  show own_Go _ _ _ _ T7 (mkF m 35 #[vr a1, vr ar, vi (1 : Int32), vr x1] [(.ref x1)])
  obtain ⟨fs, hr, hrun, hended, hW, hsame⟩ := X7.leave (v := some (.ref x1)) (fun h => by rw [Bd.returns] at h; cases h)
  refine ⟨_, _, ?_, hrun, hended, _, _, rfl, ?_, ⟨_, rfl⟩, hW, hsame.mono (by decide) (by decide)⟩
  · exact own_retR X7 hx Bd.returns rfl rfl (hb hby d25_35) hr
  · show Q25_1_2 Z a1 ar k_ar x1 h0 n0 _ T7.heap _
    rw [e7]
    exact ⟨rfl, NN, KK, V_ar, E_a1, F_a1_tail, F_a1_elements, F_a1_head⟩
theorem ef_24_1_2 (m : MethodId) (a1 : Addr) : entryFrame m #[(.ref a1)] 2 = mkF m 0 #[.val (.ref a1), .unset] [] := by first | (simp [entryFrame, mkF, argsToLocals, Value.category]; done) | rfl
def Q24_1_2 (Z : State) (a1 : Addr) (ar : Addr) (k_ar : ClassId) (x1 : Addr) (h0 : Heap) (n0 : Nat) (v : Option Value) (h : Heap) (L : List Loc) : Prop := v = some (.ref x1) ∧ Fr n0 L ∧ Keep h0 h [a1, ar] ∧ Exa Z h a1 own_cD ∧ Fld Z h a1 own_cD "tail" "I" (.int (2 : Int32)) ∧ Fld Z h a1 own_cD "elements" "[Ljava/lang/Object;" (.ref ar) ∧ Fld Z h a1 own_cD "head" "I" (.int (2 : Int32)) ∧ Arv Z h ar k_ar (.object "java/lang/Object") (17 : Int32) [.null, .null, .null, .null, .null, .null, .null, .null, .null, .null, .null, .null, .null, .null, .null, .null, .null] .null
set_option maxRecDepth 65536 in
set_option maxHeartbeats 40000000 in
theorem rm24_1_2 (l : Launch) (Z : State) (a0 : Array Value) (hw : ∀ d ∈ tables_1, d.before a0 Z = true) (ws : List Jvm.Cond) (a1 : Addr) (ar : Addr) (k_ar : ClassId) (x1 : Addr) (h0 : Heap) (n0 : Nat) (Z0 : n0 ≤ h0.size) (F_a1_tail : Fld Z h0 a1 own_cD "tail" "I" (.int (2 : Int32))) (F_a1_elements : Fld Z h0 a1 own_cD "elements" "[Ljava/lang/Object;" (.ref ar)) (F_a1_head : Fld Z h0 a1 own_cD "head" "I" (.int (1 : Int32))) (O_ar : Ovr Z k_ar "java/lang/Object") (V_ar : Arv Z h0 ar k_ar (.object "java/lang/Object") (17 : Int32) [.null, (.ref x1), .null, .null, .null, .null, .null, .null, .null, .null, .null, .null, .null, .null, .null, .null, .null] .null) (ne_a1_ar : a1 ≠ ar) (g_ar : n0 ≤ ar) (E_a1 : Exa Z h0 a1 own_cD) (g_a1 : n0 ≤ a1) :
    own_Met l (⟨own_cD, "removeFirst", "()Ljava/lang/Object;"⟩ : MethodName) jdk_21_method_18_code 2 (some (.object "java/lang/Object")) ws ({ frames := 2, cells := 0, slots := 0, locals := 29 } : Room) #[(.ref a1)] Z h0 (Q24_1_2 Z a1 ar k_ar x1 h0 n0) := by
  refine own_met (plainFor_of_name pn_1) ?_
  intro p e s m below meth c s₁ Bd hx hby hml hZ hown hnm X0 e0
  have wd : ∀ (i : Nat) (d : Jvm.Cond), tables_1[i]? = some d → d.before a0 Z = true := fun i d q => hw d (List.mem_of_getElem? q)
  have NN := Fr.nil n0
  have KK : Keep h0 h0 [a1, ar] := Keep.refl h0 _
  refine own_start (ef_24_1_2 m a1) ?_
  refine cs_aloadN cG X0 hx (hb hby d24_0) rfl rfl ?_
  refine cs_V cG X0 hx hZ hown (wd 147 _ rfl) (wd 148 _ rfl) (wd 150 _ rfl) (wd 149 _ rfl) (wd 12 _ rfl) (wd 151 _ rfl) (by decide) (rm25_1_2 l Z a0 hw [] a1 ar k_ar x1 h0 n0 Z0 F_a1_tail F_a1_elements F_a1_head O_ar V_ar ne_a1_ar g_ar E_a1 g_a1) (by decide) (by decide) (by decide) (by decide) e0 E_a1 (by rw [hml]; rfl) (argsL := []) (S := []) (lenOf pd_9 rfl) rfl (W := 0) (Nat.le_of_eq rfl) (hb hby d24_1) rfl ?_
  intro v1 T1 L1 X1 hQ1
  obtain ⟨rfl, N1q, K1, Q1_0, Q1_1, Q1_2, Q1_3, Q1_4⟩ := hQ1
  have V_ar := Q1_0
  have E_a1 := Q1_1
  have F_a1_tail := Q1_2
  have F_a1_elements := Q1_3
  have F_a1_head := Q1_4
  have KK := KK.trans K1 (allS (Or.inl (List.mem_of_getElem? (i := 1) rfl)) (allS (Or.inl (List.mem_of_getElem? (i := 0) rfl)) all0))
  have NN := Fr.app NN N1q
  show own_Go _ _ _ _ T1 (mkF m 4 #[vr a1, .unset] [(.ref x1)])
  refine cs_astoreN cG X1 hx (hb hby d24_4) rfl (l' := #[vr a1, vr x1]) rfl ?_
  refine cs_aloadN cG X1 hx (hb hby d24_5) rfl rfl ?_
  refine own_go (g' := _) (fun t k => XS.ifnonnullYes X1.here hx rfl (pc0 := 6) (pc' := 17) rfl (hb hby d24_6) rfl (by decide) (by decide) k) ?_
  show own_Go _ _ _ _ T1 (mkF m 17 #[vr a1, vr x1] [])
  refine cs_aloadN cG X1 hx (hb hby d24_17) rfl rfl ?_
  show own_Go _ _ _ _ T1 (mkF m 18 #[vr a1, vr x1] [(.ref x1)])
  obtain ⟨fs, hr, hrun, hended, hW, hsame⟩ := X1.leave (v := some (.ref x1)) (fun h => by rw [Bd.returns] at h; cases h)
  refine ⟨_, _, ?_, hrun, hended, _, _, rfl, ?_, ⟨_, rfl⟩, hW, hsame.mono (by decide) (by decide)⟩
  · exact own_retR X1 hx Bd.returns rfl rfl (hb hby d24_18) hr
  · show Q24_1_2 Z a1 ar k_ar x1 h0 n0 _ T1.heap _
    exact ⟨rfl, NN, KK, E_a1, F_a1_tail, F_a1_elements, F_a1_head, V_ar⟩
theorem ef_25_2_3 (m : MethodId) (a1 : Addr) : entryFrame m #[(.ref a1)] 4 = mkF m 0 #[.val (.ref a1), .unset, .unset, .unset] [] := by first | (simp [entryFrame, mkF, argsToLocals, Value.category]; done) | rfl
def Q25_2_3 (Z : State) (a1 : Addr) (ar : Addr) (k_ar : ClassId) (x2 : Addr) (h0 : Heap) (n0 : Nat) (v : Option Value) (h : Heap) (L : List Loc) : Prop := v = some (.ref x2) ∧ Fr n0 L ∧ Keep h0 h [ar, a1] ∧ Arv Z h ar k_ar (.object "java/lang/Object") (17 : Int32) [.null, .null, .null, .null, .null, .null, .null, .null, .null, .null, .null, .null, .null, .null, .null, .null, .null] .null ∧ Exa Z h a1 own_cD ∧ Fld Z h a1 own_cD "tail" "I" (.int (3 : Int32)) ∧ Fld Z h a1 own_cD "elements" "[Ljava/lang/Object;" (.ref ar) ∧ Fld Z h a1 own_cD "head" "I" (.int (3 : Int32))
set_option maxRecDepth 65536 in
set_option maxHeartbeats 40000000 in
theorem rm25_2_3 (l : Launch) (Z : State) (a0 : Array Value) (hw : ∀ d ∈ tables_1, d.before a0 Z = true) (ws : List Jvm.Cond) (a1 : Addr) (ar : Addr) (k_ar : ClassId) (x2 : Addr) (h0 : Heap) (n0 : Nat) (Z0 : n0 ≤ h0.size) (F_a1_tail : Fld Z h0 a1 own_cD "tail" "I" (.int (3 : Int32))) (F_a1_elements : Fld Z h0 a1 own_cD "elements" "[Ljava/lang/Object;" (.ref ar)) (F_a1_head : Fld Z h0 a1 own_cD "head" "I" (.int (2 : Int32))) (O_ar : Ovr Z k_ar "java/lang/Object") (V_ar : Arv Z h0 ar k_ar (.object "java/lang/Object") (17 : Int32) [.null, .null, (.ref x2), .null, .null, .null, .null, .null, .null, .null, .null, .null, .null, .null, .null, .null, .null] .null) (ne_a1_ar : a1 ≠ ar) (g_ar : n0 ≤ ar) (E_a1 : Exa Z h0 a1 own_cD) (g_a1 : n0 ≤ a1) :
    own_Met l (⟨own_cD, "pollFirst", "()Ljava/lang/Object;"⟩ : MethodName) jdk_21_method_20_code 4 (some (.object "java/lang/Object")) ws ({ frames := 1, cells := 0, slots := 0, locals := 14 } : Room) #[(.ref a1)] Z h0 (Q25_2_3 Z a1 ar k_ar x2 h0 n0) := by
  refine own_met (plainFor_of_name pn_1) ?_
  intro p e s m below meth c s₁ Bd hx hby hml hZ hown hnm X0 e0
  have wd : ∀ (i : Nat) (d : Jvm.Cond), tables_1[i]? = some d → d.before a0 Z = true := fun i d q => hw d (List.mem_of_getElem? q)
  have NN := Fr.nil n0
  have KK : Keep h0 h0 [ar, a1] := Keep.refl h0 _
  refine own_start (ef_25_2_3 m a1) ?_
  refine cs_aloadN cG X0 hx (hb hby d25_0) rfl rfl ?_
  refine cs_get cG X0 hx hZ hown (wd 25 _ rfl) e0 F_a1_elements (hb hby d25_1) ?_
  intro T1 X1 e1
  refine cs_dup cG X1 hx (hb hby d25_4) rfl ?_
  refine cs_astoreN cG X1 hx (hb hby d25_5) rfl (l' := #[vr a1, vr ar, .unset, .unset]) rfl ?_
  refine cs_aloadN cG X1 hx (hb hby d25_6) rfl rfl ?_
  refine cs_get cG X1 hx hZ hown (wd 49 _ rfl) e1 F_a1_head (hb hby d25_7) ?_
  intro T2 X2 e2
  refine cs_dup cG X2 hx (hb hby d25_10) rfl ?_
  refine cs_istoreN cG X2 hx (hb hby d25_11) (l' := #[vr a1, vr ar, vi (2 : Int32), .unset]) rfl ?_
  refine cs_S cG X2 hx hZ hown (wd 81 _ rfl) (wd 82 _ rfl) (wd 12 _ rfl) (wd 83 _ rfl) (by decide) (rm14_2_3_2 l Z a0 hw [] ar k_ar x2 h0 n0 Z0 V_ar) (by decide) (by decide) (by decide) (by decide) e2 (by rw [hml]; rfl) (argsL := [(.ref ar), (.int (2 : Int32))]) (S := []) (lenOf pd_11 rfl) rfl (W := 0) (Nat.le_of_eq rfl) (hb hby d25_12) rfl ?_
  intro v3 T3 L3 X3 hQ3
  obtain ⟨rfl, N3q, e3⟩ := hQ3
  have NN := Fr.app NN N3q
  show own_Go _ _ _ _ T3 (mkF m 15 #[vr a1, vr ar, vi (2 : Int32), .unset] [(.ref x2)])
  refine cs_astoreN cG X3 hx (hb hby d25_15) rfl (l' := #[vr a1, vr ar, vi (2 : Int32), vr x2]) rfl ?_
  refine cs_aloadN cG X3 hx (hb hby d25_16) rfl rfl ?_
  refine cs_ifnullNo cG X3 hx (hb hby d25_17) ?_
  refine cs_aloadN cG X3 hx (hb hby d25_20) rfl rfl ?_
  refine cs_iloadN cG X3 hx (hb hby d25_21) rfl ?_
  refine cs_aconstNull cG X3 hx (hb hby d25_22) ?_
  have Vq := V_ar
  obtain ⟨cl4, Ar4, q4, Sz4, Ng4, Hs4, Gs4⟩ := Vq
  have hin4 : ¬ ((2 : Int32) < 0 ∨ cl4.slots.size ≤ ((2 : Int32)).toNatClampNeg) := inb_of Sz4 ⟨by decide, by decide⟩
  obtain ⟨T5, h5, X5, e5, W5, st5⟩ := stR X3 hx hZ e3 Ar4 (j := (2 : Int32)) hin4 rfl (Or.inl rfl) (g := (mkF m 23 #[vr a1, vr ar, vi (2 : Int32), vr x2] [.null, (.int (2 : Int32)), (.ref ar)])) rfl rfl (hb hby d25_23)
  refine own_go st5 ?_
  have F_a1_tail := F_a1_tail.other W5 (Or.inl ne_a1_ar)
  have F_a1_elements := F_a1_elements.other W5 (Or.inl ne_a1_ar)
  have F_a1_head := F_a1_head.other W5 (Or.inl ne_a1_ar)
  have E_a1 := E_a1.wr W5
  have Z0 := Nat.le_trans Z0 (Keep.of_wr W5).1
  have KK := KK.wr W5 (Or.inl (List.mem_of_getElem? (i := 0) rfl))
  have NN := Fr.snoc X5 NN g_ar
  have V_ar : Arv Z h5 ar k_ar (.object "java/lang/Object") (17 : Int32) [.null, .null, .null, .null, .null, .null, .null, .null, .null, .null, .null, .null, .null, .null, .null, .null, .null] .null := Arv.set Ar4 q4 Sz4 Ng4 Hs4 Gs4 rfl W5 2 rfl (Nat.le_of_ble_eq_true rfl)
  show own_Go _ _ _ _ T5 (mkF m 24 #[vr a1, vr ar, vi (2 : Int32), vr x2] [])
  refine cs_aloadN cG X5 hx (hb hby d25_24) rfl rfl ?_
  refine cs_iloadN cG X5 hx (hb hby d25_25) rfl ?_
  refine cs_aloadN cG X5 hx (hb hby d25_26) rfl rfl ?_
  have Vq := V_ar
  obtain ⟨cl27, Ar27, -, Sz27, Ng27, -, -⟩ := Vq
  refine own_go (fun t k => X5.arraylength hx (by rw [e5]; exact Ar27.1) (State.isArrayOf_alike hZ.alike Ar27.2.1) (g := (mkF m 27 #[vr a1, vr ar, vi (2 : Int32), vr x2] [(.ref ar), (.int (2 : Int32)), (.ref a1)])) rfl rfl (hb hby d25_27) t k) ?_
  rw [len_of Sz27 Ng27]
  show own_Go _ _ _ _ T5 (mkF m 28 #[vr a1, vr ar, vi (2 : Int32), vr x2] [(.int (17 : Int32)), (.int (2 : Int32)), (.ref a1)])
  refine cs_S cG X5 hx hZ hown (wd 105 _ rfl) (wd 106 _ rfl) (wd 12 _ rfl) (wd 107 _ rfl) (by decide) (rm17_2 l Z a0 hw []  h5 n0 Z0 ) (by decide) (by decide) (by decide) (by decide) e5 (by rw [hml]; rfl) (argsL := [(.int (2 : Int32)), (.int (17 : Int32))]) (S := [(.ref a1)]) (lenOf pd_10 rfl) rfl (W := 1) (Nat.le_of_eq rfl) (hb hby d25_28) rfl ?_
  intro v6 T6 L6 X6 hQ6
  obtain ⟨rfl, N6q, e6⟩ := hQ6
  have NN := Fr.app NN N6q
  show own_Go _ _ _ _ T6 (mkF m 31 #[vr a1, vr ar, vi (2 : Int32), vr x2] [(.int (3 : Int32)), (.ref a1)])
  refine cs_put cG X6 hx hZ hown (wd 49 _ rfl) e6 F_a1_head E_a1 (Or.inl (wd 50 _ rfl)) (wd 11 _ rfl) (ty := .int) (by decide) rfl rfl (hb hby d25_31) ?_
  intro T7 h7 X7 e7 W7
  have F_a1_tail := F_a1_tail.other W7 (Or.inr (slot_ne (Or.inl (wd 52 _ rfl)) (Or.inl (wd 50 _ rfl)) (by decide) (t := .int) (t' := .int) (by decide) (by decide)))
  have F_a1_elements := F_a1_elements.other W7 (Or.inr (slot_ne (Or.inl (wd 26 _ rfl)) (Or.inl (wd 50 _ rfl)) (by decide) (t := (.array (.object "java/lang/Object"))) (t' := .int) (by decide) (by decide)))
  have F_a1_head := F_a1_head.same W7
  have V_ar := V_ar.other W7 (Ne.symm ne_a1_ar)
  have E_a1 := E_a1.wr W7
  have KK := KK.wr W7 (Or.inl (List.mem_of_getElem? (i := 1) rfl))
  have NN := Fr.snoc X7 NN g_a1
  refine cs_aloadN cG X7 hx (hb hby d25_34) rfl rfl ?_
  show own_Go _ _ _ _ T7 (mkF m 35 #[vr a1, vr ar, vi (2 : Int32), vr x2] [(.ref x2)])
  obtain ⟨fs, hr, hrun, hended, hW, hsame⟩ := X7.leave (v := some (.ref x2)) (fun h => by rw [Bd.returns] at h; cases h)
  refine ⟨_, _, ?_, hrun, hended, _, _, rfl, ?_, ⟨_, rfl⟩, hW, hsame.mono (by decide) (by decide)⟩
  · exact own_retR X7 hx Bd.returns rfl rfl (hb hby d25_35) hr
  · show Q25_2_3 Z a1 ar k_ar x2 h0 n0 _ T7.heap _
    rw [e7]
    exact ⟨rfl, NN, KK, V_ar, E_a1, F_a1_tail, F_a1_elements, F_a1_head⟩
theorem ef_24_2_3 (m : MethodId) (a1 : Addr) : entryFrame m #[(.ref a1)] 2 = mkF m 0 #[.val (.ref a1), .unset] [] := by first | (simp [entryFrame, mkF, argsToLocals, Value.category]; done) | rfl
def Q24_2_3 (Z : State) (a1 : Addr) (ar : Addr) (k_ar : ClassId) (x2 : Addr) (h0 : Heap) (n0 : Nat) (v : Option Value) (h : Heap) (L : List Loc) : Prop := v = some (.ref x2) ∧ Fr n0 L ∧ Keep h0 h [a1, ar] ∧ Exa Z h a1 own_cD ∧ Fld Z h a1 own_cD "tail" "I" (.int (3 : Int32)) ∧ Fld Z h a1 own_cD "elements" "[Ljava/lang/Object;" (.ref ar) ∧ Fld Z h a1 own_cD "head" "I" (.int (3 : Int32)) ∧ Arv Z h ar k_ar (.object "java/lang/Object") (17 : Int32) [.null, .null, .null, .null, .null, .null, .null, .null, .null, .null, .null, .null, .null, .null, .null, .null, .null] .null
set_option maxRecDepth 65536 in
set_option maxHeartbeats 40000000 in
theorem rm24_2_3 (l : Launch) (Z : State) (a0 : Array Value) (hw : ∀ d ∈ tables_1, d.before a0 Z = true) (ws : List Jvm.Cond) (a1 : Addr) (ar : Addr) (k_ar : ClassId) (x2 : Addr) (h0 : Heap) (n0 : Nat) (Z0 : n0 ≤ h0.size) (F_a1_tail : Fld Z h0 a1 own_cD "tail" "I" (.int (3 : Int32))) (F_a1_elements : Fld Z h0 a1 own_cD "elements" "[Ljava/lang/Object;" (.ref ar)) (F_a1_head : Fld Z h0 a1 own_cD "head" "I" (.int (2 : Int32))) (O_ar : Ovr Z k_ar "java/lang/Object") (V_ar : Arv Z h0 ar k_ar (.object "java/lang/Object") (17 : Int32) [.null, .null, (.ref x2), .null, .null, .null, .null, .null, .null, .null, .null, .null, .null, .null, .null, .null, .null] .null) (ne_a1_ar : a1 ≠ ar) (g_ar : n0 ≤ ar) (E_a1 : Exa Z h0 a1 own_cD) (g_a1 : n0 ≤ a1) :
    own_Met l (⟨own_cD, "removeFirst", "()Ljava/lang/Object;"⟩ : MethodName) jdk_21_method_18_code 2 (some (.object "java/lang/Object")) ws ({ frames := 2, cells := 0, slots := 0, locals := 29 } : Room) #[(.ref a1)] Z h0 (Q24_2_3 Z a1 ar k_ar x2 h0 n0) := by
  refine own_met (plainFor_of_name pn_1) ?_
  intro p e s m below meth c s₁ Bd hx hby hml hZ hown hnm X0 e0
  have wd : ∀ (i : Nat) (d : Jvm.Cond), tables_1[i]? = some d → d.before a0 Z = true := fun i d q => hw d (List.mem_of_getElem? q)
  have NN := Fr.nil n0
  have KK : Keep h0 h0 [a1, ar] := Keep.refl h0 _
  refine own_start (ef_24_2_3 m a1) ?_
  refine cs_aloadN cG X0 hx (hb hby d24_0) rfl rfl ?_
  refine cs_V cG X0 hx hZ hown (wd 147 _ rfl) (wd 148 _ rfl) (wd 150 _ rfl) (wd 149 _ rfl) (wd 12 _ rfl) (wd 151 _ rfl) (by decide) (rm25_2_3 l Z a0 hw [] a1 ar k_ar x2 h0 n0 Z0 F_a1_tail F_a1_elements F_a1_head O_ar V_ar ne_a1_ar g_ar E_a1 g_a1) (by decide) (by decide) (by decide) (by decide) e0 E_a1 (by rw [hml]; rfl) (argsL := []) (S := []) (lenOf pd_9 rfl) rfl (W := 0) (Nat.le_of_eq rfl) (hb hby d24_1) rfl ?_
  intro v1 T1 L1 X1 hQ1
  obtain ⟨rfl, N1q, K1, Q1_0, Q1_1, Q1_2, Q1_3, Q1_4⟩ := hQ1
  have V_ar := Q1_0
  have E_a1 := Q1_1
  have F_a1_tail := Q1_2
  have F_a1_elements := Q1_3
  have F_a1_head := Q1_4
  have KK := KK.trans K1 (allS (Or.inl (List.mem_of_getElem? (i := 1) rfl)) (allS (Or.inl (List.mem_of_getElem? (i := 0) rfl)) all0))
  have NN := Fr.app NN N1q
  show own_Go _ _ _ _ T1 (mkF m 4 #[vr a1, .unset] [(.ref x2)])
  refine cs_astoreN cG X1 hx (hb hby d24_4) rfl (l' := #[vr a1, vr x2]) rfl ?_
  refine cs_aloadN cG X1 hx (hb hby d24_5) rfl rfl ?_
  refine own_go (g' := _) (fun t k => XS.ifnonnullYes X1.here hx rfl (pc0 := 6) (pc' := 17) rfl (hb hby d24_6) rfl (by decide) (by decide) k) ?_
  show own_Go _ _ _ _ T1 (mkF m 17 #[vr a1, vr x2] [])
  refine cs_aloadN cG X1 hx (hb hby d24_17) rfl rfl ?_
  show own_Go _ _ _ _ T1 (mkF m 18 #[vr a1, vr x2] [(.ref x2)])
  obtain ⟨fs, hr, hrun, hended, hW, hsame⟩ := X1.leave (v := some (.ref x2)) (fun h => by rw [Bd.returns] at h; cases h)
  refine ⟨_, _, ?_, hrun, hended, _, _, rfl, ?_, ⟨_, rfl⟩, hW, hsame.mono (by decide) (by decide)⟩
  · exact own_retR X1 hx Bd.returns rfl rfl (hb hby d24_18) hr
  · show Q24_2_3 Z a1 ar k_ar x2 h0 n0 _ T1.heap _
    exact ⟨rfl, NN, KK, E_a1, F_a1_tail, F_a1_elements, F_a1_head, V_ar⟩
theorem d21_0 : decode jdk_21_method_37_code 0 = .ok (.aload_n 0, 1) := by decide +kernel
theorem d21_1 : decode jdk_21_method_37_code 1 = .ok (.getfield 20, 3) := by decide +kernel
theorem d21_4 : decode jdk_21_method_37_code 4 = .ok (.aload_n 0, 1) := by decide +kernel
theorem d21_5 : decode jdk_21_method_37_code 5 = .ok (.getfield 24, 3) := by decide +kernel
theorem d21_8 : decode jdk_21_method_37_code 8 = .ok (.aload_n 0, 1) := by decide +kernel
theorem d21_9 : decode jdk_21_method_37_code 9 = .ok (.getfield 3, 3) := by decide +kernel
theorem d21_12 : decode jdk_21_method_37_code 12 = .ok (.arraylength, 1) := by decide +kernel
theorem d21_13 : decode jdk_21_method_37_code 13 = .ok (.invokestatic 127, 3) := by decide +kernel
theorem d21_16 : decode jdk_21_method_37_code 16 = .ok (.ireturn, 1) := by decide +kernel
theorem pd_14 : parseMethodDescriptor "(III)I" = some ⟨[.int, .int, .int], some .int⟩ := by decide +kernel
theorem ef_21_0_1 (m : MethodId) (a1 : Addr) : entryFrame m #[(.ref a1)] 1 = mkF m 0 #[.val (.ref a1)] [] := by first | (simp [entryFrame, mkF, argsToLocals, Value.category]; done) | rfl
def Q21_0_1 (Z : State) (a1 : Addr) (ar : Addr) (k_ar : ClassId) (x0 : Addr) (h0 : Heap) (n0 : Nat) (v : Option Value) (h : Heap) (L : List Loc) : Prop := v = some (.int (1 : Int32)) ∧ Fr n0 L ∧ h = h0
set_option maxRecDepth 65536 in
set_option maxHeartbeats 40000000 in
theorem rm21_0_1 (l : Launch) (Z : State) (a0 : Array Value) (hw : ∀ d ∈ tables_1, d.before a0 Z = true) (ws : List Jvm.Cond) (a1 : Addr) (ar : Addr) (k_ar : ClassId) (x0 : Addr) (h0 : Heap) (n0 : Nat) (Z0 : n0 ≤ h0.size) (F_a1_tail : Fld Z h0 a1 own_cD "tail" "I" (.int (1 : Int32))) (F_a1_head : Fld Z h0 a1 own_cD "head" "I" (.int (0 : Int32))) (F_a1_elements : Fld Z h0 a1 own_cD "elements" "[Ljava/lang/Object;" (.ref ar)) (V_ar : Arv Z h0 ar k_ar (.object "java/lang/Object") (17 : Int32) [(.ref x0), .null, .null, .null, .null, .null, .null, .null, .null, .null, .null, .null, .null, .null, .null, .null, .null] .null) :
    own_Met l (⟨own_cD, "size", "()I"⟩ : MethodName) jdk_21_method_37_code 1 (some .int) ws ({ frames := 1, cells := 0, slots := 0, locals := 14 } : Room) #[(.ref a1)] Z h0 (Q21_0_1 Z a1 ar k_ar x0 h0 n0) := by
  refine own_met (plainFor_of_name pn_1) ?_
  intro p e s m below meth c s₁ Bd hx hby hml hZ hown hnm X0 e0
  have wd : ∀ (i : Nat) (d : Jvm.Cond), tables_1[i]? = some d → d.before a0 Z = true := fun i d q => hw d (List.mem_of_getElem? q)
  have NN := Fr.nil n0
  have KK : Keep h0 h0 [] := Keep.refl h0 _
  refine own_start (ef_21_0_1 m a1) ?_
  refine cs_aloadN cG X0 hx (hb hby d21_0) rfl rfl ?_
  refine cs_get cG X0 hx hZ hown (wd 51 _ rfl) e0 F_a1_tail (hb hby d21_1) ?_
  intro T1 X1 e1
  refine cs_aloadN cG X1 hx (hb hby d21_4) rfl rfl ?_
  refine cs_get cG X1 hx hZ hown (wd 49 _ rfl) e1 F_a1_head (hb hby d21_5) ?_
  intro T2 X2 e2
  refine cs_aloadN cG X2 hx (hb hby d21_8) rfl rfl ?_
  refine cs_get cG X2 hx hZ hown (wd 25 _ rfl) e2 F_a1_elements (hb hby d21_9) ?_
  intro T3 X3 e3
  have Vq := V_ar
  obtain ⟨cl12, Ar12, -, Sz12, Ng12, -, -⟩ := Vq
  refine own_go (fun t k => X3.arraylength hx (by rw [e3]; exact Ar12.1) (State.isArrayOf_alike hZ.alike Ar12.2.1) (g := (mkF m 12 #[vr a1] [(.ref ar), (.int (0 : Int32)), (.int (1 : Int32))])) rfl rfl (hb hby d21_12) t k) ?_
  rw [len_of Sz12 Ng12]
  show own_Go _ _ _ _ T3 (mkF m 13 #[vr a1] [(.int (17 : Int32)), (.int (0 : Int32)), (.int (1 : Int32))])
  refine cs_S cG X3 hx hZ hown (wd 132 _ rfl) (wd 133 _ rfl) (wd 12 _ rfl) (wd 134 _ rfl) (by decide) (rm22_1_0 l Z a0 hw []  h0 n0 Z0 ) (by decide) (by decide) (by decide) (by decide) e3 (by rw [hml]; rfl) (argsL := [(.int (1 : Int32)), (.int (0 : Int32)), (.int (17 : Int32))]) (S := []) (lenOf pd_14 rfl) rfl (W := 0) (Nat.le_of_eq rfl) (hb hby d21_13) rfl ?_
  intro v4 T4 L4 X4 hQ4
  obtain ⟨rfl, N4q, e4⟩ := hQ4
  have NN := Fr.app NN N4q
  show own_Go _ _ _ _ T4 (mkF m 16 #[vr a1] [(.int (1 : Int32))])
  show own_Go _ _ _ _ T4 (mkF m 16 #[vr a1] [(.int (1 : Int32))])
  obtain ⟨fs, hr, hrun, hended, hW, hsame⟩ := X4.leave (v := some (.int (1 : Int32))) (fun h => by rw [Bd.returns] at h; cases h)
  refine ⟨_, _, ?_, hrun, hended, _, _, rfl, ?_, ⟨_, rfl⟩, hW, hsame.mono (by decide) (by decide)⟩
  · exact retI X4 hx Bd.returns (hb hby d21_16) hr
  · show Q21_0_1 Z a1 ar k_ar x0 h0 n0 _ T4.heap _
    rw [e4]
    exact ⟨rfl, NN, rfl⟩
theorem ef_21_0_2 (m : MethodId) (a1 : Addr) : entryFrame m #[(.ref a1)] 1 = mkF m 0 #[.val (.ref a1)] [] := by first | (simp [entryFrame, mkF, argsToLocals, Value.category]; done) | rfl
def Q21_0_2 (Z : State) (a1 : Addr) (ar : Addr) (k_ar : ClassId) (x0 : Addr) (x1 : Addr) (h0 : Heap) (n0 : Nat) (v : Option Value) (h : Heap) (L : List Loc) : Prop := v = some (.int (2 : Int32)) ∧ Fr n0 L ∧ h = h0
set_option maxRecDepth 65536 in
set_option maxHeartbeats 40000000 in
theorem rm21_0_2 (l : Launch) (Z : State) (a0 : Array Value) (hw : ∀ d ∈ tables_1, d.before a0 Z = true) (ws : List Jvm.Cond) (a1 : Addr) (ar : Addr) (k_ar : ClassId) (x0 : Addr) (x1 : Addr) (h0 : Heap) (n0 : Nat) (Z0 : n0 ≤ h0.size) (F_a1_tail : Fld Z h0 a1 own_cD "tail" "I" (.int (2 : Int32))) (F_a1_head : Fld Z h0 a1 own_cD "head" "I" (.int (0 : Int32))) (F_a1_elements : Fld Z h0 a1 own_cD "elements" "[Ljava/lang/Object;" (.ref ar)) (V_ar : Arv Z h0 ar k_ar (.object "java/lang/Object") (17 : Int32) [(.ref x0), (.ref x1), .null, .null, .null, .null, .null, .null, .null, .null, .null, .null, .null, .null, .null, .null, .null] .null) :
    own_Met l (⟨own_cD, "size", "()I"⟩ : MethodName) jdk_21_method_37_code 1 (some .int) ws ({ frames := 1, cells := 0, slots := 0, locals := 14 } : Room) #[(.ref a1)] Z h0 (Q21_0_2 Z a1 ar k_ar x0 x1 h0 n0) := by
  refine own_met (plainFor_of_name pn_1) ?_
  intro p e s m below meth c s₁ Bd hx hby hml hZ hown hnm X0 e0
  have wd : ∀ (i : Nat) (d : Jvm.Cond), tables_1[i]? = some d → d.before a0 Z = true := fun i d q => hw d (List.mem_of_getElem? q)
  have NN := Fr.nil n0
  have KK : Keep h0 h0 [] := Keep.refl h0 _
  refine own_start (ef_21_0_2 m a1) ?_
  refine cs_aloadN cG X0 hx (hb hby d21_0) rfl rfl ?_
  refine cs_get cG X0 hx hZ hown (wd 51 _ rfl) e0 F_a1_tail (hb hby d21_1) ?_
  intro T1 X1 e1
  refine cs_aloadN cG X1 hx (hb hby d21_4) rfl rfl ?_
  refine cs_get cG X1 hx hZ hown (wd 49 _ rfl) e1 F_a1_head (hb hby d21_5) ?_
  intro T2 X2 e2
  refine cs_aloadN cG X2 hx (hb hby d21_8) rfl rfl ?_
  refine cs_get cG X2 hx hZ hown (wd 25 _ rfl) e2 F_a1_elements (hb hby d21_9) ?_
  intro T3 X3 e3
  have Vq := V_ar
  obtain ⟨cl12, Ar12, -, Sz12, Ng12, -, -⟩ := Vq
  refine own_go (fun t k => X3.arraylength hx (by rw [e3]; exact Ar12.1) (State.isArrayOf_alike hZ.alike Ar12.2.1) (g := (mkF m 12 #[vr a1] [(.ref ar), (.int (0 : Int32)), (.int (2 : Int32))])) rfl rfl (hb hby d21_12) t k) ?_
  rw [len_of Sz12 Ng12]
  show own_Go _ _ _ _ T3 (mkF m 13 #[vr a1] [(.int (17 : Int32)), (.int (0 : Int32)), (.int (2 : Int32))])
  refine cs_S cG X3 hx hZ hown (wd 132 _ rfl) (wd 133 _ rfl) (wd 12 _ rfl) (wd 134 _ rfl) (by decide) (rm22_2_0 l Z a0 hw []  h0 n0 Z0 ) (by decide) (by decide) (by decide) (by decide) e3 (by rw [hml]; rfl) (argsL := [(.int (2 : Int32)), (.int (0 : Int32)), (.int (17 : Int32))]) (S := []) (lenOf pd_14 rfl) rfl (W := 0) (Nat.le_of_eq rfl) (hb hby d21_13) rfl ?_
  intro v4 T4 L4 X4 hQ4
  obtain ⟨rfl, N4q, e4⟩ := hQ4
  have NN := Fr.app NN N4q
  show own_Go _ _ _ _ T4 (mkF m 16 #[vr a1] [(.int (2 : Int32))])
  show own_Go _ _ _ _ T4 (mkF m 16 #[vr a1] [(.int (2 : Int32))])
  obtain ⟨fs, hr, hrun, hended, hW, hsame⟩ := X4.leave (v := some (.int (2 : Int32))) (fun h => by rw [Bd.returns] at h; cases h)
  refine ⟨_, _, ?_, hrun, hended, _, _, rfl, ?_, ⟨_, rfl⟩, hW, hsame.mono (by decide) (by decide)⟩
  · exact retI X4 hx Bd.returns (hb hby d21_16) hr
  · show Q21_0_2 Z a1 ar k_ar x0 x1 h0 n0 _ T4.heap _
    rw [e4]
    exact ⟨rfl, NN, rfl⟩
theorem ef_21_1_2 (m : MethodId) (a1 : Addr) : entryFrame m #[(.ref a1)] 1 = mkF m 0 #[.val (.ref a1)] [] := by first | (simp [entryFrame, mkF, argsToLocals, Value.category]; done) | rfl
def Q21_1_2 (Z : State) (a1 : Addr) (ar : Addr) (k_ar : ClassId) (x1 : Addr) (h0 : Heap) (n0 : Nat) (v : Option Value) (h : Heap) (L : List Loc) : Prop := v = some (.int (1 : Int32)) ∧ Fr n0 L ∧ h = h0
set_option maxRecDepth 65536 in
set_option maxHeartbeats 40000000 in
theorem rm21_1_2 (l : Launch) (Z : State) (a0 : Array Value) (hw : ∀ d ∈ tables_1, d.before a0 Z = true) (ws : List Jvm.Cond) (a1 : Addr) (ar : Addr) (k_ar : ClassId) (x1 : Addr) (h0 : Heap) (n0 : Nat) (Z0 : n0 ≤ h0.size) (F_a1_tail : Fld Z h0 a1 own_cD "tail" "I" (.int (2 : Int32))) (F_a1_head : Fld Z h0 a1 own_cD "head" "I" (.int (1 : Int32))) (F_a1_elements : Fld Z h0 a1 own_cD "elements" "[Ljava/lang/Object;" (.ref ar)) (V_ar : Arv Z h0 ar k_ar (.object "java/lang/Object") (17 : Int32) [.null, (.ref x1), .null, .null, .null, .null, .null, .null, .null, .null, .null, .null, .null, .null, .null, .null, .null] .null) :
    own_Met l (⟨own_cD, "size", "()I"⟩ : MethodName) jdk_21_method_37_code 1 (some .int) ws ({ frames := 1, cells := 0, slots := 0, locals := 14 } : Room) #[(.ref a1)] Z h0 (Q21_1_2 Z a1 ar k_ar x1 h0 n0) := by
  refine own_met (plainFor_of_name pn_1) ?_
  intro p e s m below meth c s₁ Bd hx hby hml hZ hown hnm X0 e0
  have wd : ∀ (i : Nat) (d : Jvm.Cond), tables_1[i]? = some d → d.before a0 Z = true := fun i d q => hw d (List.mem_of_getElem? q)
  have NN := Fr.nil n0
  have KK : Keep h0 h0 [] := Keep.refl h0 _
  refine own_start (ef_21_1_2 m a1) ?_
  refine cs_aloadN cG X0 hx (hb hby d21_0) rfl rfl ?_
  refine cs_get cG X0 hx hZ hown (wd 51 _ rfl) e0 F_a1_tail (hb hby d21_1) ?_
  intro T1 X1 e1
  refine cs_aloadN cG X1 hx (hb hby d21_4) rfl rfl ?_
  refine cs_get cG X1 hx hZ hown (wd 49 _ rfl) e1 F_a1_head (hb hby d21_5) ?_
  intro T2 X2 e2
  refine cs_aloadN cG X2 hx (hb hby d21_8) rfl rfl ?_
  refine cs_get cG X2 hx hZ hown (wd 25 _ rfl) e2 F_a1_elements (hb hby d21_9) ?_
  intro T3 X3 e3
  have Vq := V_ar
  obtain ⟨cl12, Ar12, -, Sz12, Ng12, -, -⟩ := Vq
  refine own_go (fun t k => X3.arraylength hx (by rw [e3]; exact Ar12.1) (State.isArrayOf_alike hZ.alike Ar12.2.1) (g := (mkF m 12 #[vr a1] [(.ref ar), (.int (1 : Int32)), (.int (2 : Int32))])) rfl rfl (hb hby d21_12) t k) ?_
  rw [len_of Sz12 Ng12]
  show own_Go _ _ _ _ T3 (mkF m 13 #[vr a1] [(.int (17 : Int32)), (.int (1 : Int32)), (.int (2 : Int32))])
  refine cs_S cG X3 hx hZ hown (wd 132 _ rfl) (wd 133 _ rfl) (wd 12 _ rfl) (wd 134 _ rfl) (by decide) (rm22_2_1 l Z a0 hw []  h0 n0 Z0 ) (by decide) (by decide) (by decide) (by decide) e3 (by rw [hml]; rfl) (argsL := [(.int (2 : Int32)), (.int (1 : Int32)), (.int (17 : Int32))]) (S := []) (lenOf pd_14 rfl) rfl (W := 0) (Nat.le_of_eq rfl) (hb hby d21_13) rfl ?_
  intro v4 T4 L4 X4 hQ4
  obtain ⟨rfl, N4q, e4⟩ := hQ4
  have NN := Fr.app NN N4q
  show own_Go _ _ _ _ T4 (mkF m 16 #[vr a1] [(.int (1 : Int32))])
  show own_Go _ _ _ _ T4 (mkF m 16 #[vr a1] [(.int (1 : Int32))])
  obtain ⟨fs, hr, hrun, hended, hW, hsame⟩ := X4.leave (v := some (.int (1 : Int32))) (fun h => by rw [Bd.returns] at h; cases h)
  refine ⟨_, _, ?_, hrun, hended, _, _, rfl, ?_, ⟨_, rfl⟩, hW, hsame.mono (by decide) (by decide)⟩
  · exact retI X4 hx Bd.returns (hb hby d21_16) hr
  · show Q21_1_2 Z a1 ar k_ar x1 h0 n0 _ T4.heap _
    rw [e4]
    exact ⟨rfl, NN, rfl⟩
theorem ef_21_2_3 (m : MethodId) (a1 : Addr) : entryFrame m #[(.ref a1)] 1 = mkF m 0 #[.val (.ref a1)] [] := by first | (simp [entryFrame, mkF, argsToLocals, Value.category]; done) | rfl
def Q21_2_3 (Z : State) (a1 : Addr) (ar : Addr) (k_ar : ClassId) (x2 : Addr) (h0 : Heap) (n0 : Nat) (v : Option Value) (h : Heap) (L : List Loc) : Prop := v = some (.int (1 : Int32)) ∧ Fr n0 L ∧ h = h0
set_option maxRecDepth 65536 in
set_option maxHeartbeats 40000000 in
theorem rm21_2_3 (l : Launch) (Z : State) (a0 : Array Value) (hw : ∀ d ∈ tables_1, d.before a0 Z = true) (ws : List Jvm.Cond) (a1 : Addr) (ar : Addr) (k_ar : ClassId) (x2 : Addr) (h0 : Heap) (n0 : Nat) (Z0 : n0 ≤ h0.size) (F_a1_tail : Fld Z h0 a1 own_cD "tail" "I" (.int (3 : Int32))) (F_a1_head : Fld Z h0 a1 own_cD "head" "I" (.int (2 : Int32))) (F_a1_elements : Fld Z h0 a1 own_cD "elements" "[Ljava/lang/Object;" (.ref ar)) (V_ar : Arv Z h0 ar k_ar (.object "java/lang/Object") (17 : Int32) [.null, .null, (.ref x2), .null, .null, .null, .null, .null, .null, .null, .null, .null, .null, .null, .null, .null, .null] .null) :
    own_Met l (⟨own_cD, "size", "()I"⟩ : MethodName) jdk_21_method_37_code 1 (some .int) ws ({ frames := 1, cells := 0, slots := 0, locals := 14 } : Room) #[(.ref a1)] Z h0 (Q21_2_3 Z a1 ar k_ar x2 h0 n0) := by
  refine own_met (plainFor_of_name pn_1) ?_
  intro p e s m below meth c s₁ Bd hx hby hml hZ hown hnm X0 e0
  have wd : ∀ (i : Nat) (d : Jvm.Cond), tables_1[i]? = some d → d.before a0 Z = true := fun i d q => hw d (List.mem_of_getElem? q)
  have NN := Fr.nil n0
  have KK : Keep h0 h0 [] := Keep.refl h0 _
  refine own_start (ef_21_2_3 m a1) ?_
  refine cs_aloadN cG X0 hx (hb hby d21_0) rfl rfl ?_
  refine cs_get cG X0 hx hZ hown (wd 51 _ rfl) e0 F_a1_tail (hb hby d21_1) ?_
  intro T1 X1 e1
  refine cs_aloadN cG X1 hx (hb hby d21_4) rfl rfl ?_
  refine cs_get cG X1 hx hZ hown (wd 49 _ rfl) e1 F_a1_head (hb hby d21_5) ?_
  intro T2 X2 e2
  refine cs_aloadN cG X2 hx (hb hby d21_8) rfl rfl ?_
  refine cs_get cG X2 hx hZ hown (wd 25 _ rfl) e2 F_a1_elements (hb hby d21_9) ?_
  intro T3 X3 e3
  have Vq := V_ar
  obtain ⟨cl12, Ar12, -, Sz12, Ng12, -, -⟩ := Vq
  refine own_go (fun t k => X3.arraylength hx (by rw [e3]; exact Ar12.1) (State.isArrayOf_alike hZ.alike Ar12.2.1) (g := (mkF m 12 #[vr a1] [(.ref ar), (.int (2 : Int32)), (.int (3 : Int32))])) rfl rfl (hb hby d21_12) t k) ?_
  rw [len_of Sz12 Ng12]
  show own_Go _ _ _ _ T3 (mkF m 13 #[vr a1] [(.int (17 : Int32)), (.int (2 : Int32)), (.int (3 : Int32))])
  refine cs_S cG X3 hx hZ hown (wd 132 _ rfl) (wd 133 _ rfl) (wd 12 _ rfl) (wd 134 _ rfl) (by decide) (rm22_3_2 l Z a0 hw []  h0 n0 Z0 ) (by decide) (by decide) (by decide) (by decide) e3 (by rw [hml]; rfl) (argsL := [(.int (3 : Int32)), (.int (2 : Int32)), (.int (17 : Int32))]) (S := []) (lenOf pd_14 rfl) rfl (W := 0) (Nat.le_of_eq rfl) (hb hby d21_13) rfl ?_
  intro v4 T4 L4 X4 hQ4
  obtain ⟨rfl, N4q, e4⟩ := hQ4
  have NN := Fr.app NN N4q
  show own_Go _ _ _ _ T4 (mkF m 16 #[vr a1] [(.int (1 : Int32))])
  show own_Go _ _ _ _ T4 (mkF m 16 #[vr a1] [(.int (1 : Int32))])
  obtain ⟨fs, hr, hrun, hended, hW, hsame⟩ := X4.leave (v := some (.int (1 : Int32))) (fun h => by rw [Bd.returns] at h; cases h)
  refine ⟨_, _, ?_, hrun, hended, _, _, rfl, ?_, ⟨_, rfl⟩, hW, hsame.mono (by decide) (by decide)⟩
  · exact retI X4 hx Bd.returns (hb hby d21_16) hr
  · show Q21_2_3 Z a1 ar k_ar x2 h0 n0 _ T4.heap _
    rw [e4]
    exact ⟨rfl, NN, rfl⟩
theorem d15_0 : decode prog_30_method_1_code 0 = .ok (.aload_n 0, 1) := by decide +kernel
theorem d15_1 : decode prog_30_method_1_code 1 = .ok (.invokespecial 1, 3) := by decide +kernel
theorem d15_4 : decode prog_30_method_1_code 4 = .ok (.aload_n 0, 1) := by decide +kernel
theorem d15_5 : decode prog_30_method_1_code 5 = .ok (.lconst 1, 1) := by decide +kernel
theorem d15_6 : decode prog_30_method_1_code 6 = .ok (.putfield 7, 3) := by decide +kernel
theorem d15_9 : decode prog_30_method_1_code 9 = .ok (.aload_n 0, 1) := by decide +kernel
theorem d15_10 : decode prog_30_method_1_code 10 = .ok (.lconst 1, 1) := by decide +kernel
theorem d15_11 : decode prog_30_method_1_code 11 = .ok (.putfield 13, 3) := by decide +kernel
theorem d15_14 : decode prog_30_method_1_code 14 = .ok (.aload_n 0, 1) := by decide +kernel
theorem d15_15 : decode prog_30_method_1_code 15 = .ok (.iload_n 1, 1) := by decide +kernel
theorem d15_16 : decode prog_30_method_1_code 16 = .ok (.putfield 16, 3) := by decide +kernel
theorem d15_19 : decode prog_30_method_1_code 19 = .ok (.aload_n 0, 1) := by decide +kernel
theorem d15_20 : decode prog_30_method_1_code 20 = .ok (.lload_n 2, 1) := by decide +kernel
theorem d15_21 : decode prog_30_method_1_code 21 = .ok (.putfield 20, 3) := by decide +kernel
theorem d15_24 : decode prog_30_method_1_code 24 = .ok (.return_, 1) := by decide +kernel
theorem pn_2 : plainName own_cP = true := by first | (simp [plainName, overriddenIn]; done) | decide +kernel
theorem ef_15 (m : MethodId) (a1 : Addr) (p2 : Int32) (q3 : Int64) : entryFrame m #[(.ref a1), (.int p2), (.long q3)] 4 = mkF m 0 #[.val (.ref a1), .val (.int p2), .val (.long q3), .second] [] := by first | (simp [entryFrame, mkF, argsToLocals, Value.category]; done) | rfl
def Q15 (Z : State) (a1 : Addr) (p2 : Int32) (q3 : Int64) (w_from_a1 : Int32) (w_resume_a1 : Int64) (w_size_a1 : Int64) (w_fromStep_a1 : Int32) (w_resumeStep_a1 : Int64) (h0 : Heap) (n0 : Nat) (v : Option Value) (h : Heap) (L : List Loc) : Prop := v = none ∧ Fr n0 L ∧ Keep h0 h [a1] ∧ Exa Z h a1 own_cP ∧ Fld Z h a1 own_cP "from" "I" (.int p2) ∧ Fld Z h a1 own_cP "resume" "J" (.long q3) ∧ Fld Z h a1 own_cP "size" "J" (.long (1 : Int64)) ∧ Fld Z h a1 own_cP "fromStep" "I" (.int w_fromStep_a1) ∧ Fld Z h a1 own_cP "resumeStep" "J" (.long (1 : Int64))
set_option maxRecDepth 65536 in
set_option maxHeartbeats 40000000 in
theorem rm15 (l : Launch) (Z : State) (a0 : Array Value) (hw : ∀ d ∈ tables_1, d.before a0 Z = true) (ws : List Jvm.Cond) (a1 : Addr) (p2 : Int32) (q3 : Int64) (w_from_a1 : Int32) (w_resume_a1 : Int64) (w_size_a1 : Int64) (w_fromStep_a1 : Int32) (w_resumeStep_a1 : Int64) (h0 : Heap) (n0 : Nat) (Z0 : n0 ≤ h0.size) (F_a1_from : Fld Z h0 a1 own_cP "from" "I" (.int w_from_a1)) (F_a1_resume : Fld Z h0 a1 own_cP "resume" "J" (.long w_resume_a1)) (F_a1_size : Fld Z h0 a1 own_cP "size" "J" (.long w_size_a1)) (F_a1_fromStep : Fld Z h0 a1 own_cP "fromStep" "I" (.int w_fromStep_a1)) (F_a1_resumeStep : Fld Z h0 a1 own_cP "resumeStep" "J" (.long w_resumeStep_a1)) (E_a1 : Exa Z h0 a1 own_cP) (g_a1 : n0 ≤ a1) :
    own_Met l (⟨own_cP, "<init>", "(IJ)V"⟩ : MethodName) prog_30_method_1_code 4 none ws ({ frames := 1, cells := 0, slots := 0, locals := 12 } : Room) #[(.ref a1), (.int p2), (.long q3)] Z h0 (Q15 Z a1 p2 q3 w_from_a1 w_resume_a1 w_size_a1 w_fromStep_a1 w_resumeStep_a1 h0 n0) := by
  refine own_met (plainFor_of_name pn_2) ?_
  intro p e s m below meth c s₁ Bd hx hby hml hZ hown hnm X0 e0
  have wd : ∀ (i : Nat) (d : Jvm.Cond), tables_1[i]? = some d → d.before a0 Z = true := fun i d q => hw d (List.mem_of_getElem? q)
  have NN := Fr.nil n0
  have KK : Keep h0 h0 [a1] := Keep.refl h0 _
  refine own_start (ef_15 m a1 p2 q3) ?_
  refine cs_aloadN cG X0 hx (hb hby d15_0) rfl rfl ?_
  obtain ⟨T1, X1, e1, st1⟩ := initO X0 hx hZ hown (wd 90 _ rfl) (wd 8 _ rfl) (wd 9 _ rfl) e0 (g := (mkF m 1 #[vr a1, vi p2, vj q3, .second] [(.ref a1)])) rfl (by rw [hml]; rfl) rfl (hb hby d15_1) (by decide) (W := 0) (by show 2 * 0 + _ ≤ _; exact Nat.le_of_eq rfl) (by decide)
  refine own_go st1 ?_
  show own_Go _ _ _ _ T1 (mkF m 4 #[vr a1, vi p2, vj q3, .second] [])
  refine cs_aloadN cG X1 hx (hb hby d15_4) rfl rfl ?_
  refine cs_lconst cG X1 hx (hb hby d15_5) (z := (1 : Int64)) rfl ?_
  refine cs_put cG X1 hx hZ hown (wd 91 _ rfl) e1 F_a1_size E_a1 (Or.inl (wd 92 _ rfl)) (wd 85 _ rfl) (ty := .long) (by decide) rfl rfl (hb hby d15_6) ?_
  intro T2 h2 X2 e2 W2
  have F_a1_from := F_a1_from.other W2 (Or.inr (slot_ne (Or.inl (wd 96 _ rfl)) (Or.inl (wd 92 _ rfl)) (by decide) (t := .int) (t' := .long) (by decide) (by decide)))
  have F_a1_resume := F_a1_resume.other W2 (Or.inr (slot_ne (Or.inl (wd 98 _ rfl)) (Or.inl (wd 92 _ rfl)) (by decide) (t := .long) (t' := .long) (by decide) (by decide)))
  have F_a1_size := F_a1_size.same W2
  have F_a1_fromStep := F_a1_fromStep.other W2 (Or.inr (slot_ne (Or.inl (wd 124 _ rfl)) (Or.inl (wd 92 _ rfl)) (by decide) (t := .int) (t' := .long) (by decide) (by decide)))
  have F_a1_resumeStep := F_a1_resumeStep.other W2 (Or.inr (slot_ne (Or.inl (wd 94 _ rfl)) (Or.inl (wd 92 _ rfl)) (by decide) (t := .long) (t' := .long) (by decide) (by decide)))
  have E_a1 := E_a1.wr W2
  have KK := KK.wr W2 (Or.inl (List.mem_of_getElem? (i := 0) rfl))
  have NN := Fr.snoc X2 NN g_a1
  refine cs_aloadN cG X2 hx (hb hby d15_9) rfl rfl ?_
  refine cs_lconst cG X2 hx (hb hby d15_10) (z := (1 : Int64)) rfl ?_
  refine cs_put cG X2 hx hZ hown (wd 93 _ rfl) e2 F_a1_resumeStep E_a1 (Or.inl (wd 94 _ rfl)) (wd 85 _ rfl) (ty := .long) (by decide) rfl rfl (hb hby d15_11) ?_
  intro T3 h3 X3 e3 W3
  have F_a1_from := F_a1_from.other W3 (Or.inr (slot_ne (Or.inl (wd 96 _ rfl)) (Or.inl (wd 94 _ rfl)) (by decide) (t := .int) (t' := .long) (by decide) (by decide)))
  have F_a1_resume := F_a1_resume.other W3 (Or.inr (slot_ne (Or.inl (wd 98 _ rfl)) (Or.inl (wd 94 _ rfl)) (by decide) (t := .long) (t' := .long) (by decide) (by decide)))
  have F_a1_size := F_a1_size.other W3 (Or.inr (slot_ne (Or.inl (wd 92 _ rfl)) (Or.inl (wd 94 _ rfl)) (by decide) (t := .long) (t' := .long) (by decide) (by decide)))
  have F_a1_fromStep := F_a1_fromStep.other W3 (Or.inr (slot_ne (Or.inl (wd 124 _ rfl)) (Or.inl (wd 94 _ rfl)) (by decide) (t := .int) (t' := .long) (by decide) (by decide)))
  have F_a1_resumeStep := F_a1_resumeStep.same W3
  have E_a1 := E_a1.wr W3
  have KK := KK.wr W3 (Or.inl (List.mem_of_getElem? (i := 0) rfl))
  have NN := Fr.snoc X3 NN g_a1
  refine cs_aloadN cG X3 hx (hb hby d15_14) rfl rfl ?_
  refine cs_iloadN cG X3 hx (hb hby d15_15) rfl ?_
  refine cs_put cG X3 hx hZ hown (wd 95 _ rfl) e3 F_a1_from E_a1 (Or.inl (wd 96 _ rfl)) (wd 85 _ rfl) (ty := .int) (by decide) rfl rfl (hb hby d15_16) ?_
  intro T4 h4 X4 e4 W4
  have F_a1_from := F_a1_from.same W4
  have F_a1_resume := F_a1_resume.other W4 (Or.inr (slot_ne (Or.inl (wd 98 _ rfl)) (Or.inl (wd 96 _ rfl)) (by decide) (t := .long) (t' := .int) (by decide) (by decide)))
  have F_a1_size := F_a1_size.other W4 (Or.inr (slot_ne (Or.inl (wd 92 _ rfl)) (Or.inl (wd 96 _ rfl)) (by decide) (t := .long) (t' := .int) (by decide) (by decide)))
  have F_a1_fromStep := F_a1_fromStep.other W4 (Or.inr (slot_ne (Or.inl (wd 124 _ rfl)) (Or.inl (wd 96 _ rfl)) (by decide) (t := .int) (t' := .int) (by decide) (by decide)))
  have F_a1_resumeStep := F_a1_resumeStep.other W4 (Or.inr (slot_ne (Or.inl (wd 94 _ rfl)) (Or.inl (wd 96 _ rfl)) (by decide) (t := .long) (t' := .int) (by decide) (by decide)))
  have E_a1 := E_a1.wr W4
  have KK := KK.wr W4 (Or.inl (List.mem_of_getElem? (i := 0) rfl))
  have NN := Fr.snoc X4 NN g_a1
  refine cs_aloadN cG X4 hx (hb hby d15_19) rfl rfl ?_
  refine cs_lloadN cG X4 hx (hb hby d15_20) rfl ?_
  refine cs_put cG X4 hx hZ hown (wd 97 _ rfl) e4 F_a1_resume E_a1 (Or.inl (wd 98 _ rfl)) (wd 85 _ rfl) (ty := .long) (by decide) rfl rfl (hb hby d15_21) ?_
  intro T5 h5 X5 e5 W5
  have F_a1_from := F_a1_from.other W5 (Or.inr (slot_ne (Or.inl (wd 96 _ rfl)) (Or.inl (wd 98 _ rfl)) (by decide) (t := .int) (t' := .long) (by decide) (by decide)))
  have F_a1_resume := F_a1_resume.same W5
  have F_a1_size := F_a1_size.other W5 (Or.inr (slot_ne (Or.inl (wd 92 _ rfl)) (Or.inl (wd 98 _ rfl)) (by decide) (t := .long) (t' := .long) (by decide) (by decide)))
  have F_a1_fromStep := F_a1_fromStep.other W5 (Or.inr (slot_ne (Or.inl (wd 124 _ rfl)) (Or.inl (wd 98 _ rfl)) (by decide) (t := .int) (t' := .long) (by decide) (by decide)))
  have F_a1_resumeStep := F_a1_resumeStep.other W5 (Or.inr (slot_ne (Or.inl (wd 94 _ rfl)) (Or.inl (wd 98 _ rfl)) (by decide) (t := .long) (t' := .long) (by decide) (by decide)))
  have E_a1 := E_a1.wr W5
  have KK := KK.wr W5 (Or.inl (List.mem_of_getElem? (i := 0) rfl))
  have NN := Fr.snoc X5 NN g_a1
  show own_Go _ _ _ _ T5 (mkF m 24 #[vr a1, vi p2, vj q3, .second] [])
  obtain ⟨fs, hr, hrun, hended, hW, hsame⟩ := X5.leave (v := none) (fun _ => rfl)
  refine ⟨_, _, ?_, hrun, hended, _, _, rfl, ?_, ⟨_, rfl⟩, hW, hsame.mono (by decide) (by decide)⟩
  · exact X5.returnOut hx Bd.returns (hb hby d15_24) hr
  · show Q15 Z a1 p2 q3 w_from_a1 w_resume_a1 w_size_a1 w_fromStep_a1 w_resumeStep_a1 h0 n0 _ T5.heap _
    rw [e5]
    exact ⟨rfl, NN, KK, E_a1, F_a1_from, F_a1_resume, F_a1_size, F_a1_fromStep, F_a1_resumeStep⟩
theorem d20_0 : decode prog_30_method_3_code 0 = .ok (.aload_n 0, 1) := by decide +kernel
theorem d20_1 : decode prog_30_method_3_code 1 = .ok (.getfield 7, 3) := by decide +kernel
theorem d20_4 : decode prog_30_method_3_code 4 = .ok (.lconst 1, 1) := by decide +kernel
theorem d20_5 : decode prog_30_method_3_code 5 = .ok (.lsub, 1) := by decide +kernel
theorem d20_6 : decode prog_30_method_3_code 6 = .ok (.lstore 5, 2) := by decide +kernel
theorem d20_8 : decode prog_30_method_3_code 8 = .ok (.iload_n 1, 1) := by decide +kernel
theorem d20_9 : decode prog_30_method_3_code 9 = .ok (.aload_n 0, 1) := by decide +kernel
theorem d20_10 : decode prog_30_method_3_code 10 = .ok (.getfield 16, 3) := by decide +kernel
theorem d20_13 : decode prog_30_method_3_code 13 = .ok (.i2l, 1) := by decide +kernel
theorem d20_14 : decode prog_30_method_3_code 14 = .ok (.lload 5, 2) := by decide +kernel
theorem d20_16 : decode prog_30_method_3_code 16 = .ok (.aload_n 0, 1) := by decide +kernel
theorem d20_17 : decode prog_30_method_3_code 17 = .ok (.getfield 23, 3) := by decide +kernel
theorem d20_20 : decode prog_30_method_3_code 20 = .ok (.i2l, 1) := by decide +kernel
theorem d20_21 : decode prog_30_method_3_code 21 = .ok (.lmul, 1) := by decide +kernel
theorem d20_22 : decode prog_30_method_3_code 22 = .ok (.ladd, 1) := by decide +kernel
theorem d20_23 : decode prog_30_method_3_code 23 = .ok (.iload 4, 2) := by decide +kernel
theorem d20_25 : decode prog_30_method_3_code 25 = .ok (.i2l, 1) := by decide +kernel
theorem d20_26 : decode prog_30_method_3_code 26 = .ok (.lrem, 1) := by decide +kernel
theorem d20_27 : decode prog_30_method_3_code 27 = .ok (.l2i, 1) := by decide +kernel
theorem d20_28 : decode prog_30_method_3_code 28 = .ok (.isub, 1) := by decide +kernel
theorem d20_29 : decode prog_30_method_3_code 29 = .ok (.iload 4, 2) := by decide +kernel
theorem d20_31 : decode prog_30_method_3_code 31 = .ok (.invokestatic 26, 3) := by decide +kernel
theorem d20_34 : decode prog_30_method_3_code 34 = .ok (.istore 7, 2) := by decide +kernel
theorem d20_36 : decode prog_30_method_3_code 36 = .ok (.lload_n 2, 1) := by decide +kernel
theorem d20_37 : decode prog_30_method_3_code 37 = .ok (.aload_n 0, 1) := by decide +kernel
theorem d20_38 : decode prog_30_method_3_code 38 = .ok (.getfield 20, 3) := by decide +kernel
theorem d20_41 : decode prog_30_method_3_code 41 = .ok (.lload 5, 2) := by decide +kernel
theorem d20_43 : decode prog_30_method_3_code 43 = .ok (.aload_n 0, 1) := by decide +kernel
theorem d20_44 : decode prog_30_method_3_code 44 = .ok (.getfield 13, 3) := by decide +kernel
theorem d20_47 : decode prog_30_method_3_code 47 = .ok (.lmul, 1) := by decide +kernel
theorem d20_48 : decode prog_30_method_3_code 48 = .ok (.ladd, 1) := by decide +kernel
theorem d20_49 : decode prog_30_method_3_code 49 = .ok (.lsub, 1) := by decide +kernel
theorem d20_50 : decode prog_30_method_3_code 50 = .ok (.lstore 8, 2) := by decide +kernel
theorem d20_52 : decode prog_30_method_3_code 52 = .ok (.aload_n 0, 1) := by decide +kernel
theorem d20_53 : decode prog_30_method_3_code 53 = .ok (.getfield 7, 3) := by decide +kernel
theorem d20_56 : decode prog_30_method_3_code 56 = .ok (.lconst 1, 1) := by decide +kernel
theorem d20_57 : decode prog_30_method_3_code 57 = .ok (.lcmp, 1) := by decide +kernel
theorem d20_58 : decode prog_30_method_3_code 58 = .ok (.ifCond .le 24, 3) := by decide +kernel
theorem d20_61 : decode prog_30_method_3_code 61 = .ok (.iload 7, 2) := by decide +kernel
theorem d20_63 : decode prog_30_method_3_code 63 = .ok (.aload_n 0, 1) := by decide +kernel
theorem d20_64 : decode prog_30_method_3_code 64 = .ok (.getfield 23, 3) := by decide +kernel
theorem d20_67 : decode prog_30_method_3_code 67 = .ok (.if_icmp .ne 13, 3) := by decide +kernel
theorem d20_70 : decode prog_30_method_3_code 70 = .ok (.lload 8, 2) := by decide +kernel
theorem d20_72 : decode prog_30_method_3_code 72 = .ok (.aload_n 0, 1) := by decide +kernel
theorem d20_73 : decode prog_30_method_3_code 73 = .ok (.getfield 13, 3) := by decide +kernel
theorem d20_76 : decode prog_30_method_3_code 76 = .ok (.lcmp, 1) := by decide +kernel
theorem d20_77 : decode prog_30_method_3_code 77 = .ok (.ifCond .eq 5, 3) := by decide +kernel
theorem d20_80 : decode prog_30_method_3_code 80 = .ok (.iconst 0, 1) := by decide +kernel
theorem d20_81 : decode prog_30_method_3_code 81 = .ok (.ireturn, 1) := by decide +kernel
theorem d20_82 : decode prog_30_method_3_code 82 = .ok (.aload_n 0, 1) := by decide +kernel
theorem d20_83 : decode prog_30_method_3_code 83 = .ok (.iload 7, 2) := by decide +kernel
theorem d20_85 : decode prog_30_method_3_code 85 = .ok (.putfield 23, 3) := by decide +kernel
theorem d20_88 : decode prog_30_method_3_code 88 = .ok (.aload_n 0, 1) := by decide +kernel
theorem d20_89 : decode prog_30_method_3_code 89 = .ok (.lload 8, 2) := by decide +kernel
theorem d20_91 : decode prog_30_method_3_code 91 = .ok (.putfield 13, 3) := by decide +kernel
theorem d20_94 : decode prog_30_method_3_code 94 = .ok (.aload_n 0, 1) := by decide +kernel
theorem d20_95 : decode prog_30_method_3_code 95 = .ok (.dup, 1) := by decide +kernel
theorem d20_96 : decode prog_30_method_3_code 96 = .ok (.getfield 7, 3) := by decide +kernel
theorem d20_99 : decode prog_30_method_3_code 99 = .ok (.lconst 1, 1) := by decide +kernel
theorem d20_100 : decode prog_30_method_3_code 100 = .ok (.ladd, 1) := by decide +kernel
theorem d20_101 : decode prog_30_method_3_code 101 = .ok (.putfield 7, 3) := by decide +kernel
theorem d20_104 : decode prog_30_method_3_code 104 = .ok (.iconst 1, 1) := by decide +kernel
theorem d20_105 : decode prog_30_method_3_code 105 = .ok (.ireturn, 1) := by decide +kernel
theorem ef_20 (m : MethodId) (a1 : Addr) (p2 : Int32) (q3 : Int64) (p4 : Int32) : entryFrame m #[(.ref a1), (.int p2), (.long q3), (.int p4)] 10 = mkF m 0 #[.val (.ref a1), .val (.int p2), .val (.long q3), .second, .val (.int p4), .unset, .unset, .unset, .unset, .unset] [] := by first | (simp [entryFrame, mkF, argsToLocals, Value.category]; done) | rfl
def r_20 (p2 : Int32) (q3 : Int64) (p4 : Int32) (w_size_a1 : Int64) (w_from_a1 : Int32) (w_fromStep_a1 : Int32) (w_resume_a1 : Int64) (w_resumeStep_a1 : Int64) : Int32 := (if (1 : Int64) < w_size_a1 then (if (r_18 (p2 - ((w_from_a1.toInt64 + ((w_size_a1 - (1 : Int64)) * w_fromStep_a1.toInt64)) - ((w_from_a1.toInt64 + ((w_size_a1 - (1 : Int64)) * w_fromStep_a1.toInt64)) / p4.toInt64) * p4.toInt64).toInt32) p4) = w_fromStep_a1 then (if (q3 - (w_resume_a1 + ((w_size_a1 - (1 : Int64)) * w_resumeStep_a1))) = w_resumeStep_a1 then (1 : Int32) else (0 : Int32)) else (0 : Int32)) else (1 : Int32))
def u_20_a1_size (p2 : Int32) (q3 : Int64) (p4 : Int32) (w_size_a1 : Int64) (w_from_a1 : Int32) (w_fromStep_a1 : Int32) (w_resume_a1 : Int64) (w_resumeStep_a1 : Int64) : Int64 := (if (1 : Int64) < w_size_a1 then (if (r_18 (p2 - ((w_from_a1.toInt64 + ((w_size_a1 - (1 : Int64)) * w_fromStep_a1.toInt64)) - ((w_from_a1.toInt64 + ((w_size_a1 - (1 : Int64)) * w_fromStep_a1.toInt64)) / p4.toInt64) * p4.toInt64).toInt32) p4) = w_fromStep_a1 then (if (q3 - (w_resume_a1 + ((w_size_a1 - (1 : Int64)) * w_resumeStep_a1))) = w_resumeStep_a1 then (w_size_a1 + (1 : Int64)) else w_size_a1) else w_size_a1) else (w_size_a1 + (1 : Int64)))
def u_20_a1_fromStep (p2 : Int32) (q3 : Int64) (p4 : Int32) (w_size_a1 : Int64) (w_from_a1 : Int32) (w_fromStep_a1 : Int32) (w_resume_a1 : Int64) (w_resumeStep_a1 : Int64) : Int32 := (if (1 : Int64) < w_size_a1 then (if (r_18 (p2 - ((w_from_a1.toInt64 + ((w_size_a1 - (1 : Int64)) * w_fromStep_a1.toInt64)) - ((w_from_a1.toInt64 + ((w_size_a1 - (1 : Int64)) * w_fromStep_a1.toInt64)) / p4.toInt64) * p4.toInt64).toInt32) p4) = w_fromStep_a1 then (if (q3 - (w_resume_a1 + ((w_size_a1 - (1 : Int64)) * w_resumeStep_a1))) = w_resumeStep_a1 then (r_18 (p2 - ((w_from_a1.toInt64 + ((w_size_a1 - (1 : Int64)) * w_fromStep_a1.toInt64)) - ((w_from_a1.toInt64 + ((w_size_a1 - (1 : Int64)) * w_fromStep_a1.toInt64)) / p4.toInt64) * p4.toInt64).toInt32) p4) else w_fromStep_a1) else w_fromStep_a1) else (r_18 (p2 - ((w_from_a1.toInt64 + ((w_size_a1 - (1 : Int64)) * w_fromStep_a1.toInt64)) - ((w_from_a1.toInt64 + ((w_size_a1 - (1 : Int64)) * w_fromStep_a1.toInt64)) / p4.toInt64) * p4.toInt64).toInt32) p4))
def u_20_a1_resumeStep (p2 : Int32) (q3 : Int64) (p4 : Int32) (w_size_a1 : Int64) (w_from_a1 : Int32) (w_fromStep_a1 : Int32) (w_resume_a1 : Int64) (w_resumeStep_a1 : Int64) : Int64 := (if (1 : Int64) < w_size_a1 then (if (r_18 (p2 - ((w_from_a1.toInt64 + ((w_size_a1 - (1 : Int64)) * w_fromStep_a1.toInt64)) - ((w_from_a1.toInt64 + ((w_size_a1 - (1 : Int64)) * w_fromStep_a1.toInt64)) / p4.toInt64) * p4.toInt64).toInt32) p4) = w_fromStep_a1 then (if (q3 - (w_resume_a1 + ((w_size_a1 - (1 : Int64)) * w_resumeStep_a1))) = w_resumeStep_a1 then (q3 - (w_resume_a1 + ((w_size_a1 - (1 : Int64)) * w_resumeStep_a1))) else w_resumeStep_a1) else w_resumeStep_a1) else (q3 - (w_resume_a1 + ((w_size_a1 - (1 : Int64)) * w_resumeStep_a1))))
def Q20 (Z : State) (a1 : Addr) (p2 : Int32) (q3 : Int64) (p4 : Int32) (w_size_a1 : Int64) (w_from_a1 : Int32) (w_fromStep_a1 : Int32) (w_resume_a1 : Int64) (w_resumeStep_a1 : Int64) (h0 : Heap) (n0 : Nat) (v : Option Value) (h : Heap) (L : List Loc) : Prop := v = some (.int (r_20 p2 q3 p4 w_size_a1 w_from_a1 w_fromStep_a1 w_resume_a1 w_resumeStep_a1)) ∧ Fr n0 L ∧ Keep h0 h [a1] ∧ Exa Z h a1 own_cP ∧ Fld Z h a1 own_cP "size" "J" (.long (u_20_a1_size p2 q3 p4 w_size_a1 w_from_a1 w_fromStep_a1 w_resume_a1 w_resumeStep_a1)) ∧ Fld Z h a1 own_cP "from" "I" (.int w_from_a1) ∧ Fld Z h a1 own_cP "fromStep" "I" (.int (u_20_a1_fromStep p2 q3 p4 w_size_a1 w_from_a1 w_fromStep_a1 w_resume_a1 w_resumeStep_a1)) ∧ Fld Z h a1 own_cP "resume" "J" (.long w_resume_a1) ∧ Fld Z h a1 own_cP "resumeStep" "J" (.long (u_20_a1_resumeStep p2 q3 p4 w_size_a1 w_from_a1 w_fromStep_a1 w_resume_a1 w_resumeStep_a1))
set_option maxRecDepth 65536 in
set_option maxHeartbeats 40000000 in
theorem rm20 (l : Launch) (Z : State) (a0 : Array Value) (hw : ∀ d ∈ tables_1, d.before a0 Z = true) (ws : List Jvm.Cond) (a1 : Addr) (p2 : Int32) (q3 : Int64) (p4 : Int32) (w_size_a1 : Int64) (w_from_a1 : Int32) (w_fromStep_a1 : Int32) (w_resume_a1 : Int64) (w_resumeStep_a1 : Int64) (h0 : Heap) (n0 : Nat) (Z0 : n0 ≤ h0.size) (F_a1_size : Fld Z h0 a1 own_cP "size" "J" (.long w_size_a1)) (F_a1_from : Fld Z h0 a1 own_cP "from" "I" (.int w_from_a1)) (F_a1_fromStep : Fld Z h0 a1 own_cP "fromStep" "I" (.int w_fromStep_a1)) (hnz26 : ¬ (p4.toInt64 = (0 : Int64))) (hhnz2_31 : ¬ (p4 = (0 : Int32))) (F_a1_resume : Fld Z h0 a1 own_cP "resume" "J" (.long w_resume_a1)) (F_a1_resumeStep : Fld Z h0 a1 own_cP "resumeStep" "J" (.long w_resumeStep_a1)) (E_a1 : Exa Z h0 a1 own_cP) (g_a1 : n0 ≤ a1) :
    own_Met l (⟨own_cP, "extendsTo", "(IJI)Z"⟩ : MethodName) prog_30_method_3_code 10 (some .boolean) ws ({ frames := 1, cells := 0, slots := 0, locals := 14 } : Room) #[(.ref a1), (.int p2), (.long q3), (.int p4)] Z h0 (Q20 Z a1 p2 q3 p4 w_size_a1 w_from_a1 w_fromStep_a1 w_resume_a1 w_resumeStep_a1 h0 n0) := by
  refine own_met (plainFor_of_name pn_2) ?_
  intro p e s m below meth c s₁ Bd hx hby hml hZ hown hnm X0 e0
  have wd : ∀ (i : Nat) (d : Jvm.Cond), tables_1[i]? = some d → d.before a0 Z = true := fun i d q => hw d (List.mem_of_getElem? q)
  have NN := Fr.nil n0
  have KK : Keep h0 h0 [a1] := Keep.refl h0 _
  refine own_start (ef_20 m a1 p2 q3 p4) ?_
  refine cs_aloadN cG X0 hx (hb hby d20_0) rfl rfl ?_
  refine cs_get cG X0 hx hZ hown (wd 91 _ rfl) e0 F_a1_size (hb hby d20_1) ?_
  intro T1 X1 e1
  refine cs_lconst cG X1 hx (hb hby d20_4) (z := (1 : Int64)) rfl ?_
  refine cs_lsub cG X1 hx (hb hby d20_5) rfl ?_
  refine cs_lstore cG X1 hx (hb hby d20_6) (l' := #[vr a1, vi p2, vj q3, .second, vi p4, vj (w_size_a1 - (1 : Int64)), .second, .unset, .unset, .unset]) rfl ?_
  refine cs_iloadN cG X1 hx (hb hby d20_8) rfl ?_
  refine cs_aloadN cG X1 hx (hb hby d20_9) rfl rfl ?_
  refine cs_get cG X1 hx hZ hown (wd 95 _ rfl) e1 F_a1_from (hb hby d20_10) ?_
  intro T2 X2 e2
  refine cs_i2l cG X2 hx (hb hby d20_13) rfl ?_
  refine cs_lload cG X2 hx (hb hby d20_14) rfl ?_
  refine cs_aloadN cG X2 hx (hb hby d20_16) rfl rfl ?_
  refine cs_get cG X2 hx hZ hown (wd 123 _ rfl) e2 F_a1_fromStep (hb hby d20_17) ?_
  intro T3 X3 e3
  refine cs_i2l cG X3 hx (hb hby d20_20) rfl ?_
  refine cs_lmul cG X3 hx (hb hby d20_21) rfl ?_
  refine cs_ladd cG X3 hx (hb hby d20_22) rfl ?_
  refine cs_iload cG X3 hx (hb hby d20_23) rfl ?_
  refine cs_i2l cG X3 hx (hb hby d20_25) rfl ?_
  refine cs_lrem cG X3 hx (hb hby d20_26) rfl hnz26 ?_
  refine cs_l2i cG X3 hx (hb hby d20_27) rfl ?_
  refine cs_isub cG X3 hx (hb hby d20_28) rfl ?_
  refine cs_iload cG X3 hx (hb hby d20_29) rfl ?_
  refine cs_S cG X3 hx hZ hown (wd 125 _ rfl) (wd 109 _ rfl) (wd 67 _ rfl) (wd 110 _ rfl) (by decide) (rm18 l Z a0 hw [] (p2 - ((w_from_a1.toInt64 + ((w_size_a1 - (1 : Int64)) * w_fromStep_a1.toInt64)) - ((w_from_a1.toInt64 + ((w_size_a1 - (1 : Int64)) * w_fromStep_a1.toInt64)) / p4.toInt64) * p4.toInt64).toInt32) p4 h0 n0 Z0 hhnz2_31) (by decide) (by decide) (by decide) (by decide) e3 (by rw [hml]; rfl) (argsL := [(.int (p2 - ((w_from_a1.toInt64 + ((w_size_a1 - (1 : Int64)) * w_fromStep_a1.toInt64)) - ((w_from_a1.toInt64 + ((w_size_a1 - (1 : Int64)) * w_fromStep_a1.toInt64)) / p4.toInt64) * p4.toInt64).toInt32)), (.int p4)]) (S := []) (lenOf pd_10 rfl) rfl (W := 0) (Nat.le_of_eq rfl) (hb hby d20_31) rfl ?_
  intro v4 T4 L4 X4 hQ4
  obtain ⟨rfl, N4q, e4⟩ := hQ4
  have NN := Fr.app NN N4q
  show own_Go _ _ _ _ T4 (mkF m 34 #[vr a1, vi p2, vj q3, .second, vi p4, vj (w_size_a1 - (1 : Int64)), .second, .unset, .unset, .unset] [(.int (r_18 (p2 - ((w_from_a1.toInt64 + ((w_size_a1 - (1 : Int64)) * w_fromStep_a1.toInt64)) - ((w_from_a1.toInt64 + ((w_size_a1 - (1 : Int64)) * w_fromStep_a1.toInt64)) / p4.toInt64) * p4.toInt64).toInt32) p4))])
  refine cs_istore cG X4 hx (hb hby d20_34) (l' := #[vr a1, vi p2, vj q3, .second, vi p4, vj (w_size_a1 - (1 : Int64)), .second, vi (r_18 (p2 - ((w_from_a1.toInt64 + ((w_size_a1 - (1 : Int64)) * w_fromStep_a1.toInt64)) - ((w_from_a1.toInt64 + ((w_size_a1 - (1 : Int64)) * w_fromStep_a1.toInt64)) / p4.toInt64) * p4.toInt64).toInt32) p4), .unset, .unset]) rfl ?_
  refine cs_lloadN cG X4 hx (hb hby d20_36) rfl ?_
  refine cs_aloadN cG X4 hx (hb hby d20_37) rfl rfl ?_
  refine cs_get cG X4 hx hZ hown (wd 97 _ rfl) e4 F_a1_resume (hb hby d20_38) ?_
  intro T5 X5 e5
  refine cs_lload cG X5 hx (hb hby d20_41) rfl ?_
  refine cs_aloadN cG X5 hx (hb hby d20_43) rfl rfl ?_
  refine cs_get cG X5 hx hZ hown (wd 93 _ rfl) e5 F_a1_resumeStep (hb hby d20_44) ?_
  intro T6 X6 e6
  refine cs_lmul cG X6 hx (hb hby d20_47) rfl ?_
  refine cs_ladd cG X6 hx (hb hby d20_48) rfl ?_
  refine cs_lsub cG X6 hx (hb hby d20_49) rfl ?_
  refine cs_lstore cG X6 hx (hb hby d20_50) (l' := #[vr a1, vi p2, vj q3, .second, vi p4, vj (w_size_a1 - (1 : Int64)), .second, vi (r_18 (p2 - ((w_from_a1.toInt64 + ((w_size_a1 - (1 : Int64)) * w_fromStep_a1.toInt64)) - ((w_from_a1.toInt64 + ((w_size_a1 - (1 : Int64)) * w_fromStep_a1.toInt64)) / p4.toInt64) * p4.toInt64).toInt32) p4), vj (q3 - (w_resume_a1 + ((w_size_a1 - (1 : Int64)) * w_resumeStep_a1))), .second]) rfl ?_
  refine cs_aloadN cG X6 hx (hb hby d20_52) rfl rfl ?_
  refine cs_get cG X6 hx hZ hown (wd 91 _ rfl) e6 F_a1_size (hb hby d20_53) ?_
  intro T7 X7 e7
  refine cs_lconst cG X7 hx (hb hby d20_56) (z := (1 : Int64)) rfl ?_
  refine cs_lcmp cG X7 hx (hb hby d20_57) ?_
  by_cases hc58_1 : (1 : Int64) < w_size_a1
  · skip
    refine cs_ifNo cG X7 hx (hb hby d20_58) ((if0 _ _).trans (tlt ((lw_gt w_size_a1 (1 : Int64)).mpr hc58_1)).2.2.2) ?_
    refine cs_iload cG X7 hx (hb hby d20_61) rfl ?_
    refine cs_aloadN cG X7 hx (hb hby d20_63) rfl rfl ?_
    refine cs_get cG X7 hx hZ hown (wd 123 _ rfl) e7 F_a1_fromStep (hb hby d20_64) ?_
    intro T8 X8 e8
    by_cases hc67_2 : (r_18 (p2 - ((w_from_a1.toInt64 + ((w_size_a1 - (1 : Int64)) * w_fromStep_a1.toInt64)) - ((w_from_a1.toInt64 + ((w_size_a1 - (1 : Int64)) * w_fromStep_a1.toInt64)) / p4.toInt64) * p4.toInt64).toInt32) p4) = w_fromStep_a1
    · skip
      refine cs_icmpNo cG X8 hx (hb hby d20_67) (teq hc67_2).2 ?_
      refine cs_lload cG X8 hx (hb hby d20_70) rfl ?_
      refine cs_aloadN cG X8 hx (hb hby d20_72) rfl rfl ?_
      refine cs_get cG X8 hx hZ hown (wd 93 _ rfl) e8 F_a1_resumeStep (hb hby d20_73) ?_
      intro T9 X9 e9
      refine cs_lcmp cG X9 hx (hb hby d20_76) ?_
      by_cases hc77_3 : (q3 - (w_resume_a1 + ((w_size_a1 - (1 : Int64)) * w_resumeStep_a1))) = w_resumeStep_a1
      · skip
        refine cs_ifYes cG X9 hx (pc' := 82) (hb hby d20_77) ((if0 _ _).trans (teq ((lw_eq (q3 - (w_resume_a1 + ((w_size_a1 - (1 : Int64)) * w_resumeStep_a1))) w_resumeStep_a1).mpr hc77_3)).1) (by decide) (by decide) ?_
        refine cs_aloadN cG X9 hx (hb hby d20_82) rfl rfl ?_
        refine cs_iload cG X9 hx (hb hby d20_83) rfl ?_
        refine cs_put cG X9 hx hZ hown (wd 123 _ rfl) e9 F_a1_fromStep E_a1 (Or.inl (wd 124 _ rfl)) (wd 85 _ rfl) (ty := .int) (by decide) rfl rfl (hb hby d20_85) ?_
        intro T10 h10 X10 e10 W10
        have F_a1_size := F_a1_size.other W10 (Or.inr (slot_ne (Or.inl (wd 92 _ rfl)) (Or.inl (wd 124 _ rfl)) (by decide) (t := .long) (t' := .int) (by decide) (by decide)))
        have F_a1_from := F_a1_from.other W10 (Or.inr (slot_ne (Or.inl (wd 96 _ rfl)) (Or.inl (wd 124 _ rfl)) (by decide) (t := .int) (t' := .int) (by decide) (by decide)))
        have F_a1_fromStep := F_a1_fromStep.same W10
        have F_a1_resume := F_a1_resume.other W10 (Or.inr (slot_ne (Or.inl (wd 98 _ rfl)) (Or.inl (wd 124 _ rfl)) (by decide) (t := .long) (t' := .int) (by decide) (by decide)))
        have F_a1_resumeStep := F_a1_resumeStep.other W10 (Or.inr (slot_ne (Or.inl (wd 94 _ rfl)) (Or.inl (wd 124 _ rfl)) (by decide) (t := .long) (t' := .int) (by decide) (by decide)))
        have E_a1 := E_a1.wr W10
        have KK := KK.wr W10 (Or.inl (List.mem_of_getElem? (i := 0) rfl))
        have NN := Fr.snoc X10 NN g_a1
        refine cs_aloadN cG X10 hx (hb hby d20_88) rfl rfl ?_
        refine cs_lload cG X10 hx (hb hby d20_89) rfl ?_
        refine cs_put cG X10 hx hZ hown (wd 93 _ rfl) e10 F_a1_resumeStep E_a1 (Or.inl (wd 94 _ rfl)) (wd 85 _ rfl) (ty := .long) (by decide) rfl rfl (hb hby d20_91) ?_
        intro T11 h11 X11 e11 W11
        have F_a1_size := F_a1_size.other W11 (Or.inr (slot_ne (Or.inl (wd 92 _ rfl)) (Or.inl (wd 94 _ rfl)) (by decide) (t := .long) (t' := .long) (by decide) (by decide)))
        have F_a1_from := F_a1_from.other W11 (Or.inr (slot_ne (Or.inl (wd 96 _ rfl)) (Or.inl (wd 94 _ rfl)) (by decide) (t := .int) (t' := .long) (by decide) (by decide)))
        have F_a1_fromStep := F_a1_fromStep.other W11 (Or.inr (slot_ne (Or.inl (wd 124 _ rfl)) (Or.inl (wd 94 _ rfl)) (by decide) (t := .int) (t' := .long) (by decide) (by decide)))
        have F_a1_resume := F_a1_resume.other W11 (Or.inr (slot_ne (Or.inl (wd 98 _ rfl)) (Or.inl (wd 94 _ rfl)) (by decide) (t := .long) (t' := .long) (by decide) (by decide)))
        have F_a1_resumeStep := F_a1_resumeStep.same W11
        have E_a1 := E_a1.wr W11
        have KK := KK.wr W11 (Or.inl (List.mem_of_getElem? (i := 0) rfl))
        have NN := Fr.snoc X11 NN g_a1
        refine cs_aloadN cG X11 hx (hb hby d20_94) rfl rfl ?_
        refine cs_dup cG X11 hx (hb hby d20_95) rfl ?_
        refine cs_get cG X11 hx hZ hown (wd 91 _ rfl) e11 F_a1_size (hb hby d20_96) ?_
        intro T12 X12 e12
        refine cs_lconst cG X12 hx (hb hby d20_99) (z := (1 : Int64)) rfl ?_
        refine cs_ladd cG X12 hx (hb hby d20_100) rfl ?_
        refine cs_put cG X12 hx hZ hown (wd 91 _ rfl) e12 F_a1_size E_a1 (Or.inl (wd 92 _ rfl)) (wd 85 _ rfl) (ty := .long) (by decide) rfl rfl (hb hby d20_101) ?_
        intro T13 h13 X13 e13 W13
        have F_a1_size := F_a1_size.same W13
        have F_a1_from := F_a1_from.other W13 (Or.inr (slot_ne (Or.inl (wd 96 _ rfl)) (Or.inl (wd 92 _ rfl)) (by decide) (t := .int) (t' := .long) (by decide) (by decide)))
        have F_a1_fromStep := F_a1_fromStep.other W13 (Or.inr (slot_ne (Or.inl (wd 124 _ rfl)) (Or.inl (wd 92 _ rfl)) (by decide) (t := .int) (t' := .long) (by decide) (by decide)))
        have F_a1_resume := F_a1_resume.other W13 (Or.inr (slot_ne (Or.inl (wd 98 _ rfl)) (Or.inl (wd 92 _ rfl)) (by decide) (t := .long) (t' := .long) (by decide) (by decide)))
        have F_a1_resumeStep := F_a1_resumeStep.other W13 (Or.inr (slot_ne (Or.inl (wd 94 _ rfl)) (Or.inl (wd 92 _ rfl)) (by decide) (t := .long) (t' := .long) (by decide) (by decide)))
        have E_a1 := E_a1.wr W13
        have KK := KK.wr W13 (Or.inl (List.mem_of_getElem? (i := 0) rfl))
        have NN := Fr.snoc X13 NN g_a1
        refine cs_iconst cG X13 hx (hb hby d20_104) (z := (1 : Int32)) rfl ?_
        show own_Go _ _ _ _ T13 (mkF m 105 #[vr a1, vi p2, vj q3, .second, vi p4, vj (w_size_a1 - (1 : Int64)), .second, vi (r_18 (p2 - ((w_from_a1.toInt64 + ((w_size_a1 - (1 : Int64)) * w_fromStep_a1.toInt64)) - ((w_from_a1.toInt64 + ((w_size_a1 - (1 : Int64)) * w_fromStep_a1.toInt64)) / p4.toInt64) * p4.toInt64).toInt32) p4), vj (q3 - (w_resume_a1 + ((w_size_a1 - (1 : Int64)) * w_resumeStep_a1))), .second] [(.int (1 : Int32))])
        obtain ⟨fs, hr, hrun, hended, hW, hsame⟩ := X13.leave (v := some (.int (1 : Int32))) (fun h => by rw [Bd.returns] at h; cases h)
        refine ⟨_, _, ?_, hrun, hended, _, _, rfl, ?_, ⟨_, rfl⟩, hW, hsame.mono (by decide) (by decide)⟩
        · exact retN X13 hx (t := .boolean) Bd.returns (by simp) (hb hby d20_105) hr
        · show Q20 Z a1 p2 q3 p4 w_size_a1 w_from_a1 w_fromStep_a1 w_resume_a1 w_resumeStep_a1 h0 n0 _ T13.heap _
          rw [e13]
          exact ⟨(by simp only [r_20, if_pos hc58_1, if_pos hc67_2, if_pos hc77_3, own_narZ, own_narC, own_narB]), NN, KK, E_a1, (by rw [← ((by first | (simp only [u_20_a1_size, if_pos hc58_1, if_pos hc67_2, if_pos hc77_3]; done) | (simp only [u_20_a1_size, if_pos hc58_1, if_pos hc67_2, if_pos hc77_3])) : (w_size_a1 + (1 : Int64)) = u_20_a1_size p2 q3 p4 w_size_a1 w_from_a1 w_fromStep_a1 w_resume_a1 w_resumeStep_a1)]; exact F_a1_size), F_a1_from, (by rw [← ((by first | (simp only [u_20_a1_fromStep, if_pos hc58_1, if_pos hc67_2, if_pos hc77_3]; done) | (simp only [u_20_a1_fromStep, if_pos hc58_1, if_pos hc67_2, if_pos hc77_3])) : (r_18 (p2 - ((w_from_a1.toInt64 + ((w_size_a1 - (1 : Int64)) * w_fromStep_a1.toInt64)) - ((w_from_a1.toInt64 + ((w_size_a1 - (1 : Int64)) * w_fromStep_a1.toInt64)) / p4.toInt64) * p4.toInt64).toInt32) p4) = u_20_a1_fromStep p2 q3 p4 w_size_a1 w_from_a1 w_fromStep_a1 w_resume_a1 w_resumeStep_a1)]; exact F_a1_fromStep), F_a1_resume, (by rw [← ((by first | (simp only [u_20_a1_resumeStep, if_pos hc58_1, if_pos hc67_2, if_pos hc77_3]; done) | (simp only [u_20_a1_resumeStep, if_pos hc58_1, if_pos hc67_2, if_pos hc77_3])) : (q3 - (w_resume_a1 + ((w_size_a1 - (1 : Int64)) * w_resumeStep_a1))) = u_20_a1_resumeStep p2 q3 p4 w_size_a1 w_from_a1 w_fromStep_a1 w_resume_a1 w_resumeStep_a1)]; exact F_a1_resumeStep)⟩
      · skip
        refine cs_ifNo cG X9 hx (hb hby d20_77) ((if0 _ _).trans (feq (fun q => hc77_3 ((lw_eq (q3 - (w_resume_a1 + ((w_size_a1 - (1 : Int64)) * w_resumeStep_a1))) w_resumeStep_a1).mp q))).1) ?_
        refine cs_iconst cG X9 hx (hb hby d20_80) (z := (0 : Int32)) rfl ?_
        show own_Go _ _ _ _ T9 (mkF m 81 #[vr a1, vi p2, vj q3, .second, vi p4, vj (w_size_a1 - (1 : Int64)), .second, vi (r_18 (p2 - ((w_from_a1.toInt64 + ((w_size_a1 - (1 : Int64)) * w_fromStep_a1.toInt64)) - ((w_from_a1.toInt64 + ((w_size_a1 - (1 : Int64)) * w_fromStep_a1.toInt64)) / p4.toInt64) * p4.toInt64).toInt32) p4), vj (q3 - (w_resume_a1 + ((w_size_a1 - (1 : Int64)) * w_resumeStep_a1))), .second] [(.int (0 : Int32))])
        obtain ⟨fs, hr, hrun, hended, hW, hsame⟩ := X9.leave (v := some (.int (0 : Int32))) (fun h => by rw [Bd.returns] at h; cases h)
        refine ⟨_, _, ?_, hrun, hended, _, _, rfl, ?_, ⟨_, rfl⟩, hW, hsame.mono (by decide) (by decide)⟩
        · exact retN X9 hx (t := .boolean) Bd.returns (by simp) (hb hby d20_81) hr
        · show Q20 Z a1 p2 q3 p4 w_size_a1 w_from_a1 w_fromStep_a1 w_resume_a1 w_resumeStep_a1 h0 n0 _ T9.heap _
          rw [e9]
          exact ⟨(by simp only [r_20, if_pos hc58_1, if_pos hc67_2, if_neg hc77_3, own_narZ, own_narC, own_narB]), NN, KK, E_a1, (by rw [← ((by first | (simp only [u_20_a1_size, if_pos hc58_1, if_pos hc67_2, if_neg hc77_3]; done) | (simp only [u_20_a1_size, if_pos hc58_1, if_pos hc67_2, if_neg hc77_3])) : w_size_a1 = u_20_a1_size p2 q3 p4 w_size_a1 w_from_a1 w_fromStep_a1 w_resume_a1 w_resumeStep_a1)]; exact F_a1_size), F_a1_from, (by rw [← ((by first | (simp only [u_20_a1_fromStep, if_pos hc58_1, if_pos hc67_2, if_neg hc77_3]; done) | (simp only [u_20_a1_fromStep, if_pos hc58_1, if_pos hc67_2, if_neg hc77_3])) : w_fromStep_a1 = u_20_a1_fromStep p2 q3 p4 w_size_a1 w_from_a1 w_fromStep_a1 w_resume_a1 w_resumeStep_a1)]; exact F_a1_fromStep), F_a1_resume, (by rw [← ((by first | (simp only [u_20_a1_resumeStep, if_pos hc58_1, if_pos hc67_2, if_neg hc77_3]; done) | (simp only [u_20_a1_resumeStep, if_pos hc58_1, if_pos hc67_2, if_neg hc77_3])) : w_resumeStep_a1 = u_20_a1_resumeStep p2 q3 p4 w_size_a1 w_from_a1 w_fromStep_a1 w_resume_a1 w_resumeStep_a1)]; exact F_a1_resumeStep)⟩
    · skip
      refine cs_icmpYes cG X8 hx (pc' := 80) (hb hby d20_67) (feq hc67_2).2 (by decide) (by decide) ?_
      refine cs_iconst cG X8 hx (hb hby d20_80) (z := (0 : Int32)) rfl ?_
      show own_Go _ _ _ _ T8 (mkF m 81 #[vr a1, vi p2, vj q3, .second, vi p4, vj (w_size_a1 - (1 : Int64)), .second, vi (r_18 (p2 - ((w_from_a1.toInt64 + ((w_size_a1 - (1 : Int64)) * w_fromStep_a1.toInt64)) - ((w_from_a1.toInt64 + ((w_size_a1 - (1 : Int64)) * w_fromStep_a1.toInt64)) / p4.toInt64) * p4.toInt64).toInt32) p4), vj (q3 - (w_resume_a1 + ((w_size_a1 - (1 : Int64)) * w_resumeStep_a1))), .second] [(.int (0 : Int32))])
      obtain ⟨fs, hr, hrun, hended, hW, hsame⟩ := X8.leave (v := some (.int (0 : Int32))) (fun h => by rw [Bd.returns] at h; cases h)
      refine ⟨_, _, ?_, hrun, hended, _, _, rfl, ?_, ⟨_, rfl⟩, hW, hsame.mono (by decide) (by decide)⟩
      · exact retN X8 hx (t := .boolean) Bd.returns (by simp) (hb hby d20_81) hr
      · show Q20 Z a1 p2 q3 p4 w_size_a1 w_from_a1 w_fromStep_a1 w_resume_a1 w_resumeStep_a1 h0 n0 _ T8.heap _
        rw [e8]
        exact ⟨(by simp only [r_20, if_pos hc58_1, if_neg hc67_2, own_narZ, own_narC, own_narB]), NN, KK, E_a1, (by rw [← ((by first | (simp only [u_20_a1_size, if_pos hc58_1, if_neg hc67_2]; done) | (simp only [u_20_a1_size, if_pos hc58_1, if_neg hc67_2])) : w_size_a1 = u_20_a1_size p2 q3 p4 w_size_a1 w_from_a1 w_fromStep_a1 w_resume_a1 w_resumeStep_a1)]; exact F_a1_size), F_a1_from, (by rw [← ((by first | (simp only [u_20_a1_fromStep, if_pos hc58_1, if_neg hc67_2]; done) | (simp only [u_20_a1_fromStep, if_pos hc58_1, if_neg hc67_2])) : w_fromStep_a1 = u_20_a1_fromStep p2 q3 p4 w_size_a1 w_from_a1 w_fromStep_a1 w_resume_a1 w_resumeStep_a1)]; exact F_a1_fromStep), F_a1_resume, (by rw [← ((by first | (simp only [u_20_a1_resumeStep, if_pos hc58_1, if_neg hc67_2]; done) | (simp only [u_20_a1_resumeStep, if_pos hc58_1, if_neg hc67_2])) : w_resumeStep_a1 = u_20_a1_resumeStep p2 q3 p4 w_size_a1 w_from_a1 w_fromStep_a1 w_resume_a1 w_resumeStep_a1)]; exact F_a1_resumeStep)⟩
  · skip
    refine cs_ifYes cG X7 hx (pc' := 82) (hb hby d20_58) ((if0 _ _).trans (flt (fun q => hc58_1 ((lw_gt w_size_a1 (1 : Int64)).mp q))).2.2.2) (by decide) (by decide) ?_
    refine cs_aloadN cG X7 hx (hb hby d20_82) rfl rfl ?_
    refine cs_iload cG X7 hx (hb hby d20_83) rfl ?_
    refine cs_put cG X7 hx hZ hown (wd 123 _ rfl) e7 F_a1_fromStep E_a1 (Or.inl (wd 124 _ rfl)) (wd 85 _ rfl) (ty := .int) (by decide) rfl rfl (hb hby d20_85) ?_
    intro T14 h14 X14 e14 W14
    have F_a1_size := F_a1_size.other W14 (Or.inr (slot_ne (Or.inl (wd 92 _ rfl)) (Or.inl (wd 124 _ rfl)) (by decide) (t := .long) (t' := .int) (by decide) (by decide)))
    have F_a1_from := F_a1_from.other W14 (Or.inr (slot_ne (Or.inl (wd 96 _ rfl)) (Or.inl (wd 124 _ rfl)) (by decide) (t := .int) (t' := .int) (by decide) (by decide)))
    have F_a1_fromStep := F_a1_fromStep.same W14
    have F_a1_resume := F_a1_resume.other W14 (Or.inr (slot_ne (Or.inl (wd 98 _ rfl)) (Or.inl (wd 124 _ rfl)) (by decide) (t := .long) (t' := .int) (by decide) (by decide)))
    have F_a1_resumeStep := F_a1_resumeStep.other W14 (Or.inr (slot_ne (Or.inl (wd 94 _ rfl)) (Or.inl (wd 124 _ rfl)) (by decide) (t := .long) (t' := .int) (by decide) (by decide)))
    have E_a1 := E_a1.wr W14
    have KK := KK.wr W14 (Or.inl (List.mem_of_getElem? (i := 0) rfl))
    have NN := Fr.snoc X14 NN g_a1
    refine cs_aloadN cG X14 hx (hb hby d20_88) rfl rfl ?_
    refine cs_lload cG X14 hx (hb hby d20_89) rfl ?_
    refine cs_put cG X14 hx hZ hown (wd 93 _ rfl) e14 F_a1_resumeStep E_a1 (Or.inl (wd 94 _ rfl)) (wd 85 _ rfl) (ty := .long) (by decide) rfl rfl (hb hby d20_91) ?_
    intro T15 h15 X15 e15 W15
    have F_a1_size := F_a1_size.other W15 (Or.inr (slot_ne (Or.inl (wd 92 _ rfl)) (Or.inl (wd 94 _ rfl)) (by decide) (t := .long) (t' := .long) (by decide) (by decide)))
    have F_a1_from := F_a1_from.other W15 (Or.inr (slot_ne (Or.inl (wd 96 _ rfl)) (Or.inl (wd 94 _ rfl)) (by decide) (t := .int) (t' := .long) (by decide) (by decide)))
    have F_a1_fromStep := F_a1_fromStep.other W15 (Or.inr (slot_ne (Or.inl (wd 124 _ rfl)) (Or.inl (wd 94 _ rfl)) (by decide) (t := .int) (t' := .long) (by decide) (by decide)))
    have F_a1_resume := F_a1_resume.other W15 (Or.inr (slot_ne (Or.inl (wd 98 _ rfl)) (Or.inl (wd 94 _ rfl)) (by decide) (t := .long) (t' := .long) (by decide) (by decide)))
    have F_a1_resumeStep := F_a1_resumeStep.same W15
    have E_a1 := E_a1.wr W15
    have KK := KK.wr W15 (Or.inl (List.mem_of_getElem? (i := 0) rfl))
    have NN := Fr.snoc X15 NN g_a1
    refine cs_aloadN cG X15 hx (hb hby d20_94) rfl rfl ?_
    refine cs_dup cG X15 hx (hb hby d20_95) rfl ?_
    refine cs_get cG X15 hx hZ hown (wd 91 _ rfl) e15 F_a1_size (hb hby d20_96) ?_
    intro T16 X16 e16
    refine cs_lconst cG X16 hx (hb hby d20_99) (z := (1 : Int64)) rfl ?_
    refine cs_ladd cG X16 hx (hb hby d20_100) rfl ?_
    refine cs_put cG X16 hx hZ hown (wd 91 _ rfl) e16 F_a1_size E_a1 (Or.inl (wd 92 _ rfl)) (wd 85 _ rfl) (ty := .long) (by decide) rfl rfl (hb hby d20_101) ?_
    intro T17 h17 X17 e17 W17
    have F_a1_size := F_a1_size.same W17
    have F_a1_from := F_a1_from.other W17 (Or.inr (slot_ne (Or.inl (wd 96 _ rfl)) (Or.inl (wd 92 _ rfl)) (by decide) (t := .int) (t' := .long) (by decide) (by decide)))
    have F_a1_fromStep := F_a1_fromStep.other W17 (Or.inr (slot_ne (Or.inl (wd 124 _ rfl)) (Or.inl (wd 92 _ rfl)) (by decide) (t := .int) (t' := .long) (by decide) (by decide)))
    have F_a1_resume := F_a1_resume.other W17 (Or.inr (slot_ne (Or.inl (wd 98 _ rfl)) (Or.inl (wd 92 _ rfl)) (by decide) (t := .long) (t' := .long) (by decide) (by decide)))
    have F_a1_resumeStep := F_a1_resumeStep.other W17 (Or.inr (slot_ne (Or.inl (wd 94 _ rfl)) (Or.inl (wd 92 _ rfl)) (by decide) (t := .long) (t' := .long) (by decide) (by decide)))
    have E_a1 := E_a1.wr W17
    have KK := KK.wr W17 (Or.inl (List.mem_of_getElem? (i := 0) rfl))
    have NN := Fr.snoc X17 NN g_a1
    refine cs_iconst cG X17 hx (hb hby d20_104) (z := (1 : Int32)) rfl ?_
    show own_Go _ _ _ _ T17 (mkF m 105 #[vr a1, vi p2, vj q3, .second, vi p4, vj (w_size_a1 - (1 : Int64)), .second, vi (r_18 (p2 - ((w_from_a1.toInt64 + ((w_size_a1 - (1 : Int64)) * w_fromStep_a1.toInt64)) - ((w_from_a1.toInt64 + ((w_size_a1 - (1 : Int64)) * w_fromStep_a1.toInt64)) / p4.toInt64) * p4.toInt64).toInt32) p4), vj (q3 - (w_resume_a1 + ((w_size_a1 - (1 : Int64)) * w_resumeStep_a1))), .second] [(.int (1 : Int32))])
    obtain ⟨fs, hr, hrun, hended, hW, hsame⟩ := X17.leave (v := some (.int (1 : Int32))) (fun h => by rw [Bd.returns] at h; cases h)
    refine ⟨_, _, ?_, hrun, hended, _, _, rfl, ?_, ⟨_, rfl⟩, hW, hsame.mono (by decide) (by decide)⟩
    · exact retN X17 hx (t := .boolean) Bd.returns (by simp) (hb hby d20_105) hr
    · show Q20 Z a1 p2 q3 p4 w_size_a1 w_from_a1 w_fromStep_a1 w_resume_a1 w_resumeStep_a1 h0 n0 _ T17.heap _
      rw [e17]
      exact ⟨(by simp only [r_20, if_neg hc58_1, own_narZ, own_narC, own_narB]), NN, KK, E_a1, (by rw [← ((by first | (simp only [u_20_a1_size, if_neg hc58_1]; done) | (simp only [u_20_a1_size, if_neg hc58_1])) : (w_size_a1 + (1 : Int64)) = u_20_a1_size p2 q3 p4 w_size_a1 w_from_a1 w_fromStep_a1 w_resume_a1 w_resumeStep_a1)]; exact F_a1_size), F_a1_from, (by rw [← ((by first | (simp only [u_20_a1_fromStep, if_neg hc58_1]; done) | (simp only [u_20_a1_fromStep, if_neg hc58_1])) : (r_18 (p2 - ((w_from_a1.toInt64 + ((w_size_a1 - (1 : Int64)) * w_fromStep_a1.toInt64)) - ((w_from_a1.toInt64 + ((w_size_a1 - (1 : Int64)) * w_fromStep_a1.toInt64)) / p4.toInt64) * p4.toInt64).toInt32) p4) = u_20_a1_fromStep p2 q3 p4 w_size_a1 w_from_a1 w_fromStep_a1 w_resume_a1 w_resumeStep_a1)]; exact F_a1_fromStep), F_a1_resume, (by rw [← ((by first | (simp only [u_20_a1_resumeStep, if_neg hc58_1]; done) | (simp only [u_20_a1_resumeStep, if_neg hc58_1])) : (q3 - (w_resume_a1 + ((w_size_a1 - (1 : Int64)) * w_resumeStep_a1))) = u_20_a1_resumeStep p2 q3 p4 w_size_a1 w_from_a1 w_fromStep_a1 w_resume_a1 w_resumeStep_a1)]; exact F_a1_resumeStep)⟩
theorem d23_0 : decode prog_30_method_2_code 0 = .ok (.aload_n 0, 1) := by decide +kernel
theorem d23_1 : decode prog_30_method_2_code 1 = .ok (.aload_n 0, 1) := by decide +kernel
theorem d23_2 : decode prog_30_method_2_code 2 = .ok (.getfield 16, 3) := by decide +kernel
theorem d23_5 : decode prog_30_method_2_code 5 = .ok (.i2l, 1) := by decide +kernel
theorem d23_6 : decode prog_30_method_2_code 6 = .ok (.lload_n 1, 1) := by decide +kernel
theorem d23_7 : decode prog_30_method_2_code 7 = .ok (.aload_n 0, 1) := by decide +kernel
theorem d23_8 : decode prog_30_method_2_code 8 = .ok (.getfield 23, 3) := by decide +kernel
theorem d23_11 : decode prog_30_method_2_code 11 = .ok (.i2l, 1) := by decide +kernel
theorem d23_12 : decode prog_30_method_2_code 12 = .ok (.lmul, 1) := by decide +kernel
theorem d23_13 : decode prog_30_method_2_code 13 = .ok (.ladd, 1) := by decide +kernel
theorem d23_14 : decode prog_30_method_2_code 14 = .ok (.iload_n 3, 1) := by decide +kernel
theorem d23_15 : decode prog_30_method_2_code 15 = .ok (.i2l, 1) := by decide +kernel
theorem d23_16 : decode prog_30_method_2_code 16 = .ok (.lrem, 1) := by decide +kernel
theorem d23_17 : decode prog_30_method_2_code 17 = .ok (.l2i, 1) := by decide +kernel
theorem d23_18 : decode prog_30_method_2_code 18 = .ok (.putfield 16, 3) := by decide +kernel
theorem d23_21 : decode prog_30_method_2_code 21 = .ok (.aload_n 0, 1) := by decide +kernel
theorem d23_22 : decode prog_30_method_2_code 22 = .ok (.dup, 1) := by decide +kernel
theorem d23_23 : decode prog_30_method_2_code 23 = .ok (.getfield 20, 3) := by decide +kernel
theorem d23_26 : decode prog_30_method_2_code 26 = .ok (.lload_n 1, 1) := by decide +kernel
theorem d23_27 : decode prog_30_method_2_code 27 = .ok (.aload_n 0, 1) := by decide +kernel
theorem d23_28 : decode prog_30_method_2_code 28 = .ok (.getfield 13, 3) := by decide +kernel
theorem d23_31 : decode prog_30_method_2_code 31 = .ok (.lmul, 1) := by decide +kernel
theorem d23_32 : decode prog_30_method_2_code 32 = .ok (.ladd, 1) := by decide +kernel
theorem d23_33 : decode prog_30_method_2_code 33 = .ok (.putfield 20, 3) := by decide +kernel
theorem d23_36 : decode prog_30_method_2_code 36 = .ok (.aload_n 0, 1) := by decide +kernel
theorem d23_37 : decode prog_30_method_2_code 37 = .ok (.dup, 1) := by decide +kernel
theorem d23_38 : decode prog_30_method_2_code 38 = .ok (.getfield 7, 3) := by decide +kernel
theorem d23_41 : decode prog_30_method_2_code 41 = .ok (.lload_n 1, 1) := by decide +kernel
theorem d23_42 : decode prog_30_method_2_code 42 = .ok (.lsub, 1) := by decide +kernel
theorem d23_43 : decode prog_30_method_2_code 43 = .ok (.putfield 7, 3) := by decide +kernel
theorem d23_46 : decode prog_30_method_2_code 46 = .ok (.return_, 1) := by decide +kernel
theorem ef_23 (m : MethodId) (a1 : Addr) (q2 : Int64) (p3 : Int32) : entryFrame m #[(.ref a1), (.long q2), (.int p3)] 4 = mkF m 0 #[.val (.ref a1), .val (.long q2), .second, .val (.int p3)] [] := by first | (simp [entryFrame, mkF, argsToLocals, Value.category]; done) | rfl
def Q23 (Z : State) (a1 : Addr) (q2 : Int64) (p3 : Int32) (w_from_a1 : Int32) (w_fromStep_a1 : Int32) (w_resume_a1 : Int64) (w_resumeStep_a1 : Int64) (w_size_a1 : Int64) (h0 : Heap) (n0 : Nat) (v : Option Value) (h : Heap) (L : List Loc) : Prop := v = none ∧ Fr n0 L ∧ Keep h0 h [a1] ∧ Exa Z h a1 own_cP ∧ Fld Z h a1 own_cP "from" "I" (.int ((w_from_a1.toInt64 + (q2 * w_fromStep_a1.toInt64)) - ((w_from_a1.toInt64 + (q2 * w_fromStep_a1.toInt64)) / p3.toInt64) * p3.toInt64).toInt32) ∧ Fld Z h a1 own_cP "fromStep" "I" (.int w_fromStep_a1) ∧ Fld Z h a1 own_cP "resume" "J" (.long (w_resume_a1 + (q2 * w_resumeStep_a1))) ∧ Fld Z h a1 own_cP "resumeStep" "J" (.long w_resumeStep_a1) ∧ Fld Z h a1 own_cP "size" "J" (.long (w_size_a1 - q2))
set_option maxRecDepth 65536 in
set_option maxHeartbeats 40000000 in
theorem rm23 (l : Launch) (Z : State) (a0 : Array Value) (hw : ∀ d ∈ tables_1, d.before a0 Z = true) (ws : List Jvm.Cond) (a1 : Addr) (q2 : Int64) (p3 : Int32) (w_from_a1 : Int32) (w_fromStep_a1 : Int32) (w_resume_a1 : Int64) (w_resumeStep_a1 : Int64) (w_size_a1 : Int64) (h0 : Heap) (n0 : Nat) (Z0 : n0 ≤ h0.size) (F_a1_from : Fld Z h0 a1 own_cP "from" "I" (.int w_from_a1)) (F_a1_fromStep : Fld Z h0 a1 own_cP "fromStep" "I" (.int w_fromStep_a1)) (hnz16 : ¬ (p3.toInt64 = (0 : Int64))) (E_a1 : Exa Z h0 a1 own_cP) (g_a1 : n0 ≤ a1) (F_a1_resume : Fld Z h0 a1 own_cP "resume" "J" (.long w_resume_a1)) (F_a1_resumeStep : Fld Z h0 a1 own_cP "resumeStep" "J" (.long w_resumeStep_a1)) (F_a1_size : Fld Z h0 a1 own_cP "size" "J" (.long w_size_a1)) :
    own_Met l (⟨own_cP, "drop", "(JI)V"⟩ : MethodName) prog_30_method_2_code 4 none ws ({ frames := 0, cells := 0, slots := 0, locals := 0 } : Room) #[(.ref a1), (.long q2), (.int p3)] Z h0 (Q23 Z a1 q2 p3 w_from_a1 w_fromStep_a1 w_resume_a1 w_resumeStep_a1 w_size_a1 h0 n0) := by
  refine own_met (plainFor_of_name pn_2) ?_
  intro p e s m below meth c s₁ Bd hx hby hml hZ hown hnm X0 e0
  have wd : ∀ (i : Nat) (d : Jvm.Cond), tables_1[i]? = some d → d.before a0 Z = true := fun i d q => hw d (List.mem_of_getElem? q)
  have NN := Fr.nil n0
  have KK : Keep h0 h0 [a1] := Keep.refl h0 _
  refine own_start (ef_23 m a1 q2 p3) ?_
  refine cs_aloadN cG X0 hx (hb hby d23_0) rfl rfl ?_
  refine cs_aloadN cG X0 hx (hb hby d23_1) rfl rfl ?_
  refine cs_get cG X0 hx hZ hown (wd 95 _ rfl) e0 F_a1_from (hb hby d23_2) ?_
  intro T1 X1 e1
  refine cs_i2l cG X1 hx (hb hby d23_5) rfl ?_
  refine cs_lloadN cG X1 hx (hb hby d23_6) rfl ?_
  refine cs_aloadN cG X1 hx (hb hby d23_7) rfl rfl ?_
  refine cs_get cG X1 hx hZ hown (wd 123 _ rfl) e1 F_a1_fromStep (hb hby d23_8) ?_
  intro T2 X2 e2
  refine cs_i2l cG X2 hx (hb hby d23_11) rfl ?_
  refine cs_lmul cG X2 hx (hb hby d23_12) rfl ?_
  refine cs_ladd cG X2 hx (hb hby d23_13) rfl ?_
  refine cs_iloadN cG X2 hx (hb hby d23_14) rfl ?_
  refine cs_i2l cG X2 hx (hb hby d23_15) rfl ?_
  refine cs_lrem cG X2 hx (hb hby d23_16) rfl hnz16 ?_
  refine cs_l2i cG X2 hx (hb hby d23_17) rfl ?_
  refine cs_put cG X2 hx hZ hown (wd 95 _ rfl) e2 F_a1_from E_a1 (Or.inl (wd 96 _ rfl)) (wd 85 _ rfl) (ty := .int) (by decide) rfl rfl (hb hby d23_18) ?_
  intro T3 h3 X3 e3 W3
  have F_a1_from := F_a1_from.same W3
  have F_a1_fromStep := F_a1_fromStep.other W3 (Or.inr (slot_ne (Or.inl (wd 124 _ rfl)) (Or.inl (wd 96 _ rfl)) (by decide) (t := .int) (t' := .int) (by decide) (by decide)))
  have E_a1 := E_a1.wr W3
  have F_a1_resume := F_a1_resume.other W3 (Or.inr (slot_ne (Or.inl (wd 98 _ rfl)) (Or.inl (wd 96 _ rfl)) (by decide) (t := .long) (t' := .int) (by decide) (by decide)))
  have F_a1_resumeStep := F_a1_resumeStep.other W3 (Or.inr (slot_ne (Or.inl (wd 94 _ rfl)) (Or.inl (wd 96 _ rfl)) (by decide) (t := .long) (t' := .int) (by decide) (by decide)))
  have F_a1_size := F_a1_size.other W3 (Or.inr (slot_ne (Or.inl (wd 92 _ rfl)) (Or.inl (wd 96 _ rfl)) (by decide) (t := .long) (t' := .int) (by decide) (by decide)))
  have KK := KK.wr W3 (Or.inl (List.mem_of_getElem? (i := 0) rfl))
  have NN := Fr.snoc X3 NN g_a1
  refine cs_aloadN cG X3 hx (hb hby d23_21) rfl rfl ?_
  refine cs_dup cG X3 hx (hb hby d23_22) rfl ?_
  refine cs_get cG X3 hx hZ hown (wd 97 _ rfl) e3 F_a1_resume (hb hby d23_23) ?_
  intro T4 X4 e4
  refine cs_lloadN cG X4 hx (hb hby d23_26) rfl ?_
  refine cs_aloadN cG X4 hx (hb hby d23_27) rfl rfl ?_
  refine cs_get cG X4 hx hZ hown (wd 93 _ rfl) e4 F_a1_resumeStep (hb hby d23_28) ?_
  intro T5 X5 e5
  refine cs_lmul cG X5 hx (hb hby d23_31) rfl ?_
  refine cs_ladd cG X5 hx (hb hby d23_32) rfl ?_
  refine cs_put cG X5 hx hZ hown (wd 97 _ rfl) e5 F_a1_resume E_a1 (Or.inl (wd 98 _ rfl)) (wd 85 _ rfl) (ty := .long) (by decide) rfl rfl (hb hby d23_33) ?_
  intro T6 h6 X6 e6 W6
  have F_a1_from := F_a1_from.other W6 (Or.inr (slot_ne (Or.inl (wd 96 _ rfl)) (Or.inl (wd 98 _ rfl)) (by decide) (t := .int) (t' := .long) (by decide) (by decide)))
  have F_a1_fromStep := F_a1_fromStep.other W6 (Or.inr (slot_ne (Or.inl (wd 124 _ rfl)) (Or.inl (wd 98 _ rfl)) (by decide) (t := .int) (t' := .long) (by decide) (by decide)))
  have E_a1 := E_a1.wr W6
  have F_a1_resume := F_a1_resume.same W6
  have F_a1_resumeStep := F_a1_resumeStep.other W6 (Or.inr (slot_ne (Or.inl (wd 94 _ rfl)) (Or.inl (wd 98 _ rfl)) (by decide) (t := .long) (t' := .long) (by decide) (by decide)))
  have F_a1_size := F_a1_size.other W6 (Or.inr (slot_ne (Or.inl (wd 92 _ rfl)) (Or.inl (wd 98 _ rfl)) (by decide) (t := .long) (t' := .long) (by decide) (by decide)))
  have KK := KK.wr W6 (Or.inl (List.mem_of_getElem? (i := 0) rfl))
  have NN := Fr.snoc X6 NN g_a1
  refine cs_aloadN cG X6 hx (hb hby d23_36) rfl rfl ?_
  refine cs_dup cG X6 hx (hb hby d23_37) rfl ?_
  refine cs_get cG X6 hx hZ hown (wd 91 _ rfl) e6 F_a1_size (hb hby d23_38) ?_
  intro T7 X7 e7
  refine cs_lloadN cG X7 hx (hb hby d23_41) rfl ?_
  refine cs_lsub cG X7 hx (hb hby d23_42) rfl ?_
  refine cs_put cG X7 hx hZ hown (wd 91 _ rfl) e7 F_a1_size E_a1 (Or.inl (wd 92 _ rfl)) (wd 85 _ rfl) (ty := .long) (by decide) rfl rfl (hb hby d23_43) ?_
  intro T8 h8 X8 e8 W8
  have F_a1_from := F_a1_from.other W8 (Or.inr (slot_ne (Or.inl (wd 96 _ rfl)) (Or.inl (wd 92 _ rfl)) (by decide) (t := .int) (t' := .long) (by decide) (by decide)))
  have F_a1_fromStep := F_a1_fromStep.other W8 (Or.inr (slot_ne (Or.inl (wd 124 _ rfl)) (Or.inl (wd 92 _ rfl)) (by decide) (t := .int) (t' := .long) (by decide) (by decide)))
  have E_a1 := E_a1.wr W8
  have F_a1_resume := F_a1_resume.other W8 (Or.inr (slot_ne (Or.inl (wd 98 _ rfl)) (Or.inl (wd 92 _ rfl)) (by decide) (t := .long) (t' := .long) (by decide) (by decide)))
  have F_a1_resumeStep := F_a1_resumeStep.other W8 (Or.inr (slot_ne (Or.inl (wd 94 _ rfl)) (Or.inl (wd 92 _ rfl)) (by decide) (t := .long) (t' := .long) (by decide) (by decide)))
  have F_a1_size := F_a1_size.same W8
  have KK := KK.wr W8 (Or.inl (List.mem_of_getElem? (i := 0) rfl))
  have NN := Fr.snoc X8 NN g_a1
  show own_Go _ _ _ _ T8 (mkF m 46 #[vr a1, vj q2, .second, vi p3] [])
  obtain ⟨fs, hr, hrun, hended, hW, hsame⟩ := X8.leave (v := none) (fun _ => rfl)
  refine ⟨_, _, ?_, hrun, hended, _, _, rfl, ?_, ⟨_, rfl⟩, hW, hsame.mono (by decide) (by decide)⟩
  · exact X8.returnOut hx Bd.returns (hb hby d23_46) hr
  · show Q23 Z a1 q2 p3 w_from_a1 w_fromStep_a1 w_resume_a1 w_resumeStep_a1 w_size_a1 h0 n0 _ T8.heap _
    rw [e8]
    exact ⟨rfl, NN, KK, E_a1, F_a1_from, F_a1_fromStep, F_a1_resume, F_a1_resumeStep, F_a1_size⟩
theorem d9_0 : decode prog_29_method_6_code 0 = .ok (.aload_n 0, 1) := by decide +kernel
theorem d9_1 : decode prog_29_method_6_code 1 = .ok (.getfield 35, 3) := by decide +kernel
theorem d9_4 : decode prog_29_method_6_code 4 = .ok (.aload_n 0, 1) := by decide +kernel
theorem d9_5 : decode prog_29_method_6_code 5 = .ok (.getfield 16, 3) := by decide +kernel
theorem d9_8 : decode prog_29_method_6_code 8 = .ok (.if_icmp .ge 10, 3) := by decide +kernel
theorem d9_11 : decode prog_29_method_6_code 11 = .ok (.aload_n 0, 1) := by decide +kernel
theorem d9_12 : decode prog_29_method_6_code 12 = .ok (.getfield 35, 3) := by decide +kernel
theorem d9_15 : decode prog_29_method_6_code 15 = .ok (.goto 16, 3) := by decide +kernel
theorem d9_31 : decode prog_29_method_6_code 31 = .ok (.ireturn, 1) := by decide +kernel
theorem pn_3 : plainName own_cC = true := by first | (simp [plainName, overriddenIn]; done) | decide +kernel
theorem ef_9_i (m : MethodId) (a1 : Addr) : entryFrame m #[(.ref a1)] 1 = mkF m 0 #[.val (.ref a1)] [] := by first | (simp [entryFrame, mkF, argsToLocals, Value.category]; done) | rfl
def Q9_i (Z : State) (a1 : Addr) (ni : Int32) (nL : Int32) (h0 : Heap) (n0 : Nat) (v : Option Value) (h : Heap) (L : List Loc) : Prop := v = some (.int ni) ∧ Fr n0 L ∧ h = h0
set_option maxRecDepth 65536 in
set_option maxHeartbeats 40000000 in
theorem rm9_i (l : Launch) (Z : State) (a0 : Array Value) (hw : ∀ d ∈ tables_1, d.before a0 Z = true) (ws : List Jvm.Cond) (a1 : Addr) (ni : Int32) (nL : Int32) (h0 : Heap) (n0 : Nat) (Z0 : n0 ≤ h0.size) (F_a1_idle : Fld Z h0 a1 own_cC "idle" "I" (.int ni)) (F_a1_length : Fld Z h0 a1 own_cC "length" "I" (.int nL)) (hc8 : ni < nL) :
    own_Met l (⟨own_cC, "nextInTurn", "()I"⟩ : MethodName) prog_29_method_6_code 1 (some .int) ws ({ frames := 0, cells := 0, slots := 0, locals := 0 } : Room) #[(.ref a1)] Z h0 (Q9_i Z a1 ni nL h0 n0) := by
  refine own_met (plainFor_of_name pn_3) ?_
  intro p e s m below meth c s₁ Bd hx hby hml hZ hown hnm X0 e0
  have wd : ∀ (i : Nat) (d : Jvm.Cond), tables_1[i]? = some d → d.before a0 Z = true := fun i d q => hw d (List.mem_of_getElem? q)
  have NN := Fr.nil n0
  have KK : Keep h0 h0 [] := Keep.refl h0 _
  refine own_start (ef_9_i m a1) ?_
  refine cs_aloadN cG X0 hx (hb hby d9_0) rfl rfl ?_
  refine cs_get cG X0 hx hZ hown (wd 63 _ rfl) e0 F_a1_idle (hb hby d9_1) ?_
  intro T1 X1 e1
  refine cs_aloadN cG X1 hx (hb hby d9_4) rfl rfl ?_
  refine cs_get cG X1 hx hZ hown (wd 29 _ rfl) e1 F_a1_length (hb hby d9_5) ?_
  intro T2 X2 e2
  refine cs_icmpNo cG X2 hx (hb hby d9_8) (tlt hc8).2.1 ?_
  refine cs_aloadN cG X2 hx (hb hby d9_11) rfl rfl ?_
  refine cs_get cG X2 hx hZ hown (wd 63 _ rfl) e2 F_a1_idle (hb hby d9_12) ?_
  intro T3 X3 e3
  refine cs_goto cG X3 hx (pc' := 31) (hb hby d9_15) (by decide) (by decide) ?_
  show own_Go _ _ _ _ T3 (mkF m 31 #[vr a1] [(.int ni)])
  obtain ⟨fs, hr, hrun, hended, hW, hsame⟩ := X3.leave (v := some (.int ni)) (fun h => by rw [Bd.returns] at h; cases h)
  refine ⟨_, _, ?_, hrun, hended, _, _, rfl, ?_, ⟨_, rfl⟩, hW, hsame.mono (by decide) (by decide)⟩
  · exact retI X3 hx Bd.returns (hb hby d9_31) hr
  · show Q9_i Z a1 ni nL h0 n0 _ T3.heap _
    rw [e3]
    exact ⟨rfl, NN, rfl⟩
theorem d9_18 : decode prog_29_method_6_code 18 = .ok (.aload_n 0, 1) := by decide +kernel
theorem d9_19 : decode prog_29_method_6_code 19 = .ok (.getfield 10, 3) := by decide +kernel
theorem d9_22 : decode prog_29_method_6_code 22 = .ok (.invokevirtual 88, 3) := by decide +kernel
theorem d9_25 : decode prog_29_method_6_code 25 = .ok (.checkcast 63, 3) := by decide +kernel
theorem d9_28 : decode prog_29_method_6_code 28 = .ok (.getfield 65, 3) := by decide +kernel
theorem ef_9_b_0_1 (m : MethodId) (a1 : Addr) : entryFrame m #[(.ref a1)] 1 = mkF m 0 #[.val (.ref a1)] [] := by first | (simp [entryFrame, mkF, argsToLocals, Value.category]; done) | rfl
def r_9_b_0_1 (nL : Int32) (ni : Int32) (fa0 : Int32) : Int32 := (if ni < nL then ni else fa0)
def Q9_b_0_1 (Z : State) (a1 : Addr) (nL : Int32) (ni : Int32) (dq : Addr) (ar : Addr) (k_ar : ClassId) (x0 : Addr) (fa0 : Int32) (h0 : Heap) (n0 : Nat) (v : Option Value) (h : Heap) (L : List Loc) : Prop := v = some (.int (r_9_b_0_1 nL ni fa0)) ∧ Fr n0 L ∧ h = h0
set_option maxRecDepth 65536 in
set_option maxHeartbeats 40000000 in
theorem rm9_b_0_1 (l : Launch) (Z : State) (a0 : Array Value) (hw : ∀ d ∈ tables_1, d.before a0 Z = true) (ws : List Jvm.Cond) (a1 : Addr) (nL : Int32) (ni : Int32) (dq : Addr) (ar : Addr) (k_ar : ClassId) (x0 : Addr) (fa0 : Int32) (h0 : Heap) (n0 : Nat) (Z0 : n0 ≤ h0.size) (F_a1_length : Fld Z h0 a1 own_cC "length" "I" (.int nL)) (F_a1_idle : Fld Z h0 a1 own_cC "idle" "I" (.int ni)) (F_a1_chains : Fld Z h0 a1 own_cC "chains" "Ljava/util/ArrayDeque;" (.ref dq)) (F_dq_elements : Fld Z h0 dq own_cD "elements" "[Ljava/lang/Object;" (.ref ar)) (F_dq_head : Fld Z h0 dq own_cD "head" "I" (.int (0 : Int32))) (V_ar : Arv Z h0 ar k_ar (.object "java/lang/Object") (17 : Int32) [(.ref x0), .null, .null, .null, .null, .null, .null, .null, .null, .null, .null, .null, .null, .null, .null, .null, .null] .null) (E_dq : Exa Z h0 dq own_cD) (E_x0 : Exa Z h0 x0 own_cP) (F_x0_from : Fld Z h0 x0 own_cP "from" "I" (.int fa0)) :
    own_Met l (⟨own_cC, "nextInTurn", "()I"⟩ : MethodName) prog_29_method_6_code 1 (some .int) ws ({ frames := 2, cells := 0, slots := 0, locals := 26 } : Room) #[(.ref a1)] Z h0 (Q9_b_0_1 Z a1 nL ni dq ar k_ar x0 fa0 h0 n0) := by
  refine own_met (plainFor_of_name pn_3) ?_
  intro p e s m below meth c s₁ Bd hx hby hml hZ hown hnm X0 e0
  have wd : ∀ (i : Nat) (d : Jvm.Cond), tables_1[i]? = some d → d.before a0 Z = true := fun i d q => hw d (List.mem_of_getElem? q)
  have NN := Fr.nil n0
  have KK : Keep h0 h0 [] := Keep.refl h0 _
  refine own_start (ef_9_b_0_1 m a1) ?_
  refine cs_aloadN cG X0 hx (hb hby d9_0) rfl rfl ?_
  refine cs_get cG X0 hx hZ hown (wd 63 _ rfl) e0 F_a1_idle (hb hby d9_1) ?_
  intro T1 X1 e1
  refine cs_aloadN cG X1 hx (hb hby d9_4) rfl rfl ?_
  refine cs_get cG X1 hx hZ hown (wd 29 _ rfl) e1 F_a1_length (hb hby d9_5) ?_
  intro T2 X2 e2
  by_cases hc8_1 : ni < nL
  · skip
    refine cs_icmpNo cG X2 hx (hb hby d9_8) (tlt hc8_1).2.1 ?_
    refine cs_aloadN cG X2 hx (hb hby d9_11) rfl rfl ?_
    refine cs_get cG X2 hx hZ hown (wd 63 _ rfl) e2 F_a1_idle (hb hby d9_12) ?_
    intro T3 X3 e3
    refine cs_goto cG X3 hx (pc' := 31) (hb hby d9_15) (by decide) (by decide) ?_
    show own_Go _ _ _ _ T3 (mkF m 31 #[vr a1] [(.int ni)])
    obtain ⟨fs, hr, hrun, hended, hW, hsame⟩ := X3.leave (v := some (.int ni)) (fun h => by rw [Bd.returns] at h; cases h)
    refine ⟨_, _, ?_, hrun, hended, _, _, rfl, ?_, ⟨_, rfl⟩, hW, hsame.mono (by decide) (by decide)⟩
    · exact retI X3 hx Bd.returns (hb hby d9_31) hr
    · show Q9_b_0_1 Z a1 nL ni dq ar k_ar x0 fa0 h0 n0 _ T3.heap _
      rw [e3]
      exact ⟨(by simp only [r_9_b_0_1, if_pos hc8_1]), NN, rfl⟩
  · skip
    refine cs_icmpYes cG X2 hx (pc' := 18) (hb hby d9_8) (flt hc8_1).2.1 (by decide) (by decide) ?_
    refine cs_aloadN cG X2 hx (hb hby d9_18) rfl rfl ?_
    refine cs_get cG X2 hx hZ hown (wd 27 _ rfl) e2 F_a1_chains (hb hby d9_19) ?_
    intro T4 X4 e4
    refine cs_V cG X4 hx hZ hown (wd 111 _ rfl) (wd 112 _ rfl) (wd 114 _ rfl) (wd 113 _ rfl) (wd 12 _ rfl) (wd 115 _ rfl) (by decide) (rm19_0_1 l Z a0 hw [] dq ar k_ar x0 h0 n0 Z0 F_dq_elements F_dq_head V_ar) (by decide) (by decide) (by decide) (by decide) e4 E_dq (by rw [hml]; rfl) (argsL := []) (S := []) (lenOf pd_9 rfl) rfl (W := 0) (Nat.le_of_eq rfl) (hb hby d9_22) rfl ?_
    intro v5 T5 L5 X5 hQ5
    obtain ⟨rfl, N5q, e5⟩ := hQ5
    have NN := Fr.app NN N5q
    show own_Go _ _ _ _ T5 (mkF m 25 #[vr a1] [(.ref x0)])
    refine cs_cast cG X5 hx hZ hown (wd 84 _ rfl) e5 (Ins.self E_x0) (hb hby d9_25) ?_
    intro T6 X6 e6
    refine cs_getR cG X6 hx hZ hown (wd 126 _ rfl) e6 F_x0_from (hb hby d9_28) ?_
    show own_Go _ _ _ _ T6 (mkF m 31 #[vr a1] [(.int fa0)])
    obtain ⟨fs, hr, hrun, hended, hW, hsame⟩ := X6.leave (v := some (.int fa0)) (fun h => by rw [Bd.returns] at h; cases h)
    refine ⟨_, _, ?_, hrun, hended, _, _, rfl, ?_, ⟨_, rfl⟩, hW, hsame.mono (by decide) (by decide)⟩
    · exact retI X6 hx Bd.returns (hb hby d9_31) hr
    · show Q9_b_0_1 Z a1 nL ni dq ar k_ar x0 fa0 h0 n0 _ T6.heap _
      rw [e6]
      exact ⟨(by simp only [r_9_b_0_1, if_neg hc8_1]), NN, rfl⟩
theorem ef_9_b_0_2 (m : MethodId) (a1 : Addr) : entryFrame m #[(.ref a1)] 1 = mkF m 0 #[.val (.ref a1)] [] := by first | (simp [entryFrame, mkF, argsToLocals, Value.category]; done) | rfl
def r_9_b_0_2 (nL : Int32) (ni : Int32) (fa0 : Int32) : Int32 := (if ni < nL then ni else fa0)
def Q9_b_0_2 (Z : State) (a1 : Addr) (nL : Int32) (ni : Int32) (dq : Addr) (ar : Addr) (k_ar : ClassId) (x0 : Addr) (x1 : Addr) (fa0 : Int32) (h0 : Heap) (n0 : Nat) (v : Option Value) (h : Heap) (L : List Loc) : Prop := v = some (.int (r_9_b_0_2 nL ni fa0)) ∧ Fr n0 L ∧ h = h0
set_option maxRecDepth 65536 in
set_option maxHeartbeats 40000000 in
theorem rm9_b_0_2 (l : Launch) (Z : State) (a0 : Array Value) (hw : ∀ d ∈ tables_1, d.before a0 Z = true) (ws : List Jvm.Cond) (a1 : Addr) (nL : Int32) (ni : Int32) (dq : Addr) (ar : Addr) (k_ar : ClassId) (x0 : Addr) (x1 : Addr) (fa0 : Int32) (h0 : Heap) (n0 : Nat) (Z0 : n0 ≤ h0.size) (F_a1_length : Fld Z h0 a1 own_cC "length" "I" (.int nL)) (F_a1_idle : Fld Z h0 a1 own_cC "idle" "I" (.int ni)) (F_a1_chains : Fld Z h0 a1 own_cC "chains" "Ljava/util/ArrayDeque;" (.ref dq)) (F_dq_elements : Fld Z h0 dq own_cD "elements" "[Ljava/lang/Object;" (.ref ar)) (F_dq_head : Fld Z h0 dq own_cD "head" "I" (.int (0 : Int32))) (V_ar : Arv Z h0 ar k_ar (.object "java/lang/Object") (17 : Int32) [(.ref x0), (.ref x1), .null, .null, .null, .null, .null, .null, .null, .null, .null, .null, .null, .null, .null, .null, .null] .null) (E_dq : Exa Z h0 dq own_cD) (E_x0 : Exa Z h0 x0 own_cP) (F_x0_from : Fld Z h0 x0 own_cP "from" "I" (.int fa0)) :
    own_Met l (⟨own_cC, "nextInTurn", "()I"⟩ : MethodName) prog_29_method_6_code 1 (some .int) ws ({ frames := 2, cells := 0, slots := 0, locals := 26 } : Room) #[(.ref a1)] Z h0 (Q9_b_0_2 Z a1 nL ni dq ar k_ar x0 x1 fa0 h0 n0) := by
  refine own_met (plainFor_of_name pn_3) ?_
  intro p e s m below meth c s₁ Bd hx hby hml hZ hown hnm X0 e0
  have wd : ∀ (i : Nat) (d : Jvm.Cond), tables_1[i]? = some d → d.before a0 Z = true := fun i d q => hw d (List.mem_of_getElem? q)
  have NN := Fr.nil n0
  have KK : Keep h0 h0 [] := Keep.refl h0 _
  refine own_start (ef_9_b_0_2 m a1) ?_
  refine cs_aloadN cG X0 hx (hb hby d9_0) rfl rfl ?_
  refine cs_get cG X0 hx hZ hown (wd 63 _ rfl) e0 F_a1_idle (hb hby d9_1) ?_
  intro T1 X1 e1
  refine cs_aloadN cG X1 hx (hb hby d9_4) rfl rfl ?_
  refine cs_get cG X1 hx hZ hown (wd 29 _ rfl) e1 F_a1_length (hb hby d9_5) ?_
  intro T2 X2 e2
  by_cases hc8_1 : ni < nL
  · skip
    refine cs_icmpNo cG X2 hx (hb hby d9_8) (tlt hc8_1).2.1 ?_
    refine cs_aloadN cG X2 hx (hb hby d9_11) rfl rfl ?_
    refine cs_get cG X2 hx hZ hown (wd 63 _ rfl) e2 F_a1_idle (hb hby d9_12) ?_
    intro T3 X3 e3
    refine cs_goto cG X3 hx (pc' := 31) (hb hby d9_15) (by decide) (by decide) ?_
    show own_Go _ _ _ _ T3 (mkF m 31 #[vr a1] [(.int ni)])
    obtain ⟨fs, hr, hrun, hended, hW, hsame⟩ := X3.leave (v := some (.int ni)) (fun h => by rw [Bd.returns] at h; cases h)
    refine ⟨_, _, ?_, hrun, hended, _, _, rfl, ?_, ⟨_, rfl⟩, hW, hsame.mono (by decide) (by decide)⟩
    · exact retI X3 hx Bd.returns (hb hby d9_31) hr
    · show Q9_b_0_2 Z a1 nL ni dq ar k_ar x0 x1 fa0 h0 n0 _ T3.heap _
      rw [e3]
      exact ⟨(by simp only [r_9_b_0_2, if_pos hc8_1]), NN, rfl⟩
  · skip
    refine cs_icmpYes cG X2 hx (pc' := 18) (hb hby d9_8) (flt hc8_1).2.1 (by decide) (by decide) ?_
    refine cs_aloadN cG X2 hx (hb hby d9_18) rfl rfl ?_
    refine cs_get cG X2 hx hZ hown (wd 27 _ rfl) e2 F_a1_chains (hb hby d9_19) ?_
    intro T4 X4 e4
    refine cs_V cG X4 hx hZ hown (wd 111 _ rfl) (wd 112 _ rfl) (wd 114 _ rfl) (wd 113 _ rfl) (wd 12 _ rfl) (wd 115 _ rfl) (by decide) (rm19_0_2 l Z a0 hw [] dq ar k_ar x0 x1 h0 n0 Z0 F_dq_elements F_dq_head V_ar) (by decide) (by decide) (by decide) (by decide) e4 E_dq (by rw [hml]; rfl) (argsL := []) (S := []) (lenOf pd_9 rfl) rfl (W := 0) (Nat.le_of_eq rfl) (hb hby d9_22) rfl ?_
    intro v5 T5 L5 X5 hQ5
    obtain ⟨rfl, N5q, e5⟩ := hQ5
    have NN := Fr.app NN N5q
    show own_Go _ _ _ _ T5 (mkF m 25 #[vr a1] [(.ref x0)])
    refine cs_cast cG X5 hx hZ hown (wd 84 _ rfl) e5 (Ins.self E_x0) (hb hby d9_25) ?_
    intro T6 X6 e6
    refine cs_getR cG X6 hx hZ hown (wd 126 _ rfl) e6 F_x0_from (hb hby d9_28) ?_
    show own_Go _ _ _ _ T6 (mkF m 31 #[vr a1] [(.int fa0)])
    obtain ⟨fs, hr, hrun, hended, hW, hsame⟩ := X6.leave (v := some (.int fa0)) (fun h => by rw [Bd.returns] at h; cases h)
    refine ⟨_, _, ?_, hrun, hended, _, _, rfl, ?_, ⟨_, rfl⟩, hW, hsame.mono (by decide) (by decide)⟩
    · exact retI X6 hx Bd.returns (hb hby d9_31) hr
    · show Q9_b_0_2 Z a1 nL ni dq ar k_ar x0 x1 fa0 h0 n0 _ T6.heap _
      rw [e6]
      exact ⟨(by simp only [r_9_b_0_2, if_neg hc8_1]), NN, rfl⟩
theorem ef_9_b_1_2 (m : MethodId) (a1 : Addr) : entryFrame m #[(.ref a1)] 1 = mkF m 0 #[.val (.ref a1)] [] := by first | (simp [entryFrame, mkF, argsToLocals, Value.category]; done) | rfl
def r_9_b_1_2 (nL : Int32) (ni : Int32) (fa1 : Int32) : Int32 := (if ni < nL then ni else fa1)
def Q9_b_1_2 (Z : State) (a1 : Addr) (nL : Int32) (ni : Int32) (dq : Addr) (ar : Addr) (k_ar : ClassId) (x1 : Addr) (fa1 : Int32) (h0 : Heap) (n0 : Nat) (v : Option Value) (h : Heap) (L : List Loc) : Prop := v = some (.int (r_9_b_1_2 nL ni fa1)) ∧ Fr n0 L ∧ h = h0
set_option maxRecDepth 65536 in
set_option maxHeartbeats 40000000 in
theorem rm9_b_1_2 (l : Launch) (Z : State) (a0 : Array Value) (hw : ∀ d ∈ tables_1, d.before a0 Z = true) (ws : List Jvm.Cond) (a1 : Addr) (nL : Int32) (ni : Int32) (dq : Addr) (ar : Addr) (k_ar : ClassId) (x1 : Addr) (fa1 : Int32) (h0 : Heap) (n0 : Nat) (Z0 : n0 ≤ h0.size) (F_a1_length : Fld Z h0 a1 own_cC "length" "I" (.int nL)) (F_a1_idle : Fld Z h0 a1 own_cC "idle" "I" (.int ni)) (F_a1_chains : Fld Z h0 a1 own_cC "chains" "Ljava/util/ArrayDeque;" (.ref dq)) (F_dq_elements : Fld Z h0 dq own_cD "elements" "[Ljava/lang/Object;" (.ref ar)) (F_dq_head : Fld Z h0 dq own_cD "head" "I" (.int (1 : Int32))) (V_ar : Arv Z h0 ar k_ar (.object "java/lang/Object") (17 : Int32) [.null, (.ref x1), .null, .null, .null, .null, .null, .null, .null, .null, .null, .null, .null, .null, .null, .null, .null] .null) (E_dq : Exa Z h0 dq own_cD) (E_x1 : Exa Z h0 x1 own_cP) (F_x1_from : Fld Z h0 x1 own_cP "from" "I" (.int fa1)) :
    own_Met l (⟨own_cC, "nextInTurn", "()I"⟩ : MethodName) prog_29_method_6_code 1 (some .int) ws ({ frames := 2, cells := 0, slots := 0, locals := 26 } : Room) #[(.ref a1)] Z h0 (Q9_b_1_2 Z a1 nL ni dq ar k_ar x1 fa1 h0 n0) := by
  refine own_met (plainFor_of_name pn_3) ?_
  intro p e s m below meth c s₁ Bd hx hby hml hZ hown hnm X0 e0
  have wd : ∀ (i : Nat) (d : Jvm.Cond), tables_1[i]? = some d → d.before a0 Z = true := fun i d q => hw d (List.mem_of_getElem? q)
  have NN := Fr.nil n0
  have KK : Keep h0 h0 [] := Keep.refl h0 _
  refine own_start (ef_9_b_1_2 m a1) ?_
  refine cs_aloadN cG X0 hx (hb hby d9_0) rfl rfl ?_
  refine cs_get cG X0 hx hZ hown (wd 63 _ rfl) e0 F_a1_idle (hb hby d9_1) ?_
  intro T1 X1 e1
  refine cs_aloadN cG X1 hx (hb hby d9_4) rfl rfl ?_
  refine cs_get cG X1 hx hZ hown (wd 29 _ rfl) e1 F_a1_length (hb hby d9_5) ?_
  intro T2 X2 e2
  by_cases hc8_1 : ni < nL
  · skip
    refine cs_icmpNo cG X2 hx (hb hby d9_8) (tlt hc8_1).2.1 ?_
    refine cs_aloadN cG X2 hx (hb hby d9_11) rfl rfl ?_
    refine cs_get cG X2 hx hZ hown (wd 63 _ rfl) e2 F_a1_idle (hb hby d9_12) ?_
    intro T3 X3 e3
    refine cs_goto cG X3 hx (pc' := 31) (hb hby d9_15) (by decide) (by decide) ?_
    show own_Go _ _ _ _ T3 (mkF m 31 #[vr a1] [(.int ni)])
    obtain ⟨fs, hr, hrun, hended, hW, hsame⟩ := X3.leave (v := some (.int ni)) (fun h => by rw [Bd.returns] at h; cases h)
    refine ⟨_, _, ?_, hrun, hended, _, _, rfl, ?_, ⟨_, rfl⟩, hW, hsame.mono (by decide) (by decide)⟩
    · exact retI X3 hx Bd.returns (hb hby d9_31) hr
    · show Q9_b_1_2 Z a1 nL ni dq ar k_ar x1 fa1 h0 n0 _ T3.heap _
      rw [e3]
      exact ⟨(by simp only [r_9_b_1_2, if_pos hc8_1]), NN, rfl⟩
  · skip
    refine cs_icmpYes cG X2 hx (pc' := 18) (hb hby d9_8) (flt hc8_1).2.1 (by decide) (by decide) ?_
    refine cs_aloadN cG X2 hx (hb hby d9_18) rfl rfl ?_
    refine cs_get cG X2 hx hZ hown (wd 27 _ rfl) e2 F_a1_chains (hb hby d9_19) ?_
    intro T4 X4 e4
    refine cs_V cG X4 hx hZ hown (wd 111 _ rfl) (wd 112 _ rfl) (wd 114 _ rfl) (wd 113 _ rfl) (wd 12 _ rfl) (wd 115 _ rfl) (by decide) (rm19_1_2 l Z a0 hw [] dq ar k_ar x1 h0 n0 Z0 F_dq_elements F_dq_head V_ar) (by decide) (by decide) (by decide) (by decide) e4 E_dq (by rw [hml]; rfl) (argsL := []) (S := []) (lenOf pd_9 rfl) rfl (W := 0) (Nat.le_of_eq rfl) (hb hby d9_22) rfl ?_
    intro v5 T5 L5 X5 hQ5
    obtain ⟨rfl, N5q, e5⟩ := hQ5
    have NN := Fr.app NN N5q
    show own_Go _ _ _ _ T5 (mkF m 25 #[vr a1] [(.ref x1)])
    refine cs_cast cG X5 hx hZ hown (wd 84 _ rfl) e5 (Ins.self E_x1) (hb hby d9_25) ?_
    intro T6 X6 e6
    refine cs_getR cG X6 hx hZ hown (wd 126 _ rfl) e6 F_x1_from (hb hby d9_28) ?_
    show own_Go _ _ _ _ T6 (mkF m 31 #[vr a1] [(.int fa1)])
    obtain ⟨fs, hr, hrun, hended, hW, hsame⟩ := X6.leave (v := some (.int fa1)) (fun h => by rw [Bd.returns] at h; cases h)
    refine ⟨_, _, ?_, hrun, hended, _, _, rfl, ?_, ⟨_, rfl⟩, hW, hsame.mono (by decide) (by decide)⟩
    · exact retI X6 hx Bd.returns (hb hby d9_31) hr
    · show Q9_b_1_2 Z a1 nL ni dq ar k_ar x1 fa1 h0 n0 _ T6.heap _
      rw [e6]
      exact ⟨(by simp only [r_9_b_1_2, if_neg hc8_1]), NN, rfl⟩
theorem ef_9_b_2_3 (m : MethodId) (a1 : Addr) : entryFrame m #[(.ref a1)] 1 = mkF m 0 #[.val (.ref a1)] [] := by first | (simp [entryFrame, mkF, argsToLocals, Value.category]; done) | rfl
def r_9_b_2_3 (nL : Int32) (ni : Int32) (fa2 : Int32) : Int32 := (if ni < nL then ni else fa2)
def Q9_b_2_3 (Z : State) (a1 : Addr) (nL : Int32) (ni : Int32) (dq : Addr) (ar : Addr) (k_ar : ClassId) (x2 : Addr) (fa2 : Int32) (h0 : Heap) (n0 : Nat) (v : Option Value) (h : Heap) (L : List Loc) : Prop := v = some (.int (r_9_b_2_3 nL ni fa2)) ∧ Fr n0 L ∧ h = h0
set_option maxRecDepth 65536 in
set_option maxHeartbeats 40000000 in
theorem rm9_b_2_3 (l : Launch) (Z : State) (a0 : Array Value) (hw : ∀ d ∈ tables_1, d.before a0 Z = true) (ws : List Jvm.Cond) (a1 : Addr) (nL : Int32) (ni : Int32) (dq : Addr) (ar : Addr) (k_ar : ClassId) (x2 : Addr) (fa2 : Int32) (h0 : Heap) (n0 : Nat) (Z0 : n0 ≤ h0.size) (F_a1_length : Fld Z h0 a1 own_cC "length" "I" (.int nL)) (F_a1_idle : Fld Z h0 a1 own_cC "idle" "I" (.int ni)) (F_a1_chains : Fld Z h0 a1 own_cC "chains" "Ljava/util/ArrayDeque;" (.ref dq)) (F_dq_elements : Fld Z h0 dq own_cD "elements" "[Ljava/lang/Object;" (.ref ar)) (F_dq_head : Fld Z h0 dq own_cD "head" "I" (.int (2 : Int32))) (V_ar : Arv Z h0 ar k_ar (.object "java/lang/Object") (17 : Int32) [.null, .null, (.ref x2), .null, .null, .null, .null, .null, .null, .null, .null, .null, .null, .null, .null, .null, .null] .null) (E_dq : Exa Z h0 dq own_cD) (E_x2 : Exa Z h0 x2 own_cP) (F_x2_from : Fld Z h0 x2 own_cP "from" "I" (.int fa2)) :
    own_Met l (⟨own_cC, "nextInTurn", "()I"⟩ : MethodName) prog_29_method_6_code 1 (some .int) ws ({ frames := 2, cells := 0, slots := 0, locals := 26 } : Room) #[(.ref a1)] Z h0 (Q9_b_2_3 Z a1 nL ni dq ar k_ar x2 fa2 h0 n0) := by
  refine own_met (plainFor_of_name pn_3) ?_
  intro p e s m below meth c s₁ Bd hx hby hml hZ hown hnm X0 e0
  have wd : ∀ (i : Nat) (d : Jvm.Cond), tables_1[i]? = some d → d.before a0 Z = true := fun i d q => hw d (List.mem_of_getElem? q)
  have NN := Fr.nil n0
  have KK : Keep h0 h0 [] := Keep.refl h0 _
  refine own_start (ef_9_b_2_3 m a1) ?_
  refine cs_aloadN cG X0 hx (hb hby d9_0) rfl rfl ?_
  refine cs_get cG X0 hx hZ hown (wd 63 _ rfl) e0 F_a1_idle (hb hby d9_1) ?_
  intro T1 X1 e1
  refine cs_aloadN cG X1 hx (hb hby d9_4) rfl rfl ?_
  refine cs_get cG X1 hx hZ hown (wd 29 _ rfl) e1 F_a1_length (hb hby d9_5) ?_
  intro T2 X2 e2
  by_cases hc8_1 : ni < nL
  · skip
    refine cs_icmpNo cG X2 hx (hb hby d9_8) (tlt hc8_1).2.1 ?_
    refine cs_aloadN cG X2 hx (hb hby d9_11) rfl rfl ?_
    refine cs_get cG X2 hx hZ hown (wd 63 _ rfl) e2 F_a1_idle (hb hby d9_12) ?_
    intro T3 X3 e3
    refine cs_goto cG X3 hx (pc' := 31) (hb hby d9_15) (by decide) (by decide) ?_
    show own_Go _ _ _ _ T3 (mkF m 31 #[vr a1] [(.int ni)])
    obtain ⟨fs, hr, hrun, hended, hW, hsame⟩ := X3.leave (v := some (.int ni)) (fun h => by rw [Bd.returns] at h; cases h)
    refine ⟨_, _, ?_, hrun, hended, _, _, rfl, ?_, ⟨_, rfl⟩, hW, hsame.mono (by decide) (by decide)⟩
    · exact retI X3 hx Bd.returns (hb hby d9_31) hr
    · show Q9_b_2_3 Z a1 nL ni dq ar k_ar x2 fa2 h0 n0 _ T3.heap _
      rw [e3]
      exact ⟨(by simp only [r_9_b_2_3, if_pos hc8_1]), NN, rfl⟩
  · skip
    refine cs_icmpYes cG X2 hx (pc' := 18) (hb hby d9_8) (flt hc8_1).2.1 (by decide) (by decide) ?_
    refine cs_aloadN cG X2 hx (hb hby d9_18) rfl rfl ?_
    refine cs_get cG X2 hx hZ hown (wd 27 _ rfl) e2 F_a1_chains (hb hby d9_19) ?_
    intro T4 X4 e4
    refine cs_V cG X4 hx hZ hown (wd 111 _ rfl) (wd 112 _ rfl) (wd 114 _ rfl) (wd 113 _ rfl) (wd 12 _ rfl) (wd 115 _ rfl) (by decide) (rm19_2_3 l Z a0 hw [] dq ar k_ar x2 h0 n0 Z0 F_dq_elements F_dq_head V_ar) (by decide) (by decide) (by decide) (by decide) e4 E_dq (by rw [hml]; rfl) (argsL := []) (S := []) (lenOf pd_9 rfl) rfl (W := 0) (Nat.le_of_eq rfl) (hb hby d9_22) rfl ?_
    intro v5 T5 L5 X5 hQ5
    obtain ⟨rfl, N5q, e5⟩ := hQ5
    have NN := Fr.app NN N5q
    show own_Go _ _ _ _ T5 (mkF m 25 #[vr a1] [(.ref x2)])
    refine cs_cast cG X5 hx hZ hown (wd 84 _ rfl) e5 (Ins.self E_x2) (hb hby d9_25) ?_
    intro T6 X6 e6
    refine cs_getR cG X6 hx hZ hown (wd 126 _ rfl) e6 F_x2_from (hb hby d9_28) ?_
    show own_Go _ _ _ _ T6 (mkF m 31 #[vr a1] [(.int fa2)])
    obtain ⟨fs, hr, hrun, hended, hW, hsame⟩ := X6.leave (v := some (.int fa2)) (fun h => by rw [Bd.returns] at h; cases h)
    refine ⟨_, _, ?_, hrun, hended, _, _, rfl, ?_, ⟨_, rfl⟩, hW, hsame.mono (by decide) (by decide)⟩
    · exact retI X6 hx Bd.returns (hb hby d9_31) hr
    · show Q9_b_2_3 Z a1 nL ni dq ar k_ar x2 fa2 h0 n0 _ T6.heap _
      rw [e6]
      exact ⟨(by simp only [r_9_b_2_3, if_neg hc8_1]), NN, rfl⟩
theorem d11_0 : decode prog_29_method_7_code 0 = .ok (.aload_n 0, 1) := by decide +kernel
theorem d11_1 : decode prog_29_method_7_code 1 = .ok (.getfield 10, 3) := by decide +kernel
theorem d11_4 : decode prog_29_method_7_code 4 = .ok (.invokevirtual 104, 3) := by decide +kernel
theorem d11_7 : decode prog_29_method_7_code 7 = .ok (.checkcast 63, 3) := by decide +kernel
theorem d11_10 : decode prog_29_method_7_code 10 = .ok (.astore 4, 2) := by decide +kernel
theorem d11_12 : decode prog_29_method_7_code 12 = .ok (.aload 4, 2) := by decide +kernel
theorem d11_14 : decode prog_29_method_7_code 14 = .ok (.ifnull 17, 3) := by decide +kernel
theorem d11_31 : decode prog_29_method_7_code 31 = .ok (.aload_n 0, 1) := by decide +kernel
theorem d11_32 : decode prog_29_method_7_code 32 = .ok (.getfield 10, 3) := by decide +kernel
theorem d11_35 : decode prog_29_method_7_code 35 = .ok (.new 63, 3) := by decide +kernel
theorem d11_38 : decode prog_29_method_7_code 38 = .ok (.dup, 1) := by decide +kernel
theorem d11_39 : decode prog_29_method_7_code 39 = .ok (.iload_n 1, 1) := by decide +kernel
theorem d11_40 : decode prog_29_method_7_code 40 = .ok (.lload_n 2, 1) := by decide +kernel
theorem d11_41 : decode prog_29_method_7_code 41 = .ok (.invokespecial 111, 3) := by decide +kernel
theorem d11_44 : decode prog_29_method_7_code 44 = .ok (.invokevirtual 113, 3) := by decide +kernel
theorem d11_47 : decode prog_29_method_7_code 47 = .ok (.return_, 1) := by decide +kernel
theorem pd_8 : parseMethodDescriptor "(IJ)V" = some ⟨[.int, .long], none⟩ := by decide +kernel
theorem pd_12 : parseMethodDescriptor "(Ljava/lang/Object;)V" = some ⟨[(.object "java/lang/Object")], none⟩ := by decide +kernel
theorem ef_11_o_0_0 (m : MethodId) (a1 : Addr) (p2 : Int32) (q3 : Int64) : entryFrame m #[(.ref a1), (.int p2), (.long q3)] 5 = mkF m 0 #[.val (.ref a1), .val (.int p2), .val (.long q3), .second, .unset] [] := by first | (simp [entryFrame, mkF, argsToLocals, Value.category]; done) | rfl
def Q11_o_0_0 (Z : State) (a1 : Addr) (p2 : Int32) (q3 : Int64) (dq : Addr) (ar : Addr) (k_ar : ClassId) (h0 : Heap) (n0 : Nat) (v : Option Value) (h : Heap) (L : List Loc) : Prop := ∃ (b4 : Addr), v = none ∧ Fr n0 L ∧ Keep h0 h [dq, ar] ∧ Exa Z h dq own_cD ∧ Fld Z h dq own_cD "elements" "[Ljava/lang/Object;" (.ref ar) ∧ Fld Z h dq own_cD "tail" "I" (.int (1 : Int32)) ∧ Fld Z h dq own_cD "head" "I" (.int (0 : Int32)) ∧ Arv Z h ar k_ar (.object "java/lang/Object") (17 : Int32) [(.ref b4), .null, .null, .null, .null, .null, .null, .null, .null, .null, .null, .null, .null, .null, .null, .null, .null] .null ∧ n0 ≤ b4 ∧ h0.size ≤ b4 ∧ Exa Z h b4 own_cP ∧ Fld Z h b4 own_cP "size" "J" (.long (1 : Int64)) ∧ Fld Z h b4 own_cP "resumeStep" "J" (.long (1 : Int64)) ∧ Fld Z h b4 own_cP "from" "I" (.int p2) ∧ Fld Z h b4 own_cP "resume" "J" (.long q3) ∧ Fld Z h b4 own_cP "fromStep" "I" (.int (0 : Int32))
set_option maxRecDepth 65536 in
set_option maxHeartbeats 40000000 in
theorem rm11_o_0_0 (l : Launch) (Z : State) (a0 : Array Value) (hw : ∀ d ∈ tables_1, d.before a0 Z = true) (ws : List Jvm.Cond) (a1 : Addr) (p2 : Int32) (q3 : Int64) (dq : Addr) (ar : Addr) (k_ar : ClassId) (h0 : Heap) (n0 : Nat) (Z0 : n0 ≤ h0.size) (F_a1_chains : Fld Z h0 a1 own_cC "chains" "Ljava/util/ArrayDeque;" (.ref dq)) (F_dq_elements : Fld Z h0 dq own_cD "elements" "[Ljava/lang/Object;" (.ref ar)) (F_dq_tail : Fld Z h0 dq own_cD "tail" "I" (.int (0 : Int32))) (O_ar : Ovr Z k_ar "java/lang/Object") (V_ar : Arv Z h0 ar k_ar (.object "java/lang/Object") (17 : Int32) [.null, .null, .null, .null, .null, .null, .null, .null, .null, .null, .null, .null, .null, .null, .null, .null, .null] .null) (E_dq : Exa Z h0 dq own_cD) (ne_dq_ar : dq ≠ ar) (g_ar : n0 ≤ ar) (F_dq_head : Fld Z h0 dq own_cD "head" "I" (.int (0 : Int32))) (g_dq : n0 ≤ dq) (ne_a1_dq : a1 ≠ dq) (ne_a1_ar : a1 ≠ ar) :
    own_Met l (⟨own_cC, "append", "(IJ)V"⟩ : MethodName) prog_29_method_7_code 5 none ws ({ frames := 2, cells := 1, slots := 5, locals := 29 } : Room) #[(.ref a1), (.int p2), (.long q3)] Z h0 (Q11_o_0_0 Z a1 p2 q3 dq ar k_ar h0 n0) := by
  refine own_met (plainFor_of_name pn_3) ?_
  intro p e s m below meth c s₁ Bd hx hby hml hZ hown hnm X0 e0
  have wd : ∀ (i : Nat) (d : Jvm.Cond), tables_1[i]? = some d → d.before a0 Z = true := fun i d q => hw d (List.mem_of_getElem? q)
  have NN := Fr.nil n0
  have KK : Keep h0 h0 [dq, ar] := Keep.refl h0 _
  refine own_start (ef_11_o_0_0 m a1 p2 q3) ?_
  refine cs_aloadN cG X0 hx (hb hby d11_0) rfl rfl ?_
  refine cs_get cG X0 hx hZ hown (wd 27 _ rfl) e0 F_a1_chains (hb hby d11_1) ?_
  intro T1 X1 e1
  refine cs_V cG X1 hx hZ hown (wd 73 _ rfl) (wd 74 _ rfl) (wd 76 _ rfl) (wd 75 _ rfl) (wd 12 _ rfl) (wd 77 _ rfl) (by decide) (rm12_0_0 l Z a0 hw [] dq ar k_ar h0 n0 Z0 F_dq_elements F_dq_tail V_ar) (by decide) (by decide) (by decide) (by decide) e1 E_dq (by rw [hml]; rfl) (argsL := []) (S := []) (lenOf pd_9 rfl) rfl (W := 0) (Nat.le_of_eq rfl) (hb hby d11_4) rfl ?_
  intro v2 T2 L2 X2 hQ2
  obtain ⟨rfl, N2q, e2⟩ := hQ2
  have NN := Fr.app NN N2q
  show own_Go _ _ _ _ T2 (mkF m 7 #[vr a1, vi p2, vj q3, .second, .unset] [.null])
  refine own_go (fun t k => X2.checkcastNull hx (g := (mkF m 7 #[vr a1, vi p2, vj q3, .second, .unset] [.null])) rfl rfl (hb hby d11_7) t k) ?_
  show own_Go _ _ _ _ T2 (mkF m 10 #[vr a1, vi p2, vj q3, .second, .unset] [.null])
  refine cs_astore cG X2 hx (hb hby d11_10) rfl (l' := #[vr a1, vi p2, vj q3, .second, .val .null]) rfl ?_
  refine cs_aload cG X2 hx (hb hby d11_12) rfl rfl ?_
  refine cs_ifnullYes cG X2 hx (pc' := 31) (hb hby d11_14) (by decide) (by decide) ?_
  refine cs_aloadN cG X2 hx (hb hby d11_31) rfl rfl ?_
  refine cs_get cG X2 hx hZ hown (wd 27 _ rfl) e2 F_a1_chains (hb hby d11_32) ?_
  intro T3 X3 e3
  obtain ⟨T4, h4, X4, e4, E4, A4, D4, -, st4⟩ := newO X3 hx hZ hown (wd 84 _ rfl) (wd 85 _ rfl) (wd 86 _ rfl) e3 (g := (mkF m 35 #[vr a1, vi p2, vj q3, .second, .val .null] [(.ref dq)])) rfl (hb hby d11_35) (by decide) (by decide)
  obtain ⟨b4, g4⟩ : ∃ z, z = h0.size := ⟨_, rfl⟩
  rw [← g4] at A4 D4 st4
  have g_b4 : n0 ≤ b4 := Nat.le_trans Z0 (Nat.le_of_eq g4.symm)
  have sz_b4 : h0.size ≤ b4 := Nat.le_trans KK.1 (Nat.le_of_eq g4.symm)
  have ne_dq_b4 : dq ≠ b4 := Nat.ne_of_lt (Nat.lt_of_lt_of_le F_dq_elements.lt (Nat.le_of_eq g4.symm))
  have ne_ar_b4 : ar ≠ b4 := Nat.ne_of_lt (Nat.lt_of_lt_of_le V_ar.lt (Nat.le_of_eq g4.symm))
  have F_dq_elements := F_dq_elements.ext E4
  have F_dq_tail := F_dq_tail.ext E4
  have V_ar := V_ar.ext E4
  have E_dq := E_dq.ext E4
  have F_dq_head := F_dq_head.ext E4
  have Z0 := Nat.le_trans Z0 E4.1
  have KK := KK.ext E4
  have E_b4 := A4
  have F_b4_size : Fld Z h4 b4 own_cP "size" "J" (.long (0 : Int64)) := D4 (Or.inl (wd 92 _ rfl)) (ty := .long) (by decide)
  have F_b4_resumeStep : Fld Z h4 b4 own_cP "resumeStep" "J" (.long (0 : Int64)) := D4 (Or.inl (wd 94 _ rfl)) (ty := .long) (by decide)
  have F_b4_from : Fld Z h4 b4 own_cP "from" "I" (.int (0 : Int32)) := D4 (Or.inl (wd 96 _ rfl)) (ty := .int) (by decide)
  have F_b4_resume : Fld Z h4 b4 own_cP "resume" "J" (.long (0 : Int64)) := D4 (Or.inl (wd 98 _ rfl)) (ty := .long) (by decide)
  have F_b4_fromStep : Fld Z h4 b4 own_cP "fromStep" "I" (.int (0 : Int32)) := D4 (Or.inl (wd 124 _ rfl)) (ty := .int) (by decide)
  refine own_go st4 ?_
  show own_Go _ _ _ _ T4 (mkF m 38 #[vr a1, vi p2, vj q3, .second, .val .null] [(.ref b4), (.ref dq)])
  refine cs_dup cG X4 hx (hb hby d11_38) rfl ?_
  refine cs_iloadN cG X4 hx (hb hby d11_39) rfl ?_
  refine cs_lloadN cG X4 hx (hb hby d11_40) rfl ?_
  refine cs_I cG X4 hx hZ hown (wd 87 _ rfl) (wd 88 _ rfl) (wd 86 _ rfl) (wd 89 _ rfl) rfl (by decide) (rm15 l Z a0 hw [] b4 p2 q3 (0 : Int32) (0 : Int64) (0 : Int64) (0 : Int32) (0 : Int64) h4 n0 Z0 F_b4_from F_b4_resume F_b4_size F_b4_fromStep F_b4_resumeStep E_b4 g_b4) (by decide) (by decide) (by decide) (by decide) e4 (by rw [hml]; rfl) (argsL := [(.int p2), (.long q3)]) (S := [(.ref b4), (.ref dq)]) (lenOf pd_8 rfl) rfl (W := 2) (Nat.le_of_eq rfl) (hb hby d11_41) rfl ?_
  intro v5 T5 L5 X5 hQ5
  obtain ⟨rfl, N5q, K5, Q5_0, Q5_1, Q5_2, Q5_3, Q5_4, Q5_5⟩ := hQ5
  have F_dq_elements := F_dq_elements.keep K5 (ninS ne_dq_b4 nin0)
  have F_dq_tail := F_dq_tail.keep K5 (ninS ne_dq_b4 nin0)
  have V_ar := V_ar.keep K5 (ninS ne_ar_b4 nin0)
  have E_dq := E_dq.keep K5
  have F_dq_head := F_dq_head.keep K5 (ninS ne_dq_b4 nin0)
  have E_b4 := Q5_0
  have F_b4_from := Q5_1
  have F_b4_resume := Q5_2
  have F_b4_size := Q5_3
  have F_b4_fromStep := Q5_4
  have F_b4_resumeStep := Q5_5
  have Z0 := Nat.le_trans Z0 K5.1
  have KK := KK.trans K5 (allS (Or.inr sz_b4) all0)
  have NN := Fr.app NN N5q
  show own_Go _ _ _ _ T5 (mkF m 44 #[vr a1, vi p2, vj q3, .second, .val .null] [(.ref b4), (.ref dq)])
  refine cs_V cG X5 hx hZ hown (wd 99 _ rfl) (wd 100 _ rfl) (wd 102 _ rfl) (wd 101 _ rfl) (wd 12 _ rfl) (wd 103 _ rfl) (by decide) (rm16_0_0 l Z a0 hw [] dq b4 ar k_ar T5.heap n0 Z0 F_dq_elements F_dq_tail O_ar V_ar E_b4 ne_dq_ar g_ar F_dq_head E_dq g_dq) (by decide) (by decide) (by decide) (by decide) rfl E_dq (by rw [hml]; rfl) (argsL := [(.ref b4)]) (S := []) (lenOf pd_12 rfl) rfl (W := 0) (Nat.le_of_eq rfl) (hb hby d11_44) rfl ?_
  intro v6 T6 L6 X6 hQ6
  obtain ⟨rfl, N6q, K6, Q6_0, Q6_1, Q6_2, Q6_3, Q6_4⟩ := hQ6
  have E_b4 := E_b4.keep K6
  have F_b4_size := F_b4_size.keep K6 (ninS (Ne.symm ne_ar_b4) (ninS (Ne.symm ne_dq_b4) nin0))
  have F_b4_resumeStep := F_b4_resumeStep.keep K6 (ninS (Ne.symm ne_ar_b4) (ninS (Ne.symm ne_dq_b4) nin0))
  have F_b4_from := F_b4_from.keep K6 (ninS (Ne.symm ne_ar_b4) (ninS (Ne.symm ne_dq_b4) nin0))
  have F_b4_resume := F_b4_resume.keep K6 (ninS (Ne.symm ne_ar_b4) (ninS (Ne.symm ne_dq_b4) nin0))
  have F_b4_fromStep := F_b4_fromStep.keep K6 (ninS (Ne.symm ne_ar_b4) (ninS (Ne.symm ne_dq_b4) nin0))
  have V_ar := Q6_0
  have E_dq := Q6_1
  have F_dq_elements := Q6_2
  have F_dq_tail := Q6_3
  have F_dq_head := Q6_4
  have KK := KK.trans K6 (allS (Or.inl (List.mem_of_getElem? (i := 1) rfl)) (allS (Or.inl (List.mem_of_getElem? (i := 0) rfl)) all0))
  have NN := Fr.app NN N6q
  show own_Go _ _ _ _ T6 (mkF m 47 #[vr a1, vi p2, vj q3, .second, .val .null] [])
  show own_Go _ _ _ _ T6 (mkF m 47 #[vr a1, vi p2, vj q3, .second, .val .null] [])
  obtain ⟨fs, hr, hrun, hended, hW, hsame⟩ := X6.leave (v := none) (fun _ => rfl)
  refine ⟨_, _, ?_, hrun, hended, _, _, rfl, ?_, ⟨_, rfl⟩, hW, hsame.mono (by decide) (by decide)⟩
  · exact X6.returnOut hx Bd.returns (hb hby d11_47) hr
  · show Q11_o_0_0 Z a1 p2 q3 dq ar k_ar h0 n0 _ T6.heap _
    exact ⟨b4, rfl, NN, KK, E_dq, F_dq_elements, F_dq_tail, F_dq_head, V_ar, g_b4, sz_b4, E_b4, F_b4_size, F_b4_resumeStep, F_b4_from, F_b4_resume, F_b4_fromStep⟩
theorem ef_11_o_1_1 (m : MethodId) (a1 : Addr) (p2 : Int32) (q3 : Int64) : entryFrame m #[(.ref a1), (.int p2), (.long q3)] 5 = mkF m 0 #[.val (.ref a1), .val (.int p2), .val (.long q3), .second, .unset] [] := by first | (simp [entryFrame, mkF, argsToLocals, Value.category]; done) | rfl
def Q11_o_1_1 (Z : State) (a1 : Addr) (p2 : Int32) (q3 : Int64) (dq : Addr) (ar : Addr) (k_ar : ClassId) (h0 : Heap) (n0 : Nat) (v : Option Value) (h : Heap) (L : List Loc) : Prop := ∃ (b4 : Addr), v = none ∧ Fr n0 L ∧ Keep h0 h [dq, ar] ∧ Exa Z h dq own_cD ∧ Fld Z h dq own_cD "elements" "[Ljava/lang/Object;" (.ref ar) ∧ Fld Z h dq own_cD "tail" "I" (.int (2 : Int32)) ∧ Fld Z h dq own_cD "head" "I" (.int (1 : Int32)) ∧ Arv Z h ar k_ar (.object "java/lang/Object") (17 : Int32) [.null, (.ref b4), .null, .null, .null, .null, .null, .null, .null, .null, .null, .null, .null, .null, .null, .null, .null] .null ∧ n0 ≤ b4 ∧ h0.size ≤ b4 ∧ Exa Z h b4 own_cP ∧ Fld Z h b4 own_cP "size" "J" (.long (1 : Int64)) ∧ Fld Z h b4 own_cP "resumeStep" "J" (.long (1 : Int64)) ∧ Fld Z h b4 own_cP "from" "I" (.int p2) ∧ Fld Z h b4 own_cP "resume" "J" (.long q3) ∧ Fld Z h b4 own_cP "fromStep" "I" (.int (0 : Int32))
set_option maxRecDepth 65536 in
set_option maxHeartbeats 40000000 in
theorem rm11_o_1_1 (l : Launch) (Z : State) (a0 : Array Value) (hw : ∀ d ∈ tables_1, d.before a0 Z = true) (ws : List Jvm.Cond) (a1 : Addr) (p2 : Int32) (q3 : Int64) (dq : Addr) (ar : Addr) (k_ar : ClassId) (h0 : Heap) (n0 : Nat) (Z0 : n0 ≤ h0.size) (F_a1_chains : Fld Z h0 a1 own_cC "chains" "Ljava/util/ArrayDeque;" (.ref dq)) (F_dq_elements : Fld Z h0 dq own_cD "elements" "[Ljava/lang/Object;" (.ref ar)) (F_dq_tail : Fld Z h0 dq own_cD "tail" "I" (.int (1 : Int32))) (O_ar : Ovr Z k_ar "java/lang/Object") (V_ar : Arv Z h0 ar k_ar (.object "java/lang/Object") (17 : Int32) [.null, .null, .null, .null, .null, .null, .null, .null, .null, .null, .null, .null, .null, .null, .null, .null, .null] .null) (E_dq : Exa Z h0 dq own_cD) (ne_dq_ar : dq ≠ ar) (g_ar : n0 ≤ ar) (F_dq_head : Fld Z h0 dq own_cD "head" "I" (.int (1 : Int32))) (g_dq : n0 ≤ dq) (ne_a1_dq : a1 ≠ dq) (ne_a1_ar : a1 ≠ ar) :
    own_Met l (⟨own_cC, "append", "(IJ)V"⟩ : MethodName) prog_29_method_7_code 5 none ws ({ frames := 2, cells := 1, slots := 5, locals := 29 } : Room) #[(.ref a1), (.int p2), (.long q3)] Z h0 (Q11_o_1_1 Z a1 p2 q3 dq ar k_ar h0 n0) := by
  refine own_met (plainFor_of_name pn_3) ?_
  intro p e s m below meth c s₁ Bd hx hby hml hZ hown hnm X0 e0
  have wd : ∀ (i : Nat) (d : Jvm.Cond), tables_1[i]? = some d → d.before a0 Z = true := fun i d q => hw d (List.mem_of_getElem? q)
  have NN := Fr.nil n0
  have KK : Keep h0 h0 [dq, ar] := Keep.refl h0 _
  refine own_start (ef_11_o_1_1 m a1 p2 q3) ?_
  refine cs_aloadN cG X0 hx (hb hby d11_0) rfl rfl ?_
  refine cs_get cG X0 hx hZ hown (wd 27 _ rfl) e0 F_a1_chains (hb hby d11_1) ?_
  intro T1 X1 e1
  refine cs_V cG X1 hx hZ hown (wd 73 _ rfl) (wd 74 _ rfl) (wd 76 _ rfl) (wd 75 _ rfl) (wd 12 _ rfl) (wd 77 _ rfl) (by decide) (rm12_1_1 l Z a0 hw [] dq ar k_ar h0 n0 Z0 F_dq_elements F_dq_tail V_ar) (by decide) (by decide) (by decide) (by decide) e1 E_dq (by rw [hml]; rfl) (argsL := []) (S := []) (lenOf pd_9 rfl) rfl (W := 0) (Nat.le_of_eq rfl) (hb hby d11_4) rfl ?_
  intro v2 T2 L2 X2 hQ2
  obtain ⟨rfl, N2q, e2⟩ := hQ2
  have NN := Fr.app NN N2q
  show own_Go _ _ _ _ T2 (mkF m 7 #[vr a1, vi p2, vj q3, .second, .unset] [.null])
  refine own_go (fun t k => X2.checkcastNull hx (g := (mkF m 7 #[vr a1, vi p2, vj q3, .second, .unset] [.null])) rfl rfl (hb hby d11_7) t k) ?_
  show own_Go _ _ _ _ T2 (mkF m 10 #[vr a1, vi p2, vj q3, .second, .unset] [.null])
  refine cs_astore cG X2 hx (hb hby d11_10) rfl (l' := #[vr a1, vi p2, vj q3, .second, .val .null]) rfl ?_
  refine cs_aload cG X2 hx (hb hby d11_12) rfl rfl ?_
  refine cs_ifnullYes cG X2 hx (pc' := 31) (hb hby d11_14) (by decide) (by decide) ?_
  refine cs_aloadN cG X2 hx (hb hby d11_31) rfl rfl ?_
  refine cs_get cG X2 hx hZ hown (wd 27 _ rfl) e2 F_a1_chains (hb hby d11_32) ?_
  intro T3 X3 e3
  obtain ⟨T4, h4, X4, e4, E4, A4, D4, -, st4⟩ := newO X3 hx hZ hown (wd 84 _ rfl) (wd 85 _ rfl) (wd 86 _ rfl) e3 (g := (mkF m 35 #[vr a1, vi p2, vj q3, .second, .val .null] [(.ref dq)])) rfl (hb hby d11_35) (by decide) (by decide)
  obtain ⟨b4, g4⟩ : ∃ z, z = h0.size := ⟨_, rfl⟩
  rw [← g4] at A4 D4 st4
  have g_b4 : n0 ≤ b4 := Nat.le_trans Z0 (Nat.le_of_eq g4.symm)
  have sz_b4 : h0.size ≤ b4 := Nat.le_trans KK.1 (Nat.le_of_eq g4.symm)
  have ne_dq_b4 : dq ≠ b4 := Nat.ne_of_lt (Nat.lt_of_lt_of_le F_dq_elements.lt (Nat.le_of_eq g4.symm))
  have ne_ar_b4 : ar ≠ b4 := Nat.ne_of_lt (Nat.lt_of_lt_of_le V_ar.lt (Nat.le_of_eq g4.symm))
  have F_dq_elements := F_dq_elements.ext E4
  have F_dq_tail := F_dq_tail.ext E4
  have V_ar := V_ar.ext E4
  have E_dq := E_dq.ext E4
  have F_dq_head := F_dq_head.ext E4
  have Z0 := Nat.le_trans Z0 E4.1
  have KK := KK.ext E4
  have E_b4 := A4
  have F_b4_size : Fld Z h4 b4 own_cP "size" "J" (.long (0 : Int64)) := D4 (Or.inl (wd 92 _ rfl)) (ty := .long) (by decide)
  have F_b4_resumeStep : Fld Z h4 b4 own_cP "resumeStep" "J" (.long (0 : Int64)) := D4 (Or.inl (wd 94 _ rfl)) (ty := .long) (by decide)
  have F_b4_from : Fld Z h4 b4 own_cP "from" "I" (.int (0 : Int32)) := D4 (Or.inl (wd 96 _ rfl)) (ty := .int) (by decide)
  have F_b4_resume : Fld Z h4 b4 own_cP "resume" "J" (.long (0 : Int64)) := D4 (Or.inl (wd 98 _ rfl)) (ty := .long) (by decide)
  have F_b4_fromStep : Fld Z h4 b4 own_cP "fromStep" "I" (.int (0 : Int32)) := D4 (Or.inl (wd 124 _ rfl)) (ty := .int) (by decide)
  refine own_go st4 ?_
  show own_Go _ _ _ _ T4 (mkF m 38 #[vr a1, vi p2, vj q3, .second, .val .null] [(.ref b4), (.ref dq)])
  refine cs_dup cG X4 hx (hb hby d11_38) rfl ?_
  refine cs_iloadN cG X4 hx (hb hby d11_39) rfl ?_
  refine cs_lloadN cG X4 hx (hb hby d11_40) rfl ?_
  refine cs_I cG X4 hx hZ hown (wd 87 _ rfl) (wd 88 _ rfl) (wd 86 _ rfl) (wd 89 _ rfl) rfl (by decide) (rm15 l Z a0 hw [] b4 p2 q3 (0 : Int32) (0 : Int64) (0 : Int64) (0 : Int32) (0 : Int64) h4 n0 Z0 F_b4_from F_b4_resume F_b4_size F_b4_fromStep F_b4_resumeStep E_b4 g_b4) (by decide) (by decide) (by decide) (by decide) e4 (by rw [hml]; rfl) (argsL := [(.int p2), (.long q3)]) (S := [(.ref b4), (.ref dq)]) (lenOf pd_8 rfl) rfl (W := 2) (Nat.le_of_eq rfl) (hb hby d11_41) rfl ?_
  intro v5 T5 L5 X5 hQ5
  obtain ⟨rfl, N5q, K5, Q5_0, Q5_1, Q5_2, Q5_3, Q5_4, Q5_5⟩ := hQ5
  have F_dq_elements := F_dq_elements.keep K5 (ninS ne_dq_b4 nin0)
  have F_dq_tail := F_dq_tail.keep K5 (ninS ne_dq_b4 nin0)
  have V_ar := V_ar.keep K5 (ninS ne_ar_b4 nin0)
  have E_dq := E_dq.keep K5
  have F_dq_head := F_dq_head.keep K5 (ninS ne_dq_b4 nin0)
  have E_b4 := Q5_0
  have F_b4_from := Q5_1
  have F_b4_resume := Q5_2
  have F_b4_size := Q5_3
  have F_b4_fromStep := Q5_4
  have F_b4_resumeStep := Q5_5
  have Z0 := Nat.le_trans Z0 K5.1
  have KK := KK.trans K5 (allS (Or.inr sz_b4) all0)
  have NN := Fr.app NN N5q
  show own_Go _ _ _ _ T5 (mkF m 44 #[vr a1, vi p2, vj q3, .second, .val .null] [(.ref b4), (.ref dq)])
  refine cs_V cG X5 hx hZ hown (wd 99 _ rfl) (wd 100 _ rfl) (wd 102 _ rfl) (wd 101 _ rfl) (wd 12 _ rfl) (wd 103 _ rfl) (by decide) (rm16_1_1 l Z a0 hw [] dq b4 ar k_ar T5.heap n0 Z0 F_dq_elements F_dq_tail O_ar V_ar E_b4 ne_dq_ar g_ar F_dq_head E_dq g_dq) (by decide) (by decide) (by decide) (by decide) rfl E_dq (by rw [hml]; rfl) (argsL := [(.ref b4)]) (S := []) (lenOf pd_12 rfl) rfl (W := 0) (Nat.le_of_eq rfl) (hb hby d11_44) rfl ?_
  intro v6 T6 L6 X6 hQ6
  obtain ⟨rfl, N6q, K6, Q6_0, Q6_1, Q6_2, Q6_3, Q6_4⟩ := hQ6
  have E_b4 := E_b4.keep K6
  have F_b4_size := F_b4_size.keep K6 (ninS (Ne.symm ne_ar_b4) (ninS (Ne.symm ne_dq_b4) nin0))
  have F_b4_resumeStep := F_b4_resumeStep.keep K6 (ninS (Ne.symm ne_ar_b4) (ninS (Ne.symm ne_dq_b4) nin0))
  have F_b4_from := F_b4_from.keep K6 (ninS (Ne.symm ne_ar_b4) (ninS (Ne.symm ne_dq_b4) nin0))
  have F_b4_resume := F_b4_resume.keep K6 (ninS (Ne.symm ne_ar_b4) (ninS (Ne.symm ne_dq_b4) nin0))
  have F_b4_fromStep := F_b4_fromStep.keep K6 (ninS (Ne.symm ne_ar_b4) (ninS (Ne.symm ne_dq_b4) nin0))
  have V_ar := Q6_0
  have E_dq := Q6_1
  have F_dq_elements := Q6_2
  have F_dq_tail := Q6_3
  have F_dq_head := Q6_4
  have KK := KK.trans K6 (allS (Or.inl (List.mem_of_getElem? (i := 1) rfl)) (allS (Or.inl (List.mem_of_getElem? (i := 0) rfl)) all0))
  have NN := Fr.app NN N6q
  show own_Go _ _ _ _ T6 (mkF m 47 #[vr a1, vi p2, vj q3, .second, .val .null] [])
  show own_Go _ _ _ _ T6 (mkF m 47 #[vr a1, vi p2, vj q3, .second, .val .null] [])
  obtain ⟨fs, hr, hrun, hended, hW, hsame⟩ := X6.leave (v := none) (fun _ => rfl)
  refine ⟨_, _, ?_, hrun, hended, _, _, rfl, ?_, ⟨_, rfl⟩, hW, hsame.mono (by decide) (by decide)⟩
  · exact X6.returnOut hx Bd.returns (hb hby d11_47) hr
  · show Q11_o_1_1 Z a1 p2 q3 dq ar k_ar h0 n0 _ T6.heap _
    exact ⟨b4, rfl, NN, KK, E_dq, F_dq_elements, F_dq_tail, F_dq_head, V_ar, g_b4, sz_b4, E_b4, F_b4_size, F_b4_resumeStep, F_b4_from, F_b4_resume, F_b4_fromStep⟩
theorem ef_11_o_2_2 (m : MethodId) (a1 : Addr) (p2 : Int32) (q3 : Int64) : entryFrame m #[(.ref a1), (.int p2), (.long q3)] 5 = mkF m 0 #[.val (.ref a1), .val (.int p2), .val (.long q3), .second, .unset] [] := by first | (simp [entryFrame, mkF, argsToLocals, Value.category]; done) | rfl
def Q11_o_2_2 (Z : State) (a1 : Addr) (p2 : Int32) (q3 : Int64) (dq : Addr) (ar : Addr) (k_ar : ClassId) (h0 : Heap) (n0 : Nat) (v : Option Value) (h : Heap) (L : List Loc) : Prop := ∃ (b4 : Addr), v = none ∧ Fr n0 L ∧ Keep h0 h [dq, ar] ∧ Exa Z h dq own_cD ∧ Fld Z h dq own_cD "elements" "[Ljava/lang/Object;" (.ref ar) ∧ Fld Z h dq own_cD "tail" "I" (.int (3 : Int32)) ∧ Fld Z h dq own_cD "head" "I" (.int (2 : Int32)) ∧ Arv Z h ar k_ar (.object "java/lang/Object") (17 : Int32) [.null, .null, (.ref b4), .null, .null, .null, .null, .null, .null, .null, .null, .null, .null, .null, .null, .null, .null] .null ∧ n0 ≤ b4 ∧ h0.size ≤ b4 ∧ Exa Z h b4 own_cP ∧ Fld Z h b4 own_cP "size" "J" (.long (1 : Int64)) ∧ Fld Z h b4 own_cP "resumeStep" "J" (.long (1 : Int64)) ∧ Fld Z h b4 own_cP "from" "I" (.int p2) ∧ Fld Z h b4 own_cP "resume" "J" (.long q3) ∧ Fld Z h b4 own_cP "fromStep" "I" (.int (0 : Int32))
set_option maxRecDepth 65536 in
set_option maxHeartbeats 40000000 in
theorem rm11_o_2_2 (l : Launch) (Z : State) (a0 : Array Value) (hw : ∀ d ∈ tables_1, d.before a0 Z = true) (ws : List Jvm.Cond) (a1 : Addr) (p2 : Int32) (q3 : Int64) (dq : Addr) (ar : Addr) (k_ar : ClassId) (h0 : Heap) (n0 : Nat) (Z0 : n0 ≤ h0.size) (F_a1_chains : Fld Z h0 a1 own_cC "chains" "Ljava/util/ArrayDeque;" (.ref dq)) (F_dq_elements : Fld Z h0 dq own_cD "elements" "[Ljava/lang/Object;" (.ref ar)) (F_dq_tail : Fld Z h0 dq own_cD "tail" "I" (.int (2 : Int32))) (O_ar : Ovr Z k_ar "java/lang/Object") (V_ar : Arv Z h0 ar k_ar (.object "java/lang/Object") (17 : Int32) [.null, .null, .null, .null, .null, .null, .null, .null, .null, .null, .null, .null, .null, .null, .null, .null, .null] .null) (E_dq : Exa Z h0 dq own_cD) (ne_dq_ar : dq ≠ ar) (g_ar : n0 ≤ ar) (F_dq_head : Fld Z h0 dq own_cD "head" "I" (.int (2 : Int32))) (g_dq : n0 ≤ dq) (ne_a1_dq : a1 ≠ dq) (ne_a1_ar : a1 ≠ ar) :
    own_Met l (⟨own_cC, "append", "(IJ)V"⟩ : MethodName) prog_29_method_7_code 5 none ws ({ frames := 2, cells := 1, slots := 5, locals := 29 } : Room) #[(.ref a1), (.int p2), (.long q3)] Z h0 (Q11_o_2_2 Z a1 p2 q3 dq ar k_ar h0 n0) := by
  refine own_met (plainFor_of_name pn_3) ?_
  intro p e s m below meth c s₁ Bd hx hby hml hZ hown hnm X0 e0
  have wd : ∀ (i : Nat) (d : Jvm.Cond), tables_1[i]? = some d → d.before a0 Z = true := fun i d q => hw d (List.mem_of_getElem? q)
  have NN := Fr.nil n0
  have KK : Keep h0 h0 [dq, ar] := Keep.refl h0 _
  refine own_start (ef_11_o_2_2 m a1 p2 q3) ?_
  refine cs_aloadN cG X0 hx (hb hby d11_0) rfl rfl ?_
  refine cs_get cG X0 hx hZ hown (wd 27 _ rfl) e0 F_a1_chains (hb hby d11_1) ?_
  intro T1 X1 e1
  refine cs_V cG X1 hx hZ hown (wd 73 _ rfl) (wd 74 _ rfl) (wd 76 _ rfl) (wd 75 _ rfl) (wd 12 _ rfl) (wd 77 _ rfl) (by decide) (rm12_2_2 l Z a0 hw [] dq ar k_ar h0 n0 Z0 F_dq_elements F_dq_tail V_ar) (by decide) (by decide) (by decide) (by decide) e1 E_dq (by rw [hml]; rfl) (argsL := []) (S := []) (lenOf pd_9 rfl) rfl (W := 0) (Nat.le_of_eq rfl) (hb hby d11_4) rfl ?_
  intro v2 T2 L2 X2 hQ2
  obtain ⟨rfl, N2q, e2⟩ := hQ2
  have NN := Fr.app NN N2q
  show own_Go _ _ _ _ T2 (mkF m 7 #[vr a1, vi p2, vj q3, .second, .unset] [.null])
  refine own_go (fun t k => X2.checkcastNull hx (g := (mkF m 7 #[vr a1, vi p2, vj q3, .second, .unset] [.null])) rfl rfl (hb hby d11_7) t k) ?_
  show own_Go _ _ _ _ T2 (mkF m 10 #[vr a1, vi p2, vj q3, .second, .unset] [.null])
  refine cs_astore cG X2 hx (hb hby d11_10) rfl (l' := #[vr a1, vi p2, vj q3, .second, .val .null]) rfl ?_
  refine cs_aload cG X2 hx (hb hby d11_12) rfl rfl ?_
  refine cs_ifnullYes cG X2 hx (pc' := 31) (hb hby d11_14) (by decide) (by decide) ?_
  refine cs_aloadN cG X2 hx (hb hby d11_31) rfl rfl ?_
  refine cs_get cG X2 hx hZ hown (wd 27 _ rfl) e2 F_a1_chains (hb hby d11_32) ?_
  intro T3 X3 e3
  obtain ⟨T4, h4, X4, e4, E4, A4, D4, -, st4⟩ := newO X3 hx hZ hown (wd 84 _ rfl) (wd 85 _ rfl) (wd 86 _ rfl) e3 (g := (mkF m 35 #[vr a1, vi p2, vj q3, .second, .val .null] [(.ref dq)])) rfl (hb hby d11_35) (by decide) (by decide)
  obtain ⟨b4, g4⟩ : ∃ z, z = h0.size := ⟨_, rfl⟩
  rw [← g4] at A4 D4 st4
  have g_b4 : n0 ≤ b4 := Nat.le_trans Z0 (Nat.le_of_eq g4.symm)
  have sz_b4 : h0.size ≤ b4 := Nat.le_trans KK.1 (Nat.le_of_eq g4.symm)
  have ne_dq_b4 : dq ≠ b4 := Nat.ne_of_lt (Nat.lt_of_lt_of_le F_dq_elements.lt (Nat.le_of_eq g4.symm))
  have ne_ar_b4 : ar ≠ b4 := Nat.ne_of_lt (Nat.lt_of_lt_of_le V_ar.lt (Nat.le_of_eq g4.symm))
  have F_dq_elements := F_dq_elements.ext E4
  have F_dq_tail := F_dq_tail.ext E4
  have V_ar := V_ar.ext E4
  have E_dq := E_dq.ext E4
  have F_dq_head := F_dq_head.ext E4
  have Z0 := Nat.le_trans Z0 E4.1
  have KK := KK.ext E4
  have E_b4 := A4
  have F_b4_size : Fld Z h4 b4 own_cP "size" "J" (.long (0 : Int64)) := D4 (Or.inl (wd 92 _ rfl)) (ty := .long) (by decide)
  have F_b4_resumeStep : Fld Z h4 b4 own_cP "resumeStep" "J" (.long (0 : Int64)) := D4 (Or.inl (wd 94 _ rfl)) (ty := .long) (by decide)
  have F_b4_from : Fld Z h4 b4 own_cP "from" "I" (.int (0 : Int32)) := D4 (Or.inl (wd 96 _ rfl)) (ty := .int) (by decide)
  have F_b4_resume : Fld Z h4 b4 own_cP "resume" "J" (.long (0 : Int64)) := D4 (Or.inl (wd 98 _ rfl)) (ty := .long) (by decide)
  have F_b4_fromStep : Fld Z h4 b4 own_cP "fromStep" "I" (.int (0 : Int32)) := D4 (Or.inl (wd 124 _ rfl)) (ty := .int) (by decide)
  refine own_go st4 ?_
  show own_Go _ _ _ _ T4 (mkF m 38 #[vr a1, vi p2, vj q3, .second, .val .null] [(.ref b4), (.ref dq)])
  refine cs_dup cG X4 hx (hb hby d11_38) rfl ?_
  refine cs_iloadN cG X4 hx (hb hby d11_39) rfl ?_
  refine cs_lloadN cG X4 hx (hb hby d11_40) rfl ?_
  refine cs_I cG X4 hx hZ hown (wd 87 _ rfl) (wd 88 _ rfl) (wd 86 _ rfl) (wd 89 _ rfl) rfl (by decide) (rm15 l Z a0 hw [] b4 p2 q3 (0 : Int32) (0 : Int64) (0 : Int64) (0 : Int32) (0 : Int64) h4 n0 Z0 F_b4_from F_b4_resume F_b4_size F_b4_fromStep F_b4_resumeStep E_b4 g_b4) (by decide) (by decide) (by decide) (by decide) e4 (by rw [hml]; rfl) (argsL := [(.int p2), (.long q3)]) (S := [(.ref b4), (.ref dq)]) (lenOf pd_8 rfl) rfl (W := 2) (Nat.le_of_eq rfl) (hb hby d11_41) rfl ?_
  intro v5 T5 L5 X5 hQ5
  obtain ⟨rfl, N5q, K5, Q5_0, Q5_1, Q5_2, Q5_3, Q5_4, Q5_5⟩ := hQ5
  have F_dq_elements := F_dq_elements.keep K5 (ninS ne_dq_b4 nin0)
  have F_dq_tail := F_dq_tail.keep K5 (ninS ne_dq_b4 nin0)
  have V_ar := V_ar.keep K5 (ninS ne_ar_b4 nin0)
  have E_dq := E_dq.keep K5
  have F_dq_head := F_dq_head.keep K5 (ninS ne_dq_b4 nin0)
  have E_b4 := Q5_0
  have F_b4_from := Q5_1
  have F_b4_resume := Q5_2
  have F_b4_size := Q5_3
  have F_b4_fromStep := Q5_4
  have F_b4_resumeStep := Q5_5
  have Z0 := Nat.le_trans Z0 K5.1
  have KK := KK.trans K5 (allS (Or.inr sz_b4) all0)
  have NN := Fr.app NN N5q
  show own_Go _ _ _ _ T5 (mkF m 44 #[vr a1, vi p2, vj q3, .second, .val .null] [(.ref b4), (.ref dq)])
  refine cs_V cG X5 hx hZ hown (wd 99 _ rfl) (wd 100 _ rfl) (wd 102 _ rfl) (wd 101 _ rfl) (wd 12 _ rfl) (wd 103 _ rfl) (by decide) (rm16_2_2 l Z a0 hw [] dq b4 ar k_ar T5.heap n0 Z0 F_dq_elements F_dq_tail O_ar V_ar E_b4 ne_dq_ar g_ar F_dq_head E_dq g_dq) (by decide) (by decide) (by decide) (by decide) rfl E_dq (by rw [hml]; rfl) (argsL := [(.ref b4)]) (S := []) (lenOf pd_12 rfl) rfl (W := 0) (Nat.le_of_eq rfl) (hb hby d11_44) rfl ?_
  intro v6 T6 L6 X6 hQ6
  obtain ⟨rfl, N6q, K6, Q6_0, Q6_1, Q6_2, Q6_3, Q6_4⟩ := hQ6
  have E_b4 := E_b4.keep K6
  have F_b4_size := F_b4_size.keep K6 (ninS (Ne.symm ne_ar_b4) (ninS (Ne.symm ne_dq_b4) nin0))
  have F_b4_resumeStep := F_b4_resumeStep.keep K6 (ninS (Ne.symm ne_ar_b4) (ninS (Ne.symm ne_dq_b4) nin0))
  have F_b4_from := F_b4_from.keep K6 (ninS (Ne.symm ne_ar_b4) (ninS (Ne.symm ne_dq_b4) nin0))
  have F_b4_resume := F_b4_resume.keep K6 (ninS (Ne.symm ne_ar_b4) (ninS (Ne.symm ne_dq_b4) nin0))
  have F_b4_fromStep := F_b4_fromStep.keep K6 (ninS (Ne.symm ne_ar_b4) (ninS (Ne.symm ne_dq_b4) nin0))
  have V_ar := Q6_0
  have E_dq := Q6_1
  have F_dq_elements := Q6_2
  have F_dq_tail := Q6_3
  have F_dq_head := Q6_4
  have KK := KK.trans K6 (allS (Or.inl (List.mem_of_getElem? (i := 1) rfl)) (allS (Or.inl (List.mem_of_getElem? (i := 0) rfl)) all0))
  have NN := Fr.app NN N6q
  show own_Go _ _ _ _ T6 (mkF m 47 #[vr a1, vi p2, vj q3, .second, .val .null] [])
  show own_Go _ _ _ _ T6 (mkF m 47 #[vr a1, vi p2, vj q3, .second, .val .null] [])
  obtain ⟨fs, hr, hrun, hended, hW, hsame⟩ := X6.leave (v := none) (fun _ => rfl)
  refine ⟨_, _, ?_, hrun, hended, _, _, rfl, ?_, ⟨_, rfl⟩, hW, hsame.mono (by decide) (by decide)⟩
  · exact X6.returnOut hx Bd.returns (hb hby d11_47) hr
  · show Q11_o_2_2 Z a1 p2 q3 dq ar k_ar h0 n0 _ T6.heap _
    exact ⟨b4, rfl, NN, KK, E_dq, F_dq_elements, F_dq_tail, F_dq_head, V_ar, g_b4, sz_b4, E_b4, F_b4_size, F_b4_resumeStep, F_b4_from, F_b4_resume, F_b4_fromStep⟩
theorem d11_17 : decode prog_29_method_7_code 17 = .ok (.aload 4, 2) := by decide +kernel
theorem d11_19 : decode prog_29_method_7_code 19 = .ok (.iload_n 1, 1) := by decide +kernel
theorem d11_20 : decode prog_29_method_7_code 20 = .ok (.lload_n 2, 1) := by decide +kernel
theorem d11_21 : decode prog_29_method_7_code 21 = .ok (.aload_n 0, 1) := by decide +kernel
theorem d11_22 : decode prog_29_method_7_code 22 = .ok (.getfield 16, 3) := by decide +kernel
theorem d11_25 : decode prog_29_method_7_code 25 = .ok (.invokevirtual 107, 3) := by decide +kernel
theorem d11_28 : decode prog_29_method_7_code 28 = .ok (.ifCond .ne 19, 3) := by decide +kernel
theorem pd_13 : parseMethodDescriptor "(IJI)Z" = some ⟨[.int, .long, .int], some .boolean⟩ := by decide +kernel
theorem ef_11_e_0_1 (m : MethodId) (a1 : Addr) (p2 : Int32) (q3 : Int64) : entryFrame m #[(.ref a1), (.int p2), (.long q3)] 5 = mkF m 0 #[.val (.ref a1), .val (.int p2), .val (.long q3), .second, .unset] [] := by first | (simp [entryFrame, mkF, argsToLocals, Value.category]; done) | rfl
def Q11_e_0_1 (Z : State) (a1 : Addr) (p2 : Int32) (q3 : Int64) (dq : Addr) (ar : Addr) (k_ar : ClassId) (x0 : Addr) (nL : Int32) (sa0 : Int64) (fa0 : Int32) (ga0 : Int32) (ra0 : Int64) (ka0 : Int64) (h0 : Heap) (n0 : Nat) (v : Option Value) (h : Heap) (L : List Loc) : Prop := v = none ∧ Fr n0 L ∧ Keep h0 h [x0] ∧ Exa Z h x0 own_cP ∧ Fld Z h x0 own_cP "size" "J" (.long (u_20_a1_size p2 q3 nL sa0 fa0 ga0 ra0 ka0)) ∧ Fld Z h x0 own_cP "from" "I" (.int fa0) ∧ Fld Z h x0 own_cP "fromStep" "I" (.int (u_20_a1_fromStep p2 q3 nL sa0 fa0 ga0 ra0 ka0)) ∧ Fld Z h x0 own_cP "resume" "J" (.long ra0) ∧ Fld Z h x0 own_cP "resumeStep" "J" (.long (u_20_a1_resumeStep p2 q3 nL sa0 fa0 ga0 ra0 ka0))
set_option maxRecDepth 65536 in
set_option maxHeartbeats 40000000 in
theorem rm11_e_0_1 (l : Launch) (Z : State) (a0 : Array Value) (hw : ∀ d ∈ tables_1, d.before a0 Z = true) (ws : List Jvm.Cond) (a1 : Addr) (p2 : Int32) (q3 : Int64) (dq : Addr) (ar : Addr) (k_ar : ClassId) (x0 : Addr) (nL : Int32) (sa0 : Int64) (fa0 : Int32) (ga0 : Int32) (ra0 : Int64) (ka0 : Int64) (h0 : Heap) (n0 : Nat) (Z0 : n0 ≤ h0.size) (F_a1_chains : Fld Z h0 a1 own_cC "chains" "Ljava/util/ArrayDeque;" (.ref dq)) (F_dq_elements : Fld Z h0 dq own_cD "elements" "[Ljava/lang/Object;" (.ref ar)) (F_dq_tail : Fld Z h0 dq own_cD "tail" "I" (.int (1 : Int32))) (O_ar : Ovr Z k_ar "java/lang/Object") (V_ar : Arv Z h0 ar k_ar (.object "java/lang/Object") (17 : Int32) [(.ref x0), .null, .null, .null, .null, .null, .null, .null, .null, .null, .null, .null, .null, .null, .null, .null, .null] .null) (E_dq : Exa Z h0 dq own_cD) (E_x0 : Exa Z h0 x0 own_cP) (F_a1_length : Fld Z h0 a1 own_cC "length" "I" (.int nL)) (F_x0_size : Fld Z h0 x0 own_cP "size" "J" (.long sa0)) (F_x0_from : Fld Z h0 x0 own_cP "from" "I" (.int fa0)) (F_x0_fromStep : Fld Z h0 x0 own_cP "fromStep" "I" (.int ga0)) (F_x0_resume : Fld Z h0 x0 own_cP "resume" "J" (.long ra0)) (F_x0_resumeStep : Fld Z h0 x0 own_cP "resumeStep" "J" (.long ka0)) (g_x0 : n0 ≤ x0) (hhnz26_25 : ¬ (nL.toInt64 = (0 : Int64))) (hhhnz2_31_25 : ¬ (nL = (0 : Int32))) (ne_a1_x0 : a1 ≠ x0) (ne_dq_x0 : dq ≠ x0) (ne_ar_x0 : ar ≠ x0) (hc28 : ¬ ((r_20 p2 q3 nL sa0 fa0 ga0 ra0 ka0) = (0 : Int32))) :
    own_Met l (⟨own_cC, "append", "(IJ)V"⟩ : MethodName) prog_29_method_7_code 5 none ws ({ frames := 2, cells := 0, slots := 0, locals := 35 } : Room) #[(.ref a1), (.int p2), (.long q3)] Z h0 (Q11_e_0_1 Z a1 p2 q3 dq ar k_ar x0 nL sa0 fa0 ga0 ra0 ka0 h0 n0) := by
  refine own_met (plainFor_of_name pn_3) ?_
  intro p e s m below meth c s₁ Bd hx hby hml hZ hown hnm X0 e0
  have wd : ∀ (i : Nat) (d : Jvm.Cond), tables_1[i]? = some d → d.before a0 Z = true := fun i d q => hw d (List.mem_of_getElem? q)
  have NN := Fr.nil n0
  have KK : Keep h0 h0 [x0] := Keep.refl h0 _
  refine own_start (ef_11_e_0_1 m a1 p2 q3) ?_
  refine cs_aloadN cG X0 hx (hb hby d11_0) rfl rfl ?_
  refine cs_get cG X0 hx hZ hown (wd 27 _ rfl) e0 F_a1_chains (hb hby d11_1) ?_
  intro T1 X1 e1
  refine cs_V cG X1 hx hZ hown (wd 73 _ rfl) (wd 74 _ rfl) (wd 76 _ rfl) (wd 75 _ rfl) (wd 12 _ rfl) (wd 77 _ rfl) (by decide) (rm12_0_1 l Z a0 hw [] dq ar k_ar x0 h0 n0 Z0 F_dq_elements F_dq_tail V_ar) (by decide) (by decide) (by decide) (by decide) e1 E_dq (by rw [hml]; rfl) (argsL := []) (S := []) (lenOf pd_9 rfl) rfl (W := 0) (Nat.le_of_eq rfl) (hb hby d11_4) rfl ?_
  intro v2 T2 L2 X2 hQ2
  obtain ⟨rfl, N2q, e2⟩ := hQ2
  have NN := Fr.app NN N2q
  show own_Go _ _ _ _ T2 (mkF m 7 #[vr a1, vi p2, vj q3, .second, .unset] [(.ref x0)])
  refine cs_cast cG X2 hx hZ hown (wd 84 _ rfl) e2 (Ins.self E_x0) (hb hby d11_7) ?_
  intro T3 X3 e3
  refine cs_astore cG X3 hx (hb hby d11_10) rfl (l' := #[vr a1, vi p2, vj q3, .second, vr x0]) rfl ?_
  refine cs_aload cG X3 hx (hb hby d11_12) rfl rfl ?_
  refine cs_ifnullNo cG X3 hx (hb hby d11_14) ?_
  refine cs_aload cG X3 hx (hb hby d11_17) rfl rfl ?_
  refine cs_iloadN cG X3 hx (hb hby d11_19) rfl ?_
  refine cs_lloadN cG X3 hx (hb hby d11_20) rfl ?_
  refine cs_aloadN cG X3 hx (hb hby d11_21) rfl rfl ?_
  refine cs_get cG X3 hx hZ hown (wd 29 _ rfl) e3 F_a1_length (hb hby d11_22) ?_
  intro T4 X4 e4
  refine cs_V cG X4 hx hZ hown (wd 118 _ rfl) (wd 119 _ rfl) (wd 121 _ rfl) (wd 120 _ rfl) (wd 86 _ rfl) (wd 122 _ rfl) (by decide) (rm20 l Z a0 hw [] x0 p2 q3 nL sa0 fa0 ga0 ra0 ka0 h0 n0 Z0 F_x0_size F_x0_from F_x0_fromStep hhnz26_25 hhhnz2_31_25 F_x0_resume F_x0_resumeStep E_x0 g_x0) (by decide) (by decide) (by decide) (by decide) e4 E_x0 (by rw [hml]; rfl) (argsL := [(.int p2), (.long q3), (.int nL)]) (S := []) (lenOf pd_13 rfl) rfl (W := 0) (Nat.le_of_eq rfl) (hb hby d11_25) rfl ?_
  intro v5 T5 L5 X5 hQ5
  obtain ⟨rfl, N5q, K5, Q5_0, Q5_1, Q5_2, Q5_3, Q5_4, Q5_5⟩ := hQ5
  have E_x0 := Q5_0
  have F_x0_size := Q5_1
  have F_x0_from := Q5_2
  have F_x0_fromStep := Q5_3
  have F_x0_resume := Q5_4
  have F_x0_resumeStep := Q5_5
  have KK := KK.trans K5 (allS (Or.inl (List.mem_of_getElem? (i := 0) rfl)) all0)
  have NN := Fr.app NN N5q
  show own_Go _ _ _ _ T5 (mkF m 28 #[vr a1, vi p2, vj q3, .second, vr x0] [(.int (r_20 p2 q3 nL sa0 fa0 ga0 ra0 ka0))])
  refine cs_ifYes cG X5 hx (pc' := 47) (hb hby d11_28) ((if0 _ _).trans (feq hc28).2) (by decide) (by decide) ?_
  show own_Go _ _ _ _ T5 (mkF m 47 #[vr a1, vi p2, vj q3, .second, vr x0] [])
  obtain ⟨fs, hr, hrun, hended, hW, hsame⟩ := X5.leave (v := none) (fun _ => rfl)
  refine ⟨_, _, ?_, hrun, hended, _, _, rfl, ?_, ⟨_, rfl⟩, hW, hsame.mono (by decide) (by decide)⟩
  · exact X5.returnOut hx Bd.returns (hb hby d11_47) hr
  · show Q11_e_0_1 Z a1 p2 q3 dq ar k_ar x0 nL sa0 fa0 ga0 ra0 ka0 h0 n0 _ T5.heap _
    exact ⟨rfl, NN, KK, E_x0, F_x0_size, F_x0_from, F_x0_fromStep, F_x0_resume, F_x0_resumeStep⟩
theorem ef_11_e_0_2 (m : MethodId) (a1 : Addr) (p2 : Int32) (q3 : Int64) : entryFrame m #[(.ref a1), (.int p2), (.long q3)] 5 = mkF m 0 #[.val (.ref a1), .val (.int p2), .val (.long q3), .second, .unset] [] := by first | (simp [entryFrame, mkF, argsToLocals, Value.category]; done) | rfl
def Q11_e_0_2 (Z : State) (a1 : Addr) (p2 : Int32) (q3 : Int64) (dq : Addr) (ar : Addr) (k_ar : ClassId) (x0 : Addr) (x1 : Addr) (nL : Int32) (sa1 : Int64) (fa1 : Int32) (ga1 : Int32) (ra1 : Int64) (ka1 : Int64) (h0 : Heap) (n0 : Nat) (v : Option Value) (h : Heap) (L : List Loc) : Prop := v = none ∧ Fr n0 L ∧ Keep h0 h [x1] ∧ Exa Z h x1 own_cP ∧ Fld Z h x1 own_cP "size" "J" (.long (u_20_a1_size p2 q3 nL sa1 fa1 ga1 ra1 ka1)) ∧ Fld Z h x1 own_cP "from" "I" (.int fa1) ∧ Fld Z h x1 own_cP "fromStep" "I" (.int (u_20_a1_fromStep p2 q3 nL sa1 fa1 ga1 ra1 ka1)) ∧ Fld Z h x1 own_cP "resume" "J" (.long ra1) ∧ Fld Z h x1 own_cP "resumeStep" "J" (.long (u_20_a1_resumeStep p2 q3 nL sa1 fa1 ga1 ra1 ka1))
set_option maxRecDepth 65536 in
set_option maxHeartbeats 40000000 in
theorem rm11_e_0_2 (l : Launch) (Z : State) (a0 : Array Value) (hw : ∀ d ∈ tables_1, d.before a0 Z = true) (ws : List Jvm.Cond) (a1 : Addr) (p2 : Int32) (q3 : Int64) (dq : Addr) (ar : Addr) (k_ar : ClassId) (x0 : Addr) (x1 : Addr) (nL : Int32) (sa1 : Int64) (fa1 : Int32) (ga1 : Int32) (ra1 : Int64) (ka1 : Int64) (h0 : Heap) (n0 : Nat) (Z0 : n0 ≤ h0.size) (F_a1_chains : Fld Z h0 a1 own_cC "chains" "Ljava/util/ArrayDeque;" (.ref dq)) (F_dq_elements : Fld Z h0 dq own_cD "elements" "[Ljava/lang/Object;" (.ref ar)) (F_dq_tail : Fld Z h0 dq own_cD "tail" "I" (.int (2 : Int32))) (O_ar : Ovr Z k_ar "java/lang/Object") (V_ar : Arv Z h0 ar k_ar (.object "java/lang/Object") (17 : Int32) [(.ref x0), (.ref x1), .null, .null, .null, .null, .null, .null, .null, .null, .null, .null, .null, .null, .null, .null, .null] .null) (E_dq : Exa Z h0 dq own_cD) (E_x1 : Exa Z h0 x1 own_cP) (F_a1_length : Fld Z h0 a1 own_cC "length" "I" (.int nL)) (F_x1_size : Fld Z h0 x1 own_cP "size" "J" (.long sa1)) (F_x1_from : Fld Z h0 x1 own_cP "from" "I" (.int fa1)) (F_x1_fromStep : Fld Z h0 x1 own_cP "fromStep" "I" (.int ga1)) (F_x1_resume : Fld Z h0 x1 own_cP "resume" "J" (.long ra1)) (F_x1_resumeStep : Fld Z h0 x1 own_cP "resumeStep" "J" (.long ka1)) (g_x1 : n0 ≤ x1) (hhnz26_25 : ¬ (nL.toInt64 = (0 : Int64))) (hhhnz2_31_25 : ¬ (nL = (0 : Int32))) (ne_a1_x1 : a1 ≠ x1) (ne_dq_x1 : dq ≠ x1) (ne_ar_x1 : ar ≠ x1) (hc28 : ¬ ((r_20 p2 q3 nL sa1 fa1 ga1 ra1 ka1) = (0 : Int32))) :
    own_Met l (⟨own_cC, "append", "(IJ)V"⟩ : MethodName) prog_29_method_7_code 5 none ws ({ frames := 2, cells := 0, slots := 0, locals := 35 } : Room) #[(.ref a1), (.int p2), (.long q3)] Z h0 (Q11_e_0_2 Z a1 p2 q3 dq ar k_ar x0 x1 nL sa1 fa1 ga1 ra1 ka1 h0 n0) := by
  refine own_met (plainFor_of_name pn_3) ?_
  intro p e s m below meth c s₁ Bd hx hby hml hZ hown hnm X0 e0
  have wd : ∀ (i : Nat) (d : Jvm.Cond), tables_1[i]? = some d → d.before a0 Z = true := fun i d q => hw d (List.mem_of_getElem? q)
  have NN := Fr.nil n0
  have KK : Keep h0 h0 [x1] := Keep.refl h0 _
  refine own_start (ef_11_e_0_2 m a1 p2 q3) ?_
  refine cs_aloadN cG X0 hx (hb hby d11_0) rfl rfl ?_
  refine cs_get cG X0 hx hZ hown (wd 27 _ rfl) e0 F_a1_chains (hb hby d11_1) ?_
  intro T1 X1 e1
  refine cs_V cG X1 hx hZ hown (wd 73 _ rfl) (wd 74 _ rfl) (wd 76 _ rfl) (wd 75 _ rfl) (wd 12 _ rfl) (wd 77 _ rfl) (by decide) (rm12_0_2 l Z a0 hw [] dq ar k_ar x0 x1 h0 n0 Z0 F_dq_elements F_dq_tail V_ar) (by decide) (by decide) (by decide) (by decide) e1 E_dq (by rw [hml]; rfl) (argsL := []) (S := []) (lenOf pd_9 rfl) rfl (W := 0) (Nat.le_of_eq rfl) (hb hby d11_4) rfl ?_
  intro v2 T2 L2 X2 hQ2
  obtain ⟨rfl, N2q, e2⟩ := hQ2
  have NN := Fr.app NN N2q
  show own_Go _ _ _ _ T2 (mkF m 7 #[vr a1, vi p2, vj q3, .second, .unset] [(.ref x1)])
  refine cs_cast cG X2 hx hZ hown (wd 84 _ rfl) e2 (Ins.self E_x1) (hb hby d11_7) ?_
  intro T3 X3 e3
  refine cs_astore cG X3 hx (hb hby d11_10) rfl (l' := #[vr a1, vi p2, vj q3, .second, vr x1]) rfl ?_
  refine cs_aload cG X3 hx (hb hby d11_12) rfl rfl ?_
  refine cs_ifnullNo cG X3 hx (hb hby d11_14) ?_
  refine cs_aload cG X3 hx (hb hby d11_17) rfl rfl ?_
  refine cs_iloadN cG X3 hx (hb hby d11_19) rfl ?_
  refine cs_lloadN cG X3 hx (hb hby d11_20) rfl ?_
  refine cs_aloadN cG X3 hx (hb hby d11_21) rfl rfl ?_
  refine cs_get cG X3 hx hZ hown (wd 29 _ rfl) e3 F_a1_length (hb hby d11_22) ?_
  intro T4 X4 e4
  refine cs_V cG X4 hx hZ hown (wd 118 _ rfl) (wd 119 _ rfl) (wd 121 _ rfl) (wd 120 _ rfl) (wd 86 _ rfl) (wd 122 _ rfl) (by decide) (rm20 l Z a0 hw [] x1 p2 q3 nL sa1 fa1 ga1 ra1 ka1 h0 n0 Z0 F_x1_size F_x1_from F_x1_fromStep hhnz26_25 hhhnz2_31_25 F_x1_resume F_x1_resumeStep E_x1 g_x1) (by decide) (by decide) (by decide) (by decide) e4 E_x1 (by rw [hml]; rfl) (argsL := [(.int p2), (.long q3), (.int nL)]) (S := []) (lenOf pd_13 rfl) rfl (W := 0) (Nat.le_of_eq rfl) (hb hby d11_25) rfl ?_
  intro v5 T5 L5 X5 hQ5
  obtain ⟨rfl, N5q, K5, Q5_0, Q5_1, Q5_2, Q5_3, Q5_4, Q5_5⟩ := hQ5
  have E_x1 := Q5_0
  have F_x1_size := Q5_1
  have F_x1_from := Q5_2
  have F_x1_fromStep := Q5_3
  have F_x1_resume := Q5_4
  have F_x1_resumeStep := Q5_5
  have KK := KK.trans K5 (allS (Or.inl (List.mem_of_getElem? (i := 0) rfl)) all0)
  have NN := Fr.app NN N5q
  show own_Go _ _ _ _ T5 (mkF m 28 #[vr a1, vi p2, vj q3, .second, vr x1] [(.int (r_20 p2 q3 nL sa1 fa1 ga1 ra1 ka1))])
  refine cs_ifYes cG X5 hx (pc' := 47) (hb hby d11_28) ((if0 _ _).trans (feq hc28).2) (by decide) (by decide) ?_
  show own_Go _ _ _ _ T5 (mkF m 47 #[vr a1, vi p2, vj q3, .second, vr x1] [])
  obtain ⟨fs, hr, hrun, hended, hW, hsame⟩ := X5.leave (v := none) (fun _ => rfl)
  refine ⟨_, _, ?_, hrun, hended, _, _, rfl, ?_, ⟨_, rfl⟩, hW, hsame.mono (by decide) (by decide)⟩
  · exact X5.returnOut hx Bd.returns (hb hby d11_47) hr
  · show Q11_e_0_2 Z a1 p2 q3 dq ar k_ar x0 x1 nL sa1 fa1 ga1 ra1 ka1 h0 n0 _ T5.heap _
    exact ⟨rfl, NN, KK, E_x1, F_x1_size, F_x1_from, F_x1_fromStep, F_x1_resume, F_x1_resumeStep⟩
theorem ef_11_e_1_2 (m : MethodId) (a1 : Addr) (p2 : Int32) (q3 : Int64) : entryFrame m #[(.ref a1), (.int p2), (.long q3)] 5 = mkF m 0 #[.val (.ref a1), .val (.int p2), .val (.long q3), .second, .unset] [] := by first | (simp [entryFrame, mkF, argsToLocals, Value.category]; done) | rfl
def Q11_e_1_2 (Z : State) (a1 : Addr) (p2 : Int32) (q3 : Int64) (dq : Addr) (ar : Addr) (k_ar : ClassId) (x1 : Addr) (nL : Int32) (sa1 : Int64) (fa1 : Int32) (ga1 : Int32) (ra1 : Int64) (ka1 : Int64) (h0 : Heap) (n0 : Nat) (v : Option Value) (h : Heap) (L : List Loc) : Prop := v = none ∧ Fr n0 L ∧ Keep h0 h [x1] ∧ Exa Z h x1 own_cP ∧ Fld Z h x1 own_cP "size" "J" (.long (u_20_a1_size p2 q3 nL sa1 fa1 ga1 ra1 ka1)) ∧ Fld Z h x1 own_cP "from" "I" (.int fa1) ∧ Fld Z h x1 own_cP "fromStep" "I" (.int (u_20_a1_fromStep p2 q3 nL sa1 fa1 ga1 ra1 ka1)) ∧ Fld Z h x1 own_cP "resume" "J" (.long ra1) ∧ Fld Z h x1 own_cP "resumeStep" "J" (.long (u_20_a1_resumeStep p2 q3 nL sa1 fa1 ga1 ra1 ka1))
set_option maxRecDepth 65536 in
set_option maxHeartbeats 40000000 in
theorem rm11_e_1_2 (l : Launch) (Z : State) (a0 : Array Value) (hw : ∀ d ∈ tables_1, d.before a0 Z = true) (ws : List Jvm.Cond) (a1 : Addr) (p2 : Int32) (q3 : Int64) (dq : Addr) (ar : Addr) (k_ar : ClassId) (x1 : Addr) (nL : Int32) (sa1 : Int64) (fa1 : Int32) (ga1 : Int32) (ra1 : Int64) (ka1 : Int64) (h0 : Heap) (n0 : Nat) (Z0 : n0 ≤ h0.size) (F_a1_chains : Fld Z h0 a1 own_cC "chains" "Ljava/util/ArrayDeque;" (.ref dq)) (F_dq_elements : Fld Z h0 dq own_cD "elements" "[Ljava/lang/Object;" (.ref ar)) (F_dq_tail : Fld Z h0 dq own_cD "tail" "I" (.int (2 : Int32))) (O_ar : Ovr Z k_ar "java/lang/Object") (V_ar : Arv Z h0 ar k_ar (.object "java/lang/Object") (17 : Int32) [.null, (.ref x1), .null, .null, .null, .null, .null, .null, .null, .null, .null, .null, .null, .null, .null, .null, .null] .null) (E_dq : Exa Z h0 dq own_cD) (E_x1 : Exa Z h0 x1 own_cP) (F_a1_length : Fld Z h0 a1 own_cC "length" "I" (.int nL)) (F_x1_size : Fld Z h0 x1 own_cP "size" "J" (.long sa1)) (F_x1_from : Fld Z h0 x1 own_cP "from" "I" (.int fa1)) (F_x1_fromStep : Fld Z h0 x1 own_cP "fromStep" "I" (.int ga1)) (F_x1_resume : Fld Z h0 x1 own_cP "resume" "J" (.long ra1)) (F_x1_resumeStep : Fld Z h0 x1 own_cP "resumeStep" "J" (.long ka1)) (g_x1 : n0 ≤ x1) (hhnz26_25 : ¬ (nL.toInt64 = (0 : Int64))) (hhhnz2_31_25 : ¬ (nL = (0 : Int32))) (ne_a1_x1 : a1 ≠ x1) (ne_dq_x1 : dq ≠ x1) (ne_ar_x1 : ar ≠ x1) (hc28 : ¬ ((r_20 p2 q3 nL sa1 fa1 ga1 ra1 ka1) = (0 : Int32))) :
    own_Met l (⟨own_cC, "append", "(IJ)V"⟩ : MethodName) prog_29_method_7_code 5 none ws ({ frames := 2, cells := 0, slots := 0, locals := 35 } : Room) #[(.ref a1), (.int p2), (.long q3)] Z h0 (Q11_e_1_2 Z a1 p2 q3 dq ar k_ar x1 nL sa1 fa1 ga1 ra1 ka1 h0 n0) := by
  refine own_met (plainFor_of_name pn_3) ?_
  intro p e s m below meth c s₁ Bd hx hby hml hZ hown hnm X0 e0
  have wd : ∀ (i : Nat) (d : Jvm.Cond), tables_1[i]? = some d → d.before a0 Z = true := fun i d q => hw d (List.mem_of_getElem? q)
  have NN := Fr.nil n0
  have KK : Keep h0 h0 [x1] := Keep.refl h0 _
  refine own_start (ef_11_e_1_2 m a1 p2 q3) ?_
  refine cs_aloadN cG X0 hx (hb hby d11_0) rfl rfl ?_
  refine cs_get cG X0 hx hZ hown (wd 27 _ rfl) e0 F_a1_chains (hb hby d11_1) ?_
  intro T1 X1 e1
  refine cs_V cG X1 hx hZ hown (wd 73 _ rfl) (wd 74 _ rfl) (wd 76 _ rfl) (wd 75 _ rfl) (wd 12 _ rfl) (wd 77 _ rfl) (by decide) (rm12_1_2 l Z a0 hw [] dq ar k_ar x1 h0 n0 Z0 F_dq_elements F_dq_tail V_ar) (by decide) (by decide) (by decide) (by decide) e1 E_dq (by rw [hml]; rfl) (argsL := []) (S := []) (lenOf pd_9 rfl) rfl (W := 0) (Nat.le_of_eq rfl) (hb hby d11_4) rfl ?_
  intro v2 T2 L2 X2 hQ2
  obtain ⟨rfl, N2q, e2⟩ := hQ2
  have NN := Fr.app NN N2q
  show own_Go _ _ _ _ T2 (mkF m 7 #[vr a1, vi p2, vj q3, .second, .unset] [(.ref x1)])
  refine cs_cast cG X2 hx hZ hown (wd 84 _ rfl) e2 (Ins.self E_x1) (hb hby d11_7) ?_
  intro T3 X3 e3
  refine cs_astore cG X3 hx (hb hby d11_10) rfl (l' := #[vr a1, vi p2, vj q3, .second, vr x1]) rfl ?_
  refine cs_aload cG X3 hx (hb hby d11_12) rfl rfl ?_
  refine cs_ifnullNo cG X3 hx (hb hby d11_14) ?_
  refine cs_aload cG X3 hx (hb hby d11_17) rfl rfl ?_
  refine cs_iloadN cG X3 hx (hb hby d11_19) rfl ?_
  refine cs_lloadN cG X3 hx (hb hby d11_20) rfl ?_
  refine cs_aloadN cG X3 hx (hb hby d11_21) rfl rfl ?_
  refine cs_get cG X3 hx hZ hown (wd 29 _ rfl) e3 F_a1_length (hb hby d11_22) ?_
  intro T4 X4 e4
  refine cs_V cG X4 hx hZ hown (wd 118 _ rfl) (wd 119 _ rfl) (wd 121 _ rfl) (wd 120 _ rfl) (wd 86 _ rfl) (wd 122 _ rfl) (by decide) (rm20 l Z a0 hw [] x1 p2 q3 nL sa1 fa1 ga1 ra1 ka1 h0 n0 Z0 F_x1_size F_x1_from F_x1_fromStep hhnz26_25 hhhnz2_31_25 F_x1_resume F_x1_resumeStep E_x1 g_x1) (by decide) (by decide) (by decide) (by decide) e4 E_x1 (by rw [hml]; rfl) (argsL := [(.int p2), (.long q3), (.int nL)]) (S := []) (lenOf pd_13 rfl) rfl (W := 0) (Nat.le_of_eq rfl) (hb hby d11_25) rfl ?_
  intro v5 T5 L5 X5 hQ5
  obtain ⟨rfl, N5q, K5, Q5_0, Q5_1, Q5_2, Q5_3, Q5_4, Q5_5⟩ := hQ5
  have E_x1 := Q5_0
  have F_x1_size := Q5_1
  have F_x1_from := Q5_2
  have F_x1_fromStep := Q5_3
  have F_x1_resume := Q5_4
  have F_x1_resumeStep := Q5_5
  have KK := KK.trans K5 (allS (Or.inl (List.mem_of_getElem? (i := 0) rfl)) all0)
  have NN := Fr.app NN N5q
  show own_Go _ _ _ _ T5 (mkF m 28 #[vr a1, vi p2, vj q3, .second, vr x1] [(.int (r_20 p2 q3 nL sa1 fa1 ga1 ra1 ka1))])
  refine cs_ifYes cG X5 hx (pc' := 47) (hb hby d11_28) ((if0 _ _).trans (feq hc28).2) (by decide) (by decide) ?_
  show own_Go _ _ _ _ T5 (mkF m 47 #[vr a1, vi p2, vj q3, .second, vr x1] [])
  obtain ⟨fs, hr, hrun, hended, hW, hsame⟩ := X5.leave (v := none) (fun _ => rfl)
  refine ⟨_, _, ?_, hrun, hended, _, _, rfl, ?_, ⟨_, rfl⟩, hW, hsame.mono (by decide) (by decide)⟩
  · exact X5.returnOut hx Bd.returns (hb hby d11_47) hr
  · show Q11_e_1_2 Z a1 p2 q3 dq ar k_ar x1 nL sa1 fa1 ga1 ra1 ka1 h0 n0 _ T5.heap _
    exact ⟨rfl, NN, KK, E_x1, F_x1_size, F_x1_from, F_x1_fromStep, F_x1_resume, F_x1_resumeStep⟩
theorem ef_11_n_0_1 (m : MethodId) (a1 : Addr) (p2 : Int32) (q3 : Int64) : entryFrame m #[(.ref a1), (.int p2), (.long q3)] 5 = mkF m 0 #[.val (.ref a1), .val (.int p2), .val (.long q3), .second, .unset] [] := by first | (simp [entryFrame, mkF, argsToLocals, Value.category]; done) | rfl
def Q11_n_0_1 (Z : State) (a1 : Addr) (p2 : Int32) (q3 : Int64) (dq : Addr) (ar : Addr) (k_ar : ClassId) (x0 : Addr) (nL : Int32) (sa0 : Int64) (fa0 : Int32) (ga0 : Int32) (ra0 : Int64) (ka0 : Int64) (h0 : Heap) (n0 : Nat) (v : Option Value) (h : Heap) (L : List Loc) : Prop := ∃ (b7 : Addr), v = none ∧ Fr n0 L ∧ Keep h0 h [x0, dq, ar] ∧ Exa Z h x0 own_cP ∧ Fld Z h x0 own_cP "size" "J" (.long (u_20_a1_size p2 q3 nL sa0 fa0 ga0 ra0 ka0)) ∧ Fld Z h x0 own_cP "from" "I" (.int fa0) ∧ Fld Z h x0 own_cP "fromStep" "I" (.int (u_20_a1_fromStep p2 q3 nL sa0 fa0 ga0 ra0 ka0)) ∧ Fld Z h x0 own_cP "resume" "J" (.long ra0) ∧ Fld Z h x0 own_cP "resumeStep" "J" (.long (u_20_a1_resumeStep p2 q3 nL sa0 fa0 ga0 ra0 ka0)) ∧ Exa Z h dq own_cD ∧ Fld Z h dq own_cD "elements" "[Ljava/lang/Object;" (.ref ar) ∧ Fld Z h dq own_cD "tail" "I" (.int (2 : Int32)) ∧ Fld Z h dq own_cD "head" "I" (.int (0 : Int32)) ∧ Arv Z h ar k_ar (.object "java/lang/Object") (17 : Int32) [(.ref x0), (.ref b7), .null, .null, .null, .null, .null, .null, .null, .null, .null, .null, .null, .null, .null, .null, .null] .null ∧ n0 ≤ b7 ∧ h0.size ≤ b7 ∧ Exa Z h b7 own_cP ∧ Fld Z h b7 own_cP "size" "J" (.long (1 : Int64)) ∧ Fld Z h b7 own_cP "resumeStep" "J" (.long (1 : Int64)) ∧ Fld Z h b7 own_cP "from" "I" (.int p2) ∧ Fld Z h b7 own_cP "resume" "J" (.long q3) ∧ Fld Z h b7 own_cP "fromStep" "I" (.int (0 : Int32))
set_option maxRecDepth 65536 in
set_option maxHeartbeats 40000000 in
theorem rm11_n_0_1 (l : Launch) (Z : State) (a0 : Array Value) (hw : ∀ d ∈ tables_1, d.before a0 Z = true) (ws : List Jvm.Cond) (a1 : Addr) (p2 : Int32) (q3 : Int64) (dq : Addr) (ar : Addr) (k_ar : ClassId) (x0 : Addr) (nL : Int32) (sa0 : Int64) (fa0 : Int32) (ga0 : Int32) (ra0 : Int64) (ka0 : Int64) (h0 : Heap) (n0 : Nat) (Z0 : n0 ≤ h0.size) (F_a1_chains : Fld Z h0 a1 own_cC "chains" "Ljava/util/ArrayDeque;" (.ref dq)) (F_dq_elements : Fld Z h0 dq own_cD "elements" "[Ljava/lang/Object;" (.ref ar)) (F_dq_tail : Fld Z h0 dq own_cD "tail" "I" (.int (1 : Int32))) (O_ar : Ovr Z k_ar "java/lang/Object") (V_ar : Arv Z h0 ar k_ar (.object "java/lang/Object") (17 : Int32) [(.ref x0), .null, .null, .null, .null, .null, .null, .null, .null, .null, .null, .null, .null, .null, .null, .null, .null] .null) (E_dq : Exa Z h0 dq own_cD) (E_x0 : Exa Z h0 x0 own_cP) (F_a1_length : Fld Z h0 a1 own_cC "length" "I" (.int nL)) (F_x0_size : Fld Z h0 x0 own_cP "size" "J" (.long sa0)) (F_x0_from : Fld Z h0 x0 own_cP "from" "I" (.int fa0)) (F_x0_fromStep : Fld Z h0 x0 own_cP "fromStep" "I" (.int ga0)) (F_x0_resume : Fld Z h0 x0 own_cP "resume" "J" (.long ra0)) (F_x0_resumeStep : Fld Z h0 x0 own_cP "resumeStep" "J" (.long ka0)) (g_x0 : n0 ≤ x0) (hhnz26_25 : ¬ (nL.toInt64 = (0 : Int64))) (hhhnz2_31_25 : ¬ (nL = (0 : Int32))) (ne_a1_x0 : a1 ≠ x0) (ne_dq_x0 : dq ≠ x0) (ne_ar_x0 : ar ≠ x0) (hc28 : (r_20 p2 q3 nL sa0 fa0 ga0 ra0 ka0) = (0 : Int32)) (ne_dq_ar : dq ≠ ar) (g_ar : n0 ≤ ar) (F_dq_head : Fld Z h0 dq own_cD "head" "I" (.int (0 : Int32))) (g_dq : n0 ≤ dq) (ne_a1_dq : a1 ≠ dq) (ne_a1_ar : a1 ≠ ar) :
    own_Met l (⟨own_cC, "append", "(IJ)V"⟩ : MethodName) prog_29_method_7_code 5 none ws ({ frames := 2, cells := 1, slots := 5, locals := 35 } : Room) #[(.ref a1), (.int p2), (.long q3)] Z h0 (Q11_n_0_1 Z a1 p2 q3 dq ar k_ar x0 nL sa0 fa0 ga0 ra0 ka0 h0 n0) := by
  refine own_met (plainFor_of_name pn_3) ?_
  intro p e s m below meth c s₁ Bd hx hby hml hZ hown hnm X0 e0
  have wd : ∀ (i : Nat) (d : Jvm.Cond), tables_1[i]? = some d → d.before a0 Z = true := fun i d q => hw d (List.mem_of_getElem? q)
  have NN := Fr.nil n0
  have KK : Keep h0 h0 [x0, dq, ar] := Keep.refl h0 _
  refine own_start (ef_11_n_0_1 m a1 p2 q3) ?_
  refine cs_aloadN cG X0 hx (hb hby d11_0) rfl rfl ?_
  refine cs_get cG X0 hx hZ hown (wd 27 _ rfl) e0 F_a1_chains (hb hby d11_1) ?_
  intro T1 X1 e1
  refine cs_V cG X1 hx hZ hown (wd 73 _ rfl) (wd 74 _ rfl) (wd 76 _ rfl) (wd 75 _ rfl) (wd 12 _ rfl) (wd 77 _ rfl) (by decide) (rm12_0_1 l Z a0 hw [] dq ar k_ar x0 h0 n0 Z0 F_dq_elements F_dq_tail V_ar) (by decide) (by decide) (by decide) (by decide) e1 E_dq (by rw [hml]; rfl) (argsL := []) (S := []) (lenOf pd_9 rfl) rfl (W := 0) (Nat.le_of_eq rfl) (hb hby d11_4) rfl ?_
  intro v2 T2 L2 X2 hQ2
  obtain ⟨rfl, N2q, e2⟩ := hQ2
  have NN := Fr.app NN N2q
  show own_Go _ _ _ _ T2 (mkF m 7 #[vr a1, vi p2, vj q3, .second, .unset] [(.ref x0)])
  refine cs_cast cG X2 hx hZ hown (wd 84 _ rfl) e2 (Ins.self E_x0) (hb hby d11_7) ?_
  intro T3 X3 e3
  refine cs_astore cG X3 hx (hb hby d11_10) rfl (l' := #[vr a1, vi p2, vj q3, .second, vr x0]) rfl ?_
  refine cs_aload cG X3 hx (hb hby d11_12) rfl rfl ?_
  refine cs_ifnullNo cG X3 hx (hb hby d11_14) ?_
  refine cs_aload cG X3 hx (hb hby d11_17) rfl rfl ?_
  refine cs_iloadN cG X3 hx (hb hby d11_19) rfl ?_
  refine cs_lloadN cG X3 hx (hb hby d11_20) rfl ?_
  refine cs_aloadN cG X3 hx (hb hby d11_21) rfl rfl ?_
  refine cs_get cG X3 hx hZ hown (wd 29 _ rfl) e3 F_a1_length (hb hby d11_22) ?_
  intro T4 X4 e4
  refine cs_V cG X4 hx hZ hown (wd 118 _ rfl) (wd 119 _ rfl) (wd 121 _ rfl) (wd 120 _ rfl) (wd 86 _ rfl) (wd 122 _ rfl) (by decide) (rm20 l Z a0 hw [] x0 p2 q3 nL sa0 fa0 ga0 ra0 ka0 h0 n0 Z0 F_x0_size F_x0_from F_x0_fromStep hhnz26_25 hhhnz2_31_25 F_x0_resume F_x0_resumeStep E_x0 g_x0) (by decide) (by decide) (by decide) (by decide) e4 E_x0 (by rw [hml]; rfl) (argsL := [(.int p2), (.long q3), (.int nL)]) (S := []) (lenOf pd_13 rfl) rfl (W := 0) (Nat.le_of_eq rfl) (hb hby d11_25) rfl ?_
  intro v5 T5 L5 X5 hQ5
  obtain ⟨rfl, N5q, K5, Q5_0, Q5_1, Q5_2, Q5_3, Q5_4, Q5_5⟩ := hQ5
  have F_a1_chains := F_a1_chains.keep K5 (ninS ne_a1_x0 nin0)
  have F_dq_elements := F_dq_elements.keep K5 (ninS ne_dq_x0 nin0)
  have F_dq_tail := F_dq_tail.keep K5 (ninS ne_dq_x0 nin0)
  have V_ar := V_ar.keep K5 (ninS ne_ar_x0 nin0)
  have E_dq := E_dq.keep K5
  have F_dq_head := F_dq_head.keep K5 (ninS ne_dq_x0 nin0)
  have E_x0 := Q5_0
  have F_x0_size := Q5_1
  have F_x0_from := Q5_2
  have F_x0_fromStep := Q5_3
  have F_x0_resume := Q5_4
  have F_x0_resumeStep := Q5_5
  have Z0 := Nat.le_trans Z0 K5.1
  have KK := KK.trans K5 (allS (Or.inl (List.mem_of_getElem? (i := 0) rfl)) all0)
  have NN := Fr.app NN N5q
  show own_Go _ _ _ _ T5 (mkF m 28 #[vr a1, vi p2, vj q3, .second, vr x0] [(.int (r_20 p2 q3 nL sa0 fa0 ga0 ra0 ka0))])
  refine cs_ifNo cG X5 hx (hb hby d11_28) ((if0 _ _).trans (teq hc28).2) ?_
  refine cs_aloadN cG X5 hx (hb hby d11_31) rfl rfl ?_
  refine cs_get cG X5 hx hZ hown (wd 27 _ rfl) rfl F_a1_chains (hb hby d11_32) ?_
  intro T6 X6 e6
  obtain ⟨T7, h7, X7, e7, E7, A7, D7, -, st7⟩ := newO X6 hx hZ hown (wd 84 _ rfl) (wd 85 _ rfl) (wd 86 _ rfl) e6 (g := (mkF m 35 #[vr a1, vi p2, vj q3, .second, vr x0] [(.ref dq)])) rfl (hb hby d11_35) (by decide) (by decide)
  obtain ⟨b7, g7⟩ : ∃ z, z = T5.heap.size := ⟨_, rfl⟩
  rw [← g7] at A7 D7 st7
  have g_b7 : n0 ≤ b7 := Nat.le_trans Z0 (Nat.le_of_eq g7.symm)
  have sz_b7 : h0.size ≤ b7 := Nat.le_trans KK.1 (Nat.le_of_eq g7.symm)
  have ne_dq_b7 : dq ≠ b7 := Nat.ne_of_lt (Nat.lt_of_lt_of_le F_dq_elements.lt (Nat.le_of_eq g7.symm))
  have ne_ar_b7 : ar ≠ b7 := Nat.ne_of_lt (Nat.lt_of_lt_of_le V_ar.lt (Nat.le_of_eq g7.symm))
  have ne_x0_b7 : x0 ≠ b7 := Nat.ne_of_lt (Nat.lt_of_lt_of_le E_x0.lt (Nat.le_of_eq g7.symm))
  have F_dq_elements := F_dq_elements.ext E7
  have F_dq_tail := F_dq_tail.ext E7
  have V_ar := V_ar.ext E7
  have E_dq := E_dq.ext E7
  have E_x0 := E_x0.ext E7
  have F_x0_size := F_x0_size.ext E7
  have F_x0_from := F_x0_from.ext E7
  have F_x0_fromStep := F_x0_fromStep.ext E7
  have F_x0_resume := F_x0_resume.ext E7
  have F_x0_resumeStep := F_x0_resumeStep.ext E7
  have F_dq_head := F_dq_head.ext E7
  have Z0 := Nat.le_trans Z0 E7.1
  have KK := KK.ext E7
  have E_b7 := A7
  have F_b7_size : Fld Z h7 b7 own_cP "size" "J" (.long (0 : Int64)) := D7 (Or.inl (wd 92 _ rfl)) (ty := .long) (by decide)
  have F_b7_resumeStep : Fld Z h7 b7 own_cP "resumeStep" "J" (.long (0 : Int64)) := D7 (Or.inl (wd 94 _ rfl)) (ty := .long) (by decide)
  have F_b7_from : Fld Z h7 b7 own_cP "from" "I" (.int (0 : Int32)) := D7 (Or.inl (wd 96 _ rfl)) (ty := .int) (by decide)
  have F_b7_resume : Fld Z h7 b7 own_cP "resume" "J" (.long (0 : Int64)) := D7 (Or.inl (wd 98 _ rfl)) (ty := .long) (by decide)
  have F_b7_fromStep : Fld Z h7 b7 own_cP "fromStep" "I" (.int (0 : Int32)) := D7 (Or.inl (wd 124 _ rfl)) (ty := .int) (by decide)
  refine own_go st7 ?_
  show own_Go _ _ _ _ T7 (mkF m 38 #[vr a1, vi p2, vj q3, .second, vr x0] [(.ref b7), (.ref dq)])
  refine cs_dup cG X7 hx (hb hby d11_38) rfl ?_
  refine cs_iloadN cG X7 hx (hb hby d11_39) rfl ?_
  refine cs_lloadN cG X7 hx (hb hby d11_40) rfl ?_
  refine cs_I cG X7 hx hZ hown (wd 87 _ rfl) (wd 88 _ rfl) (wd 86 _ rfl) (wd 89 _ rfl) rfl (by decide) (rm15 l Z a0 hw [] b7 p2 q3 (0 : Int32) (0 : Int64) (0 : Int64) (0 : Int32) (0 : Int64) h7 n0 Z0 F_b7_from F_b7_resume F_b7_size F_b7_fromStep F_b7_resumeStep E_b7 g_b7) (by decide) (by decide) (by decide) (by decide) e7 (by rw [hml]; rfl) (argsL := [(.int p2), (.long q3)]) (S := [(.ref b7), (.ref dq)]) (lenOf pd_8 rfl) rfl (W := 2) (Nat.le_of_eq rfl) (hb hby d11_41) rfl ?_
  intro v8 T8 L8 X8 hQ8
  obtain ⟨rfl, N8q, K8, Q8_0, Q8_1, Q8_2, Q8_3, Q8_4, Q8_5⟩ := hQ8
  have F_dq_elements := F_dq_elements.keep K8 (ninS ne_dq_b7 nin0)
  have F_dq_tail := F_dq_tail.keep K8 (ninS ne_dq_b7 nin0)
  have V_ar := V_ar.keep K8 (ninS ne_ar_b7 nin0)
  have E_dq := E_dq.keep K8
  have E_x0 := E_x0.keep K8
  have F_x0_size := F_x0_size.keep K8 (ninS ne_x0_b7 nin0)
  have F_x0_from := F_x0_from.keep K8 (ninS ne_x0_b7 nin0)
  have F_x0_fromStep := F_x0_fromStep.keep K8 (ninS ne_x0_b7 nin0)
  have F_x0_resume := F_x0_resume.keep K8 (ninS ne_x0_b7 nin0)
  have F_x0_resumeStep := F_x0_resumeStep.keep K8 (ninS ne_x0_b7 nin0)
  have F_dq_head := F_dq_head.keep K8 (ninS ne_dq_b7 nin0)
  have E_b7 := Q8_0
  have F_b7_from := Q8_1
  have F_b7_resume := Q8_2
  have F_b7_size := Q8_3
  have F_b7_fromStep := Q8_4
  have F_b7_resumeStep := Q8_5
  have Z0 := Nat.le_trans Z0 K8.1
  have KK := KK.trans K8 (allS (Or.inr sz_b7) all0)
  have NN := Fr.app NN N8q
  show own_Go _ _ _ _ T8 (mkF m 44 #[vr a1, vi p2, vj q3, .second, vr x0] [(.ref b7), (.ref dq)])
  refine cs_V cG X8 hx hZ hown (wd 99 _ rfl) (wd 100 _ rfl) (wd 102 _ rfl) (wd 101 _ rfl) (wd 12 _ rfl) (wd 103 _ rfl) (by decide) (rm16_0_1 l Z a0 hw [] dq b7 ar k_ar x0 T8.heap n0 Z0 F_dq_elements F_dq_tail O_ar V_ar E_b7 ne_dq_ar g_ar F_dq_head E_dq g_dq) (by decide) (by decide) (by decide) (by decide) rfl E_dq (by rw [hml]; rfl) (argsL := [(.ref b7)]) (S := []) (lenOf pd_12 rfl) rfl (W := 0) (Nat.le_of_eq rfl) (hb hby d11_44) rfl ?_
  intro v9 T9 L9 X9 hQ9
  obtain ⟨rfl, N9q, K9, Q9_0, Q9_1, Q9_2, Q9_3, Q9_4⟩ := hQ9
  have E_x0 := E_x0.keep K9
  have F_x0_size := F_x0_size.keep K9 (ninS (Ne.symm ne_ar_x0) (ninS (Ne.symm ne_dq_x0) nin0))
  have F_x0_from := F_x0_from.keep K9 (ninS (Ne.symm ne_ar_x0) (ninS (Ne.symm ne_dq_x0) nin0))
  have F_x0_fromStep := F_x0_fromStep.keep K9 (ninS (Ne.symm ne_ar_x0) (ninS (Ne.symm ne_dq_x0) nin0))
  have F_x0_resume := F_x0_resume.keep K9 (ninS (Ne.symm ne_ar_x0) (ninS (Ne.symm ne_dq_x0) nin0))
  have F_x0_resumeStep := F_x0_resumeStep.keep K9 (ninS (Ne.symm ne_ar_x0) (ninS (Ne.symm ne_dq_x0) nin0))
  have E_b7 := E_b7.keep K9
  have F_b7_size := F_b7_size.keep K9 (ninS (Ne.symm ne_ar_b7) (ninS (Ne.symm ne_dq_b7) nin0))
  have F_b7_resumeStep := F_b7_resumeStep.keep K9 (ninS (Ne.symm ne_ar_b7) (ninS (Ne.symm ne_dq_b7) nin0))
  have F_b7_from := F_b7_from.keep K9 (ninS (Ne.symm ne_ar_b7) (ninS (Ne.symm ne_dq_b7) nin0))
  have F_b7_resume := F_b7_resume.keep K9 (ninS (Ne.symm ne_ar_b7) (ninS (Ne.symm ne_dq_b7) nin0))
  have F_b7_fromStep := F_b7_fromStep.keep K9 (ninS (Ne.symm ne_ar_b7) (ninS (Ne.symm ne_dq_b7) nin0))
  have V_ar := Q9_0
  have E_dq := Q9_1
  have F_dq_elements := Q9_2
  have F_dq_tail := Q9_3
  have F_dq_head := Q9_4
  have KK := KK.trans K9 (allS (Or.inl (List.mem_of_getElem? (i := 2) rfl)) (allS (Or.inl (List.mem_of_getElem? (i := 1) rfl)) all0))
  have NN := Fr.app NN N9q
  show own_Go _ _ _ _ T9 (mkF m 47 #[vr a1, vi p2, vj q3, .second, vr x0] [])
  show own_Go _ _ _ _ T9 (mkF m 47 #[vr a1, vi p2, vj q3, .second, vr x0] [])
  obtain ⟨fs, hr, hrun, hended, hW, hsame⟩ := X9.leave (v := none) (fun _ => rfl)
  refine ⟨_, _, ?_, hrun, hended, _, _, rfl, ?_, ⟨_, rfl⟩, hW, hsame.mono (by decide) (by decide)⟩
  · exact X9.returnOut hx Bd.returns (hb hby d11_47) hr
  · show Q11_n_0_1 Z a1 p2 q3 dq ar k_ar x0 nL sa0 fa0 ga0 ra0 ka0 h0 n0 _ T9.heap _
    exact ⟨b7, rfl, NN, KK, E_x0, F_x0_size, F_x0_from, F_x0_fromStep, F_x0_resume, F_x0_resumeStep, E_dq, F_dq_elements, F_dq_tail, F_dq_head, V_ar, g_b7, sz_b7, E_b7, F_b7_size, F_b7_resumeStep, F_b7_from, F_b7_resume, F_b7_fromStep⟩
abbrev own_A : Type := Int64 × Int64 × Int32 × Nat × (Int32 × Int64 × Int64 × Int32 × Int64) × (Int32 × Int64)
def own_i (L : Int32) (p : Int64) (i : Int32) : Int32 := (if i < L then (if p < i.toInt64 then i else (r_10 (p + (1 : Int64)) (L.toInt64)).toInt32) else i)
def own_w (L : Int32) (p : Int64) (i : Int32) : Int32 := (if i < L then (if p < i.toInt64 then (0 : Int32) else (1 : Int32)) else (0 : Int32))
def own_d (L n m : Int32) : Int64 := (if m = n then L.toInt64 else (r_18 (m - n) L).toInt64)
def own_f (L : Int32) (f : Int32) (j : Int64) (g : Int32) : Int32 := ((f.toInt64 + (j * g.toInt64)) - ((f.toInt64 + (j * g.toInt64)) / L.toInt64) * L.toInt64).toInt32
def own_ap (L : Int32) (p t al : Int64) (n i f : Int32) (r s : Int64) (g : Int32) (k : Int64) : own_A :=
  if (r_20 n (p + L.toInt64) L s f g r k) = (0 : Int32) then (t + own_d L n (r_9_b_0_1 L i f), al, i, 2, (f, r, u_20_a1_size n (p + L.toInt64) L s f g r k, u_20_a1_fromStep n (p + L.toInt64) L s f g r k, u_20_a1_resumeStep n (p + L.toInt64) L s f g r k), (n, p + L.toInt64))
  else (t + own_d L n (r_9_b_0_1 L i f), al, i, 1, (f, r, u_20_a1_size n (p + L.toInt64) L s f g r k, u_20_a1_fromStep n (p + L.toInt64) L s f g r k, u_20_a1_resumeStep n (p + L.toInt64) L s f g r k), (0, 0))
def own_dr (L : Int32) (p t al : Int64) (n i f : Int32) (r s : Int64) (g : Int32) (k j : Int64) : own_A :=
  if j < s then own_ap L p t al n i (own_f L f j g) (r + (j * k)) (s - j) g k
  else (t + own_d L n (r_9_b_0_1 L i n), p + L.toInt64, i, 3, (0, 0, 0, 0, 0), (0, 0))
def own_tk1 (L : Int32) (p t al : Int64) (i f : Int32) (r s : Int64) (g : Int32) (k : Int64) : own_A :=
  if p < r then (if own_w L p i = (0 : Int32) then (t, al, own_i L p i, 1, (f, r, s, g, k), (0, 0)) else own_ap L p t al (r_9_b_0_1 L i f) (own_i L p i) f r s g k)
  else own_dr L p t al (r_9_b_0_1 L i f) (own_i L p i) f r s g k (r_10 s (((p - r) / k) + (1 : Int64)))
def own_t4 (t : Int64) : own_A := (t, 0, 0, 4, (0, 0, 0, 0, 0), (0, 0))
def own_tk2 (L : Int32) (p t al : Int64) (i f : Int32) (r s : Int64) (g : Int32) (k : Int64) (f2 : Int32) (r2 : Int64) : own_A :=
  if p < r then (if own_w L p i = (0 : Int32) then own_t4 t else own_t4 (t + own_d L (r_9_b_0_1 L i f) (r_9_b_0_1 L (own_i L p i) f)))
  else if (r_10 s (((p - r) / k) + (1 : Int64))) < s then own_t4 (t + own_d L (r_9_b_0_1 L i f) (r_9_b_0_1 L (own_i L p i) (own_f L f (r_10 s (((p - r) / k) + (1 : Int64))) g)))
  else if p < r2 then own_t4 (t + own_d L (r_9_b_0_1 L i f) (r_9_b_0_1 L (own_i L p i) f2))
  else own_t4 (t + own_d L (r_9_b_0_1 L i f) (r_9_b_0_1 L (own_i L p i) (r_9_b_0_1 L i f)))
def own_tk0 (L : Int32) (p t : Int64) (i : Int32) : own_A :=
  (t + (r_18 ((r_10 (p + (1 : Int64)) (L.toInt64)).toInt32 - i) L).toInt64, (9223372036854775807 : Int64), (r_10 (p + (1 : Int64)) (L.toInt64)).toInt32, 1, (i, p + L.toInt64, 1, 0, 1), (0, 0))
def own_tk3 (L : Int32) (p t : Int64) (i : Int32) : own_A := (t + L.toInt64, p + L.toInt64, i, 3, (0, 0, 0, 0, 0), (0, 0))
def own_tks (t al : Int64) (i : Int32) : own_A := (t, al, i, 3, (0, 0, 0, 0, 0), (0, 0))
def own_step (L : Int32) (A : own_A) (p : Int64) : own_A :=
  match A with
  | (t, al, i, 0, _, _) => if p < al then own_tk0 L p t i else own_tk3 L p t i
  | (t, al, i, 1, (f, r, s, g, k), _) => own_tk1 L p t al i f r s g k
  | (t, al, i, 2, (f, r, s, g, k), (f2, r2)) => own_tk2 L p t al i f r s g k f2 r2
  | (t, al, i, 3, _, _) => if p < al then own_tks t al i else own_tk3 L p t i
  | A => A
abbrev own_N1 (p : Int64) (L : Int32) (i : Int32) (r s k : Int64) : Prop := ¬ (L = (0 : Int32)) ∧ ¬ (L.toInt64 = (0 : Int64)) ∧ ¬ (k = (0 : Int64)) ∧ ¬ (s + (1 : Int64) = (1 : Int64)) ∧ (¬ (p < r) → own_i L p i = L ∧ ((r_10 s (((p - r) / k) + (1 : Int64))) < s → p < (r + ((r_10 s (((p - r) / k) + (1 : Int64))) * k)) ∧ ¬ ((s - (r_10 s (((p - r) / k) + (1 : Int64)))) + (1 : Int64) = (1 : Int64))))
abbrev own_N2 (p : Int64) (L : Int32) (i : Int32) (r s k r2 : Int64) : Prop := ¬ (L = (0 : Int32)) ∧ ¬ (L.toInt64 = (0 : Int64)) ∧ ¬ (k = (0 : Int64)) ∧ (¬ (p < r) → own_i L p i = L ∧ ((r_10 s (((p - r) / k) + (1 : Int64))) < s → p < (r + ((r_10 s (((p - r) / k) + (1 : Int64))) * k))) ∧ (¬ (p < r2) → ¬ ((r_10 (1 : Int64) (((p - r2) / (1 : Int64)) + (1 : Int64))) < (1 : Int64))))
abbrev own_N0 (p t : Int64) (L i : Int32) : Prop := ¬ (L = (0 : Int32)) ∧ ¬ ((0 : Int64) < t) ∧ i < L ∧ ¬ (p < i.toInt64) ∧ (r_10 (p + (1 : Int64)) (L.toInt64)).toInt32 < L ∧ ¬ ((r_10 (p + (1 : Int64)) (L.toInt64)).toInt32 = i) ∧ ¬ ((r_10 (p + (1 : Int64)) (L.toInt64)).toInt32 = L)
def own_ok (L : Int32) (A : own_A) (p : Int64) : Bool :=
  match A with
  | (t, al, i, 0, _, _) => if p < al then decide (own_N0 p t L i) else true
  | (_, al, i, 1, (_, r, s, _, k), _) => decide (p < al ∧ own_N1 p L i r s k)
  | (_, al, i, 2, (_, r, s, _, k), (_, r2)) => decide (p < al ∧ own_N2 p L i r s k r2)
  | (t, _, _, 3, _, _) => decide ((0 : Int64) < t)
  | _ => false
def own_A0 (L : Int32) : own_A := ((0 : Int64), (L - (1 : Int32)).toInt64, (0 : Int32), 0, (0, 0, 0, 0, 0), (0, 0))
def own_B0 (Z : State) (h : Heap) (n0 : Nat) (a1 : Addr) (nL : Int32) (nt : Int64) (na : Int64) (ni : Int32) : Prop := ∃ (dq : Addr), ∃ (ar : Addr), ∃ (k_ar : ClassId), Exa Z h a1 own_cC ∧ n0 ≤ a1 ∧ Fld Z h a1 own_cC "length" "I" (.int nL) ∧ Fld Z h a1 own_cC "turns" "J" (.long nt) ∧ Fld Z h a1 own_cC "alike" "J" (.long na) ∧ Fld Z h a1 own_cC "idle" "I" (.int ni) ∧ Fld Z h a1 own_cC "chains" "Ljava/util/ArrayDeque;" (.ref dq) ∧ Exa Z h dq own_cD ∧ n0 ≤ dq ∧ dq ≠ a1 ∧ Fld Z h dq own_cD "head" "I" (.int (0 : Int32)) ∧ Fld Z h dq own_cD "tail" "I" (.int (0 : Int32)) ∧ Fld Z h dq own_cD "elements" "[Ljava/lang/Object;" (.ref ar) ∧ Ovr Z k_ar "java/lang/Object" ∧ Arv Z h ar k_ar (.object "java/lang/Object") (17 : Int32) [.null, .null, .null, .null, .null, .null, .null, .null, .null, .null, .null, .null, .null, .null, .null, .null, .null] .null ∧ n0 ≤ ar ∧ ar ≠ a1 ∧ dq ≠ ar
def own_B1 (Z : State) (h : Heap) (n0 : Nat) (a1 : Addr) (nL : Int32) (nt : Int64) (na : Int64) (ni : Int32) (fa0 : Int32) (ra0 : Int64) (sa0 : Int64) (ga0 : Int32) (ka0 : Int64) : Prop := ∃ (dq : Addr), ∃ (ar : Addr), ∃ (k_ar : ClassId), ∃ (x0 : Addr), Exa Z h a1 own_cC ∧ n0 ≤ a1 ∧ Fld Z h a1 own_cC "length" "I" (.int nL) ∧ Fld Z h a1 own_cC "turns" "J" (.long nt) ∧ Fld Z h a1 own_cC "alike" "J" (.long na) ∧ Fld Z h a1 own_cC "idle" "I" (.int ni) ∧ Fld Z h a1 own_cC "chains" "Ljava/util/ArrayDeque;" (.ref dq) ∧ Exa Z h dq own_cD ∧ n0 ≤ dq ∧ dq ≠ a1 ∧ Fld Z h dq own_cD "head" "I" (.int (0 : Int32)) ∧ Fld Z h dq own_cD "tail" "I" (.int (1 : Int32)) ∧ Fld Z h dq own_cD "elements" "[Ljava/lang/Object;" (.ref ar) ∧ Ovr Z k_ar "java/lang/Object" ∧ Arv Z h ar k_ar (.object "java/lang/Object") (17 : Int32) [(.ref x0), .null, .null, .null, .null, .null, .null, .null, .null, .null, .null, .null, .null, .null, .null, .null, .null] .null ∧ n0 ≤ ar ∧ ar ≠ a1 ∧ dq ≠ ar ∧ Exa Z h x0 own_cP ∧ n0 ≤ x0 ∧ Fld Z h x0 own_cP "from" "I" (.int fa0) ∧ Fld Z h x0 own_cP "resume" "J" (.long ra0) ∧ Fld Z h x0 own_cP "size" "J" (.long sa0) ∧ Fld Z h x0 own_cP "fromStep" "I" (.int ga0) ∧ Fld Z h x0 own_cP "resumeStep" "J" (.long ka0) ∧ x0 ≠ a1 ∧ dq ≠ x0 ∧ ar ≠ x0
def own_B2 (Z : State) (h : Heap) (n0 : Nat) (a1 : Addr) (nL : Int32) (nt : Int64) (na : Int64) (ni : Int32) (fa0 : Int32) (ra0 : Int64) (sa0 : Int64) (ga0 : Int32) (ka0 : Int64) (fa1 : Int32) (ra1 : Int64) : Prop := ∃ (dq : Addr), ∃ (ar : Addr), ∃ (k_ar : ClassId), ∃ (x0 : Addr), ∃ (x1 : Addr), Exa Z h a1 own_cC ∧ n0 ≤ a1 ∧ Fld Z h a1 own_cC "length" "I" (.int nL) ∧ Fld Z h a1 own_cC "turns" "J" (.long nt) ∧ Fld Z h a1 own_cC "alike" "J" (.long na) ∧ Fld Z h a1 own_cC "idle" "I" (.int ni) ∧ Fld Z h a1 own_cC "chains" "Ljava/util/ArrayDeque;" (.ref dq) ∧ Exa Z h dq own_cD ∧ n0 ≤ dq ∧ dq ≠ a1 ∧ Fld Z h dq own_cD "head" "I" (.int (0 : Int32)) ∧ Fld Z h dq own_cD "tail" "I" (.int (2 : Int32)) ∧ Fld Z h dq own_cD "elements" "[Ljava/lang/Object;" (.ref ar) ∧ Ovr Z k_ar "java/lang/Object" ∧ Arv Z h ar k_ar (.object "java/lang/Object") (17 : Int32) [(.ref x0), (.ref x1), .null, .null, .null, .null, .null, .null, .null, .null, .null, .null, .null, .null, .null, .null, .null] .null ∧ n0 ≤ ar ∧ ar ≠ a1 ∧ dq ≠ ar ∧ Exa Z h x0 own_cP ∧ n0 ≤ x0 ∧ Fld Z h x0 own_cP "from" "I" (.int fa0) ∧ Fld Z h x0 own_cP "resume" "J" (.long ra0) ∧ Fld Z h x0 own_cP "size" "J" (.long sa0) ∧ Fld Z h x0 own_cP "fromStep" "I" (.int ga0) ∧ Fld Z h x0 own_cP "resumeStep" "J" (.long ka0) ∧ x0 ≠ a1 ∧ dq ≠ x0 ∧ ar ≠ x0 ∧ Exa Z h x1 own_cP ∧ n0 ≤ x1 ∧ Fld Z h x1 own_cP "from" "I" (.int fa1) ∧ Fld Z h x1 own_cP "resume" "J" (.long ra1) ∧ Fld Z h x1 own_cP "size" "J" (.long (1 : Int64)) ∧ Fld Z h x1 own_cP "fromStep" "I" (.int (0 : Int32)) ∧ Fld Z h x1 own_cP "resumeStep" "J" (.long (1 : Int64)) ∧ x1 ≠ a1 ∧ dq ≠ x1 ∧ ar ≠ x1 ∧ x0 ≠ x1
def own_B3 (Z : State) (h : Heap) (n0 : Nat) (a1 : Addr) (nL : Int32) (nt : Int64) (na : Int64) (ni : Int32) : Prop := ∃ (dq : Addr), ∃ (hh : Int32), Exa Z h a1 own_cC ∧ n0 ≤ a1 ∧ Fld Z h a1 own_cC "length" "I" (.int nL) ∧ Fld Z h a1 own_cC "turns" "J" (.long nt) ∧ Fld Z h a1 own_cC "alike" "J" (.long na) ∧ Fld Z h a1 own_cC "idle" "I" (.int ni) ∧ Fld Z h a1 own_cC "chains" "Ljava/util/ArrayDeque;" (.ref dq) ∧ Exa Z h dq own_cD ∧ dq ≠ a1 ∧ Fld Z h dq own_cD "head" "I" (.int hh) ∧ Fld Z h dq own_cD "tail" "I" (.int hh)
def own_B4 (Z : State) (h : Heap) (n0 : Nat) (a1 : Addr) (nL : Int32) (nt : Int64) : Prop := Exa Z h a1 own_cC ∧ n0 ≤ a1 ∧ Fld Z h a1 own_cC "length" "I" (.int nL) ∧ Fld Z h a1 own_cC "turns" "J" (.long nt)
def own_Bn (Z : State) (h : Heap) (n0 : Nat) (a1 : Addr) (L : Int32) (A : own_A) : Prop :=
  match A with
  | (t, al, i, 0, _, _) => own_B0 Z h n0 a1 L t al i
  | (t, al, i, 1, (f, r, s, g, k), _) => own_B1 Z h n0 a1 L t al i f r s g k
  | (t, al, i, 2, (f, r, s, g, k), (f2, r2)) => own_B2 Z h n0 a1 L t al i f r s g k f2 r2
  | (t, al, i, 3, _, _) => own_B3 Z h n0 a1 L t al i
  | (t, _, _, _, _, _) => own_B4 Z h n0 a1 L t
theorem own_mk0 {Z : State} {h : Heap} {n0 : Nat} {a1 : Addr} {nL : Int32} {nt : Int64} {na : Int64} {ni : Int32} {dq : Addr} {ar : Addr} {k_ar : ClassId} {z5 : Int32 × Int64 × Int64 × Int32 × Int64} {z2 : Int32 × Int64}  (E_a1 : Exa Z h a1 own_cC) (g_a1 : n0 ≤ a1) (F_a1_length : Fld Z h a1 own_cC "length" "I" (.int nL)) (F_a1_turns : Fld Z h a1 own_cC "turns" "J" (.long nt)) (F_a1_alike : Fld Z h a1 own_cC "alike" "J" (.long na)) (F_a1_idle : Fld Z h a1 own_cC "idle" "I" (.int ni)) (F_a1_chains : Fld Z h a1 own_cC "chains" "Ljava/util/ArrayDeque;" (.ref dq)) (E_dq : Exa Z h dq own_cD) (g_dq : n0 ≤ dq) (ne_dq_a1 : dq ≠ a1) (F_dq_head : Fld Z h dq own_cD "head" "I" (.int (0 : Int32))) (F_dq_tail : Fld Z h dq own_cD "tail" "I" (.int (0 : Int32))) (F_dq_elements : Fld Z h dq own_cD "elements" "[Ljava/lang/Object;" (.ref ar)) (O_ar : Ovr Z k_ar "java/lang/Object") (V_ar : Arv Z h ar k_ar (.object "java/lang/Object") (17 : Int32) [.null, .null, .null, .null, .null, .null, .null, .null, .null, .null, .null, .null, .null, .null, .null, .null, .null] .null) (g_ar : n0 ≤ ar) (ne_ar_a1 : ar ≠ a1) (ne_dq_ar : dq ≠ ar) : own_Bn Z h n0 a1 nL (nt, na, ni, 0, z5, z2) := by
  show own_B0 Z h n0 a1 nL nt na ni
  exact ⟨dq, ar, k_ar, E_a1, g_a1, F_a1_length, F_a1_turns, F_a1_alike, F_a1_idle, F_a1_chains, E_dq, g_dq, ne_dq_a1, F_dq_head, F_dq_tail, F_dq_elements, O_ar, V_ar, g_ar, ne_ar_a1, ne_dq_ar⟩
theorem own_mk1 {Z : State} {h : Heap} {n0 : Nat} {a1 : Addr} {nL : Int32} {nt : Int64} {na : Int64} {ni : Int32} {fa0 : Int32} {ra0 : Int64} {sa0 : Int64} {ga0 : Int32} {ka0 : Int64} {dq : Addr} {ar : Addr} {k_ar : ClassId} {x0 : Addr} {z2 : Int32 × Int64}  (E_a1 : Exa Z h a1 own_cC) (g_a1 : n0 ≤ a1) (F_a1_length : Fld Z h a1 own_cC "length" "I" (.int nL)) (F_a1_turns : Fld Z h a1 own_cC "turns" "J" (.long nt)) (F_a1_alike : Fld Z h a1 own_cC "alike" "J" (.long na)) (F_a1_idle : Fld Z h a1 own_cC "idle" "I" (.int ni)) (F_a1_chains : Fld Z h a1 own_cC "chains" "Ljava/util/ArrayDeque;" (.ref dq)) (E_dq : Exa Z h dq own_cD) (g_dq : n0 ≤ dq) (ne_dq_a1 : dq ≠ a1) (F_dq_head : Fld Z h dq own_cD "head" "I" (.int (0 : Int32))) (F_dq_tail : Fld Z h dq own_cD "tail" "I" (.int (1 : Int32))) (F_dq_elements : Fld Z h dq own_cD "elements" "[Ljava/lang/Object;" (.ref ar)) (O_ar : Ovr Z k_ar "java/lang/Object") (V_ar : Arv Z h ar k_ar (.object "java/lang/Object") (17 : Int32) [(.ref x0), .null, .null, .null, .null, .null, .null, .null, .null, .null, .null, .null, .null, .null, .null, .null, .null] .null) (g_ar : n0 ≤ ar) (ne_ar_a1 : ar ≠ a1) (ne_dq_ar : dq ≠ ar) (E_x0 : Exa Z h x0 own_cP) (g_x0 : n0 ≤ x0) (F_x0_from : Fld Z h x0 own_cP "from" "I" (.int fa0)) (F_x0_resume : Fld Z h x0 own_cP "resume" "J" (.long ra0)) (F_x0_size : Fld Z h x0 own_cP "size" "J" (.long sa0)) (F_x0_fromStep : Fld Z h x0 own_cP "fromStep" "I" (.int ga0)) (F_x0_resumeStep : Fld Z h x0 own_cP "resumeStep" "J" (.long ka0)) (ne_x0_a1 : x0 ≠ a1) (ne_dq_x0 : dq ≠ x0) (ne_ar_x0 : ar ≠ x0) : own_Bn Z h n0 a1 nL (nt, na, ni, 1, (fa0, ra0, sa0, ga0, ka0), z2) := by
  show own_B1 Z h n0 a1 nL nt na ni fa0 ra0 sa0 ga0 ka0
  exact ⟨dq, ar, k_ar, x0, E_a1, g_a1, F_a1_length, F_a1_turns, F_a1_alike, F_a1_idle, F_a1_chains, E_dq, g_dq, ne_dq_a1, F_dq_head, F_dq_tail, F_dq_elements, O_ar, V_ar, g_ar, ne_ar_a1, ne_dq_ar, E_x0, g_x0, F_x0_from, F_x0_resume, F_x0_size, F_x0_fromStep, F_x0_resumeStep, ne_x0_a1, ne_dq_x0, ne_ar_x0⟩
theorem own_mk2 {Z : State} {h : Heap} {n0 : Nat} {a1 : Addr} {nL : Int32} {nt : Int64} {na : Int64} {ni : Int32} {fa0 : Int32} {ra0 : Int64} {sa0 : Int64} {ga0 : Int32} {ka0 : Int64} {fa1 : Int32} {ra1 : Int64} {dq : Addr} {ar : Addr} {k_ar : ClassId} {x0 : Addr} {x1 : Addr}  (E_a1 : Exa Z h a1 own_cC) (g_a1 : n0 ≤ a1) (F_a1_length : Fld Z h a1 own_cC "length" "I" (.int nL)) (F_a1_turns : Fld Z h a1 own_cC "turns" "J" (.long nt)) (F_a1_alike : Fld Z h a1 own_cC "alike" "J" (.long na)) (F_a1_idle : Fld Z h a1 own_cC "idle" "I" (.int ni)) (F_a1_chains : Fld Z h a1 own_cC "chains" "Ljava/util/ArrayDeque;" (.ref dq)) (E_dq : Exa Z h dq own_cD) (g_dq : n0 ≤ dq) (ne_dq_a1 : dq ≠ a1) (F_dq_head : Fld Z h dq own_cD "head" "I" (.int (0 : Int32))) (F_dq_tail : Fld Z h dq own_cD "tail" "I" (.int (2 : Int32))) (F_dq_elements : Fld Z h dq own_cD "elements" "[Ljava/lang/Object;" (.ref ar)) (O_ar : Ovr Z k_ar "java/lang/Object") (V_ar : Arv Z h ar k_ar (.object "java/lang/Object") (17 : Int32) [(.ref x0), (.ref x1), .null, .null, .null, .null, .null, .null, .null, .null, .null, .null, .null, .null, .null, .null, .null] .null) (g_ar : n0 ≤ ar) (ne_ar_a1 : ar ≠ a1) (ne_dq_ar : dq ≠ ar) (E_x0 : Exa Z h x0 own_cP) (g_x0 : n0 ≤ x0) (F_x0_from : Fld Z h x0 own_cP "from" "I" (.int fa0)) (F_x0_resume : Fld Z h x0 own_cP "resume" "J" (.long ra0)) (F_x0_size : Fld Z h x0 own_cP "size" "J" (.long sa0)) (F_x0_fromStep : Fld Z h x0 own_cP "fromStep" "I" (.int ga0)) (F_x0_resumeStep : Fld Z h x0 own_cP "resumeStep" "J" (.long ka0)) (ne_x0_a1 : x0 ≠ a1) (ne_dq_x0 : dq ≠ x0) (ne_ar_x0 : ar ≠ x0) (E_x1 : Exa Z h x1 own_cP) (g_x1 : n0 ≤ x1) (F_x1_from : Fld Z h x1 own_cP "from" "I" (.int fa1)) (F_x1_resume : Fld Z h x1 own_cP "resume" "J" (.long ra1)) (F_x1_size : Fld Z h x1 own_cP "size" "J" (.long (1 : Int64))) (F_x1_fromStep : Fld Z h x1 own_cP "fromStep" "I" (.int (0 : Int32))) (F_x1_resumeStep : Fld Z h x1 own_cP "resumeStep" "J" (.long (1 : Int64))) (ne_x1_a1 : x1 ≠ a1) (ne_dq_x1 : dq ≠ x1) (ne_ar_x1 : ar ≠ x1) (ne_x0_x1 : x0 ≠ x1) : own_Bn Z h n0 a1 nL (nt, na, ni, 2, (fa0, ra0, sa0, ga0, ka0), (fa1, ra1)) := by
  show own_B2 Z h n0 a1 nL nt na ni fa0 ra0 sa0 ga0 ka0 fa1 ra1
  exact ⟨dq, ar, k_ar, x0, x1, E_a1, g_a1, F_a1_length, F_a1_turns, F_a1_alike, F_a1_idle, F_a1_chains, E_dq, g_dq, ne_dq_a1, F_dq_head, F_dq_tail, F_dq_elements, O_ar, V_ar, g_ar, ne_ar_a1, ne_dq_ar, E_x0, g_x0, F_x0_from, F_x0_resume, F_x0_size, F_x0_fromStep, F_x0_resumeStep, ne_x0_a1, ne_dq_x0, ne_ar_x0, E_x1, g_x1, F_x1_from, F_x1_resume, F_x1_size, F_x1_fromStep, F_x1_resumeStep, ne_x1_a1, ne_dq_x1, ne_ar_x1, ne_x0_x1⟩
theorem own_mk3 {Z : State} {h : Heap} {n0 : Nat} {a1 : Addr} {nL : Int32} {nt : Int64} {na : Int64} {ni : Int32} {dq : Addr} {hh : Int32} {z5 : Int32 × Int64 × Int64 × Int32 × Int64} {z2 : Int32 × Int64}  (E_a1 : Exa Z h a1 own_cC) (g_a1 : n0 ≤ a1) (F_a1_length : Fld Z h a1 own_cC "length" "I" (.int nL)) (F_a1_turns : Fld Z h a1 own_cC "turns" "J" (.long nt)) (F_a1_alike : Fld Z h a1 own_cC "alike" "J" (.long na)) (F_a1_idle : Fld Z h a1 own_cC "idle" "I" (.int ni)) (F_a1_chains : Fld Z h a1 own_cC "chains" "Ljava/util/ArrayDeque;" (.ref dq)) (E_dq : Exa Z h dq own_cD) (ne_dq_a1 : dq ≠ a1) (F_dq_head : Fld Z h dq own_cD "head" "I" (.int hh)) (F_dq_tail : Fld Z h dq own_cD "tail" "I" (.int hh)) : own_Bn Z h n0 a1 nL (nt, na, ni, 3, z5, z2) := by
  show own_B3 Z h n0 a1 nL nt na ni
  exact ⟨dq, hh, E_a1, g_a1, F_a1_length, F_a1_turns, F_a1_alike, F_a1_idle, F_a1_chains, E_dq, ne_dq_a1, F_dq_head, F_dq_tail⟩
theorem own_mk4 {Z : State} {h : Heap} {n0 : Nat} {a1 : Addr} {nL : Int32} {nt : Int64}  (E_a1 : Exa Z h a1 own_cC) (g_a1 : n0 ≤ a1) (F_a1_length : Fld Z h a1 own_cC "length" "I" (.int nL)) (F_a1_turns : Fld Z h a1 own_cC "turns" "J" (.long nt)) : own_Bn Z h n0 a1 nL (own_t4 nt) := by
  show own_B4 Z h n0 a1 nL nt
  exact ⟨E_a1, g_a1, F_a1_length, F_a1_turns⟩
theorem own_hd {Z : State} {h : Heap} {n0 : Nat} {a1 : Addr} {nL : Int32} {A : own_A} (hB : own_Bn Z h n0 a1 nL A) : Exa Z h a1 own_cC ∧ n0 ≤ a1 ∧ Fld Z h a1 own_cC "length" "I" (.int nL) ∧ Fld Z h a1 own_cC "turns" "J" (.long A.1) := by
  obtain ⟨nt, al, i, tag, ⟨f, r, s, g, k⟩, ⟨f2, r2⟩⟩ := A
  rcases tag with _ | _ | _ | _ | tag
  · obtain ⟨dq, ar, ka, h1, h2, h3, h4, -⟩ := (hB : own_B0 Z h n0 a1 nL nt al i); exact ⟨h1, h2, h3, h4⟩
  · obtain ⟨dq, ar, ka, x0, h1, h2, h3, h4, -⟩ := (hB : own_B1 Z h n0 a1 nL nt al i f r s g k); exact ⟨h1, h2, h3, h4⟩
  · obtain ⟨dq, ar, ka, x0, x1, h1, h2, h3, h4, -⟩ := (hB : own_B2 Z h n0 a1 nL nt al i f r s g k f2 r2); exact ⟨h1, h2, h3, h4⟩
  · obtain ⟨dq, hh, h1, h2, h3, h4, -⟩ := (hB : own_B3 Z h n0 a1 nL nt al i); exact ⟨h1, h2, h3, h4⟩
  · exact (hB : own_B4 Z h n0 a1 nL nt)
theorem own_pl_sz {n : Int32} {q : Int64} {L : Int32} {s : Int64} {f g : Int32} {r k : Int64} (h : ¬ (r_20 n q L s f g r k = (0 : Int32))) : u_20_a1_size n q L s f g r k = s + (1 : Int64) := by
  unfold r_20 at h
  unfold u_20_a1_size
  by_cases h1 : (1 : Int64) < s
  · rw [if_pos h1] at h ⊢
    split at h
    · split at h
      · rename_i h2 h3
        rw [if_pos h2, if_pos h3]
      · exact absurd rfl h
    · exact absurd rfl h
  · rw [if_neg h1]
theorem ef_7_s (m : MethodId) (a1 : Addr) : entryFrame m #[(.ref a1)] 1 = mkF m 0 #[.val (.ref a1)] [] := by first | (simp [entryFrame, mkF, argsToLocals, Value.category]; done) | rfl
def Q7_s (Z : State) (a1 : Addr) (hh : Int32) (h0 : Heap) (n0 : Nat) (v : Option Value) (h : Heap) (L : List Loc) : Prop := v = some (.int (1 : Int32)) ∧ Fr n0 L ∧ h = h0
set_option maxRecDepth 65536 in
set_option maxHeartbeats 40000000 in
theorem rm7_s (l : Launch) (Z : State) (a0 : Array Value) (hw : ∀ d ∈ tables_1, d.before a0 Z = true) (ws : List Jvm.Cond) (a1 : Addr) (hh : Int32) (h0 : Heap) (n0 : Nat) (Z0 : n0 ≤ h0.size) (F_a1_head : Fld Z h0 a1 own_cD "head" "I" (.int hh)) (F_a1_tail : Fld Z h0 a1 own_cD "tail" "I" (.int hh)) :
    own_Met l (⟨own_cD, "isEmpty", "()Z"⟩ : MethodName) jdk_21_method_38_code 1 (some .boolean) ws ({ frames := 0, cells := 0, slots := 0, locals := 0 } : Room) #[(.ref a1)] Z h0 (Q7_s Z a1 hh h0 n0) := by
  refine own_met (plainFor_of_name pn_1) ?_
  intro p e s m below meth c s₁ Bd hx hby hml hZ hown hnm X0 e0
  have wd : ∀ (i : Nat) (d : Jvm.Cond), tables_1[i]? = some d → d.before a0 Z = true := fun i d q => hw d (List.mem_of_getElem? q)
  have NN := Fr.nil n0
  have KK : Keep h0 h0 [] := Keep.refl h0 _
  refine own_start (ef_7_s m a1) ?_
  refine cs_aloadN cG X0 hx (hb hby d7_0) rfl rfl ?_
  refine cs_get cG X0 hx hZ hown (wd 49 _ rfl) e0 F_a1_head (hb hby d7_1) ?_
  intro T1 X1 e1
  refine cs_aloadN cG X1 hx (hb hby d7_4) rfl rfl ?_
  refine cs_get cG X1 hx hZ hown (wd 51 _ rfl) e1 F_a1_tail (hb hby d7_5) ?_
  intro T2 X2 e2
  refine cs_icmpNo cG X2 hx (hb hby d7_8) (teq (rfl : hh = hh)).2 ?_
  refine cs_iconst cG X2 hx (hb hby d7_11) (z := (1 : Int32)) rfl ?_
  refine cs_goto cG X2 hx (pc' := 16) (hb hby d7_12) (by decide) (by decide) ?_
  show own_Go _ _ _ _ T2 (mkF m 16 #[vr a1] [(.int (1 : Int32))])
  obtain ⟨fs, hr, hrun, hended, hW, hsame⟩ := X2.leave (v := some (.int (1 : Int32))) (fun h => by rw [Bd.returns] at h; cases h)
  refine ⟨_, _, ?_, hrun, hended, _, _, rfl, ?_, ⟨_, rfl⟩, hW, hsame.mono (by decide) (by decide)⟩
  · exact retN X2 hx (t := .boolean) Bd.returns (by simp) (hb hby d7_16) hr
  · show Q7_s Z a1 hh h0 n0 _ T2.heap _
    rw [e2]
    exact ⟨rfl, NN, rfl⟩
theorem d6_0 : decode prog_29_method_5_code 0 = .ok (.aload_n 0, 1) := by decide +kernel
theorem d6_1 : decode prog_29_method_5_code 1 = .ok (.getfield 10, 3) := by decide +kernel
theorem d6_4 : decode prog_29_method_5_code 4 = .ok (.invokevirtual 31, 3) := by decide +kernel
theorem d6_7 : decode prog_29_method_5_code 7 = .ok (.ifCond .eq 20, 3) := by decide +kernel
theorem d6_10 : decode prog_29_method_5_code 10 = .ok (.aload_n 0, 1) := by decide +kernel
theorem d6_11 : decode prog_29_method_5_code 11 = .ok (.getfield 24, 3) := by decide +kernel
theorem d6_14 : decode prog_29_method_5_code 14 = .ok (.lconst 0, 1) := by decide +kernel
theorem d6_15 : decode prog_29_method_5_code 15 = .ok (.lcmp, 1) := by decide +kernel
theorem d6_16 : decode prog_29_method_5_code 16 = .ok (.ifCond .le 4, 3) := by decide +kernel
theorem d6_19 : decode prog_29_method_5_code 19 = .ok (.return_, 1) := by decide +kernel
theorem pd_4 : parseMethodDescriptor "()Z" = some ⟨[], some .boolean⟩ := by decide +kernel
theorem ef_6_x (m : MethodId) (a1 : Addr) (q2 : Int64) : entryFrame m #[(.ref a1), (.long q2)] 8 = mkF m 0 #[.val (.ref a1), .val (.long q2), .second, .unset, .unset, .unset, .unset, .unset] [] := by first | (simp [entryFrame, mkF, argsToLocals, Value.category]; done) | rfl
def Q6_x (Z : State) (a1 : Addr) (q2 : Int64) (dq : Addr) (hh : Int32) (nt : Int64) (h0 : Heap) (n0 : Nat) (v : Option Value) (h : Heap) (L : List Loc) : Prop := v = none ∧ Fr n0 L ∧ h = h0
set_option maxRecDepth 65536 in
set_option maxHeartbeats 40000000 in
theorem rm6_x (l : Launch) (Z : State) (a0 : Array Value) (hw : ∀ d ∈ tables_1, d.before a0 Z = true) (ws : List Jvm.Cond) (a1 : Addr) (q2 : Int64) (dq : Addr) (hh : Int32) (nt : Int64) (h0 : Heap) (n0 : Nat) (Z0 : n0 ≤ h0.size) (F_a1_chains : Fld Z h0 a1 own_cC "chains" "Ljava/util/ArrayDeque;" (.ref dq)) (F_dq_head : Fld Z h0 dq own_cD "head" "I" (.int hh)) (F_dq_tail : Fld Z h0 dq own_cD "tail" "I" (.int hh)) (E_dq : Exa Z h0 dq own_cD) (F_a1_turns : Fld Z h0 a1 own_cC "turns" "J" (.long nt)) (hc16 : (0 : Int64) < nt) :
    own_Met l (⟨own_cC, "takeApart", "(J)V"⟩ : MethodName) prog_29_method_5_code 8 none ws ({ frames := 1, cells := 0, slots := 0, locals := 12 } : Room) #[(.ref a1), (.long q2)] Z h0 (Q6_x Z a1 q2 dq hh nt h0 n0) := by
  refine own_met (plainFor_of_name pn_3) ?_
  intro p e s m below meth c s₁ Bd hx hby hml hZ hown hnm X0 e0
  have wd : ∀ (i : Nat) (d : Jvm.Cond), tables_1[i]? = some d → d.before a0 Z = true := fun i d q => hw d (List.mem_of_getElem? q)
  have NN := Fr.nil n0
  have KK : Keep h0 h0 [] := Keep.refl h0 _
  refine own_start (ef_6_x m a1 q2) ?_
  refine cs_aloadN cG X0 hx (hb hby d6_0) rfl rfl ?_
  refine cs_get cG X0 hx hZ hown (wd 27 _ rfl) e0 F_a1_chains (hb hby d6_1) ?_
  intro T1 X1 e1
  refine cs_V cG X1 hx hZ hown (wd 44 _ rfl) (wd 45 _ rfl) (wd 47 _ rfl) (wd 46 _ rfl) (wd 12 _ rfl) (wd 48 _ rfl) (by decide) (rm7_s l Z a0 hw [] dq hh h0 n0 Z0 F_dq_head F_dq_tail) (by decide) (by decide) (by decide) (by decide) e1 E_dq (by rw [hml]; rfl) (argsL := []) (S := []) (lenOf pd_4 rfl) rfl (W := 0) (Nat.le_of_eq rfl) (hb hby d6_4) rfl ?_
  intro v2 T2 L2 X2 hQ2
  obtain ⟨rfl, N2q, e2⟩ := hQ2
  have NN := Fr.app NN N2q
  show own_Go _ _ _ _ T2 (mkF m 7 #[vr a1, vj q2, .second, .unset, .unset, .unset, .unset, .unset] [(.int (1 : Int32))])
  refine cs_ifNo cG X2 hx (hb hby d6_7) ((if0 _ _).trans (feq (by decide : ¬ ((1 : Int32) = (0 : Int32)))).1) ?_
  refine cs_aloadN cG X2 hx (hb hby d6_10) rfl rfl ?_
  refine cs_get cG X2 hx hZ hown (wd 38 _ rfl) e2 F_a1_turns (hb hby d6_11) ?_
  intro T3 X3 e3
  refine cs_lconst cG X3 hx (hb hby d6_14) (z := (0 : Int64)) rfl ?_
  refine cs_lcmp cG X3 hx (hb hby d6_15) ?_
  refine cs_ifNo cG X3 hx (hb hby d6_16) ((if0 _ _).trans (tlt ((lw_gt nt (0 : Int64)).mpr hc16)).2.2.2) ?_
  show own_Go _ _ _ _ T3 (mkF m 19 #[vr a1, vj q2, .second, .unset, .unset, .unset, .unset, .unset] [])
  obtain ⟨fs, hr, hrun, hended, hW, hsame⟩ := X3.leave (v := none) (fun _ => rfl)
  refine ⟨_, _, ?_, hrun, hended, _, _, rfl, ?_, ⟨_, rfl⟩, hW, hsame.mono (by decide) (by decide)⟩
  · exact X3.returnOut hx Bd.returns (hb hby d6_19) hr
  · show Q6_x Z a1 q2 dq hh nt h0 n0 _ T3.heap _
    rw [e3]
    exact ⟨rfl, NN, rfl⟩
theorem d6_20 : decode prog_29_method_5_code 20 = .ok (.aload_n 0, 1) := by decide +kernel
theorem d6_21 : decode prog_29_method_5_code 21 = .ok (.ldc2_w 86, 3) := by decide +kernel
theorem d6_24 : decode prog_29_method_5_code 24 = .ok (.putfield 20, 3) := by decide +kernel
theorem d6_27 : decode prog_29_method_5_code 27 = .ok (.aload_n 0, 1) := by decide +kernel
theorem d6_28 : decode prog_29_method_5_code 28 = .ok (.invokevirtual 38, 3) := by decide +kernel
theorem d6_31 : decode prog_29_method_5_code 31 = .ok (.istore_n 3, 1) := by decide +kernel
theorem d6_32 : decode prog_29_method_5_code 32 = .ok (.iconst 0, 1) := by decide +kernel
theorem d6_33 : decode prog_29_method_5_code 33 = .ok (.istore 4, 2) := by decide +kernel
theorem d6_35 : decode prog_29_method_5_code 35 = .ok (.aload_n 0, 1) := by decide +kernel
theorem d6_36 : decode prog_29_method_5_code 36 = .ok (.getfield 35, 3) := by decide +kernel
theorem d6_39 : decode prog_29_method_5_code 39 = .ok (.aload_n 0, 1) := by decide +kernel
theorem d6_40 : decode prog_29_method_5_code 40 = .ok (.getfield 16, 3) := by decide +kernel
theorem d6_43 : decode prog_29_method_5_code 43 = .ok (.if_icmp .ge 32, 3) := by decide +kernel
theorem d6_46 : decode prog_29_method_5_code 46 = .ok (.aload_n 0, 1) := by decide +kernel
theorem d6_47 : decode prog_29_method_5_code 47 = .ok (.getfield 35, 3) := by decide +kernel
theorem d6_50 : decode prog_29_method_5_code 50 = .ok (.i2l, 1) := by decide +kernel
theorem d6_51 : decode prog_29_method_5_code 51 = .ok (.lload_n 1, 1) := by decide +kernel
theorem d6_52 : decode prog_29_method_5_code 52 = .ok (.lcmp, 1) := by decide +kernel
theorem d6_53 : decode prog_29_method_5_code 53 = .ok (.ifCond .gt 22, 3) := by decide +kernel
theorem d6_56 : decode prog_29_method_5_code 56 = .ok (.aload_n 0, 1) := by decide +kernel
theorem d6_57 : decode prog_29_method_5_code 57 = .ok (.lload_n 1, 1) := by decide +kernel
theorem d6_58 : decode prog_29_method_5_code 58 = .ok (.lconst 1, 1) := by decide +kernel
theorem d6_59 : decode prog_29_method_5_code 59 = .ok (.ladd, 1) := by decide +kernel
theorem d6_60 : decode prog_29_method_5_code 60 = .ok (.aload_n 0, 1) := by decide +kernel
theorem d6_61 : decode prog_29_method_5_code 61 = .ok (.getfield 16, 3) := by decide +kernel
theorem d6_64 : decode prog_29_method_5_code 64 = .ok (.i2l, 1) := by decide +kernel
theorem d6_65 : decode prog_29_method_5_code 65 = .ok (.invokestatic 74, 3) := by decide +kernel
theorem d6_68 : decode prog_29_method_5_code 68 = .ok (.l2i, 1) := by decide +kernel
theorem d6_69 : decode prog_29_method_5_code 69 = .ok (.putfield 35, 3) := by decide +kernel
theorem d6_72 : decode prog_29_method_5_code 72 = .ok (.iconst 1, 1) := by decide +kernel
theorem d6_73 : decode prog_29_method_5_code 73 = .ok (.istore 4, 2) := by decide +kernel
theorem d6_75 : decode prog_29_method_5_code 75 = .ok (.aload_n 0, 1) := by decide +kernel
theorem d6_76 : decode prog_29_method_5_code 76 = .ok (.getfield 10, 3) := by decide +kernel
theorem d6_79 : decode prog_29_method_5_code 79 = .ok (.invokevirtual 31, 3) := by decide +kernel
theorem d6_82 : decode prog_29_method_5_code 82 = .ok (.ifCond .ne 97, 3) := by decide +kernel
theorem d6_179 : decode prog_29_method_5_code 179 = .ok (.iload 4, 2) := by decide +kernel
theorem d6_181 : decode prog_29_method_5_code 181 = .ok (.ifCond .ne 4, 3) := by decide +kernel
theorem d6_185 : decode prog_29_method_5_code 185 = .ok (.aload_n 0, 1) := by decide +kernel
theorem d6_186 : decode prog_29_method_5_code 186 = .ok (.iload_n 3, 1) := by decide +kernel
theorem d6_187 : decode prog_29_method_5_code 187 = .ok (.lload_n 1, 1) := by decide +kernel
theorem d6_188 : decode prog_29_method_5_code 188 = .ok (.aload_n 0, 1) := by decide +kernel
theorem d6_189 : decode prog_29_method_5_code 189 = .ok (.getfield 16, 3) := by decide +kernel
theorem d6_192 : decode prog_29_method_5_code 192 = .ok (.i2l, 1) := by decide +kernel
theorem d6_193 : decode prog_29_method_5_code 193 = .ok (.ladd, 1) := by decide +kernel
theorem d6_194 : decode prog_29_method_5_code 194 = .ok (.invokevirtual 98, 3) := by decide +kernel
theorem d6_197 : decode prog_29_method_5_code 197 = .ok (.aload_n 0, 1) := by decide +kernel
theorem d6_198 : decode prog_29_method_5_code 198 = .ok (.invokevirtual 38, 3) := by decide +kernel
theorem d6_201 : decode prog_29_method_5_code 201 = .ok (.istore 5, 2) := by decide +kernel
theorem d6_203 : decode prog_29_method_5_code 203 = .ok (.aload_n 0, 1) := by decide +kernel
theorem d6_204 : decode prog_29_method_5_code 204 = .ok (.dup, 1) := by decide +kernel
theorem d6_205 : decode prog_29_method_5_code 205 = .ok (.getfield 24, 3) := by decide +kernel
theorem d6_208 : decode prog_29_method_5_code 208 = .ok (.iload 5, 2) := by decide +kernel
theorem d6_210 : decode prog_29_method_5_code 210 = .ok (.iload_n 3, 1) := by decide +kernel
theorem d6_211 : decode prog_29_method_5_code 211 = .ok (.if_icmp .ne 11, 3) := by decide +kernel
theorem d6_222 : decode prog_29_method_5_code 222 = .ok (.iload 5, 2) := by decide +kernel
theorem d6_224 : decode prog_29_method_5_code 224 = .ok (.iload_n 3, 1) := by decide +kernel
theorem d6_225 : decode prog_29_method_5_code 225 = .ok (.isub, 1) := by decide +kernel
theorem d6_226 : decode prog_29_method_5_code 226 = .ok (.aload_n 0, 1) := by decide +kernel
theorem d6_227 : decode prog_29_method_5_code 227 = .ok (.getfield 16, 3) := by decide +kernel
theorem d6_230 : decode prog_29_method_5_code 230 = .ok (.invokestatic 42, 3) := by decide +kernel
theorem d6_233 : decode prog_29_method_5_code 233 = .ok (.i2l, 1) := by decide +kernel
theorem d6_234 : decode prog_29_method_5_code 234 = .ok (.ladd, 1) := by decide +kernel
theorem d6_235 : decode prog_29_method_5_code 235 = .ok (.putfield 24, 3) := by decide +kernel
theorem d6_238 : decode prog_29_method_5_code 238 = .ok (.aload_n 0, 1) := by decide +kernel
theorem d6_239 : decode prog_29_method_5_code 239 = .ok (.getfield 35, 3) := by decide +kernel
theorem d6_242 : decode prog_29_method_5_code 242 = .ok (.aload_n 0, 1) := by decide +kernel
theorem d6_243 : decode prog_29_method_5_code 243 = .ok (.getfield 16, 3) := by decide +kernel
theorem d6_246 : decode prog_29_method_5_code 246 = .ok (.if_icmp .ne 49, 3) := by decide +kernel
theorem d6_295 : decode prog_29_method_5_code 295 = .ok (.return_, 1) := by decide +kernel
theorem pd_6 : parseMethodDescriptor "()I" = some ⟨[], some .int⟩ := by decide +kernel
theorem pd_7 : parseMethodDescriptor "(JJ)J" = some ⟨[.long, .long], some .long⟩ := by decide +kernel
theorem ef_6_0 (m : MethodId) (a1 : Addr) (q2 : Int64) : entryFrame m #[(.ref a1), (.long q2)] 8 = mkF m 0 #[.val (.ref a1), .val (.long q2), .second, .unset, .unset, .unset, .unset, .unset] [] := by first | (simp [entryFrame, mkF, argsToLocals, Value.category]; done) | rfl
def Q6_0 (Z : State) (a1 : Addr) (q2 : Int64) (nL : Int32) (nt : Int64) (na : Int64) (ni : Int32) (dq : Addr) (ar : Addr) (k_ar : ClassId) (h0 : Heap) (n0 : Nat) (v : Option Value) (h : Heap) (L : List Loc) : Prop := v = none ∧ Fr n0 L ∧ n0 ≤ h.size ∧ own_Bn Z h n0 a1 nL (own_tk0 nL q2 nt ni)
theorem own_at_6_0_hlf_0 (q2 : Int64) (nL : Int32) (nt : Int64) (ni : Int32) (hc16 : ¬ ((0 : Int64) < nt)) (hhc8_28 : ni < nL) (hc43 : ni < nL) (hc53 : ¬ (q2 < ni.toInt64)) (hhc8_198 : (r_10 (q2 + (1 : Int64)) (nL.toInt64)).toInt32 < nL) (hc211 : ¬ ((r_10 (q2 + (1 : Int64)) (nL.toInt64)).toInt32 = ni)) (hhnz2_230 : ¬ (nL = (0 : Int32))) (hc246 : ¬ ((r_10 (q2 + (1 : Int64)) (nL.toInt64)).toInt32 = nL)) : own_tk0 nL q2 nt ni = (((nt + (r_18 ((r_10 (q2 + (1 : Int64)) (nL.toInt64)).toInt32 - ni) nL).toInt64), (9223372036854775807 : Int64), (r_10 (q2 + (1 : Int64)) (nL.toInt64)).toInt32, 1, (ni, (q2 + nL.toInt64), (1 : Int64), (0 : Int32), (1 : Int64)), ((0 : Int32), (0 : Int64))) : own_A) := by
  skip
  rfl
set_option maxRecDepth 65536 in
set_option maxHeartbeats 40000000 in
theorem rm6_0 (l : Launch) (Z : State) (a0 : Array Value) (hw : ∀ d ∈ tables_1, d.before a0 Z = true) (ws : List Jvm.Cond) (a1 : Addr) (q2 : Int64) (nL : Int32) (nt : Int64) (na : Int64) (ni : Int32) (dq : Addr) (ar : Addr) (k_ar : ClassId) (h0 : Heap) (n0 : Nat) (Z0 : n0 ≤ h0.size) (F_a1_length : Fld Z h0 a1 own_cC "length" "I" (.int nL)) (F_a1_turns : Fld Z h0 a1 own_cC "turns" "J" (.long nt)) (F_a1_alike : Fld Z h0 a1 own_cC "alike" "J" (.long na)) (F_a1_idle : Fld Z h0 a1 own_cC "idle" "I" (.int ni)) (F_a1_chains : Fld Z h0 a1 own_cC "chains" "Ljava/util/ArrayDeque;" (.ref dq)) (F_dq_head : Fld Z h0 dq own_cD "head" "I" (.int (0 : Int32))) (F_dq_tail : Fld Z h0 dq own_cD "tail" "I" (.int (0 : Int32))) (F_dq_elements : Fld Z h0 dq own_cD "elements" "[Ljava/lang/Object;" (.ref ar)) (E_dq : Exa Z h0 dq own_cD) (hc16 : ¬ ((0 : Int64) < nt)) (E_a1 : Exa Z h0 a1 own_cC) (ne_dq_a1 : dq ≠ a1) (g_a1 : n0 ≤ a1) (hhc8_28 : ni < nL) (hc43 : ni < nL) (hc53 : ¬ (q2 < ni.toInt64)) (O_ar : Ovr Z k_ar "java/lang/Object") (V_ar : Arv Z h0 ar k_ar (.object "java/lang/Object") (17 : Int32) [.null, .null, .null, .null, .null, .null, .null, .null, .null, .null, .null, .null, .null, .null, .null, .null, .null] .null) (ne_dq_ar : dq ≠ ar) (g_ar : n0 ≤ ar) (g_dq : n0 ≤ dq) (ne_a1_ar : a1 ≠ ar) (hhc8_198 : (r_10 (q2 + (1 : Int64)) (nL.toInt64)).toInt32 < nL) (hc211 : ¬ ((r_10 (q2 + (1 : Int64)) (nL.toInt64)).toInt32 = ni)) (hhnz2_230 : ¬ (nL = (0 : Int32))) (hc246 : ¬ ((r_10 (q2 + (1 : Int64)) (nL.toInt64)).toInt32 = nL)) :
    own_Met l (⟨own_cC, "takeApart", "(J)V"⟩ : MethodName) prog_29_method_5_code 8 none ws ({ frames := 3, cells := 1, slots := 5, locals := 45 } : Room) #[(.ref a1), (.long q2)] Z h0 (Q6_0 Z a1 q2 nL nt na ni dq ar k_ar h0 n0) := by
  refine own_met (plainFor_of_name pn_3) ?_
  intro p e s m below meth c s₁ Bd hx hby hml hZ hown hnm X0 e0
  have wd : ∀ (i : Nat) (d : Jvm.Cond), tables_1[i]? = some d → d.before a0 Z = true := fun i d q => hw d (List.mem_of_getElem? q)
  have NN := Fr.nil n0
  have KK : Keep h0 h0 [a1, ar, dq] := Keep.refl h0 _
  refine own_start (ef_6_0 m a1 q2) ?_
  refine cs_aloadN cG X0 hx (hb hby d6_0) rfl rfl ?_
  refine cs_get cG X0 hx hZ hown (wd 27 _ rfl) e0 F_a1_chains (hb hby d6_1) ?_
  intro T1 X1 e1
  refine cs_V cG X1 hx hZ hown (wd 44 _ rfl) (wd 45 _ rfl) (wd 47 _ rfl) (wd 46 _ rfl) (wd 12 _ rfl) (wd 48 _ rfl) (by decide) (rm7_0_0 l Z a0 hw [] dq h0 n0 Z0 F_dq_head F_dq_tail) (by decide) (by decide) (by decide) (by decide) e1 E_dq (by rw [hml]; rfl) (argsL := []) (S := []) (lenOf pd_4 rfl) rfl (W := 0) (Nat.le_of_eq rfl) (hb hby d6_4) rfl ?_
  intro v2 T2 L2 X2 hQ2
  obtain ⟨rfl, N2q, e2⟩ := hQ2
  have NN := Fr.app NN N2q
  show own_Go _ _ _ _ T2 (mkF m 7 #[vr a1, vj q2, .second, .unset, .unset, .unset, .unset, .unset] [(.int (1 : Int32))])
  refine cs_ifNo cG X2 hx (hb hby d6_7) ((if0 _ _).trans (feq (by decide : ¬ ((1 : Int32) = (0 : Int32)))).1) ?_
  refine cs_aloadN cG X2 hx (hb hby d6_10) rfl rfl ?_
  refine cs_get cG X2 hx hZ hown (wd 38 _ rfl) e2 F_a1_turns (hb hby d6_11) ?_
  intro T3 X3 e3
  refine cs_lconst cG X3 hx (hb hby d6_14) (z := (0 : Int64)) rfl ?_
  refine cs_lcmp cG X3 hx (hb hby d6_15) ?_
  refine cs_ifYes cG X3 hx (pc' := 20) (hb hby d6_16) ((if0 _ _).trans (flt (fun q => hc16 ((lw_gt nt (0 : Int64)).mp q))).2.2.2) (by decide) (by decide) ?_
  refine cs_aloadN cG X3 hx (hb hby d6_20) rfl rfl ?_
  refine cs_ldc2 cG X3 hx hZ hown (wd 58 _ rfl) (hb hby d6_21) ?_
  refine cs_put cG X3 hx hZ hown (wd 31 _ rfl) e3 F_a1_alike E_a1 (Or.inl (wd 32 _ rfl)) (wd 2 _ rfl) (ty := .long) (by decide) rfl rfl (hb hby d6_24) ?_
  intro T4 h4 X4 e4 W4
  have F_a1_length := F_a1_length.other W4 (Or.inr (slot_ne (Or.inr (wd 30 _ rfl)) (Or.inl (wd 32 _ rfl)) (by decide) (t := .int) (t' := .long) (by decide) (by decide)))
  have F_a1_turns := F_a1_turns.other W4 (Or.inr (slot_ne (Or.inl (wd 39 _ rfl)) (Or.inl (wd 32 _ rfl)) (by decide) (t := .long) (t' := .long) (by decide) (by decide)))
  have F_a1_alike := F_a1_alike.same W4
  have F_a1_idle := F_a1_idle.other W4 (Or.inr (slot_ne (Or.inl (wd 64 _ rfl)) (Or.inl (wd 32 _ rfl)) (by decide) (t := .int) (t' := .long) (by decide) (by decide)))
  have F_a1_chains := F_a1_chains.other W4 (Or.inr (slot_ne (Or.inr (wd 28 _ rfl)) (Or.inl (wd 32 _ rfl)) (by decide) (t := (.object own_cD)) (t' := .long) (by decide) (by decide)))
  have F_dq_head := F_dq_head.other W4 (Or.inl ne_dq_a1)
  have F_dq_tail := F_dq_tail.other W4 (Or.inl ne_dq_a1)
  have F_dq_elements := F_dq_elements.other W4 (Or.inl ne_dq_a1)
  have E_dq := E_dq.wr W4
  have E_a1 := E_a1.wr W4
  have V_ar := V_ar.other W4 (Ne.symm ne_a1_ar)
  have Z0 := Nat.le_trans Z0 (Keep.of_wr W4).1
  have NN := Fr.snoc X4 NN g_a1
  refine cs_aloadN cG X4 hx (hb hby d6_27) rfl rfl ?_
  refine cs_P cG X4 hx hZ hown (wd 59 _ rfl) (wd 60 _ rfl) (wd 61 _ rfl) (wd 36 _ rfl) rfl (wd 3 _ rfl) (wd 62 _ rfl) (by decide) (rm9_i l Z a0 hw [] a1 ni nL h4 n0 Z0 F_a1_idle F_a1_length hhc8_28) (by decide) (by decide) (by decide) (by decide) e4 E_a1 (by rw [hml]; rfl) (argsL := []) (S := []) (lenOf pd_6 rfl) rfl (W := 0) (Nat.le_of_eq rfl) (hb hby d6_28) rfl ?_
  intro v5 T5 L5 X5 hQ5
  obtain ⟨rfl, N5q, e5⟩ := hQ5
  have NN := Fr.app NN N5q
  show own_Go _ _ _ _ T5 (mkF m 31 #[vr a1, vj q2, .second, .unset, .unset, .unset, .unset, .unset] [(.int ni)])
  refine cs_istoreN cG X5 hx (hb hby d6_31) (l' := #[vr a1, vj q2, .second, vi ni, .unset, .unset, .unset, .unset]) rfl ?_
  refine cs_iconst cG X5 hx (hb hby d6_32) (z := (0 : Int32)) rfl ?_
  refine cs_istore cG X5 hx (hb hby d6_33) (l' := #[vr a1, vj q2, .second, vi ni, vi (0 : Int32), .unset, .unset, .unset]) rfl ?_
  refine cs_aloadN cG X5 hx (hb hby d6_35) rfl rfl ?_
  refine cs_get cG X5 hx hZ hown (wd 63 _ rfl) e5 F_a1_idle (hb hby d6_36) ?_
  intro T6 X6 e6
  refine cs_aloadN cG X6 hx (hb hby d6_39) rfl rfl ?_
  refine cs_get cG X6 hx hZ hown (wd 29 _ rfl) e6 F_a1_length (hb hby d6_40) ?_
  intro T7 X7 e7
  refine cs_icmpNo cG X7 hx (hb hby d6_43) (tlt hhc8_28).2.1 ?_
  refine cs_aloadN cG X7 hx (hb hby d6_46) rfl rfl ?_
  refine cs_get cG X7 hx hZ hown (wd 63 _ rfl) e7 F_a1_idle (hb hby d6_47) ?_
  intro T8 X8 e8
  refine cs_i2l cG X8 hx (hb hby d6_50) rfl ?_
  refine cs_lloadN cG X8 hx (hb hby d6_51) rfl ?_
  refine cs_lcmp cG X8 hx (hb hby d6_52) ?_
  refine cs_ifNo cG X8 hx (hb hby d6_53) ((if0 _ _).trans (flt (fun q => hc53 ((lw_gt ni.toInt64 q2).mp q))).2.2.1) ?_
  refine cs_aloadN cG X8 hx (hb hby d6_56) rfl rfl ?_
  refine cs_lloadN cG X8 hx (hb hby d6_57) rfl ?_
  refine cs_lconst cG X8 hx (hb hby d6_58) (z := (1 : Int64)) rfl ?_
  refine cs_ladd cG X8 hx (hb hby d6_59) rfl ?_
  refine cs_aloadN cG X8 hx (hb hby d6_60) rfl rfl ?_
  refine cs_get cG X8 hx hZ hown (wd 29 _ rfl) e8 F_a1_length (hb hby d6_61) ?_
  intro T9 X9 e9
  refine cs_i2l cG X9 hx (hb hby d6_64) rfl ?_
  refine cs_S cG X9 hx hZ hown (wd 65 _ rfl) (wd 66 _ rfl) (wd 67 _ rfl) (wd 68 _ rfl) (by decide) (rm10 l Z a0 hw [] (q2 + (1 : Int64)) (nL.toInt64) h4 n0 Z0 ) (by decide) (by decide) (by decide) (by decide) e9 (by rw [hml]; rfl) (argsL := [(.long (q2 + (1 : Int64))), (.long nL.toInt64)]) (S := [(.ref a1)]) (lenOf pd_7 rfl) rfl (W := 1) (Nat.le_of_eq rfl) (hb hby d6_65) rfl ?_
  intro v10 T10 L10 X10 hQ10
  obtain ⟨rfl, N10q, e10⟩ := hQ10
  have NN := Fr.app NN N10q
  show own_Go _ _ _ _ T10 (mkF m 68 #[vr a1, vj q2, .second, vi ni, vi (0 : Int32), .unset, .unset, .unset] [(.long (r_10 (q2 + (1 : Int64)) (nL.toInt64))), (.ref a1)])
  refine cs_l2i cG X10 hx (hb hby d6_68) rfl ?_
  refine cs_put cG X10 hx hZ hown (wd 63 _ rfl) e10 F_a1_idle E_a1 (Or.inl (wd 64 _ rfl)) (wd 2 _ rfl) (ty := .int) (by decide) rfl rfl (hb hby d6_69) ?_
  intro T11 h11 X11 e11 W11
  have F_a1_length := F_a1_length.other W11 (Or.inr (slot_ne (Or.inr (wd 30 _ rfl)) (Or.inl (wd 64 _ rfl)) (by decide) (t := .int) (t' := .int) (by decide) (by decide)))
  have F_a1_turns := F_a1_turns.other W11 (Or.inr (slot_ne (Or.inl (wd 39 _ rfl)) (Or.inl (wd 64 _ rfl)) (by decide) (t := .long) (t' := .int) (by decide) (by decide)))
  have F_a1_alike := F_a1_alike.other W11 (Or.inr (slot_ne (Or.inl (wd 32 _ rfl)) (Or.inl (wd 64 _ rfl)) (by decide) (t := .long) (t' := .int) (by decide) (by decide)))
  have F_a1_idle := F_a1_idle.same W11
  have F_a1_chains := F_a1_chains.other W11 (Or.inr (slot_ne (Or.inr (wd 28 _ rfl)) (Or.inl (wd 64 _ rfl)) (by decide) (t := (.object own_cD)) (t' := .int) (by decide) (by decide)))
  have F_dq_head := F_dq_head.other W11 (Or.inl ne_dq_a1)
  have F_dq_tail := F_dq_tail.other W11 (Or.inl ne_dq_a1)
  have F_dq_elements := F_dq_elements.other W11 (Or.inl ne_dq_a1)
  have E_dq := E_dq.wr W11
  have E_a1 := E_a1.wr W11
  have V_ar := V_ar.other W11 (Ne.symm ne_a1_ar)
  have Z0 := Nat.le_trans Z0 (Keep.of_wr W11).1
  have NN := Fr.snoc X11 NN g_a1
  refine cs_iconst cG X11 hx (hb hby d6_72) (z := (1 : Int32)) rfl ?_
  refine cs_istore cG X11 hx (hb hby d6_73) (l' := #[vr a1, vj q2, .second, vi ni, vi (1 : Int32), .unset, .unset, .unset]) rfl ?_
  refine cs_aloadN cG X11 hx (hb hby d6_75) rfl rfl ?_
  refine cs_get cG X11 hx hZ hown (wd 27 _ rfl) e11 F_a1_chains (hb hby d6_76) ?_
  intro T12 X12 e12
  refine cs_V cG X12 hx hZ hown (wd 44 _ rfl) (wd 45 _ rfl) (wd 47 _ rfl) (wd 46 _ rfl) (wd 12 _ rfl) (wd 48 _ rfl) (by decide) (rm7_0_0 l Z a0 hw [] dq h11 n0 Z0 F_dq_head F_dq_tail) (by decide) (by decide) (by decide) (by decide) e12 E_dq (by rw [hml]; rfl) (argsL := []) (S := []) (lenOf pd_4 rfl) rfl (W := 0) (Nat.le_of_eq rfl) (hb hby d6_79) rfl ?_
  intro v13 T13 L13 X13 hQ13
  obtain ⟨rfl, N13q, e13⟩ := hQ13
  have NN := Fr.app NN N13q
  show own_Go _ _ _ _ T13 (mkF m 82 #[vr a1, vj q2, .second, vi ni, vi (1 : Int32), .unset, .unset, .unset] [(.int (1 : Int32))])
  refine cs_ifYes cG X13 hx (pc' := 179) (hb hby d6_82) ((if0 _ _).trans (feq (by decide : ¬ ((1 : Int32) = (0 : Int32)))).2) (by decide) (by decide) ?_
  refine cs_iload cG X13 hx (hb hby d6_179) rfl ?_
  refine cs_ifYes cG X13 hx (pc' := 185) (hb hby d6_181) ((if0 _ _).trans (feq (by decide : ¬ ((1 : Int32) = (0 : Int32)))).2) (by decide) (by decide) ?_
  refine cs_aloadN cG X13 hx (hb hby d6_185) rfl rfl ?_
  refine cs_iloadN cG X13 hx (hb hby d6_186) rfl ?_
  refine cs_lloadN cG X13 hx (hb hby d6_187) rfl ?_
  refine cs_aloadN cG X13 hx (hb hby d6_188) rfl rfl ?_
  refine cs_get cG X13 hx hZ hown (wd 29 _ rfl) e13 F_a1_length (hb hby d6_189) ?_
  intro T14 X14 e14
  refine cs_i2l cG X14 hx (hb hby d6_192) rfl ?_
  refine cs_ladd cG X14 hx (hb hby d6_193) rfl ?_
  refine cs_P cG X14 hx hZ hown (wd 69 _ rfl) (wd 70 _ rfl) (wd 71 _ rfl) (wd 36 _ rfl) rfl (wd 3 _ rfl) (wd 72 _ rfl) (by decide) (rm11_o_0_0 l Z a0 hw [] a1 ni (q2 + nL.toInt64) dq ar k_ar h11 n0 Z0 F_a1_chains F_dq_elements F_dq_tail O_ar V_ar E_dq ne_dq_ar g_ar F_dq_head g_dq (Ne.symm ne_dq_a1) ne_a1_ar) (by decide) (by decide) (by decide) (by decide) e14 E_a1 (by rw [hml]; rfl) (argsL := [(.int ni), (.long (q2 + nL.toInt64))]) (S := []) (lenOf pd_8 rfl) rfl (W := 0) (Nat.le_of_eq rfl) (hb hby d6_194) rfl ?_
  intro v15 T15 L15 X15 hQ15
  obtain ⟨b15_0, rfl, N15q, K15, Q15_0, Q15_1, Q15_2, Q15_3, Q15_4, R15_0, R15_1, R15_2, R15_3, R15_4, R15_5, R15_6, R15_7⟩ := hQ15
  have ne_a1_b15_0 : a1 ≠ b15_0 := Nat.ne_of_lt (Nat.lt_of_lt_of_le F_a1_length.lt R15_1)
  have ne_dq_b15_0 : dq ≠ b15_0 := Nat.ne_of_lt (Nat.lt_of_lt_of_le F_dq_head.lt R15_1)
  have ne_ar_b15_0 : ar ≠ b15_0 := Nat.ne_of_lt (Nat.lt_of_lt_of_le V_ar.lt R15_1)
  have F_a1_length := F_a1_length.keep K15 (ninS (Ne.symm ne_dq_a1) (ninS ne_a1_ar nin0))
  have F_a1_turns := F_a1_turns.keep K15 (ninS (Ne.symm ne_dq_a1) (ninS ne_a1_ar nin0))
  have F_a1_alike := F_a1_alike.keep K15 (ninS (Ne.symm ne_dq_a1) (ninS ne_a1_ar nin0))
  have F_a1_idle := F_a1_idle.keep K15 (ninS (Ne.symm ne_dq_a1) (ninS ne_a1_ar nin0))
  have F_a1_chains := F_a1_chains.keep K15 (ninS (Ne.symm ne_dq_a1) (ninS ne_a1_ar nin0))
  have E_a1 := E_a1.keep K15
  have E_dq := Q15_0
  have F_dq_elements := Q15_1
  have F_dq_tail := Q15_2
  have F_dq_head := Q15_3
  have V_ar := Q15_4
  have g_b15_0 := R15_0
  have E_b15_0 := R15_2
  have F_b15_0_size := R15_3
  have F_b15_0_resumeStep := R15_4
  have F_b15_0_from := R15_5
  have F_b15_0_resume := R15_6
  have F_b15_0_fromStep := R15_7
  have Z0 := Nat.le_trans Z0 K15.1
  have NN := Fr.app NN N15q
  show own_Go _ _ _ _ T15 (mkF m 197 #[vr a1, vj q2, .second, vi ni, vi (1 : Int32), .unset, .unset, .unset] [])
  refine cs_aloadN cG X15 hx (hb hby d6_197) rfl rfl ?_
  refine cs_P cG X15 hx hZ hown (wd 59 _ rfl) (wd 60 _ rfl) (wd 61 _ rfl) (wd 36 _ rfl) rfl (wd 3 _ rfl) (wd 62 _ rfl) (by decide) (rm9_i l Z a0 hw [] a1 ((r_10 (q2 + (1 : Int64)) (nL.toInt64)).toInt32) nL T15.heap n0 Z0 F_a1_idle F_a1_length hhc8_198) (by decide) (by decide) (by decide) (by decide) rfl E_a1 (by rw [hml]; rfl) (argsL := []) (S := []) (lenOf pd_6 rfl) rfl (W := 0) (Nat.le_of_eq rfl) (hb hby d6_198) rfl ?_
  intro v16 T16 L16 X16 hQ16
  obtain ⟨rfl, N16q, e16⟩ := hQ16
  have NN := Fr.app NN N16q
  show own_Go _ _ _ _ T16 (mkF m 201 #[vr a1, vj q2, .second, vi ni, vi (1 : Int32), .unset, .unset, .unset] [(.int (r_10 (q2 + (1 : Int64)) (nL.toInt64)).toInt32)])
  refine cs_istore cG X16 hx (hb hby d6_201) (l' := #[vr a1, vj q2, .second, vi ni, vi (1 : Int32), vi (r_10 (q2 + (1 : Int64)) (nL.toInt64)).toInt32, .unset, .unset]) rfl ?_
  refine cs_aloadN cG X16 hx (hb hby d6_203) rfl rfl ?_
  refine cs_dup cG X16 hx (hb hby d6_204) rfl ?_
  refine cs_get cG X16 hx hZ hown (wd 38 _ rfl) e16 F_a1_turns (hb hby d6_205) ?_
  intro T17 X17 e17
  refine cs_iload cG X17 hx (hb hby d6_208) rfl ?_
  refine cs_iloadN cG X17 hx (hb hby d6_210) rfl ?_
  refine cs_icmpYes cG X17 hx (pc' := 222) (hb hby d6_211) (feq hc211).2 (by decide) (by decide) ?_
  refine cs_iload cG X17 hx (hb hby d6_222) rfl ?_
  refine cs_iloadN cG X17 hx (hb hby d6_224) rfl ?_
  refine cs_isub cG X17 hx (hb hby d6_225) rfl ?_
  refine cs_aloadN cG X17 hx (hb hby d6_226) rfl rfl ?_
  refine cs_get cG X17 hx hZ hown (wd 29 _ rfl) e17 F_a1_length (hb hby d6_227) ?_
  intro T18 X18 e18
  refine cs_S cG X18 hx hZ hown (wd 108 _ rfl) (wd 109 _ rfl) (wd 67 _ rfl) (wd 110 _ rfl) (by decide) (rm18 l Z a0 hw [] ((r_10 (q2 + (1 : Int64)) (nL.toInt64)).toInt32 - ni) nL T15.heap n0 Z0 hhnz2_230) (by decide) (by decide) (by decide) (by decide) e18 (by rw [hml]; rfl) (argsL := [(.int ((r_10 (q2 + (1 : Int64)) (nL.toInt64)).toInt32 - ni)), (.int nL)]) (S := [(.long nt), (.ref a1)]) (lenOf pd_10 rfl) rfl (W := 3) (Nat.le_of_eq rfl) (hb hby d6_230) rfl ?_
  intro v19 T19 L19 X19 hQ19
  obtain ⟨rfl, N19q, e19⟩ := hQ19
  have NN := Fr.app NN N19q
  show own_Go _ _ _ _ T19 (mkF m 233 #[vr a1, vj q2, .second, vi ni, vi (1 : Int32), vi (r_10 (q2 + (1 : Int64)) (nL.toInt64)).toInt32, .unset, .unset] [(.int (r_18 ((r_10 (q2 + (1 : Int64)) (nL.toInt64)).toInt32 - ni) nL)), (.long nt), (.ref a1)])
  refine cs_i2l cG X19 hx (hb hby d6_233) rfl ?_
  refine cs_ladd cG X19 hx (hb hby d6_234) rfl ?_
  refine cs_put cG X19 hx hZ hown (wd 38 _ rfl) e19 F_a1_turns E_a1 (Or.inl (wd 39 _ rfl)) (wd 2 _ rfl) (ty := .long) (by decide) rfl rfl (hb hby d6_235) ?_
  intro T20 h20 X20 e20 W20
  have F_a1_length := F_a1_length.other W20 (Or.inr (slot_ne (Or.inr (wd 30 _ rfl)) (Or.inl (wd 39 _ rfl)) (by decide) (t := .int) (t' := .long) (by decide) (by decide)))
  have F_a1_turns := F_a1_turns.same W20
  have F_a1_alike := F_a1_alike.other W20 (Or.inr (slot_ne (Or.inl (wd 32 _ rfl)) (Or.inl (wd 39 _ rfl)) (by decide) (t := .long) (t' := .long) (by decide) (by decide)))
  have F_a1_idle := F_a1_idle.other W20 (Or.inr (slot_ne (Or.inl (wd 64 _ rfl)) (Or.inl (wd 39 _ rfl)) (by decide) (t := .int) (t' := .long) (by decide) (by decide)))
  have F_a1_chains := F_a1_chains.other W20 (Or.inr (slot_ne (Or.inr (wd 28 _ rfl)) (Or.inl (wd 39 _ rfl)) (by decide) (t := (.object own_cD)) (t' := .long) (by decide) (by decide)))
  have F_dq_head := F_dq_head.other W20 (Or.inl ne_dq_a1)
  have F_dq_tail := F_dq_tail.other W20 (Or.inl ne_dq_a1)
  have F_dq_elements := F_dq_elements.other W20 (Or.inl ne_dq_a1)
  have E_dq := E_dq.wr W20
  have E_a1 := E_a1.wr W20
  have V_ar := V_ar.other W20 (Ne.symm ne_a1_ar)
  have E_b15_0 := E_b15_0.wr W20
  have F_b15_0_size := F_b15_0_size.other W20 (Or.inl (Ne.symm ne_a1_b15_0))
  have F_b15_0_resumeStep := F_b15_0_resumeStep.other W20 (Or.inl (Ne.symm ne_a1_b15_0))
  have F_b15_0_from := F_b15_0_from.other W20 (Or.inl (Ne.symm ne_a1_b15_0))
  have F_b15_0_resume := F_b15_0_resume.other W20 (Or.inl (Ne.symm ne_a1_b15_0))
  have F_b15_0_fromStep := F_b15_0_fromStep.other W20 (Or.inl (Ne.symm ne_a1_b15_0))
  have Z0 := Nat.le_trans Z0 (Keep.of_wr W20).1
  have NN := Fr.snoc X20 NN g_a1
  refine cs_aloadN cG X20 hx (hb hby d6_238) rfl rfl ?_
  refine cs_get cG X20 hx hZ hown (wd 63 _ rfl) e20 F_a1_idle (hb hby d6_239) ?_
  intro T21 X21 e21
  refine cs_aloadN cG X21 hx (hb hby d6_242) rfl rfl ?_
  refine cs_get cG X21 hx hZ hown (wd 29 _ rfl) e21 F_a1_length (hb hby d6_243) ?_
  intro T22 X22 e22
  refine cs_icmpYes cG X22 hx (pc' := 295) (hb hby d6_246) (feq hc246).2 (by decide) (by decide) ?_
  show own_Go _ _ _ _ T22 (mkF m 295 #[vr a1, vj q2, .second, vi ni, vi (1 : Int32), vi (r_10 (q2 + (1 : Int64)) (nL.toInt64)).toInt32, .unset, .unset] [])
  obtain ⟨fs, hr, hrun, hended, hW, hsame⟩ := X22.leave (v := none) (fun _ => rfl)
  refine ⟨_, _, ?_, hrun, hended, _, _, rfl, ?_, ⟨_, rfl⟩, hW, hsame.mono (by decide) (by decide)⟩
  · exact X22.returnOut hx Bd.returns (hb hby d6_295) hr
  · show Q6_0 Z a1 q2 nL nt na ni dq ar k_ar h0 n0 _ T22.heap _
    rw [e22]
    have hlf_0 : own_tk0 nL q2 nt ni = (((nt + (r_18 ((r_10 (q2 + (1 : Int64)) (nL.toInt64)).toInt32 - ni) nL).toInt64), (9223372036854775807 : Int64), (r_10 (q2 + (1 : Int64)) (nL.toInt64)).toInt32, 1, (ni, (q2 + nL.toInt64), (1 : Int64), (0 : Int32), (1 : Int64)), ((0 : Int32), (0 : Int64))) : own_A) := own_at_6_0_hlf_0 q2 nL nt ni hc16 hhc8_28 hc43 hc53 hhc8_198 hc211 hhnz2_230 hc246
    exact ⟨rfl, NN, Z0, (by rw [hlf_0]; exact own_mk1 E_a1 g_a1 F_a1_length F_a1_turns F_a1_alike F_a1_idle F_a1_chains E_dq g_dq ne_dq_a1 F_dq_head F_dq_tail F_dq_elements O_ar V_ar g_ar (Ne.symm ne_a1_ar) ne_dq_ar E_b15_0 g_b15_0 F_b15_0_from F_b15_0_resume F_b15_0_size F_b15_0_fromStep F_b15_0_resumeStep (Ne.symm ne_a1_b15_0) ne_dq_b15_0 ne_ar_b15_0)⟩
theorem d6_85 : decode prog_29_method_5_code 85 = .ok (.aload_n 0, 1) := by decide +kernel
theorem d6_86 : decode prog_29_method_5_code 86 = .ok (.getfield 10, 3) := by decide +kernel
theorem d6_89 : decode prog_29_method_5_code 89 = .ok (.invokevirtual 88, 3) := by decide +kernel
theorem d6_92 : decode prog_29_method_5_code 92 = .ok (.checkcast 63, 3) := by decide +kernel
theorem d6_95 : decode prog_29_method_5_code 95 = .ok (.getfield 78, 3) := by decide +kernel
theorem d6_98 : decode prog_29_method_5_code 98 = .ok (.lload_n 1, 1) := by decide +kernel
theorem d6_99 : decode prog_29_method_5_code 99 = .ok (.lcmp, 1) := by decide +kernel
theorem d6_100 : decode prog_29_method_5_code 100 = .ok (.ifCond .gt 79, 3) := by decide +kernel
theorem d6_103 : decode prog_29_method_5_code 103 = .ok (.aload_n 0, 1) := by decide +kernel
theorem d6_104 : decode prog_29_method_5_code 104 = .ok (.getfield 10, 3) := by decide +kernel
theorem d6_107 : decode prog_29_method_5_code 107 = .ok (.invokevirtual 88, 3) := by decide +kernel
theorem d6_110 : decode prog_29_method_5_code 110 = .ok (.checkcast 63, 3) := by decide +kernel
theorem d6_113 : decode prog_29_method_5_code 113 = .ok (.astore 5, 2) := by decide +kernel
theorem d6_115 : decode prog_29_method_5_code 115 = .ok (.aload 5, 2) := by decide +kernel
theorem d6_117 : decode prog_29_method_5_code 117 = .ok (.getfield 68, 3) := by decide +kernel
theorem d6_120 : decode prog_29_method_5_code 120 = .ok (.lload_n 1, 1) := by decide +kernel
theorem d6_121 : decode prog_29_method_5_code 121 = .ok (.aload 5, 2) := by decide +kernel
theorem d6_123 : decode prog_29_method_5_code 123 = .ok (.getfield 78, 3) := by decide +kernel
theorem d6_126 : decode prog_29_method_5_code 126 = .ok (.lsub, 1) := by decide +kernel
theorem d6_127 : decode prog_29_method_5_code 127 = .ok (.aload 5, 2) := by decide +kernel
theorem d6_129 : decode prog_29_method_5_code 129 = .ok (.getfield 81, 3) := by decide +kernel
theorem d6_132 : decode prog_29_method_5_code 132 = .ok (.ldiv, 1) := by decide +kernel
theorem d6_133 : decode prog_29_method_5_code 133 = .ok (.lconst 1, 1) := by decide +kernel
theorem d6_134 : decode prog_29_method_5_code 134 = .ok (.ladd, 1) := by decide +kernel
theorem d6_135 : decode prog_29_method_5_code 135 = .ok (.invokestatic 74, 3) := by decide +kernel
theorem d6_138 : decode prog_29_method_5_code 138 = .ok (.lstore 6, 2) := by decide +kernel
theorem d6_140 : decode prog_29_method_5_code 140 = .ok (.iconst 1, 1) := by decide +kernel
theorem d6_141 : decode prog_29_method_5_code 141 = .ok (.istore 4, 2) := by decide +kernel
theorem d6_143 : decode prog_29_method_5_code 143 = .ok (.lload 6, 2) := by decide +kernel
theorem d6_145 : decode prog_29_method_5_code 145 = .ok (.aload 5, 2) := by decide +kernel
theorem d6_147 : decode prog_29_method_5_code 147 = .ok (.getfield 68, 3) := by decide +kernel
theorem d6_150 : decode prog_29_method_5_code 150 = .ok (.lcmp, 1) := by decide +kernel
theorem d6_151 : decode prog_29_method_5_code 151 = .ok (.ifCond .ge 17, 3) := by decide +kernel
theorem d6_154 : decode prog_29_method_5_code 154 = .ok (.aload 5, 2) := by decide +kernel
theorem d6_156 : decode prog_29_method_5_code 156 = .ok (.lload 6, 2) := by decide +kernel
theorem d6_158 : decode prog_29_method_5_code 158 = .ok (.aload_n 0, 1) := by decide +kernel
theorem d6_159 : decode prog_29_method_5_code 159 = .ok (.getfield 16, 3) := by decide +kernel
theorem d6_162 : decode prog_29_method_5_code 162 = .ok (.invokevirtual 91, 3) := by decide +kernel
theorem d6_165 : decode prog_29_method_5_code 165 = .ok (.goto 11, 3) := by decide +kernel
theorem d6_168 : decode prog_29_method_5_code 168 = .ok (.aload_n 0, 1) := by decide +kernel
theorem d6_169 : decode prog_29_method_5_code 169 = .ok (.getfield 10, 3) := by decide +kernel
theorem d6_172 : decode prog_29_method_5_code 172 = .ok (.invokevirtual 95, 3) := by decide +kernel
theorem d6_175 : decode prog_29_method_5_code 175 = .ok (.pop, 1) := by decide +kernel
theorem d6_176 : decode prog_29_method_5_code 176 = .ok (.goto (-101), 3) := by decide +kernel
theorem d6_184 : decode prog_29_method_5_code 184 = .ok (.return_, 1) := by decide +kernel
theorem d6_214 : decode prog_29_method_5_code 214 = .ok (.aload_n 0, 1) := by decide +kernel
theorem d6_215 : decode prog_29_method_5_code 215 = .ok (.getfield 16, 3) := by decide +kernel
theorem d6_218 : decode prog_29_method_5_code 218 = .ok (.i2l, 1) := by decide +kernel
theorem d6_219 : decode prog_29_method_5_code 219 = .ok (.goto 15, 3) := by decide +kernel
theorem d6_249 : decode prog_29_method_5_code 249 = .ok (.aload_n 0, 1) := by decide +kernel
theorem d6_250 : decode prog_29_method_5_code 250 = .ok (.getfield 10, 3) := by decide +kernel
theorem d6_253 : decode prog_29_method_5_code 253 = .ok (.invokevirtual 102, 3) := by decide +kernel
theorem d6_256 : decode prog_29_method_5_code 256 = .ok (.iconst 1, 1) := by decide +kernel
theorem d6_257 : decode prog_29_method_5_code 257 = .ok (.if_icmp .ne 38, 3) := by decide +kernel
theorem d6_260 : decode prog_29_method_5_code 260 = .ok (.aload_n 0, 1) := by decide +kernel
theorem d6_261 : decode prog_29_method_5_code 261 = .ok (.getfield 10, 3) := by decide +kernel
theorem d6_264 : decode prog_29_method_5_code 264 = .ok (.invokevirtual 88, 3) := by decide +kernel
theorem d6_267 : decode prog_29_method_5_code 267 = .ok (.checkcast 63, 3) := by decide +kernel
theorem d6_270 : decode prog_29_method_5_code 270 = .ok (.getfield 68, 3) := by decide +kernel
theorem d6_273 : decode prog_29_method_5_code 273 = .ok (.lconst 1, 1) := by decide +kernel
theorem d6_274 : decode prog_29_method_5_code 274 = .ok (.lcmp, 1) := by decide +kernel
theorem d6_275 : decode prog_29_method_5_code 275 = .ok (.ifCond .ne 20, 3) := by decide +kernel
theorem d6_278 : decode prog_29_method_5_code 278 = .ok (.aload_n 0, 1) := by decide +kernel
theorem d6_279 : decode prog_29_method_5_code 279 = .ok (.aload_n 0, 1) := by decide +kernel
theorem d6_280 : decode prog_29_method_5_code 280 = .ok (.getfield 10, 3) := by decide +kernel
theorem d6_283 : decode prog_29_method_5_code 283 = .ok (.invokevirtual 95, 3) := by decide +kernel
theorem d6_286 : decode prog_29_method_5_code 286 = .ok (.checkcast 63, 3) := by decide +kernel
theorem d6_289 : decode prog_29_method_5_code 289 = .ok (.getfield 78, 3) := by decide +kernel
theorem d6_292 : decode prog_29_method_5_code 292 = .ok (.putfield 20, 3) := by decide +kernel
theorem pd_15 : parseMethodDescriptor "(JI)V" = some ⟨[.long, .int], none⟩ := by decide +kernel
theorem ef_6_1 (m : MethodId) (a1 : Addr) (q2 : Int64) : entryFrame m #[(.ref a1), (.long q2)] 8 = mkF m 0 #[.val (.ref a1), .val (.long q2), .second, .unset, .unset, .unset, .unset, .unset] [] := by first | (simp [entryFrame, mkF, argsToLocals, Value.category]; done) | rfl
def Q6_1 (Z : State) (a1 : Addr) (q2 : Int64) (nL : Int32) (nt : Int64) (na : Int64) (ni : Int32) (dq : Addr) (ar : Addr) (fa0 : Int32) (ra0 : Int64) (sa0 : Int64) (ga0 : Int32) (ka0 : Int64) (k_ar : ClassId) (x0 : Addr) (h0 : Heap) (n0 : Nat) (v : Option Value) (h : Heap) (L : List Loc) : Prop := v = none ∧ Fr n0 L ∧ n0 ≤ h.size ∧ own_Bn Z h n0 a1 nL (own_tk1 nL q2 nt na ni fa0 ra0 sa0 ga0 ka0)
theorem own_at_6_1_hlf_0_tt (q2 : Int64) (nL : Int32) (nt : Int64) (na : Int64) (ni : Int32) (fa0 : Int32) (ra0 : Int64) (sa0 : Int64) (ga0 : Int32) (ka0 : Int64) (i12 : Int32) (j12 : Int32) (hi12 : i12 = (if ni < nL then (if q2 < ni.toInt64 then ni else (r_10 (q2 + (1 : Int64)) (nL.toInt64)).toInt32) else ni)) (hj12 : j12 = (if ni < nL then (if q2 < ni.toInt64 then (0 : Int32) else (1 : Int32)) else (0 : Int32))) (hN : own_N1 q2 nL ni ra0 sa0 ka0) (hhhnz26_25_194 : ¬ (nL.toInt64 = (0 : Int64))) (hhhhnz2_31_25_194 : ¬ (nL = (0 : Int32))) (hhnz2_230 : ¬ (nL = (0 : Int32))) (hnz132 : ¬ (ka0 = (0 : Int64))) (hhnz16_162 : ¬ (nL.toInt64 = (0 : Int64))) (hc100_3 : q2 < ra0) (hc181_4 : j12 = (0 : Int32)) : own_tk1 nL q2 nt na ni fa0 ra0 sa0 ga0 ka0 = ((nt, na, i12, 1, (fa0, ra0, sa0, ga0, ka0), ((0 : Int32), (0 : Int64))) : own_A) := by
  subst hj12; subst hi12
  refine (if_pos hc100_3).trans ?_
  refine (if_pos hc181_4).trans ?_
  rfl
theorem own_at_6_1_hlf_0_tftt (q2 : Int64) (nL : Int32) (nt : Int64) (na : Int64) (ni : Int32) (fa0 : Int32) (ra0 : Int64) (sa0 : Int64) (ga0 : Int32) (ka0 : Int64) (j4 : Int32) (i12 : Int32) (j12 : Int32) (j27 : Int64) (j28 : Int32) (j29 : Int64) (j31 : Int32) (j36 : Int64) (j40 : Int64) (hj4 : j4 = (r_9_b_0_1 nL ni fa0)) (hi12 : i12 = (if ni < nL then (if q2 < ni.toInt64 then ni else (r_10 (q2 + (1 : Int64)) (nL.toInt64)).toInt32) else ni)) (hj12 : j12 = (if ni < nL then (if q2 < ni.toInt64 then (0 : Int32) else (1 : Int32)) else (0 : Int32))) (hj27 : j27 = (u_20_a1_size j4 (q2 + nL.toInt64) nL sa0 fa0 ga0 ra0 ka0)) (hj28 : j28 = (u_20_a1_fromStep j4 (q2 + nL.toInt64) nL sa0 fa0 ga0 ra0 ka0)) (hj29 : j29 = (u_20_a1_resumeStep j4 (q2 + nL.toInt64) nL sa0 fa0 ga0 ra0 ka0)) (hj31 : j31 = (r_9_b_0_2 nL i12 fa0)) (hj36 : j36 = (if j31 = j4 then nL.toInt64 else (r_18 (j31 - j4) nL).toInt64)) (hj40 : j40 = (nt + j36)) (hN : own_N1 q2 nL ni ra0 sa0 ka0) (hhhnz26_25_194 : ¬ (nL.toInt64 = (0 : Int64))) (hhhhnz2_31_25_194 : ¬ (nL = (0 : Int32))) (hhnz2_230 : ¬ (nL = (0 : Int32))) (hnz132 : ¬ (ka0 = (0 : Int64))) (hhnz16_162 : ¬ (nL.toInt64 = (0 : Int64))) (hc100_3 : q2 < ra0) (hc181_4 : ¬ (j12 = (0 : Int32))) (hf194_5 : (r_20 j4 (q2 + nL.toInt64) nL sa0 fa0 ga0 ra0 ka0) = (0 : Int32)) (hc246_7 : i12 = nL) : own_tk1 nL q2 nt na ni fa0 ra0 sa0 ga0 ka0 = ((j40, na, i12, 2, (fa0, ra0, j27, j28, j29), (j4, (q2 + nL.toInt64))) : own_A) := by
  subst hj40; subst hj36; subst hj31; subst hj29; subst hj28; subst hj27; subst hj12; subst hi12; subst hj4
  refine (if_pos hc100_3).trans ?_
  refine (if_neg hc181_4).trans ?_
  refine (if_pos hf194_5).trans ?_
  rfl
theorem own_at_6_1_hlf_0_tftf (q2 : Int64) (nL : Int32) (nt : Int64) (na : Int64) (ni : Int32) (fa0 : Int32) (ra0 : Int64) (sa0 : Int64) (ga0 : Int32) (ka0 : Int64) (j4 : Int32) (i12 : Int32) (j12 : Int32) (j27 : Int64) (j28 : Int32) (j29 : Int64) (j31 : Int32) (j36 : Int64) (j40 : Int64) (hj4 : j4 = (r_9_b_0_1 nL ni fa0)) (hi12 : i12 = (if ni < nL then (if q2 < ni.toInt64 then ni else (r_10 (q2 + (1 : Int64)) (nL.toInt64)).toInt32) else ni)) (hj12 : j12 = (if ni < nL then (if q2 < ni.toInt64 then (0 : Int32) else (1 : Int32)) else (0 : Int32))) (hj27 : j27 = (u_20_a1_size j4 (q2 + nL.toInt64) nL sa0 fa0 ga0 ra0 ka0)) (hj28 : j28 = (u_20_a1_fromStep j4 (q2 + nL.toInt64) nL sa0 fa0 ga0 ra0 ka0)) (hj29 : j29 = (u_20_a1_resumeStep j4 (q2 + nL.toInt64) nL sa0 fa0 ga0 ra0 ka0)) (hj31 : j31 = (r_9_b_0_2 nL i12 fa0)) (hj36 : j36 = (if j31 = j4 then nL.toInt64 else (r_18 (j31 - j4) nL).toInt64)) (hj40 : j40 = (nt + j36)) (hN : own_N1 q2 nL ni ra0 sa0 ka0) (hhhnz26_25_194 : ¬ (nL.toInt64 = (0 : Int64))) (hhhhnz2_31_25_194 : ¬ (nL = (0 : Int32))) (hhnz2_230 : ¬ (nL = (0 : Int32))) (hnz132 : ¬ (ka0 = (0 : Int64))) (hhnz16_162 : ¬ (nL.toInt64 = (0 : Int64))) (hc100_3 : q2 < ra0) (hc181_4 : ¬ (j12 = (0 : Int32))) (hf194_5 : (r_20 j4 (q2 + nL.toInt64) nL sa0 fa0 ga0 ra0 ka0) = (0 : Int32)) (hc246_7 : ¬ (i12 = nL)) : own_tk1 nL q2 nt na ni fa0 ra0 sa0 ga0 ka0 = ((j40, na, i12, 2, (fa0, ra0, j27, j28, j29), (j4, (q2 + nL.toInt64))) : own_A) := by
  subst hj40; subst hj36; subst hj31; subst hj29; subst hj28; subst hj27; subst hj12; subst hi12; subst hj4
  refine (if_pos hc100_3).trans ?_
  refine (if_neg hc181_4).trans ?_
  refine (if_pos hf194_5).trans ?_
  rfl
theorem own_at_6_1_hs275_0_tfft (q2 : Int64) (nL : Int32) (ni : Int32) (fa0 : Int32) (ra0 : Int64) (sa0 : Int64) (ga0 : Int32) (ka0 : Int64) (j4 : Int32) (i12 : Int32) (j12 : Int32) (j47 : Int64) (hj4 : j4 = (r_9_b_0_1 nL ni fa0)) (hi12 : i12 = (if ni < nL then (if q2 < ni.toInt64 then ni else (r_10 (q2 + (1 : Int64)) (nL.toInt64)).toInt32) else ni)) (hj12 : j12 = (if ni < nL then (if q2 < ni.toInt64 then (0 : Int32) else (1 : Int32)) else (0 : Int32))) (hj47 : j47 = (u_20_a1_size j4 (q2 + nL.toInt64) nL sa0 fa0 ga0 ra0 ka0)) (hN : own_N1 q2 nL ni ra0 sa0 ka0) (hhhnz26_25_194 : ¬ (nL.toInt64 = (0 : Int64))) (hhhhnz2_31_25_194 : ¬ (nL = (0 : Int32))) (hhnz2_230 : ¬ (nL = (0 : Int32))) (hnz132 : ¬ (ka0 = (0 : Int64))) (hhnz16_162 : ¬ (nL.toInt64 = (0 : Int64))) (hc100_3 : q2 < ra0) (hc181_4 : ¬ (j12 = (0 : Int32))) (hf194_5 : ¬ ((r_20 j4 (q2 + nL.toInt64) nL sa0 fa0 ga0 ra0 ka0) = (0 : Int32))) (hc246_9 : i12 = nL) : ¬ (j47 = (1 : Int64)) := by
  subst hj47; subst hj12; subst hi12; subst hj4
  intro q
  rw [own_pl_sz hf194_5] at q
  exact hN.2.2.2.1 q
theorem own_at_6_1_hlf_0_tfft (q2 : Int64) (nL : Int32) (nt : Int64) (na : Int64) (ni : Int32) (fa0 : Int32) (ra0 : Int64) (sa0 : Int64) (ga0 : Int32) (ka0 : Int64) (j4 : Int32) (i12 : Int32) (j12 : Int32) (j47 : Int64) (j48 : Int32) (j49 : Int64) (j51 : Int32) (j56 : Int64) (j60 : Int64) (hj4 : j4 = (r_9_b_0_1 nL ni fa0)) (hi12 : i12 = (if ni < nL then (if q2 < ni.toInt64 then ni else (r_10 (q2 + (1 : Int64)) (nL.toInt64)).toInt32) else ni)) (hj12 : j12 = (if ni < nL then (if q2 < ni.toInt64 then (0 : Int32) else (1 : Int32)) else (0 : Int32))) (hj47 : j47 = (u_20_a1_size j4 (q2 + nL.toInt64) nL sa0 fa0 ga0 ra0 ka0)) (hj48 : j48 = (u_20_a1_fromStep j4 (q2 + nL.toInt64) nL sa0 fa0 ga0 ra0 ka0)) (hj49 : j49 = (u_20_a1_resumeStep j4 (q2 + nL.toInt64) nL sa0 fa0 ga0 ra0 ka0)) (hj51 : j51 = (r_9_b_0_1 nL i12 fa0)) (hj56 : j56 = (if j51 = j4 then nL.toInt64 else (r_18 (j51 - j4) nL).toInt64)) (hj60 : j60 = (nt + j56)) (hN : own_N1 q2 nL ni ra0 sa0 ka0) (hhhnz26_25_194 : ¬ (nL.toInt64 = (0 : Int64))) (hhhhnz2_31_25_194 : ¬ (nL = (0 : Int32))) (hhnz2_230 : ¬ (nL = (0 : Int32))) (hnz132 : ¬ (ka0 = (0 : Int64))) (hhnz16_162 : ¬ (nL.toInt64 = (0 : Int64))) (hc100_3 : q2 < ra0) (hc181_4 : ¬ (j12 = (0 : Int32))) (hf194_5 : ¬ ((r_20 j4 (q2 + nL.toInt64) nL sa0 fa0 ga0 ra0 ka0) = (0 : Int32))) (hc246_9 : i12 = nL) (hs275_0 : ¬ (j47 = (1 : Int64))) : own_tk1 nL q2 nt na ni fa0 ra0 sa0 ga0 ka0 = ((j60, na, i12, 1, (fa0, ra0, j47, j48, j49), ((0 : Int32), (0 : Int64))) : own_A) := by
  subst hj60; subst hj56; subst hj51; subst hj49; subst hj48; subst hj47; subst hj12; subst hi12; subst hj4
  refine (if_pos hc100_3).trans ?_
  refine (if_neg hc181_4).trans ?_
  refine (if_neg hf194_5).trans ?_
  rfl
theorem own_at_6_1_hlf_0_tfff (q2 : Int64) (nL : Int32) (nt : Int64) (na : Int64) (ni : Int32) (fa0 : Int32) (ra0 : Int64) (sa0 : Int64) (ga0 : Int32) (ka0 : Int64) (j4 : Int32) (i12 : Int32) (j12 : Int32) (j47 : Int64) (j48 : Int32) (j49 : Int64) (j51 : Int32) (j56 : Int64) (j60 : Int64) (hj4 : j4 = (r_9_b_0_1 nL ni fa0)) (hi12 : i12 = (if ni < nL then (if q2 < ni.toInt64 then ni else (r_10 (q2 + (1 : Int64)) (nL.toInt64)).toInt32) else ni)) (hj12 : j12 = (if ni < nL then (if q2 < ni.toInt64 then (0 : Int32) else (1 : Int32)) else (0 : Int32))) (hj47 : j47 = (u_20_a1_size j4 (q2 + nL.toInt64) nL sa0 fa0 ga0 ra0 ka0)) (hj48 : j48 = (u_20_a1_fromStep j4 (q2 + nL.toInt64) nL sa0 fa0 ga0 ra0 ka0)) (hj49 : j49 = (u_20_a1_resumeStep j4 (q2 + nL.toInt64) nL sa0 fa0 ga0 ra0 ka0)) (hj51 : j51 = (r_9_b_0_1 nL i12 fa0)) (hj56 : j56 = (if j51 = j4 then nL.toInt64 else (r_18 (j51 - j4) nL).toInt64)) (hj60 : j60 = (nt + j56)) (hN : own_N1 q2 nL ni ra0 sa0 ka0) (hhhnz26_25_194 : ¬ (nL.toInt64 = (0 : Int64))) (hhhhnz2_31_25_194 : ¬ (nL = (0 : Int32))) (hhnz2_230 : ¬ (nL = (0 : Int32))) (hnz132 : ¬ (ka0 = (0 : Int64))) (hhnz16_162 : ¬ (nL.toInt64 = (0 : Int64))) (hc100_3 : q2 < ra0) (hc181_4 : ¬ (j12 = (0 : Int32))) (hf194_5 : ¬ ((r_20 j4 (q2 + nL.toInt64) nL sa0 fa0 ga0 ra0 ka0) = (0 : Int32))) (hc246_9 : ¬ (i12 = nL)) : own_tk1 nL q2 nt na ni fa0 ra0 sa0 ga0 ka0 = ((j60, na, i12, 1, (fa0, ra0, j47, j48, j49), ((0 : Int32), (0 : Int64))) : own_A) := by
  subst hj60; subst hj56; subst hj51; subst hj49; subst hj48; subst hj47; subst hj12; subst hi12; subst hj4
  refine (if_pos hc100_3).trans ?_
  refine (if_neg hc181_4).trans ?_
  refine (if_neg hf194_5).trans ?_
  rfl
theorem own_at_6_1_hs100_0_ft (q2 : Int64) (nL : Int32) (ni : Int32) (ra0 : Int64) (sa0 : Int64) (ka0 : Int64) (j73 : Int64) (j77 : Int64) (hj73 : j73 = (r_10 sa0 (((q2 - ra0) / ka0) + (1 : Int64)))) (hj77 : j77 = (ra0 + (j73 * ka0))) (hN : own_N1 q2 nL ni ra0 sa0 ka0) (hhhnz26_25_194 : ¬ (nL.toInt64 = (0 : Int64))) (hhhhnz2_31_25_194 : ¬ (nL = (0 : Int32))) (hhnz2_230 : ¬ (nL = (0 : Int32))) (hnz132 : ¬ (ka0 = (0 : Int64))) (hhnz16_162 : ¬ (nL.toInt64 = (0 : Int64))) (hc100_3 : ¬ (q2 < ra0)) (hc151_10 : j73 < sa0) : q2 < j77 := by
  subst hj77; subst hj73
  exact ((hN.2.2.2.2 hc100_3).2 hc151_10).1
theorem own_at_6_1_hs246_0_ftt (q2 : Int64) (nL : Int32) (ni : Int32) (fa0 : Int32) (ra0 : Int64) (sa0 : Int64) (ga0 : Int32) (ka0 : Int64) (j4 : Int32) (i12 : Int32) (j73 : Int64) (j76 : Int32) (j77 : Int64) (j78 : Int64) (hj4 : j4 = (r_9_b_0_1 nL ni fa0)) (hi12 : i12 = (if ni < nL then (if q2 < ni.toInt64 then ni else (r_10 (q2 + (1 : Int64)) (nL.toInt64)).toInt32) else ni)) (hj73 : j73 = (r_10 sa0 (((q2 - ra0) / ka0) + (1 : Int64)))) (hj76 : j76 = ((fa0.toInt64 + (j73 * ga0.toInt64)) - ((fa0.toInt64 + (j73 * ga0.toInt64)) / nL.toInt64) * nL.toInt64).toInt32) (hj77 : j77 = (ra0 + (j73 * ka0))) (hj78 : j78 = (sa0 - j73)) (hN : own_N1 q2 nL ni ra0 sa0 ka0) (hhhnz26_25_194 : ¬ (nL.toInt64 = (0 : Int64))) (hhhhnz2_31_25_194 : ¬ (nL = (0 : Int32))) (hhnz2_230 : ¬ (nL = (0 : Int32))) (hnz132 : ¬ (ka0 = (0 : Int64))) (hhnz16_162 : ¬ (nL.toInt64 = (0 : Int64))) (hc100_3 : ¬ (q2 < ra0)) (hc151_10 : j73 < sa0) (hs100_0 : q2 < j77) (hf194_11 : (r_20 j4 (q2 + nL.toInt64) nL j78 j76 ga0 j77 ka0) = (0 : Int32)) : i12 = nL := by
  subst hj78; subst hj77; subst hj76; subst hj73; subst hi12; subst hj4
  exact (hN.2.2.2.2 hc100_3).1
theorem own_at_6_1_hlf_0_ftt (q2 : Int64) (nL : Int32) (nt : Int64) (na : Int64) (ni : Int32) (fa0 : Int32) (ra0 : Int64) (sa0 : Int64) (ga0 : Int32) (ka0 : Int64) (j4 : Int32) (i12 : Int32) (j73 : Int64) (j76 : Int32) (j77 : Int64) (j78 : Int64) (j86 : Int64) (j87 : Int32) (j88 : Int64) (j90 : Int32) (j95 : Int64) (j99 : Int64) (hj4 : j4 = (r_9_b_0_1 nL ni fa0)) (hi12 : i12 = (if ni < nL then (if q2 < ni.toInt64 then ni else (r_10 (q2 + (1 : Int64)) (nL.toInt64)).toInt32) else ni)) (hj73 : j73 = (r_10 sa0 (((q2 - ra0) / ka0) + (1 : Int64)))) (hj76 : j76 = ((fa0.toInt64 + (j73 * ga0.toInt64)) - ((fa0.toInt64 + (j73 * ga0.toInt64)) / nL.toInt64) * nL.toInt64).toInt32) (hj77 : j77 = (ra0 + (j73 * ka0))) (hj78 : j78 = (sa0 - j73)) (hj86 : j86 = (u_20_a1_size j4 (q2 + nL.toInt64) nL j78 j76 ga0 j77 ka0)) (hj87 : j87 = (u_20_a1_fromStep j4 (q2 + nL.toInt64) nL j78 j76 ga0 j77 ka0)) (hj88 : j88 = (u_20_a1_resumeStep j4 (q2 + nL.toInt64) nL j78 j76 ga0 j77 ka0)) (hj90 : j90 = (r_9_b_0_2 nL i12 j76)) (hj95 : j95 = (if j90 = j4 then nL.toInt64 else (r_18 (j90 - j4) nL).toInt64)) (hj99 : j99 = (nt + j95)) (hN : own_N1 q2 nL ni ra0 sa0 ka0) (hhhnz26_25_194 : ¬ (nL.toInt64 = (0 : Int64))) (hhhhnz2_31_25_194 : ¬ (nL = (0 : Int32))) (hhnz2_230 : ¬ (nL = (0 : Int32))) (hnz132 : ¬ (ka0 = (0 : Int64))) (hhnz16_162 : ¬ (nL.toInt64 = (0 : Int64))) (hc100_3 : ¬ (q2 < ra0)) (hc151_10 : j73 < sa0) (hs100_0 : q2 < j77) (hf194_11 : (r_20 j4 (q2 + nL.toInt64) nL j78 j76 ga0 j77 ka0) = (0 : Int32)) (hs246_0 : i12 = nL) : own_tk1 nL q2 nt na ni fa0 ra0 sa0 ga0 ka0 = ((j99, na, i12, 2, (j76, j77, j86, j87, j88), (j4, (q2 + nL.toInt64))) : own_A) := by
  subst hj99; subst hj95; subst hj90; subst hj88; subst hj87; subst hj86; subst hj78; subst hj77; subst hj76; subst hj73; subst hi12; subst hj4
  refine (if_neg hc100_3).trans ?_
  refine (if_pos hc151_10).trans ?_
  refine (if_pos hf194_11).trans ?_
  rfl
theorem own_at_6_1_hs246_0_ftf (q2 : Int64) (nL : Int32) (ni : Int32) (fa0 : Int32) (ra0 : Int64) (sa0 : Int64) (ga0 : Int32) (ka0 : Int64) (j4 : Int32) (i12 : Int32) (j73 : Int64) (j76 : Int32) (j77 : Int64) (j78 : Int64) (hj4 : j4 = (r_9_b_0_1 nL ni fa0)) (hi12 : i12 = (if ni < nL then (if q2 < ni.toInt64 then ni else (r_10 (q2 + (1 : Int64)) (nL.toInt64)).toInt32) else ni)) (hj73 : j73 = (r_10 sa0 (((q2 - ra0) / ka0) + (1 : Int64)))) (hj76 : j76 = ((fa0.toInt64 + (j73 * ga0.toInt64)) - ((fa0.toInt64 + (j73 * ga0.toInt64)) / nL.toInt64) * nL.toInt64).toInt32) (hj77 : j77 = (ra0 + (j73 * ka0))) (hj78 : j78 = (sa0 - j73)) (hN : own_N1 q2 nL ni ra0 sa0 ka0) (hhhnz26_25_194 : ¬ (nL.toInt64 = (0 : Int64))) (hhhhnz2_31_25_194 : ¬ (nL = (0 : Int32))) (hhnz2_230 : ¬ (nL = (0 : Int32))) (hnz132 : ¬ (ka0 = (0 : Int64))) (hhnz16_162 : ¬ (nL.toInt64 = (0 : Int64))) (hc100_3 : ¬ (q2 < ra0)) (hc151_10 : j73 < sa0) (hs100_0 : q2 < j77) (hf194_11 : ¬ ((r_20 j4 (q2 + nL.toInt64) nL j78 j76 ga0 j77 ka0) = (0 : Int32))) : i12 = nL := by
  subst hj78; subst hj77; subst hj76; subst hj73; subst hi12; subst hj4
  exact (hN.2.2.2.2 hc100_3).1
theorem own_at_6_1_hs275_0_ftf (q2 : Int64) (nL : Int32) (ni : Int32) (fa0 : Int32) (ra0 : Int64) (sa0 : Int64) (ga0 : Int32) (ka0 : Int64) (j4 : Int32) (i12 : Int32) (j73 : Int64) (j76 : Int32) (j77 : Int64) (j78 : Int64) (j106 : Int64) (hj4 : j4 = (r_9_b_0_1 nL ni fa0)) (hi12 : i12 = (if ni < nL then (if q2 < ni.toInt64 then ni else (r_10 (q2 + (1 : Int64)) (nL.toInt64)).toInt32) else ni)) (hj73 : j73 = (r_10 sa0 (((q2 - ra0) / ka0) + (1 : Int64)))) (hj76 : j76 = ((fa0.toInt64 + (j73 * ga0.toInt64)) - ((fa0.toInt64 + (j73 * ga0.toInt64)) / nL.toInt64) * nL.toInt64).toInt32) (hj77 : j77 = (ra0 + (j73 * ka0))) (hj78 : j78 = (sa0 - j73)) (hj106 : j106 = (u_20_a1_size j4 (q2 + nL.toInt64) nL j78 j76 ga0 j77 ka0)) (hN : own_N1 q2 nL ni ra0 sa0 ka0) (hhhnz26_25_194 : ¬ (nL.toInt64 = (0 : Int64))) (hhhhnz2_31_25_194 : ¬ (nL = (0 : Int32))) (hhnz2_230 : ¬ (nL = (0 : Int32))) (hnz132 : ¬ (ka0 = (0 : Int64))) (hhnz16_162 : ¬ (nL.toInt64 = (0 : Int64))) (hc100_3 : ¬ (q2 < ra0)) (hc151_10 : j73 < sa0) (hs100_0 : q2 < j77) (hf194_11 : ¬ ((r_20 j4 (q2 + nL.toInt64) nL j78 j76 ga0 j77 ka0) = (0 : Int32))) (hs246_0 : i12 = nL) : ¬ (j106 = (1 : Int64)) := by
  subst hj106; subst hj78; subst hj77; subst hj76; subst hj73; subst hi12; subst hj4
  intro q
  rw [own_pl_sz hf194_11] at q
  exact ((hN.2.2.2.2 hc100_3).2 hc151_10).2 q
theorem own_at_6_1_hlf_0_ftf (q2 : Int64) (nL : Int32) (nt : Int64) (na : Int64) (ni : Int32) (fa0 : Int32) (ra0 : Int64) (sa0 : Int64) (ga0 : Int32) (ka0 : Int64) (j4 : Int32) (i12 : Int32) (j73 : Int64) (j76 : Int32) (j77 : Int64) (j78 : Int64) (j106 : Int64) (j107 : Int32) (j108 : Int64) (j110 : Int32) (j115 : Int64) (j119 : Int64) (hj4 : j4 = (r_9_b_0_1 nL ni fa0)) (hi12 : i12 = (if ni < nL then (if q2 < ni.toInt64 then ni else (r_10 (q2 + (1 : Int64)) (nL.toInt64)).toInt32) else ni)) (hj73 : j73 = (r_10 sa0 (((q2 - ra0) / ka0) + (1 : Int64)))) (hj76 : j76 = ((fa0.toInt64 + (j73 * ga0.toInt64)) - ((fa0.toInt64 + (j73 * ga0.toInt64)) / nL.toInt64) * nL.toInt64).toInt32) (hj77 : j77 = (ra0 + (j73 * ka0))) (hj78 : j78 = (sa0 - j73)) (hj106 : j106 = (u_20_a1_size j4 (q2 + nL.toInt64) nL j78 j76 ga0 j77 ka0)) (hj107 : j107 = (u_20_a1_fromStep j4 (q2 + nL.toInt64) nL j78 j76 ga0 j77 ka0)) (hj108 : j108 = (u_20_a1_resumeStep j4 (q2 + nL.toInt64) nL j78 j76 ga0 j77 ka0)) (hj110 : j110 = (r_9_b_0_1 nL i12 j76)) (hj115 : j115 = (if j110 = j4 then nL.toInt64 else (r_18 (j110 - j4) nL).toInt64)) (hj119 : j119 = (nt + j115)) (hN : own_N1 q2 nL ni ra0 sa0 ka0) (hhhnz26_25_194 : ¬ (nL.toInt64 = (0 : Int64))) (hhhhnz2_31_25_194 : ¬ (nL = (0 : Int32))) (hhnz2_230 : ¬ (nL = (0 : Int32))) (hnz132 : ¬ (ka0 = (0 : Int64))) (hhnz16_162 : ¬ (nL.toInt64 = (0 : Int64))) (hc100_3 : ¬ (q2 < ra0)) (hc151_10 : j73 < sa0) (hs100_0 : q2 < j77) (hf194_11 : ¬ ((r_20 j4 (q2 + nL.toInt64) nL j78 j76 ga0 j77 ka0) = (0 : Int32))) (hs246_0 : i12 = nL) (hs275_0 : ¬ (j106 = (1 : Int64))) : own_tk1 nL q2 nt na ni fa0 ra0 sa0 ga0 ka0 = ((j119, na, i12, 1, (j76, j77, j106, j107, j108), ((0 : Int32), (0 : Int64))) : own_A) := by
  subst hj119; subst hj115; subst hj110; subst hj108; subst hj107; subst hj106; subst hj78; subst hj77; subst hj76; subst hj73; subst hi12; subst hj4
  refine (if_neg hc100_3).trans ?_
  refine (if_pos hc151_10).trans ?_
  refine (if_neg hf194_11).trans ?_
  rfl
theorem own_at_6_1_hs246_0_ff (q2 : Int64) (nL : Int32) (ni : Int32) (ra0 : Int64) (sa0 : Int64) (ka0 : Int64) (i12 : Int32) (j73 : Int64) (hi12 : i12 = (if ni < nL then (if q2 < ni.toInt64 then ni else (r_10 (q2 + (1 : Int64)) (nL.toInt64)).toInt32) else ni)) (hj73 : j73 = (r_10 sa0 (((q2 - ra0) / ka0) + (1 : Int64)))) (hN : own_N1 q2 nL ni ra0 sa0 ka0) (hhhnz26_25_194 : ¬ (nL.toInt64 = (0 : Int64))) (hhhhnz2_31_25_194 : ¬ (nL = (0 : Int32))) (hhnz2_230 : ¬ (nL = (0 : Int32))) (hnz132 : ¬ (ka0 = (0 : Int64))) (hhnz16_162 : ¬ (nL.toInt64 = (0 : Int64))) (hc100_3 : ¬ (q2 < ra0)) (hc151_10 : ¬ (j73 < sa0)) : i12 = nL := by
  subst hj73; subst hi12
  exact (hN.2.2.2.2 hc100_3).1
theorem own_at_6_1_hlf_0_ff (q2 : Int64) (nL : Int32) (nt : Int64) (na : Int64) (ni : Int32) (fa0 : Int32) (ra0 : Int64) (sa0 : Int64) (ga0 : Int32) (ka0 : Int64) (j4 : Int32) (i12 : Int32) (j73 : Int64) (j135 : Int32) (j140 : Int64) (j144 : Int64) (j156 : Int64) (hj4 : j4 = (r_9_b_0_1 nL ni fa0)) (hi12 : i12 = (if ni < nL then (if q2 < ni.toInt64 then ni else (r_10 (q2 + (1 : Int64)) (nL.toInt64)).toInt32) else ni)) (hj73 : j73 = (r_10 sa0 (((q2 - ra0) / ka0) + (1 : Int64)))) (hj135 : j135 = (r_9_b_1_2 nL i12 j4)) (hj140 : j140 = (if j135 = j4 then nL.toInt64 else (r_18 (j135 - j4) nL).toInt64)) (hj144 : j144 = (nt + j140)) (hj156 : j156 = (q2 + nL.toInt64)) (hN : own_N1 q2 nL ni ra0 sa0 ka0) (hhhnz26_25_194 : ¬ (nL.toInt64 = (0 : Int64))) (hhhhnz2_31_25_194 : ¬ (nL = (0 : Int32))) (hhnz2_230 : ¬ (nL = (0 : Int32))) (hnz132 : ¬ (ka0 = (0 : Int64))) (hhnz16_162 : ¬ (nL.toInt64 = (0 : Int64))) (hc100_3 : ¬ (q2 < ra0)) (hc151_10 : ¬ (j73 < sa0)) (hs246_0 : i12 = nL) : own_tk1 nL q2 nt na ni fa0 ra0 sa0 ga0 ka0 = ((j144, j156, i12, 3, ((0 : Int32), (0 : Int64), (0 : Int64), (0 : Int32), (0 : Int64)), ((0 : Int32), (0 : Int64))) : own_A) := by
  subst hj156; subst hj144; subst hj140; subst hj135; subst hj73; subst hi12; subst hj4
  refine (if_neg hc100_3).trans ?_
  refine (if_neg hc151_10).trans ?_
  rfl
set_option maxRecDepth 65536 in
set_option maxHeartbeats 40000000 in
theorem rm6_1 (l : Launch) (Z : State) (a0 : Array Value) (hw : ∀ d ∈ tables_1, d.before a0 Z = true) (ws : List Jvm.Cond) (a1 : Addr) (q2 : Int64) (nL : Int32) (nt : Int64) (na : Int64) (ni : Int32) (dq : Addr) (ar : Addr) (fa0 : Int32) (ra0 : Int64) (sa0 : Int64) (ga0 : Int32) (ka0 : Int64) (k_ar : ClassId) (x0 : Addr) (h0 : Heap) (n0 : Nat) (Z0 : n0 ≤ h0.size) (F_a1_length : Fld Z h0 a1 own_cC "length" "I" (.int nL)) (F_a1_turns : Fld Z h0 a1 own_cC "turns" "J" (.long nt)) (F_a1_alike : Fld Z h0 a1 own_cC "alike" "J" (.long na)) (F_a1_idle : Fld Z h0 a1 own_cC "idle" "I" (.int ni)) (F_a1_chains : Fld Z h0 a1 own_cC "chains" "Ljava/util/ArrayDeque;" (.ref dq)) (F_dq_head : Fld Z h0 dq own_cD "head" "I" (.int (0 : Int32))) (F_dq_tail : Fld Z h0 dq own_cD "tail" "I" (.int (1 : Int32))) (F_dq_elements : Fld Z h0 dq own_cD "elements" "[Ljava/lang/Object;" (.ref ar)) (F_x0_from : Fld Z h0 x0 own_cP "from" "I" (.int fa0)) (F_x0_resume : Fld Z h0 x0 own_cP "resume" "J" (.long ra0)) (F_x0_size : Fld Z h0 x0 own_cP "size" "J" (.long sa0)) (F_x0_fromStep : Fld Z h0 x0 own_cP "fromStep" "I" (.int ga0)) (F_x0_resumeStep : Fld Z h0 x0 own_cP "resumeStep" "J" (.long ka0)) (hN : own_N1 q2 nL ni ra0 sa0 ka0) (E_dq : Exa Z h0 dq own_cD) (O_ar : Ovr Z k_ar "java/lang/Object") (V_ar : Arv Z h0 ar k_ar (.object "java/lang/Object") (17 : Int32) [(.ref x0), .null, .null, .null, .null, .null, .null, .null, .null, .null, .null, .null, .null, .null, .null, .null, .null] .null) (E_x0 : Exa Z h0 x0 own_cP) (E_a1 : Exa Z h0 a1 own_cC) (ne_dq_a1 : dq ≠ a1) (ne_x0_a1 : x0 ≠ a1) (ne_ar_a1 : ar ≠ a1) (g_a1 : n0 ≤ a1) (g_dq : n0 ≤ dq) (g_ar : n0 ≤ ar) (ne_dq_ar : dq ≠ ar) (g_x0 : n0 ≤ x0) (ne_dq_x0 : dq ≠ x0) (ne_ar_x0 : ar ≠ x0) (hhhnz26_25_194 : ¬ (nL.toInt64 = (0 : Int64))) (hhhhnz2_31_25_194 : ¬ (nL = (0 : Int32))) (hhnz2_230 : ¬ (nL = (0 : Int32))) (hnz132 : ¬ (ka0 = (0 : Int64))) (hhnz16_162 : ¬ (nL.toInt64 = (0 : Int64))) :
    own_Met l (⟨own_cC, "takeApart", "(J)V"⟩ : MethodName) prog_29_method_5_code 8 none ws ({ frames := 3, cells := 1, slots := 5, locals := 51 } : Room) #[(.ref a1), (.long q2)] Z h0 (Q6_1 Z a1 q2 nL nt na ni dq ar fa0 ra0 sa0 ga0 ka0 k_ar x0 h0 n0) := by
  refine own_met (plainFor_of_name pn_3) ?_
  intro p e s m below meth c s₁ Bd hx hby hml hZ hown hnm X0 e0
  have wd : ∀ (i : Nat) (d : Jvm.Cond), tables_1[i]? = some d → d.before a0 Z = true := fun i d q => hw d (List.mem_of_getElem? q)
  have NN := Fr.nil n0
  have KK : Keep h0 h0 [a1, ar, dq, x0] := Keep.refl h0 _
  refine own_start (ef_6_1 m a1 q2) ?_
  refine cs_aloadN cG X0 hx (hb hby d6_0) rfl rfl ?_
  refine cs_get cG X0 hx hZ hown (wd 27 _ rfl) e0 F_a1_chains (hb hby d6_1) ?_
  intro T1 X1 e1
  refine cs_V cG X1 hx hZ hown (wd 44 _ rfl) (wd 45 _ rfl) (wd 47 _ rfl) (wd 46 _ rfl) (wd 12 _ rfl) (wd 48 _ rfl) (by decide) (rm7_0_1 l Z a0 hw [] dq h0 n0 Z0 F_dq_head F_dq_tail) (by decide) (by decide) (by decide) (by decide) e1 E_dq (by rw [hml]; rfl) (argsL := []) (S := []) (lenOf pd_4 rfl) rfl (W := 0) (Nat.le_of_eq rfl) (hb hby d6_4) rfl ?_
  intro v2 T2 L2 X2 hQ2
  obtain ⟨rfl, N2q, e2⟩ := hQ2
  have NN := Fr.app NN N2q
  show own_Go _ _ _ _ T2 (mkF m 7 #[vr a1, vj q2, .second, .unset, .unset, .unset, .unset, .unset] [(.int (0 : Int32))])
  refine cs_ifYes cG X2 hx (pc' := 27) (hb hby d6_7) ((if0 _ _).trans (teq (rfl : (0 : Int32) = (0 : Int32))).1) (by decide) (by decide) ?_
  refine cs_aloadN cG X2 hx (hb hby d6_27) rfl rfl ?_
  refine cs_P cG X2 hx hZ hown (wd 59 _ rfl) (wd 60 _ rfl) (wd 61 _ rfl) (wd 36 _ rfl) rfl (wd 3 _ rfl) (wd 62 _ rfl) (by decide) (rm9_b_0_1 l Z a0 hw [] a1 nL ni dq ar k_ar x0 fa0 h0 n0 Z0 F_a1_length F_a1_idle F_a1_chains F_dq_elements F_dq_head V_ar E_dq E_x0 F_x0_from) (by decide) (by decide) (by decide) (by decide) e2 E_a1 (by rw [hml]; rfl) (argsL := []) (S := []) (lenOf pd_6 rfl) rfl (W := 0) (Nat.le_of_eq rfl) (hb hby d6_28) rfl ?_
  intro v3 T3 L3 X3 hQ3
  obtain ⟨rfl, N3q, e3⟩ := hQ3
  have NN := Fr.app NN N3q
  show own_Go _ _ _ _ T3 (mkF m 31 #[vr a1, vj q2, .second, .unset, .unset, .unset, .unset, .unset] [(.int (r_9_b_0_1 nL ni fa0))])
  refine cs_istoreN cG X3 hx (hb hby d6_31) (l' := #[vr a1, vj q2, .second, vi (r_9_b_0_1 nL ni fa0), .unset, .unset, .unset, .unset]) rfl ?_
  show own_Go _ _ _ _ T3 (mkF m 32 #[vr a1, vj q2, .second, vi (r_9_b_0_1 nL ni fa0), .unset, .unset, .unset, .unset] [])
  obtain ⟨j4, hj4⟩ : ∃ z : Int32, z = (r_9_b_0_1 nL ni fa0) := ⟨_, rfl⟩
  rw [← hj4]
  refine cs_iconst cG X3 hx (hb hby d6_32) (z := (0 : Int32)) rfl ?_
  refine cs_istore cG X3 hx (hb hby d6_33) (l' := #[vr a1, vj q2, .second, vi j4, vi (0 : Int32), .unset, .unset, .unset]) rfl ?_
  show own_Go _ _ _ _ T3 (mkF m 35 #[vr a1, vj q2, .second, vi j4, vi (0 : Int32), .unset, .unset, .unset] [])
  obtain ⟨T12, L12, i12, j12, ⟨X12, NN, Z0, F_a1_length, F_a1_turns, F_a1_alike, F_a1_idle, F_a1_chains, F_dq_head, F_dq_tail, F_dq_elements, F_x0_from, F_x0_resume, F_x0_size, F_x0_fromStep, F_x0_resumeStep, E_dq, V_ar, E_x0, E_a1, hi12, hj12⟩, st12⟩ : own_Wj p.tables e below (fun T' L' i j => Stand p l e ({ frames := 3, cells := 1, slots := 5, locals := 51 } : Room) s m #[(.ref a1), (.long q2)] below meth c T' L' 0 0 ∧ Fr n0 L' ∧ n0 ≤ T'.heap.size ∧ Fld Z T'.heap a1 own_cC "length" "I" (.int nL) ∧ Fld Z T'.heap a1 own_cC "turns" "J" (.long nt) ∧ Fld Z T'.heap a1 own_cC "alike" "J" (.long na) ∧ Fld Z T'.heap a1 own_cC "idle" "I" (.int i) ∧ Fld Z T'.heap a1 own_cC "chains" "Ljava/util/ArrayDeque;" (.ref dq) ∧ Fld Z T'.heap dq own_cD "head" "I" (.int (0 : Int32)) ∧ Fld Z T'.heap dq own_cD "tail" "I" (.int (1 : Int32)) ∧ Fld Z T'.heap dq own_cD "elements" "[Ljava/lang/Object;" (.ref ar) ∧ Fld Z T'.heap x0 own_cP "from" "I" (.int fa0) ∧ Fld Z T'.heap x0 own_cP "resume" "J" (.long ra0) ∧ Fld Z T'.heap x0 own_cP "size" "J" (.long sa0) ∧ Fld Z T'.heap x0 own_cP "fromStep" "I" (.int ga0) ∧ Fld Z T'.heap x0 own_cP "resumeStep" "J" (.long ka0) ∧ Exa Z T'.heap dq own_cD ∧ Arv Z T'.heap ar k_ar (.object "java/lang/Object") (17 : Int32) [(.ref x0), .null, .null, .null, .null, .null, .null, .null, .null, .null, .null, .null, .null, .null, .null, .null, .null] .null ∧ Exa Z T'.heap x0 own_cP ∧ Exa Z T'.heap a1 own_cC ∧ i = (if ni < nL then (if q2 < ni.toInt64 then ni else (r_10 (q2 + (1 : Int64)) (nL.toInt64)).toInt32) else ni) ∧ j = (if ni < nL then (if q2 < ni.toInt64 then (0 : Int32) else (1 : Int32)) else (0 : Int32))) (fun i j => (mkF m 75 #[vr a1, vj q2, .second, vi j4, vi j, .unset, .unset, .unset] [])) T3 (mkF m 35 #[vr a1, vj q2, .second, vi j4, vi (0 : Int32), .unset, .unset, .unset] []) := by
    refine cs_aloadN cW X3 hx (hb hby d6_35) rfl rfl ?_
    refine cs_get cW X3 hx hZ hown (wd 63 _ rfl) e3 F_a1_idle (hb hby d6_36) ?_
    intro T13 X13 e13
    refine cs_aloadN cW X13 hx (hb hby d6_39) rfl rfl ?_
    refine cs_get cW X13 hx hZ hown (wd 29 _ rfl) e13 F_a1_length (hb hby d6_40) ?_
    intro T14 X14 e14
    by_cases hc43_1 : ni < nL
    · as_aux_lemma =>
      refine cs_icmpNo cW X14 hx (hb hby d6_43) (tlt hc43_1).2.1 ?_
      refine cs_aloadN cW X14 hx (hb hby d6_46) rfl rfl ?_
      refine cs_get cW X14 hx hZ hown (wd 63 _ rfl) e14 F_a1_idle (hb hby d6_47) ?_
      intro T15 X15 e15
      refine cs_i2l cW X15 hx (hb hby d6_50) rfl ?_
      refine cs_lloadN cW X15 hx (hb hby d6_51) rfl ?_
      refine cs_lcmp cW X15 hx (hb hby d6_52) ?_
      by_cases hc53_2 : q2 < ni.toInt64
      · as_aux_lemma =>
        refine cs_ifYes cW X15 hx (pc' := 75) (hb hby d6_53) ((if0 _ _).trans (tlt ((lw_gt ni.toInt64 q2).mpr hc53_2)).2.2.1) (by decide) (by decide) ?_
        refine ⟨T15, _, ni, (0 : Int32), ⟨X15, NN, ?_⟩, fun t k => k⟩
        rw [e15]
        exact ⟨Z0, F_a1_length, F_a1_turns, F_a1_alike, F_a1_idle, F_a1_chains, F_dq_head, F_dq_tail, F_dq_elements, F_x0_from, F_x0_resume, F_x0_size, F_x0_fromStep, F_x0_resumeStep, E_dq, V_ar, E_x0, E_a1, (by simp only [if_pos hc43_1, if_pos hc53_2]), (by simp only [if_pos hc43_1, if_pos hc53_2])⟩
      · as_aux_lemma =>
        refine cs_ifNo cW X15 hx (hb hby d6_53) ((if0 _ _).trans (flt (fun q => hc53_2 ((lw_gt ni.toInt64 q2).mp q))).2.2.1) ?_
        refine cs_aloadN cW X15 hx (hb hby d6_56) rfl rfl ?_
        refine cs_lloadN cW X15 hx (hb hby d6_57) rfl ?_
        refine cs_lconst cW X15 hx (hb hby d6_58) (z := (1 : Int64)) rfl ?_
        refine cs_ladd cW X15 hx (hb hby d6_59) rfl ?_
        refine cs_aloadN cW X15 hx (hb hby d6_60) rfl rfl ?_
        refine cs_get cW X15 hx hZ hown (wd 29 _ rfl) e15 F_a1_length (hb hby d6_61) ?_
        intro T16 X16 e16
        refine cs_i2l cW X16 hx (hb hby d6_64) rfl ?_
        refine cs_S cW X16 hx hZ hown (wd 65 _ rfl) (wd 66 _ rfl) (wd 67 _ rfl) (wd 68 _ rfl) (by decide) (rm10 l Z a0 hw [] (q2 + (1 : Int64)) (nL.toInt64) h0 n0 Z0 ) (by decide) (by decide) (by decide) (by decide) e16 (by rw [hml]; rfl) (argsL := [(.long (q2 + (1 : Int64))), (.long nL.toInt64)]) (S := [(.ref a1)]) (lenOf pd_7 rfl) rfl (W := 1) (Nat.le_of_eq rfl) (hb hby d6_65) rfl ?_
        intro v17 T17 L17 X17 hQ17
        obtain ⟨rfl, N17q, e17⟩ := hQ17
        have NN := Fr.app NN N17q
        show own_Wj p.tables e below _ _ T17 (mkF m 68 #[vr a1, vj q2, .second, vi j4, vi (0 : Int32), .unset, .unset, .unset] [(.long (r_10 (q2 + (1 : Int64)) (nL.toInt64))), (.ref a1)])
        refine cs_l2i cW X17 hx (hb hby d6_68) rfl ?_
        show own_Wj p.tables e below _ _ T17 (mkF m 69 #[vr a1, vj q2, .second, vi j4, vi (0 : Int32), .unset, .unset, .unset] [(.int (r_10 (q2 + (1 : Int64)) (nL.toInt64)).toInt32), (.ref a1)])
        obtain ⟨j18, hj18⟩ : ∃ z : Int32, z = (r_10 (q2 + (1 : Int64)) (nL.toInt64)).toInt32 := ⟨_, rfl⟩
        rw [← hj18]
        refine cs_put cW X17 hx hZ hown (wd 63 _ rfl) e17 F_a1_idle E_a1 (Or.inl (wd 64 _ rfl)) (wd 2 _ rfl) (ty := .int) (by decide) rfl rfl (hb hby d6_69) ?_
        intro T19 h19 X19 e19 W19
        have F_a1_length := F_a1_length.other W19 (Or.inr (slot_ne (Or.inr (wd 30 _ rfl)) (Or.inl (wd 64 _ rfl)) (by decide) (t := .int) (t' := .int) (by decide) (by decide)))
        have F_a1_turns := F_a1_turns.other W19 (Or.inr (slot_ne (Or.inl (wd 39 _ rfl)) (Or.inl (wd 64 _ rfl)) (by decide) (t := .long) (t' := .int) (by decide) (by decide)))
        have F_a1_alike := F_a1_alike.other W19 (Or.inr (slot_ne (Or.inl (wd 32 _ rfl)) (Or.inl (wd 64 _ rfl)) (by decide) (t := .long) (t' := .int) (by decide) (by decide)))
        have F_a1_idle := F_a1_idle.same W19
        have F_a1_chains := F_a1_chains.other W19 (Or.inr (slot_ne (Or.inr (wd 28 _ rfl)) (Or.inl (wd 64 _ rfl)) (by decide) (t := (.object own_cD)) (t' := .int) (by decide) (by decide)))
        have F_dq_head := F_dq_head.other W19 (Or.inl ne_dq_a1)
        have F_dq_tail := F_dq_tail.other W19 (Or.inl ne_dq_a1)
        have F_dq_elements := F_dq_elements.other W19 (Or.inl ne_dq_a1)
        have F_x0_from := F_x0_from.other W19 (Or.inl ne_x0_a1)
        have F_x0_resume := F_x0_resume.other W19 (Or.inl ne_x0_a1)
        have F_x0_size := F_x0_size.other W19 (Or.inl ne_x0_a1)
        have F_x0_fromStep := F_x0_fromStep.other W19 (Or.inl ne_x0_a1)
        have F_x0_resumeStep := F_x0_resumeStep.other W19 (Or.inl ne_x0_a1)
        have E_dq := E_dq.wr W19
        have V_ar := V_ar.other W19 ne_ar_a1
        have E_x0 := E_x0.wr W19
        have E_a1 := E_a1.wr W19
        have Z0 := Nat.le_trans Z0 (Keep.of_wr W19).1
        have NN := Fr.snoc X19 NN g_a1
        refine cs_iconst cW X19 hx (hb hby d6_72) (z := (1 : Int32)) rfl ?_
        refine cs_istore cW X19 hx (hb hby d6_73) (l' := #[vr a1, vj q2, .second, vi j4, vi (1 : Int32), .unset, .unset, .unset]) rfl ?_
        refine ⟨T19, _, j18, (1 : Int32), ⟨X19, NN, ?_⟩, fun t k => k⟩
        rw [e19]
        exact ⟨Z0, F_a1_length, F_a1_turns, F_a1_alike, F_a1_idle, F_a1_chains, F_dq_head, F_dq_tail, F_dq_elements, F_x0_from, F_x0_resume, F_x0_size, F_x0_fromStep, F_x0_resumeStep, E_dq, V_ar, E_x0, E_a1, (by simp only [if_pos hc43_1, if_neg hc53_2, hj18]), (by simp only [if_pos hc43_1, if_neg hc53_2, hj18])⟩
    · as_aux_lemma =>
      refine cs_icmpYes cW X14 hx (pc' := 75) (hb hby d6_43) (flt hc43_1).2.1 (by decide) (by decide) ?_
      refine ⟨T14, _, ni, (0 : Int32), ⟨X14, NN, ?_⟩, fun t k => k⟩
      rw [e14]
      exact ⟨Z0, F_a1_length, F_a1_turns, F_a1_alike, F_a1_idle, F_a1_chains, F_dq_head, F_dq_tail, F_dq_elements, F_x0_from, F_x0_resume, F_x0_size, F_x0_fromStep, F_x0_resumeStep, E_dq, V_ar, E_x0, E_a1, (by simp only [if_neg hc43_1]), (by simp only [if_neg hc43_1])⟩
  refine own_go st12 ?_
  show own_Go _ _ _ _ T12 (mkF m 75 #[vr a1, vj q2, .second, vi j4, vi j12, .unset, .unset, .unset] [])
  refine cs_aloadN cG X12 hx (hb hby d6_75) rfl rfl ?_
  refine cs_get cG X12 hx hZ hown (wd 27 _ rfl) rfl F_a1_chains (hb hby d6_76) ?_
  intro T20 X20 e20
  refine cs_V cG X20 hx hZ hown (wd 44 _ rfl) (wd 45 _ rfl) (wd 47 _ rfl) (wd 46 _ rfl) (wd 12 _ rfl) (wd 48 _ rfl) (by decide) (rm7_0_1 l Z a0 hw [] dq T12.heap n0 Z0 F_dq_head F_dq_tail) (by decide) (by decide) (by decide) (by decide) e20 E_dq (by rw [hml]; rfl) (argsL := []) (S := []) (lenOf pd_4 rfl) rfl (W := 0) (Nat.le_of_eq rfl) (hb hby d6_79) rfl ?_
  intro v21 T21 L21 X21 hQ21
  obtain ⟨rfl, N21q, e21⟩ := hQ21
  have NN := Fr.app NN N21q
  show own_Go _ _ _ _ T21 (mkF m 82 #[vr a1, vj q2, .second, vi j4, vi j12, .unset, .unset, .unset] [(.int (0 : Int32))])
  refine cs_ifNo cG X21 hx (hb hby d6_82) ((if0 _ _).trans (teq (rfl : (0 : Int32) = (0 : Int32))).2) ?_
  refine cs_aloadN cG X21 hx (hb hby d6_85) rfl rfl ?_
  refine cs_get cG X21 hx hZ hown (wd 27 _ rfl) e21 F_a1_chains (hb hby d6_86) ?_
  intro T22 X22 e22
  refine cs_V cG X22 hx hZ hown (wd 111 _ rfl) (wd 112 _ rfl) (wd 114 _ rfl) (wd 113 _ rfl) (wd 12 _ rfl) (wd 115 _ rfl) (by decide) (rm19_0_1 l Z a0 hw [] dq ar k_ar x0 T12.heap n0 Z0 F_dq_elements F_dq_head V_ar) (by decide) (by decide) (by decide) (by decide) e22 E_dq (by rw [hml]; rfl) (argsL := []) (S := []) (lenOf pd_9 rfl) rfl (W := 0) (Nat.le_of_eq rfl) (hb hby d6_89) rfl ?_
  intro v23 T23 L23 X23 hQ23
  obtain ⟨rfl, N23q, e23⟩ := hQ23
  have NN := Fr.app NN N23q
  show own_Go _ _ _ _ T23 (mkF m 92 #[vr a1, vj q2, .second, vi j4, vi j12, .unset, .unset, .unset] [(.ref x0)])
  refine cs_cast cG X23 hx hZ hown (wd 84 _ rfl) e23 (Ins.self E_x0) (hb hby d6_92) ?_
  intro T24 X24 e24
  refine cs_getR cG X24 hx hZ hown (wd 117 _ rfl) e24 F_x0_resume (hb hby d6_95) ?_
  refine cs_lloadN cG X24 hx (hb hby d6_98) rfl ?_
  refine cs_lcmp cG X24 hx (hb hby d6_99) ?_
  by_cases hc100_3 : q2 < ra0
  · as_aux_lemma =>
    refine cs_ifYes cG X24 hx (pc' := 179) (hb hby d6_100) ((if0 _ _).trans (tlt ((lw_gt ra0 q2).mpr hc100_3)).2.2.1) (by decide) (by decide) ?_
    refine cs_iload cG X24 hx (hb hby d6_179) rfl ?_
    by_cases hc181_4 : j12 = (0 : Int32)
    · as_aux_lemma =>
      refine cs_ifNo cG X24 hx (hb hby d6_181) ((if0 _ _).trans (teq hc181_4).2) ?_
      show own_Go _ _ _ _ T24 (mkF m 184 #[vr a1, vj q2, .second, vi j4, vi j12, .unset, .unset, .unset] [])
      obtain ⟨fs, hr, hrun, hended, hW, hsame⟩ := X24.leave (v := none) (fun _ => rfl)
      refine ⟨_, _, ?_, hrun, hended, _, _, rfl, ?_, ⟨_, rfl⟩, hW, hsame.mono (by decide) (by decide)⟩
      · exact X24.returnOut hx Bd.returns (hb hby d6_184) hr
      · show Q6_1 Z a1 q2 nL nt na ni dq ar fa0 ra0 sa0 ga0 ka0 k_ar x0 h0 n0 _ T24.heap _
        rw [e24]
        have hlf_0 : own_tk1 nL q2 nt na ni fa0 ra0 sa0 ga0 ka0 = ((nt, na, i12, 1, (fa0, ra0, sa0, ga0, ka0), ((0 : Int32), (0 : Int64))) : own_A) := own_at_6_1_hlf_0_tt q2 nL nt na ni fa0 ra0 sa0 ga0 ka0 i12 j12 hi12 hj12 hN hhhnz26_25_194 hhhhnz2_31_25_194 hhnz2_230 hnz132 hhnz16_162 hc100_3 hc181_4
        exact ⟨rfl, NN, Z0, (by rw [hlf_0]; exact own_mk1 E_a1 g_a1 F_a1_length F_a1_turns F_a1_alike F_a1_idle F_a1_chains E_dq g_dq ne_dq_a1 F_dq_head F_dq_tail F_dq_elements O_ar V_ar g_ar ne_ar_a1 ne_dq_ar E_x0 g_x0 F_x0_from F_x0_resume F_x0_size F_x0_fromStep F_x0_resumeStep ne_x0_a1 ne_dq_x0 ne_ar_x0)⟩
    · as_aux_lemma =>
      refine cs_ifYes cG X24 hx (pc' := 185) (hb hby d6_181) ((if0 _ _).trans (feq hc181_4).2) (by decide) (by decide) ?_
      refine cs_aloadN cG X24 hx (hb hby d6_185) rfl rfl ?_
      refine cs_iloadN cG X24 hx (hb hby d6_186) rfl ?_
      refine cs_lloadN cG X24 hx (hb hby d6_187) rfl ?_
      refine cs_aloadN cG X24 hx (hb hby d6_188) rfl rfl ?_
      refine cs_get cG X24 hx hZ hown (wd 29 _ rfl) e24 F_a1_length (hb hby d6_189) ?_
      intro T25 X25 e25
      refine cs_i2l cG X25 hx (hb hby d6_192) rfl ?_
      refine cs_ladd cG X25 hx (hb hby d6_193) rfl ?_
      by_cases hf194_5 : (r_20 j4 (q2 + nL.toInt64) nL sa0 fa0 ga0 ra0 ka0) = (0 : Int32)
      · as_aux_lemma =>
        refine cs_P cG X25 hx hZ hown (wd 69 _ rfl) (wd 70 _ rfl) (wd 71 _ rfl) (wd 36 _ rfl) rfl (wd 3 _ rfl) (wd 72 _ rfl) (by decide) (rm11_n_0_1 l Z a0 hw [] a1 j4 (q2 + nL.toInt64) dq ar k_ar x0 nL sa0 fa0 ga0 ra0 ka0 T12.heap n0 Z0 F_a1_chains F_dq_elements F_dq_tail O_ar V_ar E_dq E_x0 F_a1_length F_x0_size F_x0_from F_x0_fromStep F_x0_resume F_x0_resumeStep g_x0 hhhnz26_25_194 hhhhnz2_31_25_194 (Ne.symm ne_x0_a1) ne_dq_x0 ne_ar_x0 hf194_5 ne_dq_ar g_ar F_dq_head g_dq (Ne.symm ne_dq_a1) (Ne.symm ne_ar_a1)) (by decide) (by decide) (by decide) (by decide) e25 E_a1 (by rw [hml]; rfl) (argsL := [(.int j4), (.long (q2 + nL.toInt64))]) (S := []) (lenOf pd_8 rfl) rfl (W := 0) (Nat.le_of_eq rfl) (hb hby d6_194) rfl ?_
        intro v26 T26 L26 X26 hQ26
        obtain ⟨b26_0, rfl, N26q, K26, Q26_0, Q26_1, Q26_2, Q26_3, Q26_4, Q26_5, Q26_6, Q26_7, Q26_8, Q26_9, Q26_10, R26_0, R26_1, R26_2, R26_3, R26_4, R26_5, R26_6, R26_7⟩ := hQ26
        have ne_a1_b26_0 : a1 ≠ b26_0 := Nat.ne_of_lt (Nat.lt_of_lt_of_le F_a1_length.lt R26_1)
        have ne_dq_b26_0 : dq ≠ b26_0 := Nat.ne_of_lt (Nat.lt_of_lt_of_le F_dq_head.lt R26_1)
        have ne_x0_b26_0 : x0 ≠ b26_0 := Nat.ne_of_lt (Nat.lt_of_lt_of_le F_x0_from.lt R26_1)
        have ne_ar_b26_0 : ar ≠ b26_0 := Nat.ne_of_lt (Nat.lt_of_lt_of_le V_ar.lt R26_1)
        have F_a1_length := F_a1_length.keep K26 (ninS (Ne.symm ne_x0_a1) (ninS (Ne.symm ne_dq_a1) (ninS (Ne.symm ne_ar_a1) nin0)))
        have F_a1_turns := F_a1_turns.keep K26 (ninS (Ne.symm ne_x0_a1) (ninS (Ne.symm ne_dq_a1) (ninS (Ne.symm ne_ar_a1) nin0)))
        have F_a1_alike := F_a1_alike.keep K26 (ninS (Ne.symm ne_x0_a1) (ninS (Ne.symm ne_dq_a1) (ninS (Ne.symm ne_ar_a1) nin0)))
        have F_a1_idle := F_a1_idle.keep K26 (ninS (Ne.symm ne_x0_a1) (ninS (Ne.symm ne_dq_a1) (ninS (Ne.symm ne_ar_a1) nin0)))
        have F_a1_chains := F_a1_chains.keep K26 (ninS (Ne.symm ne_x0_a1) (ninS (Ne.symm ne_dq_a1) (ninS (Ne.symm ne_ar_a1) nin0)))
        have E_a1 := E_a1.keep K26
        have E_x0 := Q26_0
        have F_x0_size := Q26_1
        have F_x0_from := Q26_2
        have F_x0_fromStep := Q26_3
        have F_x0_resume := Q26_4
        have F_x0_resumeStep := Q26_5
        have E_dq := Q26_6
        have F_dq_elements := Q26_7
        have F_dq_tail := Q26_8
        have F_dq_head := Q26_9
        have V_ar := Q26_10
        obtain ⟨j27, hj27⟩ : ∃ z : Int64, z = (u_20_a1_size j4 (q2 + nL.toInt64) nL sa0 fa0 ga0 ra0 ka0) := ⟨_, rfl⟩
        rw [← hj27] at F_x0_size
        obtain ⟨j28, hj28⟩ : ∃ z : Int32, z = (u_20_a1_fromStep j4 (q2 + nL.toInt64) nL sa0 fa0 ga0 ra0 ka0) := ⟨_, rfl⟩
        rw [← hj28] at F_x0_fromStep
        obtain ⟨j29, hj29⟩ : ∃ z : Int64, z = (u_20_a1_resumeStep j4 (q2 + nL.toInt64) nL sa0 fa0 ga0 ra0 ka0) := ⟨_, rfl⟩
        rw [← hj29] at F_x0_resumeStep
        have g_b26_0 := R26_0
        have E_b26_0 := R26_2
        have F_b26_0_size := R26_3
        have F_b26_0_resumeStep := R26_4
        have F_b26_0_from := R26_5
        have F_b26_0_resume := R26_6
        have F_b26_0_fromStep := R26_7
        have Z0 := Nat.le_trans Z0 K26.1
        have NN := Fr.app NN N26q
        show own_Go _ _ _ _ T26 (mkF m 197 #[vr a1, vj q2, .second, vi j4, vi j12, .unset, .unset, .unset] [])
        refine cs_aloadN cG X26 hx (hb hby d6_197) rfl rfl ?_
        refine cs_P cG X26 hx hZ hown (wd 59 _ rfl) (wd 60 _ rfl) (wd 61 _ rfl) (wd 36 _ rfl) rfl (wd 3 _ rfl) (wd 62 _ rfl) (by decide) (rm9_b_0_2 l Z a0 hw [] a1 nL i12 dq ar k_ar x0 b26_0 fa0 T26.heap n0 Z0 F_a1_length F_a1_idle F_a1_chains F_dq_elements F_dq_head V_ar E_dq E_x0 F_x0_from) (by decide) (by decide) (by decide) (by decide) rfl E_a1 (by rw [hml]; rfl) (argsL := []) (S := []) (lenOf pd_6 rfl) rfl (W := 0) (Nat.le_of_eq rfl) (hb hby d6_198) rfl ?_
        intro v30 T30 L30 X30 hQ30
        obtain ⟨rfl, N30q, e30⟩ := hQ30
        have NN := Fr.app NN N30q
        show own_Go _ _ _ _ T30 (mkF m 201 #[vr a1, vj q2, .second, vi j4, vi j12, .unset, .unset, .unset] [(.int (r_9_b_0_2 nL i12 fa0))])
        refine cs_istore cG X30 hx (hb hby d6_201) (l' := #[vr a1, vj q2, .second, vi j4, vi j12, vi (r_9_b_0_2 nL i12 fa0), .unset, .unset]) rfl ?_
        show own_Go _ _ _ _ T30 (mkF m 203 #[vr a1, vj q2, .second, vi j4, vi j12, vi (r_9_b_0_2 nL i12 fa0), .unset, .unset] [])
        obtain ⟨j31, hj31⟩ : ∃ z : Int32, z = (r_9_b_0_2 nL i12 fa0) := ⟨_, rfl⟩
        rw [← hj31]
        refine cs_aloadN cG X30 hx (hb hby d6_203) rfl rfl ?_
        refine cs_dup cG X30 hx (hb hby d6_204) rfl ?_
        refine cs_get cG X30 hx hZ hown (wd 38 _ rfl) e30 F_a1_turns (hb hby d6_205) ?_
        intro T32 X32 e32
        refine cs_iload cG X32 hx (hb hby d6_208) rfl ?_
        refine cs_iloadN cG X32 hx (hb hby d6_210) rfl ?_
        show own_Go _ _ _ _ T32 (mkF m 211 #[vr a1, vj q2, .second, vi j4, vi j12, vi j31, .unset, .unset] [(.int j4), (.int j31), (.long nt), (.ref a1)])
        obtain ⟨T36, L36, j36, ⟨X36, e36, NN, hj36⟩, st36⟩ : own_Tj p.tables e below (fun T' L' j => Stand p l e ({ frames := 3, cells := 1, slots := 5, locals := 51 } : Room) s m #[(.ref a1), (.long q2)] below meth c T' L' 1 5 ∧ T'.heap = T26.heap ∧ Fr n0 L' ∧ j = (if j31 = j4 then nL.toInt64 else (r_18 (j31 - j4) nL).toInt64)) (fun j => (mkF m 234 #[vr a1, vj q2, .second, vi j4, vi j12, vi j31, .unset, .unset] [(.long j), (.long nt), (.ref a1)])) T32 (mkF m 211 #[vr a1, vj q2, .second, vi j4, vi j12, vi j31, .unset, .unset] [(.int j4), (.int j31), (.long nt), (.ref a1)]) := by
          by_cases hc211_6 : j31 = j4
          · skip
            refine cs_icmpNo cT X32 hx (hb hby d6_211) (teq hc211_6).2 ?_
            refine cs_aloadN cT X32 hx (hb hby d6_214) rfl rfl ?_
            refine cs_get cT X32 hx hZ hown (wd 29 _ rfl) e32 F_a1_length (hb hby d6_215) ?_
            intro T37 X37 e37
            refine cs_i2l cT X37 hx (hb hby d6_218) rfl ?_
            refine cs_goto cT X37 hx (pc' := 234) (hb hby d6_219) (by decide) (by decide) ?_
            exact ⟨T37, _, nL.toInt64, ⟨X37, e37, NN, (if_pos hc211_6).symm⟩, fun t k => k⟩
          · skip
            refine cs_icmpYes cT X32 hx (pc' := 222) (hb hby d6_211) (feq hc211_6).2 (by decide) (by decide) ?_
            refine cs_iload cT X32 hx (hb hby d6_222) rfl ?_
            refine cs_iloadN cT X32 hx (hb hby d6_224) rfl ?_
            refine cs_isub cT X32 hx (hb hby d6_225) rfl ?_
            refine cs_aloadN cT X32 hx (hb hby d6_226) rfl rfl ?_
            refine cs_get cT X32 hx hZ hown (wd 29 _ rfl) e32 F_a1_length (hb hby d6_227) ?_
            intro T38 X38 e38
            refine cs_S cT X38 hx hZ hown (wd 108 _ rfl) (wd 109 _ rfl) (wd 67 _ rfl) (wd 110 _ rfl) (by decide) (rm18 l Z a0 hw [] (j31 - j4) nL T26.heap n0 Z0 hhhhnz2_31_25_194) (by decide) (by decide) (by decide) (by decide) e38 (by rw [hml]; rfl) (argsL := [(.int (j31 - j4)), (.int nL)]) (S := [(.long nt), (.ref a1)]) (lenOf pd_10 rfl) rfl (W := 3) (Nat.le_of_eq rfl) (hb hby d6_230) rfl ?_
            intro v39 T39 L39 X39 hQ39
            obtain ⟨rfl, N39q, e39⟩ := hQ39
            have NN := Fr.app NN N39q
            show own_Tj p.tables e below _ _ T39 (mkF m 233 #[vr a1, vj q2, .second, vi j4, vi j12, vi j31, .unset, .unset] [(.int (r_18 (j31 - j4) nL)), (.long nt), (.ref a1)])
            refine cs_i2l cT X39 hx (hb hby d6_233) rfl ?_
            exact ⟨T39, _, (r_18 (j31 - j4) nL).toInt64, ⟨X39, e39, NN, (if_neg hc211_6).symm⟩, fun t k => k⟩
        refine own_go st36 ?_
        refine cs_ladd cG X36 hx (hb hby d6_234) rfl ?_
        show own_Go _ _ _ _ T36 (mkF m 235 #[vr a1, vj q2, .second, vi j4, vi j12, vi j31, .unset, .unset] [(.long (nt + j36)), (.ref a1)])
        obtain ⟨j40, hj40⟩ : ∃ z : Int64, z = (nt + j36) := ⟨_, rfl⟩
        rw [← hj40]
        refine cs_put cG X36 hx hZ hown (wd 38 _ rfl) e36 F_a1_turns E_a1 (Or.inl (wd 39 _ rfl)) (wd 2 _ rfl) (ty := .long) (by decide) rfl rfl (hb hby d6_235) ?_
        intro T41 h41 X41 e41 W41
        have F_a1_length := F_a1_length.other W41 (Or.inr (slot_ne (Or.inr (wd 30 _ rfl)) (Or.inl (wd 39 _ rfl)) (by decide) (t := .int) (t' := .long) (by decide) (by decide)))
        have F_a1_turns := F_a1_turns.same W41
        have F_a1_alike := F_a1_alike.other W41 (Or.inr (slot_ne (Or.inl (wd 32 _ rfl)) (Or.inl (wd 39 _ rfl)) (by decide) (t := .long) (t' := .long) (by decide) (by decide)))
        have F_a1_idle := F_a1_idle.other W41 (Or.inr (slot_ne (Or.inl (wd 64 _ rfl)) (Or.inl (wd 39 _ rfl)) (by decide) (t := .int) (t' := .long) (by decide) (by decide)))
        have F_a1_chains := F_a1_chains.other W41 (Or.inr (slot_ne (Or.inr (wd 28 _ rfl)) (Or.inl (wd 39 _ rfl)) (by decide) (t := (.object own_cD)) (t' := .long) (by decide) (by decide)))
        have F_dq_head := F_dq_head.other W41 (Or.inl ne_dq_a1)
        have F_dq_tail := F_dq_tail.other W41 (Or.inl ne_dq_a1)
        have F_dq_elements := F_dq_elements.other W41 (Or.inl ne_dq_a1)
        have F_x0_from := F_x0_from.other W41 (Or.inl ne_x0_a1)
        have F_x0_resume := F_x0_resume.other W41 (Or.inl ne_x0_a1)
        have F_x0_size := F_x0_size.other W41 (Or.inl ne_x0_a1)
        have F_x0_fromStep := F_x0_fromStep.other W41 (Or.inl ne_x0_a1)
        have F_x0_resumeStep := F_x0_resumeStep.other W41 (Or.inl ne_x0_a1)
        have E_dq := E_dq.wr W41
        have V_ar := V_ar.other W41 ne_ar_a1
        have E_x0 := E_x0.wr W41
        have E_a1 := E_a1.wr W41
        have E_b26_0 := E_b26_0.wr W41
        have F_b26_0_size := F_b26_0_size.other W41 (Or.inl (Ne.symm ne_a1_b26_0))
        have F_b26_0_resumeStep := F_b26_0_resumeStep.other W41 (Or.inl (Ne.symm ne_a1_b26_0))
        have F_b26_0_from := F_b26_0_from.other W41 (Or.inl (Ne.symm ne_a1_b26_0))
        have F_b26_0_resume := F_b26_0_resume.other W41 (Or.inl (Ne.symm ne_a1_b26_0))
        have F_b26_0_fromStep := F_b26_0_fromStep.other W41 (Or.inl (Ne.symm ne_a1_b26_0))
        have Z0 := Nat.le_trans Z0 (Keep.of_wr W41).1
        have NN := Fr.snoc X41 NN g_a1
        refine cs_aloadN cG X41 hx (hb hby d6_238) rfl rfl ?_
        refine cs_get cG X41 hx hZ hown (wd 63 _ rfl) e41 F_a1_idle (hb hby d6_239) ?_
        intro T42 X42 e42
        refine cs_aloadN cG X42 hx (hb hby d6_242) rfl rfl ?_
        refine cs_get cG X42 hx hZ hown (wd 29 _ rfl) e42 F_a1_length (hb hby d6_243) ?_
        intro T43 X43 e43
        by_cases hc246_7 : i12 = nL
        · as_aux_lemma =>
          refine cs_icmpNo cG X43 hx (hb hby d6_246) (teq hc246_7).2 ?_
          refine cs_aloadN cG X43 hx (hb hby d6_249) rfl rfl ?_
          refine cs_get cG X43 hx hZ hown (wd 27 _ rfl) e43 F_a1_chains (hb hby d6_250) ?_
          intro T44 X44 e44
          refine cs_V cG X44 hx hZ hown (wd 127 _ rfl) (wd 128 _ rfl) (wd 130 _ rfl) (wd 129 _ rfl) (wd 12 _ rfl) (wd 131 _ rfl) (by decide) (rm21_0_2 l Z a0 hw [] dq ar k_ar x0 b26_0 h41 n0 Z0 F_dq_tail F_dq_head F_dq_elements V_ar) (by decide) (by decide) (by decide) (by decide) e44 E_dq (by rw [hml]; rfl) (argsL := []) (S := []) (lenOf pd_6 rfl) rfl (W := 0) (Nat.le_of_eq rfl) (hb hby d6_253) rfl ?_
          intro v45 T45 L45 X45 hQ45
          obtain ⟨rfl, N45q, e45⟩ := hQ45
          have NN := Fr.app NN N45q
          show own_Go _ _ _ _ T45 (mkF m 256 #[vr a1, vj q2, .second, vi j4, vi j12, vi j31, .unset, .unset] [(.int (2 : Int32))])
          refine cs_iconst cG X45 hx (hb hby d6_256) (z := (1 : Int32)) rfl ?_
          refine cs_icmpYes cG X45 hx (pc' := 295) (hb hby d6_257) (feq (by decide : ¬ ((2 : Int32) = (1 : Int32)))).2 (by decide) (by decide) ?_
          show own_Go _ _ _ _ T45 (mkF m 295 #[vr a1, vj q2, .second, vi j4, vi j12, vi j31, .unset, .unset] [])
          obtain ⟨fs, hr, hrun, hended, hW, hsame⟩ := X45.leave (v := none) (fun _ => rfl)
          refine ⟨_, _, ?_, hrun, hended, _, _, rfl, ?_, ⟨_, rfl⟩, hW, hsame.mono (by decide) (by decide)⟩
          · exact X45.returnOut hx Bd.returns (hb hby d6_295) hr
          · show Q6_1 Z a1 q2 nL nt na ni dq ar fa0 ra0 sa0 ga0 ka0 k_ar x0 h0 n0 _ T45.heap _
            rw [e45]
            have hlf_0 : own_tk1 nL q2 nt na ni fa0 ra0 sa0 ga0 ka0 = ((j40, na, i12, 2, (fa0, ra0, j27, j28, j29), (j4, (q2 + nL.toInt64))) : own_A) := own_at_6_1_hlf_0_tftt q2 nL nt na ni fa0 ra0 sa0 ga0 ka0 j4 i12 j12 j27 j28 j29 j31 j36 j40 hj4 hi12 hj12 hj27 hj28 hj29 hj31 hj36 hj40 hN hhhnz26_25_194 hhhhnz2_31_25_194 hhnz2_230 hnz132 hhnz16_162 hc100_3 hc181_4 hf194_5 hc246_7
            exact ⟨rfl, NN, Z0, (by rw [hlf_0]; exact own_mk2 E_a1 g_a1 F_a1_length F_a1_turns F_a1_alike F_a1_idle F_a1_chains E_dq g_dq ne_dq_a1 F_dq_head F_dq_tail F_dq_elements O_ar V_ar g_ar ne_ar_a1 ne_dq_ar E_x0 g_x0 F_x0_from F_x0_resume F_x0_size F_x0_fromStep F_x0_resumeStep ne_x0_a1 ne_dq_x0 ne_ar_x0 E_b26_0 g_b26_0 F_b26_0_from F_b26_0_resume F_b26_0_size F_b26_0_fromStep F_b26_0_resumeStep (Ne.symm ne_a1_b26_0) ne_dq_b26_0 ne_ar_b26_0 ne_x0_b26_0)⟩
        · as_aux_lemma =>
          refine cs_icmpYes cG X43 hx (pc' := 295) (hb hby d6_246) (feq hc246_7).2 (by decide) (by decide) ?_
          show own_Go _ _ _ _ T43 (mkF m 295 #[vr a1, vj q2, .second, vi j4, vi j12, vi j31, .unset, .unset] [])
          obtain ⟨fs, hr, hrun, hended, hW, hsame⟩ := X43.leave (v := none) (fun _ => rfl)
          refine ⟨_, _, ?_, hrun, hended, _, _, rfl, ?_, ⟨_, rfl⟩, hW, hsame.mono (by decide) (by decide)⟩
          · exact X43.returnOut hx Bd.returns (hb hby d6_295) hr
          · show Q6_1 Z a1 q2 nL nt na ni dq ar fa0 ra0 sa0 ga0 ka0 k_ar x0 h0 n0 _ T43.heap _
            rw [e43]
            have hlf_0 : own_tk1 nL q2 nt na ni fa0 ra0 sa0 ga0 ka0 = ((j40, na, i12, 2, (fa0, ra0, j27, j28, j29), (j4, (q2 + nL.toInt64))) : own_A) := own_at_6_1_hlf_0_tftf q2 nL nt na ni fa0 ra0 sa0 ga0 ka0 j4 i12 j12 j27 j28 j29 j31 j36 j40 hj4 hi12 hj12 hj27 hj28 hj29 hj31 hj36 hj40 hN hhhnz26_25_194 hhhhnz2_31_25_194 hhnz2_230 hnz132 hhnz16_162 hc100_3 hc181_4 hf194_5 hc246_7
            exact ⟨rfl, NN, Z0, (by rw [hlf_0]; exact own_mk2 E_a1 g_a1 F_a1_length F_a1_turns F_a1_alike F_a1_idle F_a1_chains E_dq g_dq ne_dq_a1 F_dq_head F_dq_tail F_dq_elements O_ar V_ar g_ar ne_ar_a1 ne_dq_ar E_x0 g_x0 F_x0_from F_x0_resume F_x0_size F_x0_fromStep F_x0_resumeStep ne_x0_a1 ne_dq_x0 ne_ar_x0 E_b26_0 g_b26_0 F_b26_0_from F_b26_0_resume F_b26_0_size F_b26_0_fromStep F_b26_0_resumeStep (Ne.symm ne_a1_b26_0) ne_dq_b26_0 ne_ar_b26_0 ne_x0_b26_0)⟩
      · as_aux_lemma =>
        refine cs_P cG X25 hx hZ hown (wd 69 _ rfl) (wd 70 _ rfl) (wd 71 _ rfl) (wd 36 _ rfl) rfl (wd 3 _ rfl) (wd 72 _ rfl) (by decide) (rm11_e_0_1 l Z a0 hw [] a1 j4 (q2 + nL.toInt64) dq ar k_ar x0 nL sa0 fa0 ga0 ra0 ka0 T12.heap n0 Z0 F_a1_chains F_dq_elements F_dq_tail O_ar V_ar E_dq E_x0 F_a1_length F_x0_size F_x0_from F_x0_fromStep F_x0_resume F_x0_resumeStep g_x0 hhhnz26_25_194 hhhhnz2_31_25_194 (Ne.symm ne_x0_a1) ne_dq_x0 ne_ar_x0 hf194_5) (by decide) (by decide) (by decide) (by decide) e25 E_a1 (by rw [hml]; rfl) (argsL := [(.int j4), (.long (q2 + nL.toInt64))]) (S := []) (lenOf pd_8 rfl) rfl (W := 0) (Nat.le_of_eq rfl) (hb hby d6_194) rfl ?_
        intro v46 T46 L46 X46 hQ46
        obtain ⟨rfl, N46q, K46, Q46_0, Q46_1, Q46_2, Q46_3, Q46_4, Q46_5⟩ := hQ46
        have F_a1_length := F_a1_length.keep K46 (ninS (Ne.symm ne_x0_a1) nin0)
        have F_a1_turns := F_a1_turns.keep K46 (ninS (Ne.symm ne_x0_a1) nin0)
        have F_a1_alike := F_a1_alike.keep K46 (ninS (Ne.symm ne_x0_a1) nin0)
        have F_a1_idle := F_a1_idle.keep K46 (ninS (Ne.symm ne_x0_a1) nin0)
        have F_a1_chains := F_a1_chains.keep K46 (ninS (Ne.symm ne_x0_a1) nin0)
        have F_dq_head := F_dq_head.keep K46 (ninS ne_dq_x0 nin0)
        have F_dq_tail := F_dq_tail.keep K46 (ninS ne_dq_x0 nin0)
        have F_dq_elements := F_dq_elements.keep K46 (ninS ne_dq_x0 nin0)
        have E_dq := E_dq.keep K46
        have V_ar := V_ar.keep K46 (ninS ne_ar_x0 nin0)
        have E_a1 := E_a1.keep K46
        have E_x0 := Q46_0
        have F_x0_size := Q46_1
        have F_x0_from := Q46_2
        have F_x0_fromStep := Q46_3
        have F_x0_resume := Q46_4
        have F_x0_resumeStep := Q46_5
        obtain ⟨j47, hj47⟩ : ∃ z : Int64, z = (u_20_a1_size j4 (q2 + nL.toInt64) nL sa0 fa0 ga0 ra0 ka0) := ⟨_, rfl⟩
        rw [← hj47] at F_x0_size
        obtain ⟨j48, hj48⟩ : ∃ z : Int32, z = (u_20_a1_fromStep j4 (q2 + nL.toInt64) nL sa0 fa0 ga0 ra0 ka0) := ⟨_, rfl⟩
        rw [← hj48] at F_x0_fromStep
        obtain ⟨j49, hj49⟩ : ∃ z : Int64, z = (u_20_a1_resumeStep j4 (q2 + nL.toInt64) nL sa0 fa0 ga0 ra0 ka0) := ⟨_, rfl⟩
        rw [← hj49] at F_x0_resumeStep
        have Z0 := Nat.le_trans Z0 K46.1
        have NN := Fr.app NN N46q
        show own_Go _ _ _ _ T46 (mkF m 197 #[vr a1, vj q2, .second, vi j4, vi j12, .unset, .unset, .unset] [])
        refine cs_aloadN cG X46 hx (hb hby d6_197) rfl rfl ?_
        refine cs_P cG X46 hx hZ hown (wd 59 _ rfl) (wd 60 _ rfl) (wd 61 _ rfl) (wd 36 _ rfl) rfl (wd 3 _ rfl) (wd 62 _ rfl) (by decide) (rm9_b_0_1 l Z a0 hw [] a1 nL i12 dq ar k_ar x0 fa0 T46.heap n0 Z0 F_a1_length F_a1_idle F_a1_chains F_dq_elements F_dq_head V_ar E_dq E_x0 F_x0_from) (by decide) (by decide) (by decide) (by decide) rfl E_a1 (by rw [hml]; rfl) (argsL := []) (S := []) (lenOf pd_6 rfl) rfl (W := 0) (Nat.le_of_eq rfl) (hb hby d6_198) rfl ?_
        intro v50 T50 L50 X50 hQ50
        obtain ⟨rfl, N50q, e50⟩ := hQ50
        have NN := Fr.app NN N50q
        show own_Go _ _ _ _ T50 (mkF m 201 #[vr a1, vj q2, .second, vi j4, vi j12, .unset, .unset, .unset] [(.int (r_9_b_0_1 nL i12 fa0))])
        refine cs_istore cG X50 hx (hb hby d6_201) (l' := #[vr a1, vj q2, .second, vi j4, vi j12, vi (r_9_b_0_1 nL i12 fa0), .unset, .unset]) rfl ?_
        show own_Go _ _ _ _ T50 (mkF m 203 #[vr a1, vj q2, .second, vi j4, vi j12, vi (r_9_b_0_1 nL i12 fa0), .unset, .unset] [])
        obtain ⟨j51, hj51⟩ : ∃ z : Int32, z = (r_9_b_0_1 nL i12 fa0) := ⟨_, rfl⟩
        rw [← hj51]
        refine cs_aloadN cG X50 hx (hb hby d6_203) rfl rfl ?_
        refine cs_dup cG X50 hx (hb hby d6_204) rfl ?_
        refine cs_get cG X50 hx hZ hown (wd 38 _ rfl) e50 F_a1_turns (hb hby d6_205) ?_
        intro T52 X52 e52
        refine cs_iload cG X52 hx (hb hby d6_208) rfl ?_
        refine cs_iloadN cG X52 hx (hb hby d6_210) rfl ?_
        show own_Go _ _ _ _ T52 (mkF m 211 #[vr a1, vj q2, .second, vi j4, vi j12, vi j51, .unset, .unset] [(.int j4), (.int j51), (.long nt), (.ref a1)])
        obtain ⟨T56, L56, j56, ⟨X56, e56, NN, hj56⟩, st56⟩ : own_Tj p.tables e below (fun T' L' j => Stand p l e ({ frames := 3, cells := 1, slots := 5, locals := 51 } : Room) s m #[(.ref a1), (.long q2)] below meth c T' L' 0 0 ∧ T'.heap = T46.heap ∧ Fr n0 L' ∧ j = (if j51 = j4 then nL.toInt64 else (r_18 (j51 - j4) nL).toInt64)) (fun j => (mkF m 234 #[vr a1, vj q2, .second, vi j4, vi j12, vi j51, .unset, .unset] [(.long j), (.long nt), (.ref a1)])) T52 (mkF m 211 #[vr a1, vj q2, .second, vi j4, vi j12, vi j51, .unset, .unset] [(.int j4), (.int j51), (.long nt), (.ref a1)]) := by
          by_cases hc211_8 : j51 = j4
          · skip
            refine cs_icmpNo cT X52 hx (hb hby d6_211) (teq hc211_8).2 ?_
            refine cs_aloadN cT X52 hx (hb hby d6_214) rfl rfl ?_
            refine cs_get cT X52 hx hZ hown (wd 29 _ rfl) e52 F_a1_length (hb hby d6_215) ?_
            intro T57 X57 e57
            refine cs_i2l cT X57 hx (hb hby d6_218) rfl ?_
            refine cs_goto cT X57 hx (pc' := 234) (hb hby d6_219) (by decide) (by decide) ?_
            exact ⟨T57, _, nL.toInt64, ⟨X57, e57, NN, (if_pos hc211_8).symm⟩, fun t k => k⟩
          · skip
            refine cs_icmpYes cT X52 hx (pc' := 222) (hb hby d6_211) (feq hc211_8).2 (by decide) (by decide) ?_
            refine cs_iload cT X52 hx (hb hby d6_222) rfl ?_
            refine cs_iloadN cT X52 hx (hb hby d6_224) rfl ?_
            refine cs_isub cT X52 hx (hb hby d6_225) rfl ?_
            refine cs_aloadN cT X52 hx (hb hby d6_226) rfl rfl ?_
            refine cs_get cT X52 hx hZ hown (wd 29 _ rfl) e52 F_a1_length (hb hby d6_227) ?_
            intro T58 X58 e58
            refine cs_S cT X58 hx hZ hown (wd 108 _ rfl) (wd 109 _ rfl) (wd 67 _ rfl) (wd 110 _ rfl) (by decide) (rm18 l Z a0 hw [] (j51 - j4) nL T46.heap n0 Z0 hhhhnz2_31_25_194) (by decide) (by decide) (by decide) (by decide) e58 (by rw [hml]; rfl) (argsL := [(.int (j51 - j4)), (.int nL)]) (S := [(.long nt), (.ref a1)]) (lenOf pd_10 rfl) rfl (W := 3) (Nat.le_of_eq rfl) (hb hby d6_230) rfl ?_
            intro v59 T59 L59 X59 hQ59
            obtain ⟨rfl, N59q, e59⟩ := hQ59
            have NN := Fr.app NN N59q
            show own_Tj p.tables e below _ _ T59 (mkF m 233 #[vr a1, vj q2, .second, vi j4, vi j12, vi j51, .unset, .unset] [(.int (r_18 (j51 - j4) nL)), (.long nt), (.ref a1)])
            refine cs_i2l cT X59 hx (hb hby d6_233) rfl ?_
            exact ⟨T59, _, (r_18 (j51 - j4) nL).toInt64, ⟨X59, e59, NN, (if_neg hc211_8).symm⟩, fun t k => k⟩
        refine own_go st56 ?_
        refine cs_ladd cG X56 hx (hb hby d6_234) rfl ?_
        show own_Go _ _ _ _ T56 (mkF m 235 #[vr a1, vj q2, .second, vi j4, vi j12, vi j51, .unset, .unset] [(.long (nt + j56)), (.ref a1)])
        obtain ⟨j60, hj60⟩ : ∃ z : Int64, z = (nt + j56) := ⟨_, rfl⟩
        rw [← hj60]
        refine cs_put cG X56 hx hZ hown (wd 38 _ rfl) e56 F_a1_turns E_a1 (Or.inl (wd 39 _ rfl)) (wd 2 _ rfl) (ty := .long) (by decide) rfl rfl (hb hby d6_235) ?_
        intro T61 h61 X61 e61 W61
        have F_a1_length := F_a1_length.other W61 (Or.inr (slot_ne (Or.inr (wd 30 _ rfl)) (Or.inl (wd 39 _ rfl)) (by decide) (t := .int) (t' := .long) (by decide) (by decide)))
        have F_a1_turns := F_a1_turns.same W61
        have F_a1_alike := F_a1_alike.other W61 (Or.inr (slot_ne (Or.inl (wd 32 _ rfl)) (Or.inl (wd 39 _ rfl)) (by decide) (t := .long) (t' := .long) (by decide) (by decide)))
        have F_a1_idle := F_a1_idle.other W61 (Or.inr (slot_ne (Or.inl (wd 64 _ rfl)) (Or.inl (wd 39 _ rfl)) (by decide) (t := .int) (t' := .long) (by decide) (by decide)))
        have F_a1_chains := F_a1_chains.other W61 (Or.inr (slot_ne (Or.inr (wd 28 _ rfl)) (Or.inl (wd 39 _ rfl)) (by decide) (t := (.object own_cD)) (t' := .long) (by decide) (by decide)))
        have F_dq_head := F_dq_head.other W61 (Or.inl ne_dq_a1)
        have F_dq_tail := F_dq_tail.other W61 (Or.inl ne_dq_a1)
        have F_dq_elements := F_dq_elements.other W61 (Or.inl ne_dq_a1)
        have F_x0_from := F_x0_from.other W61 (Or.inl ne_x0_a1)
        have F_x0_resume := F_x0_resume.other W61 (Or.inl ne_x0_a1)
        have F_x0_size := F_x0_size.other W61 (Or.inl ne_x0_a1)
        have F_x0_fromStep := F_x0_fromStep.other W61 (Or.inl ne_x0_a1)
        have F_x0_resumeStep := F_x0_resumeStep.other W61 (Or.inl ne_x0_a1)
        have E_dq := E_dq.wr W61
        have V_ar := V_ar.other W61 ne_ar_a1
        have E_x0 := E_x0.wr W61
        have E_a1 := E_a1.wr W61
        have Z0 := Nat.le_trans Z0 (Keep.of_wr W61).1
        have NN := Fr.snoc X61 NN g_a1
        refine cs_aloadN cG X61 hx (hb hby d6_238) rfl rfl ?_
        refine cs_get cG X61 hx hZ hown (wd 63 _ rfl) e61 F_a1_idle (hb hby d6_239) ?_
        intro T62 X62 e62
        refine cs_aloadN cG X62 hx (hb hby d6_242) rfl rfl ?_
        refine cs_get cG X62 hx hZ hown (wd 29 _ rfl) e62 F_a1_length (hb hby d6_243) ?_
        intro T63 X63 e63
        by_cases hc246_9 : i12 = nL
        · as_aux_lemma =>
          refine cs_icmpNo cG X63 hx (hb hby d6_246) (teq hc246_9).2 ?_
          refine cs_aloadN cG X63 hx (hb hby d6_249) rfl rfl ?_
          refine cs_get cG X63 hx hZ hown (wd 27 _ rfl) e63 F_a1_chains (hb hby d6_250) ?_
          intro T64 X64 e64
          refine cs_V cG X64 hx hZ hown (wd 127 _ rfl) (wd 128 _ rfl) (wd 130 _ rfl) (wd 129 _ rfl) (wd 12 _ rfl) (wd 131 _ rfl) (by decide) (rm21_0_1 l Z a0 hw [] dq ar k_ar x0 h61 n0 Z0 F_dq_tail F_dq_head F_dq_elements V_ar) (by decide) (by decide) (by decide) (by decide) e64 E_dq (by rw [hml]; rfl) (argsL := []) (S := []) (lenOf pd_6 rfl) rfl (W := 0) (Nat.le_of_eq rfl) (hb hby d6_253) rfl ?_
          intro v65 T65 L65 X65 hQ65
          obtain ⟨rfl, N65q, e65⟩ := hQ65
          have NN := Fr.app NN N65q
          show own_Go _ _ _ _ T65 (mkF m 256 #[vr a1, vj q2, .second, vi j4, vi j12, vi j51, .unset, .unset] [(.int (1 : Int32))])
          refine cs_iconst cG X65 hx (hb hby d6_256) (z := (1 : Int32)) rfl ?_
          refine cs_icmpNo cG X65 hx (hb hby d6_257) (teq (rfl : (1 : Int32) = (1 : Int32))).2 ?_
          refine cs_aloadN cG X65 hx (hb hby d6_260) rfl rfl ?_
          refine cs_get cG X65 hx hZ hown (wd 27 _ rfl) e65 F_a1_chains (hb hby d6_261) ?_
          intro T66 X66 e66
          refine cs_V cG X66 hx hZ hown (wd 111 _ rfl) (wd 112 _ rfl) (wd 114 _ rfl) (wd 113 _ rfl) (wd 12 _ rfl) (wd 115 _ rfl) (by decide) (rm19_0_1 l Z a0 hw [] dq ar k_ar x0 h61 n0 Z0 F_dq_elements F_dq_head V_ar) (by decide) (by decide) (by decide) (by decide) e66 E_dq (by rw [hml]; rfl) (argsL := []) (S := []) (lenOf pd_9 rfl) rfl (W := 0) (Nat.le_of_eq rfl) (hb hby d6_264) rfl ?_
          intro v67 T67 L67 X67 hQ67
          obtain ⟨rfl, N67q, e67⟩ := hQ67
          have NN := Fr.app NN N67q
          show own_Go _ _ _ _ T67 (mkF m 267 #[vr a1, vj q2, .second, vi j4, vi j12, vi j51, .unset, .unset] [(.ref x0)])
          refine cs_cast cG X67 hx hZ hown (wd 84 _ rfl) e67 (Ins.self E_x0) (hb hby d6_267) ?_
          intro T68 X68 e68
          refine cs_getR cG X68 hx hZ hown (wd 135 _ rfl) e68 F_x0_size (hb hby d6_270) ?_
          refine cs_lconst cG X68 hx (hb hby d6_273) (z := (1 : Int64)) rfl ?_
          refine cs_lcmp cG X68 hx (hb hby d6_274) ?_
          have hs275_0 : ¬ (j47 = (1 : Int64)) := own_at_6_1_hs275_0_tfft q2 nL ni fa0 ra0 sa0 ga0 ka0 j4 i12 j12 j47 hj4 hi12 hj12 hj47 hN hhhnz26_25_194 hhhhnz2_31_25_194 hhnz2_230 hnz132 hhnz16_162 hc100_3 hc181_4 hf194_5 hc246_9
          refine cs_ifYes cG X68 hx (pc' := 295) (hb hby d6_275) ((if0 _ _).trans (feq (fun q => hs275_0 ((lw_eq j47 (1 : Int64)).mp q))).2) (by decide) (by decide) ?_
          show own_Go _ _ _ _ T68 (mkF m 295 #[vr a1, vj q2, .second, vi j4, vi j12, vi j51, .unset, .unset] [])
          obtain ⟨fs, hr, hrun, hended, hW, hsame⟩ := X68.leave (v := none) (fun _ => rfl)
          refine ⟨_, _, ?_, hrun, hended, _, _, rfl, ?_, ⟨_, rfl⟩, hW, hsame.mono (by decide) (by decide)⟩
          · exact X68.returnOut hx Bd.returns (hb hby d6_295) hr
          · show Q6_1 Z a1 q2 nL nt na ni dq ar fa0 ra0 sa0 ga0 ka0 k_ar x0 h0 n0 _ T68.heap _
            rw [e68]
            have hlf_0 : own_tk1 nL q2 nt na ni fa0 ra0 sa0 ga0 ka0 = ((j60, na, i12, 1, (fa0, ra0, j47, j48, j49), ((0 : Int32), (0 : Int64))) : own_A) := own_at_6_1_hlf_0_tfft q2 nL nt na ni fa0 ra0 sa0 ga0 ka0 j4 i12 j12 j47 j48 j49 j51 j56 j60 hj4 hi12 hj12 hj47 hj48 hj49 hj51 hj56 hj60 hN hhhnz26_25_194 hhhhnz2_31_25_194 hhnz2_230 hnz132 hhnz16_162 hc100_3 hc181_4 hf194_5 hc246_9 hs275_0
            exact ⟨rfl, NN, Z0, (by rw [hlf_0]; exact own_mk1 E_a1 g_a1 F_a1_length F_a1_turns F_a1_alike F_a1_idle F_a1_chains E_dq g_dq ne_dq_a1 F_dq_head F_dq_tail F_dq_elements O_ar V_ar g_ar ne_ar_a1 ne_dq_ar E_x0 g_x0 F_x0_from F_x0_resume F_x0_size F_x0_fromStep F_x0_resumeStep ne_x0_a1 ne_dq_x0 ne_ar_x0)⟩
        · as_aux_lemma =>
          refine cs_icmpYes cG X63 hx (pc' := 295) (hb hby d6_246) (feq hc246_9).2 (by decide) (by decide) ?_
          show own_Go _ _ _ _ T63 (mkF m 295 #[vr a1, vj q2, .second, vi j4, vi j12, vi j51, .unset, .unset] [])
          obtain ⟨fs, hr, hrun, hended, hW, hsame⟩ := X63.leave (v := none) (fun _ => rfl)
          refine ⟨_, _, ?_, hrun, hended, _, _, rfl, ?_, ⟨_, rfl⟩, hW, hsame.mono (by decide) (by decide)⟩
          · exact X63.returnOut hx Bd.returns (hb hby d6_295) hr
          · show Q6_1 Z a1 q2 nL nt na ni dq ar fa0 ra0 sa0 ga0 ka0 k_ar x0 h0 n0 _ T63.heap _
            rw [e63]
            have hlf_0 : own_tk1 nL q2 nt na ni fa0 ra0 sa0 ga0 ka0 = ((j60, na, i12, 1, (fa0, ra0, j47, j48, j49), ((0 : Int32), (0 : Int64))) : own_A) := own_at_6_1_hlf_0_tfff q2 nL nt na ni fa0 ra0 sa0 ga0 ka0 j4 i12 j12 j47 j48 j49 j51 j56 j60 hj4 hi12 hj12 hj47 hj48 hj49 hj51 hj56 hj60 hN hhhnz26_25_194 hhhhnz2_31_25_194 hhnz2_230 hnz132 hhnz16_162 hc100_3 hc181_4 hf194_5 hc246_9
            exact ⟨rfl, NN, Z0, (by rw [hlf_0]; exact own_mk1 E_a1 g_a1 F_a1_length F_a1_turns F_a1_alike F_a1_idle F_a1_chains E_dq g_dq ne_dq_a1 F_dq_head F_dq_tail F_dq_elements O_ar V_ar g_ar ne_ar_a1 ne_dq_ar E_x0 g_x0 F_x0_from F_x0_resume F_x0_size F_x0_fromStep F_x0_resumeStep ne_x0_a1 ne_dq_x0 ne_ar_x0)⟩
  · as_aux_lemma =>
    refine cs_ifNo cG X24 hx (hb hby d6_100) ((if0 _ _).trans (flt (fun q => hc100_3 ((lw_gt ra0 q2).mp q))).2.2.1) ?_
    refine cs_aloadN cG X24 hx (hb hby d6_103) rfl rfl ?_
    refine cs_get cG X24 hx hZ hown (wd 27 _ rfl) e24 F_a1_chains (hb hby d6_104) ?_
    intro T69 X69 e69
    refine cs_V cG X69 hx hZ hown (wd 111 _ rfl) (wd 112 _ rfl) (wd 114 _ rfl) (wd 113 _ rfl) (wd 12 _ rfl) (wd 115 _ rfl) (by decide) (rm19_0_1 l Z a0 hw [] dq ar k_ar x0 T12.heap n0 Z0 F_dq_elements F_dq_head V_ar) (by decide) (by decide) (by decide) (by decide) e69 E_dq (by rw [hml]; rfl) (argsL := []) (S := []) (lenOf pd_9 rfl) rfl (W := 0) (Nat.le_of_eq rfl) (hb hby d6_107) rfl ?_
    intro v70 T70 L70 X70 hQ70
    obtain ⟨rfl, N70q, e70⟩ := hQ70
    have NN := Fr.app NN N70q
    show own_Go _ _ _ _ T70 (mkF m 110 #[vr a1, vj q2, .second, vi j4, vi j12, .unset, .unset, .unset] [(.ref x0)])
    refine cs_cast cG X70 hx hZ hown (wd 84 _ rfl) e70 (Ins.self E_x0) (hb hby d6_110) ?_
    intro T71 X71 e71
    refine cs_astore cG X71 hx (hb hby d6_113) rfl (l' := #[vr a1, vj q2, .second, vi j4, vi j12, vr x0, .unset, .unset]) rfl ?_
    refine cs_aload cG X71 hx (hb hby d6_115) rfl rfl ?_
    refine cs_getR cG X71 hx hZ hown (wd 135 _ rfl) e71 F_x0_size (hb hby d6_117) ?_
    refine cs_lloadN cG X71 hx (hb hby d6_120) rfl ?_
    refine cs_aload cG X71 hx (hb hby d6_121) rfl rfl ?_
    refine cs_getR cG X71 hx hZ hown (wd 117 _ rfl) e71 F_x0_resume (hb hby d6_123) ?_
    refine cs_lsub cG X71 hx (hb hby d6_126) rfl ?_
    refine cs_aload cG X71 hx (hb hby d6_127) rfl rfl ?_
    refine cs_getR cG X71 hx hZ hown (wd 136 _ rfl) e71 F_x0_resumeStep (hb hby d6_129) ?_
    refine cs_ldiv cG X71 hx (hb hby d6_132) rfl hnz132 ?_
    refine cs_lconst cG X71 hx (hb hby d6_133) (z := (1 : Int64)) rfl ?_
    refine cs_ladd cG X71 hx (hb hby d6_134) rfl ?_
    refine cs_S cG X71 hx hZ hown (wd 65 _ rfl) (wd 66 _ rfl) (wd 67 _ rfl) (wd 68 _ rfl) (by decide) (rm10 l Z a0 hw [] sa0 (((q2 - ra0) / ka0) + (1 : Int64)) T12.heap n0 Z0 ) (by decide) (by decide) (by decide) (by decide) e71 (by rw [hml]; rfl) (argsL := [(.long sa0), (.long (((q2 - ra0) / ka0) + (1 : Int64)))]) (S := []) (lenOf pd_7 rfl) rfl (W := 0) (Nat.le_of_eq rfl) (hb hby d6_135) rfl ?_
    intro v72 T72 L72 X72 hQ72
    obtain ⟨rfl, N72q, e72⟩ := hQ72
    have NN := Fr.app NN N72q
    show own_Go _ _ _ _ T72 (mkF m 138 #[vr a1, vj q2, .second, vi j4, vi j12, vr x0, .unset, .unset] [(.long (r_10 sa0 (((q2 - ra0) / ka0) + (1 : Int64))))])
    refine cs_lstore cG X72 hx (hb hby d6_138) (l' := #[vr a1, vj q2, .second, vi j4, vi j12, vr x0, vj (r_10 sa0 (((q2 - ra0) / ka0) + (1 : Int64))), .second]) rfl ?_
    show own_Go _ _ _ _ T72 (mkF m 140 #[vr a1, vj q2, .second, vi j4, vi j12, vr x0, vj (r_10 sa0 (((q2 - ra0) / ka0) + (1 : Int64))), .second] [])
    obtain ⟨j73, hj73⟩ : ∃ z : Int64, z = (r_10 sa0 (((q2 - ra0) / ka0) + (1 : Int64))) := ⟨_, rfl⟩
    rw [← hj73]
    refine cs_iconst cG X72 hx (hb hby d6_140) (z := (1 : Int32)) rfl ?_
    refine cs_istore cG X72 hx (hb hby d6_141) (l' := #[vr a1, vj q2, .second, vi j4, vi (1 : Int32), vr x0, vj j73, .second]) rfl ?_
    refine cs_lload cG X72 hx (hb hby d6_143) rfl ?_
    refine cs_aload cG X72 hx (hb hby d6_145) rfl rfl ?_
    refine cs_getR cG X72 hx hZ hown (wd 135 _ rfl) e72 F_x0_size (hb hby d6_147) ?_
    refine cs_lcmp cG X72 hx (hb hby d6_150) ?_
    by_cases hc151_10 : j73 < sa0
    · as_aux_lemma =>
      refine cs_ifNo cG X72 hx (hb hby d6_151) ((if0 _ _).trans (tlt ((lw_lt j73 sa0).mpr hc151_10)).2.1) ?_
      refine cs_aload cG X72 hx (hb hby d6_154) rfl rfl ?_
      refine cs_lload cG X72 hx (hb hby d6_156) rfl ?_
      refine cs_aloadN cG X72 hx (hb hby d6_158) rfl rfl ?_
      refine cs_get cG X72 hx hZ hown (wd 29 _ rfl) e72 F_a1_length (hb hby d6_159) ?_
      intro T74 X74 e74
      refine cs_V cG X74 hx hZ hown (wd 137 _ rfl) (wd 138 _ rfl) (wd 140 _ rfl) (wd 139 _ rfl) (wd 86 _ rfl) (wd 141 _ rfl) (by decide) (rm23 l Z a0 hw [] x0 j73 nL fa0 ga0 ra0 ka0 sa0 T12.heap n0 Z0 F_x0_from F_x0_fromStep hhhnz26_25_194 E_x0 g_x0 F_x0_resume F_x0_resumeStep F_x0_size) (by decide) (by decide) (by decide) (by decide) e74 E_x0 (by rw [hml]; rfl) (argsL := [(.long j73), (.int nL)]) (S := []) (lenOf pd_15 rfl) rfl (W := 0) (Nat.le_of_eq rfl) (hb hby d6_162) rfl ?_
      intro v75 T75 L75 X75 hQ75
      obtain ⟨rfl, N75q, K75, Q75_0, Q75_1, Q75_2, Q75_3, Q75_4, Q75_5⟩ := hQ75
      have F_a1_length := F_a1_length.keep K75 (ninS (Ne.symm ne_x0_a1) nin0)
      have F_a1_turns := F_a1_turns.keep K75 (ninS (Ne.symm ne_x0_a1) nin0)
      have F_a1_alike := F_a1_alike.keep K75 (ninS (Ne.symm ne_x0_a1) nin0)
      have F_a1_idle := F_a1_idle.keep K75 (ninS (Ne.symm ne_x0_a1) nin0)
      have F_a1_chains := F_a1_chains.keep K75 (ninS (Ne.symm ne_x0_a1) nin0)
      have F_dq_head := F_dq_head.keep K75 (ninS ne_dq_x0 nin0)
      have F_dq_tail := F_dq_tail.keep K75 (ninS ne_dq_x0 nin0)
      have F_dq_elements := F_dq_elements.keep K75 (ninS ne_dq_x0 nin0)
      have E_dq := E_dq.keep K75
      have V_ar := V_ar.keep K75 (ninS ne_ar_x0 nin0)
      have E_a1 := E_a1.keep K75
      have E_x0 := Q75_0
      have F_x0_from := Q75_1
      have F_x0_fromStep := Q75_2
      have F_x0_resume := Q75_3
      have F_x0_resumeStep := Q75_4
      have F_x0_size := Q75_5
      obtain ⟨j76, hj76⟩ : ∃ z : Int32, z = ((fa0.toInt64 + (j73 * ga0.toInt64)) - ((fa0.toInt64 + (j73 * ga0.toInt64)) / nL.toInt64) * nL.toInt64).toInt32 := ⟨_, rfl⟩
      rw [← hj76] at F_x0_from
      obtain ⟨j77, hj77⟩ : ∃ z : Int64, z = (ra0 + (j73 * ka0)) := ⟨_, rfl⟩
      rw [← hj77] at F_x0_resume
      obtain ⟨j78, hj78⟩ : ∃ z : Int64, z = (sa0 - j73) := ⟨_, rfl⟩
      rw [← hj78] at F_x0_size
      have Z0 := Nat.le_trans Z0 K75.1
      have NN := Fr.app NN N75q
      show own_Go _ _ _ _ T75 (mkF m 165 #[vr a1, vj q2, .second, vi j4, vi (1 : Int32), vr x0, vj j73, .second] [])
      refine cs_goto cG X75 hx (pc' := 176) (hb hby d6_165) (by decide) (by decide) ?_
      refine cs_goto cG X75 hx (pc' := 75) (hb hby d6_176) (by decide) (by decide) ?_
      refine cs_aloadN cG X75 hx (hb hby d6_75) rfl rfl ?_
      refine cs_get cG X75 hx hZ hown (wd 27 _ rfl) rfl F_a1_chains (hb hby d6_76) ?_
      intro T79 X79 e79
      refine cs_V cG X79 hx hZ hown (wd 44 _ rfl) (wd 45 _ rfl) (wd 47 _ rfl) (wd 46 _ rfl) (wd 12 _ rfl) (wd 48 _ rfl) (by decide) (rm7_0_1 l Z a0 hw [] dq T75.heap n0 Z0 F_dq_head F_dq_tail) (by decide) (by decide) (by decide) (by decide) e79 E_dq (by rw [hml]; rfl) (argsL := []) (S := []) (lenOf pd_4 rfl) rfl (W := 0) (Nat.le_of_eq rfl) (hb hby d6_79) rfl ?_
      intro v80 T80 L80 X80 hQ80
      obtain ⟨rfl, N80q, e80⟩ := hQ80
      have NN := Fr.app NN N80q
      show own_Go _ _ _ _ T80 (mkF m 82 #[vr a1, vj q2, .second, vi j4, vi (1 : Int32), vr x0, vj j73, .second] [(.int (0 : Int32))])
      refine cs_ifNo cG X80 hx (hb hby d6_82) ((if0 _ _).trans (teq (rfl : (0 : Int32) = (0 : Int32))).2) ?_
      refine cs_aloadN cG X80 hx (hb hby d6_85) rfl rfl ?_
      refine cs_get cG X80 hx hZ hown (wd 27 _ rfl) e80 F_a1_chains (hb hby d6_86) ?_
      intro T81 X81 e81
      refine cs_V cG X81 hx hZ hown (wd 111 _ rfl) (wd 112 _ rfl) (wd 114 _ rfl) (wd 113 _ rfl) (wd 12 _ rfl) (wd 115 _ rfl) (by decide) (rm19_0_1 l Z a0 hw [] dq ar k_ar x0 T75.heap n0 Z0 F_dq_elements F_dq_head V_ar) (by decide) (by decide) (by decide) (by decide) e81 E_dq (by rw [hml]; rfl) (argsL := []) (S := []) (lenOf pd_9 rfl) rfl (W := 0) (Nat.le_of_eq rfl) (hb hby d6_89) rfl ?_
      intro v82 T82 L82 X82 hQ82
      obtain ⟨rfl, N82q, e82⟩ := hQ82
      have NN := Fr.app NN N82q
      show own_Go _ _ _ _ T82 (mkF m 92 #[vr a1, vj q2, .second, vi j4, vi (1 : Int32), vr x0, vj j73, .second] [(.ref x0)])
      refine cs_cast cG X82 hx hZ hown (wd 84 _ rfl) e82 (Ins.self E_x0) (hb hby d6_92) ?_
      intro T83 X83 e83
      refine cs_getR cG X83 hx hZ hown (wd 117 _ rfl) e83 F_x0_resume (hb hby d6_95) ?_
      refine cs_lloadN cG X83 hx (hb hby d6_98) rfl ?_
      refine cs_lcmp cG X83 hx (hb hby d6_99) ?_
      have hs100_0 : q2 < j77 := own_at_6_1_hs100_0_ft q2 nL ni ra0 sa0 ka0 j73 j77 hj73 hj77 hN hhhnz26_25_194 hhhhnz2_31_25_194 hhnz2_230 hnz132 hhnz16_162 hc100_3 hc151_10
      refine cs_ifYes cG X83 hx (pc' := 179) (hb hby d6_100) ((if0 _ _).trans (tlt ((lw_gt j77 q2).mpr hs100_0)).2.2.1) (by decide) (by decide) ?_
      refine cs_iload cG X83 hx (hb hby d6_179) rfl ?_
      refine cs_ifYes cG X83 hx (pc' := 185) (hb hby d6_181) ((if0 _ _).trans (feq (by decide : ¬ ((1 : Int32) = (0 : Int32)))).2) (by decide) (by decide) ?_
      refine cs_aloadN cG X83 hx (hb hby d6_185) rfl rfl ?_
      refine cs_iloadN cG X83 hx (hb hby d6_186) rfl ?_
      refine cs_lloadN cG X83 hx (hb hby d6_187) rfl ?_
      refine cs_aloadN cG X83 hx (hb hby d6_188) rfl rfl ?_
      refine cs_get cG X83 hx hZ hown (wd 29 _ rfl) e83 F_a1_length (hb hby d6_189) ?_
      intro T84 X84 e84
      refine cs_i2l cG X84 hx (hb hby d6_192) rfl ?_
      refine cs_ladd cG X84 hx (hb hby d6_193) rfl ?_
      by_cases hf194_11 : (r_20 j4 (q2 + nL.toInt64) nL j78 j76 ga0 j77 ka0) = (0 : Int32)
      · as_aux_lemma =>
        refine cs_P cG X84 hx hZ hown (wd 69 _ rfl) (wd 70 _ rfl) (wd 71 _ rfl) (wd 36 _ rfl) rfl (wd 3 _ rfl) (wd 72 _ rfl) (by decide) (rm11_n_0_1 l Z a0 hw [] a1 j4 (q2 + nL.toInt64) dq ar k_ar x0 nL j78 j76 ga0 j77 ka0 T75.heap n0 Z0 F_a1_chains F_dq_elements F_dq_tail O_ar V_ar E_dq E_x0 F_a1_length F_x0_size F_x0_from F_x0_fromStep F_x0_resume F_x0_resumeStep g_x0 hhhnz26_25_194 hhhhnz2_31_25_194 (Ne.symm ne_x0_a1) ne_dq_x0 ne_ar_x0 hf194_11 ne_dq_ar g_ar F_dq_head g_dq (Ne.symm ne_dq_a1) (Ne.symm ne_ar_a1)) (by decide) (by decide) (by decide) (by decide) e84 E_a1 (by rw [hml]; rfl) (argsL := [(.int j4), (.long (q2 + nL.toInt64))]) (S := []) (lenOf pd_8 rfl) rfl (W := 0) (Nat.le_of_eq rfl) (hb hby d6_194) rfl ?_
        intro v85 T85 L85 X85 hQ85
        obtain ⟨b85_0, rfl, N85q, K85, Q85_0, Q85_1, Q85_2, Q85_3, Q85_4, Q85_5, Q85_6, Q85_7, Q85_8, Q85_9, Q85_10, R85_0, R85_1, R85_2, R85_3, R85_4, R85_5, R85_6, R85_7⟩ := hQ85
        have ne_a1_b85_0 : a1 ≠ b85_0 := Nat.ne_of_lt (Nat.lt_of_lt_of_le F_a1_length.lt R85_1)
        have ne_dq_b85_0 : dq ≠ b85_0 := Nat.ne_of_lt (Nat.lt_of_lt_of_le F_dq_head.lt R85_1)
        have ne_x0_b85_0 : x0 ≠ b85_0 := Nat.ne_of_lt (Nat.lt_of_lt_of_le F_x0_from.lt R85_1)
        have ne_ar_b85_0 : ar ≠ b85_0 := Nat.ne_of_lt (Nat.lt_of_lt_of_le V_ar.lt R85_1)
        have F_a1_length := F_a1_length.keep K85 (ninS (Ne.symm ne_x0_a1) (ninS (Ne.symm ne_dq_a1) (ninS (Ne.symm ne_ar_a1) nin0)))
        have F_a1_turns := F_a1_turns.keep K85 (ninS (Ne.symm ne_x0_a1) (ninS (Ne.symm ne_dq_a1) (ninS (Ne.symm ne_ar_a1) nin0)))
        have F_a1_alike := F_a1_alike.keep K85 (ninS (Ne.symm ne_x0_a1) (ninS (Ne.symm ne_dq_a1) (ninS (Ne.symm ne_ar_a1) nin0)))
        have F_a1_idle := F_a1_idle.keep K85 (ninS (Ne.symm ne_x0_a1) (ninS (Ne.symm ne_dq_a1) (ninS (Ne.symm ne_ar_a1) nin0)))
        have F_a1_chains := F_a1_chains.keep K85 (ninS (Ne.symm ne_x0_a1) (ninS (Ne.symm ne_dq_a1) (ninS (Ne.symm ne_ar_a1) nin0)))
        have E_a1 := E_a1.keep K85
        have E_x0 := Q85_0
        have F_x0_size := Q85_1
        have F_x0_from := Q85_2
        have F_x0_fromStep := Q85_3
        have F_x0_resume := Q85_4
        have F_x0_resumeStep := Q85_5
        have E_dq := Q85_6
        have F_dq_elements := Q85_7
        have F_dq_tail := Q85_8
        have F_dq_head := Q85_9
        have V_ar := Q85_10
        obtain ⟨j86, hj86⟩ : ∃ z : Int64, z = (u_20_a1_size j4 (q2 + nL.toInt64) nL j78 j76 ga0 j77 ka0) := ⟨_, rfl⟩
        rw [← hj86] at F_x0_size
        obtain ⟨j87, hj87⟩ : ∃ z : Int32, z = (u_20_a1_fromStep j4 (q2 + nL.toInt64) nL j78 j76 ga0 j77 ka0) := ⟨_, rfl⟩
        rw [← hj87] at F_x0_fromStep
        obtain ⟨j88, hj88⟩ : ∃ z : Int64, z = (u_20_a1_resumeStep j4 (q2 + nL.toInt64) nL j78 j76 ga0 j77 ka0) := ⟨_, rfl⟩
        rw [← hj88] at F_x0_resumeStep
        have g_b85_0 := R85_0
        have E_b85_0 := R85_2
        have F_b85_0_size := R85_3
        have F_b85_0_resumeStep := R85_4
        have F_b85_0_from := R85_5
        have F_b85_0_resume := R85_6
        have F_b85_0_fromStep := R85_7
        have Z0 := Nat.le_trans Z0 K85.1
        have NN := Fr.app NN N85q
        show own_Go _ _ _ _ T85 (mkF m 197 #[vr a1, vj q2, .second, vi j4, vi (1 : Int32), vr x0, vj j73, .second] [])
        refine cs_aloadN cG X85 hx (hb hby d6_197) rfl rfl ?_
        refine cs_P cG X85 hx hZ hown (wd 59 _ rfl) (wd 60 _ rfl) (wd 61 _ rfl) (wd 36 _ rfl) rfl (wd 3 _ rfl) (wd 62 _ rfl) (by decide) (rm9_b_0_2 l Z a0 hw [] a1 nL i12 dq ar k_ar x0 b85_0 j76 T85.heap n0 Z0 F_a1_length F_a1_idle F_a1_chains F_dq_elements F_dq_head V_ar E_dq E_x0 F_x0_from) (by decide) (by decide) (by decide) (by decide) rfl E_a1 (by rw [hml]; rfl) (argsL := []) (S := []) (lenOf pd_6 rfl) rfl (W := 0) (Nat.le_of_eq rfl) (hb hby d6_198) rfl ?_
        intro v89 T89 L89 X89 hQ89
        obtain ⟨rfl, N89q, e89⟩ := hQ89
        have NN := Fr.app NN N89q
        show own_Go _ _ _ _ T89 (mkF m 201 #[vr a1, vj q2, .second, vi j4, vi (1 : Int32), vr x0, vj j73, .second] [(.int (r_9_b_0_2 nL i12 j76))])
        refine cs_istore cG X89 hx (hb hby d6_201) (l' := #[vr a1, vj q2, .second, vi j4, vi (1 : Int32), vi (r_9_b_0_2 nL i12 j76), vj j73, .second]) rfl ?_
        show own_Go _ _ _ _ T89 (mkF m 203 #[vr a1, vj q2, .second, vi j4, vi (1 : Int32), vi (r_9_b_0_2 nL i12 j76), vj j73, .second] [])
        obtain ⟨j90, hj90⟩ : ∃ z : Int32, z = (r_9_b_0_2 nL i12 j76) := ⟨_, rfl⟩
        rw [← hj90]
        refine cs_aloadN cG X89 hx (hb hby d6_203) rfl rfl ?_
        refine cs_dup cG X89 hx (hb hby d6_204) rfl ?_
        refine cs_get cG X89 hx hZ hown (wd 38 _ rfl) e89 F_a1_turns (hb hby d6_205) ?_
        intro T91 X91 e91
        refine cs_iload cG X91 hx (hb hby d6_208) rfl ?_
        refine cs_iloadN cG X91 hx (hb hby d6_210) rfl ?_
        show own_Go _ _ _ _ T91 (mkF m 211 #[vr a1, vj q2, .second, vi j4, vi (1 : Int32), vi j90, vj j73, .second] [(.int j4), (.int j90), (.long nt), (.ref a1)])
        obtain ⟨T95, L95, j95, ⟨X95, e95, NN, hj95⟩, st95⟩ : own_Tj p.tables e below (fun T' L' j => Stand p l e ({ frames := 3, cells := 1, slots := 5, locals := 51 } : Room) s m #[(.ref a1), (.long q2)] below meth c T' L' 1 5 ∧ T'.heap = T85.heap ∧ Fr n0 L' ∧ j = (if j90 = j4 then nL.toInt64 else (r_18 (j90 - j4) nL).toInt64)) (fun j => (mkF m 234 #[vr a1, vj q2, .second, vi j4, vi (1 : Int32), vi j90, vj j73, .second] [(.long j), (.long nt), (.ref a1)])) T91 (mkF m 211 #[vr a1, vj q2, .second, vi j4, vi (1 : Int32), vi j90, vj j73, .second] [(.int j4), (.int j90), (.long nt), (.ref a1)]) := by
          by_cases hc211_12 : j90 = j4
          · skip
            refine cs_icmpNo cT X91 hx (hb hby d6_211) (teq hc211_12).2 ?_
            refine cs_aloadN cT X91 hx (hb hby d6_214) rfl rfl ?_
            refine cs_get cT X91 hx hZ hown (wd 29 _ rfl) e91 F_a1_length (hb hby d6_215) ?_
            intro T96 X96 e96
            refine cs_i2l cT X96 hx (hb hby d6_218) rfl ?_
            refine cs_goto cT X96 hx (pc' := 234) (hb hby d6_219) (by decide) (by decide) ?_
            exact ⟨T96, _, nL.toInt64, ⟨X96, e96, NN, (if_pos hc211_12).symm⟩, fun t k => k⟩
          · skip
            refine cs_icmpYes cT X91 hx (pc' := 222) (hb hby d6_211) (feq hc211_12).2 (by decide) (by decide) ?_
            refine cs_iload cT X91 hx (hb hby d6_222) rfl ?_
            refine cs_iloadN cT X91 hx (hb hby d6_224) rfl ?_
            refine cs_isub cT X91 hx (hb hby d6_225) rfl ?_
            refine cs_aloadN cT X91 hx (hb hby d6_226) rfl rfl ?_
            refine cs_get cT X91 hx hZ hown (wd 29 _ rfl) e91 F_a1_length (hb hby d6_227) ?_
            intro T97 X97 e97
            refine cs_S cT X97 hx hZ hown (wd 108 _ rfl) (wd 109 _ rfl) (wd 67 _ rfl) (wd 110 _ rfl) (by decide) (rm18 l Z a0 hw [] (j90 - j4) nL T85.heap n0 Z0 hhhhnz2_31_25_194) (by decide) (by decide) (by decide) (by decide) e97 (by rw [hml]; rfl) (argsL := [(.int (j90 - j4)), (.int nL)]) (S := [(.long nt), (.ref a1)]) (lenOf pd_10 rfl) rfl (W := 3) (Nat.le_of_eq rfl) (hb hby d6_230) rfl ?_
            intro v98 T98 L98 X98 hQ98
            obtain ⟨rfl, N98q, e98⟩ := hQ98
            have NN := Fr.app NN N98q
            show own_Tj p.tables e below _ _ T98 (mkF m 233 #[vr a1, vj q2, .second, vi j4, vi (1 : Int32), vi j90, vj j73, .second] [(.int (r_18 (j90 - j4) nL)), (.long nt), (.ref a1)])
            refine cs_i2l cT X98 hx (hb hby d6_233) rfl ?_
            exact ⟨T98, _, (r_18 (j90 - j4) nL).toInt64, ⟨X98, e98, NN, (if_neg hc211_12).symm⟩, fun t k => k⟩
        refine own_go st95 ?_
        refine cs_ladd cG X95 hx (hb hby d6_234) rfl ?_
        show own_Go _ _ _ _ T95 (mkF m 235 #[vr a1, vj q2, .second, vi j4, vi (1 : Int32), vi j90, vj j73, .second] [(.long (nt + j95)), (.ref a1)])
        obtain ⟨j99, hj99⟩ : ∃ z : Int64, z = (nt + j95) := ⟨_, rfl⟩
        rw [← hj99]
        refine cs_put cG X95 hx hZ hown (wd 38 _ rfl) e95 F_a1_turns E_a1 (Or.inl (wd 39 _ rfl)) (wd 2 _ rfl) (ty := .long) (by decide) rfl rfl (hb hby d6_235) ?_
        intro T100 h100 X100 e100 W100
        have F_a1_length := F_a1_length.other W100 (Or.inr (slot_ne (Or.inr (wd 30 _ rfl)) (Or.inl (wd 39 _ rfl)) (by decide) (t := .int) (t' := .long) (by decide) (by decide)))
        have F_a1_turns := F_a1_turns.same W100
        have F_a1_alike := F_a1_alike.other W100 (Or.inr (slot_ne (Or.inl (wd 32 _ rfl)) (Or.inl (wd 39 _ rfl)) (by decide) (t := .long) (t' := .long) (by decide) (by decide)))
        have F_a1_idle := F_a1_idle.other W100 (Or.inr (slot_ne (Or.inl (wd 64 _ rfl)) (Or.inl (wd 39 _ rfl)) (by decide) (t := .int) (t' := .long) (by decide) (by decide)))
        have F_a1_chains := F_a1_chains.other W100 (Or.inr (slot_ne (Or.inr (wd 28 _ rfl)) (Or.inl (wd 39 _ rfl)) (by decide) (t := (.object own_cD)) (t' := .long) (by decide) (by decide)))
        have F_dq_head := F_dq_head.other W100 (Or.inl ne_dq_a1)
        have F_dq_tail := F_dq_tail.other W100 (Or.inl ne_dq_a1)
        have F_dq_elements := F_dq_elements.other W100 (Or.inl ne_dq_a1)
        have F_x0_from := F_x0_from.other W100 (Or.inl ne_x0_a1)
        have F_x0_resume := F_x0_resume.other W100 (Or.inl ne_x0_a1)
        have F_x0_size := F_x0_size.other W100 (Or.inl ne_x0_a1)
        have F_x0_fromStep := F_x0_fromStep.other W100 (Or.inl ne_x0_a1)
        have F_x0_resumeStep := F_x0_resumeStep.other W100 (Or.inl ne_x0_a1)
        have E_dq := E_dq.wr W100
        have V_ar := V_ar.other W100 ne_ar_a1
        have E_x0 := E_x0.wr W100
        have E_a1 := E_a1.wr W100
        have E_b85_0 := E_b85_0.wr W100
        have F_b85_0_size := F_b85_0_size.other W100 (Or.inl (Ne.symm ne_a1_b85_0))
        have F_b85_0_resumeStep := F_b85_0_resumeStep.other W100 (Or.inl (Ne.symm ne_a1_b85_0))
        have F_b85_0_from := F_b85_0_from.other W100 (Or.inl (Ne.symm ne_a1_b85_0))
        have F_b85_0_resume := F_b85_0_resume.other W100 (Or.inl (Ne.symm ne_a1_b85_0))
        have F_b85_0_fromStep := F_b85_0_fromStep.other W100 (Or.inl (Ne.symm ne_a1_b85_0))
        have Z0 := Nat.le_trans Z0 (Keep.of_wr W100).1
        have NN := Fr.snoc X100 NN g_a1
        refine cs_aloadN cG X100 hx (hb hby d6_238) rfl rfl ?_
        refine cs_get cG X100 hx hZ hown (wd 63 _ rfl) e100 F_a1_idle (hb hby d6_239) ?_
        intro T101 X101 e101
        refine cs_aloadN cG X101 hx (hb hby d6_242) rfl rfl ?_
        refine cs_get cG X101 hx hZ hown (wd 29 _ rfl) e101 F_a1_length (hb hby d6_243) ?_
        intro T102 X102 e102
        have hs246_0 : i12 = nL := own_at_6_1_hs246_0_ftt q2 nL ni fa0 ra0 sa0 ga0 ka0 j4 i12 j73 j76 j77 j78 hj4 hi12 hj73 hj76 hj77 hj78 hN hhhnz26_25_194 hhhhnz2_31_25_194 hhnz2_230 hnz132 hhnz16_162 hc100_3 hc151_10 hs100_0 hf194_11
        refine cs_icmpNo cG X102 hx (hb hby d6_246) (teq hs246_0).2 ?_
        refine cs_aloadN cG X102 hx (hb hby d6_249) rfl rfl ?_
        refine cs_get cG X102 hx hZ hown (wd 27 _ rfl) e102 F_a1_chains (hb hby d6_250) ?_
        intro T103 X103 e103
        refine cs_V cG X103 hx hZ hown (wd 127 _ rfl) (wd 128 _ rfl) (wd 130 _ rfl) (wd 129 _ rfl) (wd 12 _ rfl) (wd 131 _ rfl) (by decide) (rm21_0_2 l Z a0 hw [] dq ar k_ar x0 b85_0 h100 n0 Z0 F_dq_tail F_dq_head F_dq_elements V_ar) (by decide) (by decide) (by decide) (by decide) e103 E_dq (by rw [hml]; rfl) (argsL := []) (S := []) (lenOf pd_6 rfl) rfl (W := 0) (Nat.le_of_eq rfl) (hb hby d6_253) rfl ?_
        intro v104 T104 L104 X104 hQ104
        obtain ⟨rfl, N104q, e104⟩ := hQ104
        have NN := Fr.app NN N104q
        show own_Go _ _ _ _ T104 (mkF m 256 #[vr a1, vj q2, .second, vi j4, vi (1 : Int32), vi j90, vj j73, .second] [(.int (2 : Int32))])
        refine cs_iconst cG X104 hx (hb hby d6_256) (z := (1 : Int32)) rfl ?_
        refine cs_icmpYes cG X104 hx (pc' := 295) (hb hby d6_257) (feq (by decide : ¬ ((2 : Int32) = (1 : Int32)))).2 (by decide) (by decide) ?_
        show own_Go _ _ _ _ T104 (mkF m 295 #[vr a1, vj q2, .second, vi j4, vi (1 : Int32), vi j90, vj j73, .second] [])
        obtain ⟨fs, hr, hrun, hended, hW, hsame⟩ := X104.leave (v := none) (fun _ => rfl)
        refine ⟨_, _, ?_, hrun, hended, _, _, rfl, ?_, ⟨_, rfl⟩, hW, hsame.mono (by decide) (by decide)⟩
        · exact X104.returnOut hx Bd.returns (hb hby d6_295) hr
        · show Q6_1 Z a1 q2 nL nt na ni dq ar fa0 ra0 sa0 ga0 ka0 k_ar x0 h0 n0 _ T104.heap _
          rw [e104]
          have hlf_0 : own_tk1 nL q2 nt na ni fa0 ra0 sa0 ga0 ka0 = ((j99, na, i12, 2, (j76, j77, j86, j87, j88), (j4, (q2 + nL.toInt64))) : own_A) := own_at_6_1_hlf_0_ftt q2 nL nt na ni fa0 ra0 sa0 ga0 ka0 j4 i12 j73 j76 j77 j78 j86 j87 j88 j90 j95 j99 hj4 hi12 hj73 hj76 hj77 hj78 hj86 hj87 hj88 hj90 hj95 hj99 hN hhhnz26_25_194 hhhhnz2_31_25_194 hhnz2_230 hnz132 hhnz16_162 hc100_3 hc151_10 hs100_0 hf194_11 hs246_0
          exact ⟨rfl, NN, Z0, (by rw [hlf_0]; exact own_mk2 E_a1 g_a1 F_a1_length F_a1_turns F_a1_alike F_a1_idle F_a1_chains E_dq g_dq ne_dq_a1 F_dq_head F_dq_tail F_dq_elements O_ar V_ar g_ar ne_ar_a1 ne_dq_ar E_x0 g_x0 F_x0_from F_x0_resume F_x0_size F_x0_fromStep F_x0_resumeStep ne_x0_a1 ne_dq_x0 ne_ar_x0 E_b85_0 g_b85_0 F_b85_0_from F_b85_0_resume F_b85_0_size F_b85_0_fromStep F_b85_0_resumeStep (Ne.symm ne_a1_b85_0) ne_dq_b85_0 ne_ar_b85_0 ne_x0_b85_0)⟩
      · as_aux_lemma =>
        refine cs_P cG X84 hx hZ hown (wd 69 _ rfl) (wd 70 _ rfl) (wd 71 _ rfl) (wd 36 _ rfl) rfl (wd 3 _ rfl) (wd 72 _ rfl) (by decide) (rm11_e_0_1 l Z a0 hw [] a1 j4 (q2 + nL.toInt64) dq ar k_ar x0 nL j78 j76 ga0 j77 ka0 T75.heap n0 Z0 F_a1_chains F_dq_elements F_dq_tail O_ar V_ar E_dq E_x0 F_a1_length F_x0_size F_x0_from F_x0_fromStep F_x0_resume F_x0_resumeStep g_x0 hhhnz26_25_194 hhhhnz2_31_25_194 (Ne.symm ne_x0_a1) ne_dq_x0 ne_ar_x0 hf194_11) (by decide) (by decide) (by decide) (by decide) e84 E_a1 (by rw [hml]; rfl) (argsL := [(.int j4), (.long (q2 + nL.toInt64))]) (S := []) (lenOf pd_8 rfl) rfl (W := 0) (Nat.le_of_eq rfl) (hb hby d6_194) rfl ?_
        intro v105 T105 L105 X105 hQ105
        obtain ⟨rfl, N105q, K105, Q105_0, Q105_1, Q105_2, Q105_3, Q105_4, Q105_5⟩ := hQ105
        have F_a1_length := F_a1_length.keep K105 (ninS (Ne.symm ne_x0_a1) nin0)
        have F_a1_turns := F_a1_turns.keep K105 (ninS (Ne.symm ne_x0_a1) nin0)
        have F_a1_alike := F_a1_alike.keep K105 (ninS (Ne.symm ne_x0_a1) nin0)
        have F_a1_idle := F_a1_idle.keep K105 (ninS (Ne.symm ne_x0_a1) nin0)
        have F_a1_chains := F_a1_chains.keep K105 (ninS (Ne.symm ne_x0_a1) nin0)
        have F_dq_head := F_dq_head.keep K105 (ninS ne_dq_x0 nin0)
        have F_dq_tail := F_dq_tail.keep K105 (ninS ne_dq_x0 nin0)
        have F_dq_elements := F_dq_elements.keep K105 (ninS ne_dq_x0 nin0)
        have E_dq := E_dq.keep K105
        have V_ar := V_ar.keep K105 (ninS ne_ar_x0 nin0)
        have E_a1 := E_a1.keep K105
        have E_x0 := Q105_0
        have F_x0_size := Q105_1
        have F_x0_from := Q105_2
        have F_x0_fromStep := Q105_3
        have F_x0_resume := Q105_4
        have F_x0_resumeStep := Q105_5
        obtain ⟨j106, hj106⟩ : ∃ z : Int64, z = (u_20_a1_size j4 (q2 + nL.toInt64) nL j78 j76 ga0 j77 ka0) := ⟨_, rfl⟩
        rw [← hj106] at F_x0_size
        obtain ⟨j107, hj107⟩ : ∃ z : Int32, z = (u_20_a1_fromStep j4 (q2 + nL.toInt64) nL j78 j76 ga0 j77 ka0) := ⟨_, rfl⟩
        rw [← hj107] at F_x0_fromStep
        obtain ⟨j108, hj108⟩ : ∃ z : Int64, z = (u_20_a1_resumeStep j4 (q2 + nL.toInt64) nL j78 j76 ga0 j77 ka0) := ⟨_, rfl⟩
        rw [← hj108] at F_x0_resumeStep
        have Z0 := Nat.le_trans Z0 K105.1
        have NN := Fr.app NN N105q
        show own_Go _ _ _ _ T105 (mkF m 197 #[vr a1, vj q2, .second, vi j4, vi (1 : Int32), vr x0, vj j73, .second] [])
        refine cs_aloadN cG X105 hx (hb hby d6_197) rfl rfl ?_
        refine cs_P cG X105 hx hZ hown (wd 59 _ rfl) (wd 60 _ rfl) (wd 61 _ rfl) (wd 36 _ rfl) rfl (wd 3 _ rfl) (wd 62 _ rfl) (by decide) (rm9_b_0_1 l Z a0 hw [] a1 nL i12 dq ar k_ar x0 j76 T105.heap n0 Z0 F_a1_length F_a1_idle F_a1_chains F_dq_elements F_dq_head V_ar E_dq E_x0 F_x0_from) (by decide) (by decide) (by decide) (by decide) rfl E_a1 (by rw [hml]; rfl) (argsL := []) (S := []) (lenOf pd_6 rfl) rfl (W := 0) (Nat.le_of_eq rfl) (hb hby d6_198) rfl ?_
        intro v109 T109 L109 X109 hQ109
        obtain ⟨rfl, N109q, e109⟩ := hQ109
        have NN := Fr.app NN N109q
        show own_Go _ _ _ _ T109 (mkF m 201 #[vr a1, vj q2, .second, vi j4, vi (1 : Int32), vr x0, vj j73, .second] [(.int (r_9_b_0_1 nL i12 j76))])
        refine cs_istore cG X109 hx (hb hby d6_201) (l' := #[vr a1, vj q2, .second, vi j4, vi (1 : Int32), vi (r_9_b_0_1 nL i12 j76), vj j73, .second]) rfl ?_
        show own_Go _ _ _ _ T109 (mkF m 203 #[vr a1, vj q2, .second, vi j4, vi (1 : Int32), vi (r_9_b_0_1 nL i12 j76), vj j73, .second] [])
        obtain ⟨j110, hj110⟩ : ∃ z : Int32, z = (r_9_b_0_1 nL i12 j76) := ⟨_, rfl⟩
        rw [← hj110]
        refine cs_aloadN cG X109 hx (hb hby d6_203) rfl rfl ?_
        refine cs_dup cG X109 hx (hb hby d6_204) rfl ?_
        refine cs_get cG X109 hx hZ hown (wd 38 _ rfl) e109 F_a1_turns (hb hby d6_205) ?_
        intro T111 X111 e111
        refine cs_iload cG X111 hx (hb hby d6_208) rfl ?_
        refine cs_iloadN cG X111 hx (hb hby d6_210) rfl ?_
        show own_Go _ _ _ _ T111 (mkF m 211 #[vr a1, vj q2, .second, vi j4, vi (1 : Int32), vi j110, vj j73, .second] [(.int j4), (.int j110), (.long nt), (.ref a1)])
        obtain ⟨T115, L115, j115, ⟨X115, e115, NN, hj115⟩, st115⟩ : own_Tj p.tables e below (fun T' L' j => Stand p l e ({ frames := 3, cells := 1, slots := 5, locals := 51 } : Room) s m #[(.ref a1), (.long q2)] below meth c T' L' 0 0 ∧ T'.heap = T105.heap ∧ Fr n0 L' ∧ j = (if j110 = j4 then nL.toInt64 else (r_18 (j110 - j4) nL).toInt64)) (fun j => (mkF m 234 #[vr a1, vj q2, .second, vi j4, vi (1 : Int32), vi j110, vj j73, .second] [(.long j), (.long nt), (.ref a1)])) T111 (mkF m 211 #[vr a1, vj q2, .second, vi j4, vi (1 : Int32), vi j110, vj j73, .second] [(.int j4), (.int j110), (.long nt), (.ref a1)]) := by
          by_cases hc211_13 : j110 = j4
          · skip
            refine cs_icmpNo cT X111 hx (hb hby d6_211) (teq hc211_13).2 ?_
            refine cs_aloadN cT X111 hx (hb hby d6_214) rfl rfl ?_
            refine cs_get cT X111 hx hZ hown (wd 29 _ rfl) e111 F_a1_length (hb hby d6_215) ?_
            intro T116 X116 e116
            refine cs_i2l cT X116 hx (hb hby d6_218) rfl ?_
            refine cs_goto cT X116 hx (pc' := 234) (hb hby d6_219) (by decide) (by decide) ?_
            exact ⟨T116, _, nL.toInt64, ⟨X116, e116, NN, (if_pos hc211_13).symm⟩, fun t k => k⟩
          · skip
            refine cs_icmpYes cT X111 hx (pc' := 222) (hb hby d6_211) (feq hc211_13).2 (by decide) (by decide) ?_
            refine cs_iload cT X111 hx (hb hby d6_222) rfl ?_
            refine cs_iloadN cT X111 hx (hb hby d6_224) rfl ?_
            refine cs_isub cT X111 hx (hb hby d6_225) rfl ?_
            refine cs_aloadN cT X111 hx (hb hby d6_226) rfl rfl ?_
            refine cs_get cT X111 hx hZ hown (wd 29 _ rfl) e111 F_a1_length (hb hby d6_227) ?_
            intro T117 X117 e117
            refine cs_S cT X117 hx hZ hown (wd 108 _ rfl) (wd 109 _ rfl) (wd 67 _ rfl) (wd 110 _ rfl) (by decide) (rm18 l Z a0 hw [] (j110 - j4) nL T105.heap n0 Z0 hhhhnz2_31_25_194) (by decide) (by decide) (by decide) (by decide) e117 (by rw [hml]; rfl) (argsL := [(.int (j110 - j4)), (.int nL)]) (S := [(.long nt), (.ref a1)]) (lenOf pd_10 rfl) rfl (W := 3) (Nat.le_of_eq rfl) (hb hby d6_230) rfl ?_
            intro v118 T118 L118 X118 hQ118
            obtain ⟨rfl, N118q, e118⟩ := hQ118
            have NN := Fr.app NN N118q
            show own_Tj p.tables e below _ _ T118 (mkF m 233 #[vr a1, vj q2, .second, vi j4, vi (1 : Int32), vi j110, vj j73, .second] [(.int (r_18 (j110 - j4) nL)), (.long nt), (.ref a1)])
            refine cs_i2l cT X118 hx (hb hby d6_233) rfl ?_
            exact ⟨T118, _, (r_18 (j110 - j4) nL).toInt64, ⟨X118, e118, NN, (if_neg hc211_13).symm⟩, fun t k => k⟩
        refine own_go st115 ?_
        refine cs_ladd cG X115 hx (hb hby d6_234) rfl ?_
        show own_Go _ _ _ _ T115 (mkF m 235 #[vr a1, vj q2, .second, vi j4, vi (1 : Int32), vi j110, vj j73, .second] [(.long (nt + j115)), (.ref a1)])
        obtain ⟨j119, hj119⟩ : ∃ z : Int64, z = (nt + j115) := ⟨_, rfl⟩
        rw [← hj119]
        refine cs_put cG X115 hx hZ hown (wd 38 _ rfl) e115 F_a1_turns E_a1 (Or.inl (wd 39 _ rfl)) (wd 2 _ rfl) (ty := .long) (by decide) rfl rfl (hb hby d6_235) ?_
        intro T120 h120 X120 e120 W120
        have F_a1_length := F_a1_length.other W120 (Or.inr (slot_ne (Or.inr (wd 30 _ rfl)) (Or.inl (wd 39 _ rfl)) (by decide) (t := .int) (t' := .long) (by decide) (by decide)))
        have F_a1_turns := F_a1_turns.same W120
        have F_a1_alike := F_a1_alike.other W120 (Or.inr (slot_ne (Or.inl (wd 32 _ rfl)) (Or.inl (wd 39 _ rfl)) (by decide) (t := .long) (t' := .long) (by decide) (by decide)))
        have F_a1_idle := F_a1_idle.other W120 (Or.inr (slot_ne (Or.inl (wd 64 _ rfl)) (Or.inl (wd 39 _ rfl)) (by decide) (t := .int) (t' := .long) (by decide) (by decide)))
        have F_a1_chains := F_a1_chains.other W120 (Or.inr (slot_ne (Or.inr (wd 28 _ rfl)) (Or.inl (wd 39 _ rfl)) (by decide) (t := (.object own_cD)) (t' := .long) (by decide) (by decide)))
        have F_dq_head := F_dq_head.other W120 (Or.inl ne_dq_a1)
        have F_dq_tail := F_dq_tail.other W120 (Or.inl ne_dq_a1)
        have F_dq_elements := F_dq_elements.other W120 (Or.inl ne_dq_a1)
        have F_x0_from := F_x0_from.other W120 (Or.inl ne_x0_a1)
        have F_x0_resume := F_x0_resume.other W120 (Or.inl ne_x0_a1)
        have F_x0_size := F_x0_size.other W120 (Or.inl ne_x0_a1)
        have F_x0_fromStep := F_x0_fromStep.other W120 (Or.inl ne_x0_a1)
        have F_x0_resumeStep := F_x0_resumeStep.other W120 (Or.inl ne_x0_a1)
        have E_dq := E_dq.wr W120
        have V_ar := V_ar.other W120 ne_ar_a1
        have E_x0 := E_x0.wr W120
        have E_a1 := E_a1.wr W120
        have Z0 := Nat.le_trans Z0 (Keep.of_wr W120).1
        have NN := Fr.snoc X120 NN g_a1
        refine cs_aloadN cG X120 hx (hb hby d6_238) rfl rfl ?_
        refine cs_get cG X120 hx hZ hown (wd 63 _ rfl) e120 F_a1_idle (hb hby d6_239) ?_
        intro T121 X121 e121
        refine cs_aloadN cG X121 hx (hb hby d6_242) rfl rfl ?_
        refine cs_get cG X121 hx hZ hown (wd 29 _ rfl) e121 F_a1_length (hb hby d6_243) ?_
        intro T122 X122 e122
        have hs246_0 : i12 = nL := own_at_6_1_hs246_0_ftf q2 nL ni fa0 ra0 sa0 ga0 ka0 j4 i12 j73 j76 j77 j78 hj4 hi12 hj73 hj76 hj77 hj78 hN hhhnz26_25_194 hhhhnz2_31_25_194 hhnz2_230 hnz132 hhnz16_162 hc100_3 hc151_10 hs100_0 hf194_11
        refine cs_icmpNo cG X122 hx (hb hby d6_246) (teq hs246_0).2 ?_
        refine cs_aloadN cG X122 hx (hb hby d6_249) rfl rfl ?_
        refine cs_get cG X122 hx hZ hown (wd 27 _ rfl) e122 F_a1_chains (hb hby d6_250) ?_
        intro T123 X123 e123
        refine cs_V cG X123 hx hZ hown (wd 127 _ rfl) (wd 128 _ rfl) (wd 130 _ rfl) (wd 129 _ rfl) (wd 12 _ rfl) (wd 131 _ rfl) (by decide) (rm21_0_1 l Z a0 hw [] dq ar k_ar x0 h120 n0 Z0 F_dq_tail F_dq_head F_dq_elements V_ar) (by decide) (by decide) (by decide) (by decide) e123 E_dq (by rw [hml]; rfl) (argsL := []) (S := []) (lenOf pd_6 rfl) rfl (W := 0) (Nat.le_of_eq rfl) (hb hby d6_253) rfl ?_
        intro v124 T124 L124 X124 hQ124
        obtain ⟨rfl, N124q, e124⟩ := hQ124
        have NN := Fr.app NN N124q
        show own_Go _ _ _ _ T124 (mkF m 256 #[vr a1, vj q2, .second, vi j4, vi (1 : Int32), vi j110, vj j73, .second] [(.int (1 : Int32))])
        refine cs_iconst cG X124 hx (hb hby d6_256) (z := (1 : Int32)) rfl ?_
        refine cs_icmpNo cG X124 hx (hb hby d6_257) (teq (rfl : (1 : Int32) = (1 : Int32))).2 ?_
        refine cs_aloadN cG X124 hx (hb hby d6_260) rfl rfl ?_
        refine cs_get cG X124 hx hZ hown (wd 27 _ rfl) e124 F_a1_chains (hb hby d6_261) ?_
        intro T125 X125 e125
        refine cs_V cG X125 hx hZ hown (wd 111 _ rfl) (wd 112 _ rfl) (wd 114 _ rfl) (wd 113 _ rfl) (wd 12 _ rfl) (wd 115 _ rfl) (by decide) (rm19_0_1 l Z a0 hw [] dq ar k_ar x0 h120 n0 Z0 F_dq_elements F_dq_head V_ar) (by decide) (by decide) (by decide) (by decide) e125 E_dq (by rw [hml]; rfl) (argsL := []) (S := []) (lenOf pd_9 rfl) rfl (W := 0) (Nat.le_of_eq rfl) (hb hby d6_264) rfl ?_
        intro v126 T126 L126 X126 hQ126
        obtain ⟨rfl, N126q, e126⟩ := hQ126
        have NN := Fr.app NN N126q
        show own_Go _ _ _ _ T126 (mkF m 267 #[vr a1, vj q2, .second, vi j4, vi (1 : Int32), vi j110, vj j73, .second] [(.ref x0)])
        refine cs_cast cG X126 hx hZ hown (wd 84 _ rfl) e126 (Ins.self E_x0) (hb hby d6_267) ?_
        intro T127 X127 e127
        refine cs_getR cG X127 hx hZ hown (wd 135 _ rfl) e127 F_x0_size (hb hby d6_270) ?_
        refine cs_lconst cG X127 hx (hb hby d6_273) (z := (1 : Int64)) rfl ?_
        refine cs_lcmp cG X127 hx (hb hby d6_274) ?_
        have hs275_0 : ¬ (j106 = (1 : Int64)) := own_at_6_1_hs275_0_ftf q2 nL ni fa0 ra0 sa0 ga0 ka0 j4 i12 j73 j76 j77 j78 j106 hj4 hi12 hj73 hj76 hj77 hj78 hj106 hN hhhnz26_25_194 hhhhnz2_31_25_194 hhnz2_230 hnz132 hhnz16_162 hc100_3 hc151_10 hs100_0 hf194_11 hs246_0
        refine cs_ifYes cG X127 hx (pc' := 295) (hb hby d6_275) ((if0 _ _).trans (feq (fun q => hs275_0 ((lw_eq j106 (1 : Int64)).mp q))).2) (by decide) (by decide) ?_
        show own_Go _ _ _ _ T127 (mkF m 295 #[vr a1, vj q2, .second, vi j4, vi (1 : Int32), vi j110, vj j73, .second] [])
        obtain ⟨fs, hr, hrun, hended, hW, hsame⟩ := X127.leave (v := none) (fun _ => rfl)
        refine ⟨_, _, ?_, hrun, hended, _, _, rfl, ?_, ⟨_, rfl⟩, hW, hsame.mono (by decide) (by decide)⟩
        · exact X127.returnOut hx Bd.returns (hb hby d6_295) hr
        · show Q6_1 Z a1 q2 nL nt na ni dq ar fa0 ra0 sa0 ga0 ka0 k_ar x0 h0 n0 _ T127.heap _
          rw [e127]
          have hlf_0 : own_tk1 nL q2 nt na ni fa0 ra0 sa0 ga0 ka0 = ((j119, na, i12, 1, (j76, j77, j106, j107, j108), ((0 : Int32), (0 : Int64))) : own_A) := own_at_6_1_hlf_0_ftf q2 nL nt na ni fa0 ra0 sa0 ga0 ka0 j4 i12 j73 j76 j77 j78 j106 j107 j108 j110 j115 j119 hj4 hi12 hj73 hj76 hj77 hj78 hj106 hj107 hj108 hj110 hj115 hj119 hN hhhnz26_25_194 hhhhnz2_31_25_194 hhnz2_230 hnz132 hhnz16_162 hc100_3 hc151_10 hs100_0 hf194_11 hs246_0 hs275_0
          exact ⟨rfl, NN, Z0, (by rw [hlf_0]; exact own_mk1 E_a1 g_a1 F_a1_length F_a1_turns F_a1_alike F_a1_idle F_a1_chains E_dq g_dq ne_dq_a1 F_dq_head F_dq_tail F_dq_elements O_ar V_ar g_ar ne_ar_a1 ne_dq_ar E_x0 g_x0 F_x0_from F_x0_resume F_x0_size F_x0_fromStep F_x0_resumeStep ne_x0_a1 ne_dq_x0 ne_ar_x0)⟩
    · as_aux_lemma =>
      refine cs_ifYes cG X72 hx (pc' := 168) (hb hby d6_151) ((if0 _ _).trans (flt (fun q => hc151_10 ((lw_lt j73 sa0).mp q))).2.1) (by decide) (by decide) ?_
      refine cs_aloadN cG X72 hx (hb hby d6_168) rfl rfl ?_
      refine cs_get cG X72 hx hZ hown (wd 27 _ rfl) e72 F_a1_chains (hb hby d6_169) ?_
      intro T128 X128 e128
      refine cs_V cG X128 hx hZ hown (wd 142 _ rfl) (wd 143 _ rfl) (wd 145 _ rfl) (wd 144 _ rfl) (wd 12 _ rfl) (wd 146 _ rfl) (by decide) (rm24_0_1 l Z a0 hw [] dq ar k_ar x0 T12.heap n0 Z0 F_dq_tail F_dq_elements F_dq_head O_ar V_ar ne_dq_ar g_ar E_dq g_dq) (by decide) (by decide) (by decide) (by decide) e128 E_dq (by rw [hml]; rfl) (argsL := []) (S := []) (lenOf pd_9 rfl) rfl (W := 0) (Nat.le_of_eq rfl) (hb hby d6_172) rfl ?_
      intro v129 T129 L129 X129 hQ129
      obtain ⟨rfl, N129q, K129, Q129_0, Q129_1, Q129_2, Q129_3, Q129_4⟩ := hQ129
      have F_a1_length := F_a1_length.keep K129 (ninS (Ne.symm ne_dq_a1) (ninS (Ne.symm ne_ar_a1) nin0))
      have F_a1_turns := F_a1_turns.keep K129 (ninS (Ne.symm ne_dq_a1) (ninS (Ne.symm ne_ar_a1) nin0))
      have F_a1_alike := F_a1_alike.keep K129 (ninS (Ne.symm ne_dq_a1) (ninS (Ne.symm ne_ar_a1) nin0))
      have F_a1_idle := F_a1_idle.keep K129 (ninS (Ne.symm ne_dq_a1) (ninS (Ne.symm ne_ar_a1) nin0))
      have F_a1_chains := F_a1_chains.keep K129 (ninS (Ne.symm ne_dq_a1) (ninS (Ne.symm ne_ar_a1) nin0))
      have E_a1 := E_a1.keep K129
      have E_dq := Q129_0
      have F_dq_tail := Q129_1
      have F_dq_elements := Q129_2
      have F_dq_head := Q129_3
      have V_ar := Q129_4
      have Z0 := Nat.le_trans Z0 K129.1
      have NN := Fr.app NN N129q
      show own_Go _ _ _ _ T129 (mkF m 175 #[vr a1, vj q2, .second, vi j4, vi (1 : Int32), vr x0, vj j73, .second] [(.ref x0)])
      refine cs_pop cG X129 hx (hb hby d6_175) rfl ?_
      refine cs_goto cG X129 hx (pc' := 75) (hb hby d6_176) (by decide) (by decide) ?_
      refine cs_aloadN cG X129 hx (hb hby d6_75) rfl rfl ?_
      refine cs_get cG X129 hx hZ hown (wd 27 _ rfl) rfl F_a1_chains (hb hby d6_76) ?_
      intro T130 X130 e130
      refine cs_V cG X130 hx hZ hown (wd 44 _ rfl) (wd 45 _ rfl) (wd 47 _ rfl) (wd 46 _ rfl) (wd 12 _ rfl) (wd 48 _ rfl) (by decide) (rm7_1_1 l Z a0 hw [] dq T129.heap n0 Z0 F_dq_head F_dq_tail) (by decide) (by decide) (by decide) (by decide) e130 E_dq (by rw [hml]; rfl) (argsL := []) (S := []) (lenOf pd_4 rfl) rfl (W := 0) (Nat.le_of_eq rfl) (hb hby d6_79) rfl ?_
      intro v131 T131 L131 X131 hQ131
      obtain ⟨rfl, N131q, e131⟩ := hQ131
      have NN := Fr.app NN N131q
      show own_Go _ _ _ _ T131 (mkF m 82 #[vr a1, vj q2, .second, vi j4, vi (1 : Int32), vr x0, vj j73, .second] [(.int (1 : Int32))])
      refine cs_ifYes cG X131 hx (pc' := 179) (hb hby d6_82) ((if0 _ _).trans (feq (by decide : ¬ ((1 : Int32) = (0 : Int32)))).2) (by decide) (by decide) ?_
      refine cs_iload cG X131 hx (hb hby d6_179) rfl ?_
      refine cs_ifYes cG X131 hx (pc' := 185) (hb hby d6_181) ((if0 _ _).trans (feq (by decide : ¬ ((1 : Int32) = (0 : Int32)))).2) (by decide) (by decide) ?_
      refine cs_aloadN cG X131 hx (hb hby d6_185) rfl rfl ?_
      refine cs_iloadN cG X131 hx (hb hby d6_186) rfl ?_
      refine cs_lloadN cG X131 hx (hb hby d6_187) rfl ?_
      refine cs_aloadN cG X131 hx (hb hby d6_188) rfl rfl ?_
      refine cs_get cG X131 hx hZ hown (wd 29 _ rfl) e131 F_a1_length (hb hby d6_189) ?_
      intro T132 X132 e132
      refine cs_i2l cG X132 hx (hb hby d6_192) rfl ?_
      refine cs_ladd cG X132 hx (hb hby d6_193) rfl ?_
      refine cs_P cG X132 hx hZ hown (wd 69 _ rfl) (wd 70 _ rfl) (wd 71 _ rfl) (wd 36 _ rfl) rfl (wd 3 _ rfl) (wd 72 _ rfl) (by decide) (rm11_o_1_1 l Z a0 hw [] a1 j4 (q2 + nL.toInt64) dq ar k_ar T129.heap n0 Z0 F_a1_chains F_dq_elements F_dq_tail O_ar V_ar E_dq ne_dq_ar g_ar F_dq_head g_dq (Ne.symm ne_dq_a1) (Ne.symm ne_ar_a1)) (by decide) (by decide) (by decide) (by decide) e132 E_a1 (by rw [hml]; rfl) (argsL := [(.int j4), (.long (q2 + nL.toInt64))]) (S := []) (lenOf pd_8 rfl) rfl (W := 0) (Nat.le_of_eq rfl) (hb hby d6_194) rfl ?_
      intro v133 T133 L133 X133 hQ133
      obtain ⟨b133_0, rfl, N133q, K133, Q133_0, Q133_1, Q133_2, Q133_3, Q133_4, R133_0, R133_1, R133_2, R133_3, R133_4, R133_5, R133_6, R133_7⟩ := hQ133
      have ne_a1_b133_0 : a1 ≠ b133_0 := Nat.ne_of_lt (Nat.lt_of_lt_of_le F_a1_length.lt R133_1)
      have ne_dq_b133_0 : dq ≠ b133_0 := Nat.ne_of_lt (Nat.lt_of_lt_of_le F_dq_head.lt R133_1)
      have ne_ar_b133_0 : ar ≠ b133_0 := Nat.ne_of_lt (Nat.lt_of_lt_of_le V_ar.lt R133_1)
      have F_a1_length := F_a1_length.keep K133 (ninS (Ne.symm ne_dq_a1) (ninS (Ne.symm ne_ar_a1) nin0))
      have F_a1_turns := F_a1_turns.keep K133 (ninS (Ne.symm ne_dq_a1) (ninS (Ne.symm ne_ar_a1) nin0))
      have F_a1_alike := F_a1_alike.keep K133 (ninS (Ne.symm ne_dq_a1) (ninS (Ne.symm ne_ar_a1) nin0))
      have F_a1_idle := F_a1_idle.keep K133 (ninS (Ne.symm ne_dq_a1) (ninS (Ne.symm ne_ar_a1) nin0))
      have F_a1_chains := F_a1_chains.keep K133 (ninS (Ne.symm ne_dq_a1) (ninS (Ne.symm ne_ar_a1) nin0))
      have E_a1 := E_a1.keep K133
      have E_dq := Q133_0
      have F_dq_elements := Q133_1
      have F_dq_tail := Q133_2
      have F_dq_head := Q133_3
      have V_ar := Q133_4
      have E_b133_0 := R133_2
      have F_b133_0_size := R133_3
      have F_b133_0_from := R133_5
      have F_b133_0_resume := R133_6
      have Z0 := Nat.le_trans Z0 K133.1
      have NN := Fr.app NN N133q
      show own_Go _ _ _ _ T133 (mkF m 197 #[vr a1, vj q2, .second, vi j4, vi (1 : Int32), vr x0, vj j73, .second] [])
      refine cs_aloadN cG X133 hx (hb hby d6_197) rfl rfl ?_
      refine cs_P cG X133 hx hZ hown (wd 59 _ rfl) (wd 60 _ rfl) (wd 61 _ rfl) (wd 36 _ rfl) rfl (wd 3 _ rfl) (wd 62 _ rfl) (by decide) (rm9_b_1_2 l Z a0 hw [] a1 nL i12 dq ar k_ar b133_0 j4 T133.heap n0 Z0 F_a1_length F_a1_idle F_a1_chains F_dq_elements F_dq_head V_ar E_dq E_b133_0 F_b133_0_from) (by decide) (by decide) (by decide) (by decide) rfl E_a1 (by rw [hml]; rfl) (argsL := []) (S := []) (lenOf pd_6 rfl) rfl (W := 0) (Nat.le_of_eq rfl) (hb hby d6_198) rfl ?_
      intro v134 T134 L134 X134 hQ134
      obtain ⟨rfl, N134q, e134⟩ := hQ134
      have NN := Fr.app NN N134q
      show own_Go _ _ _ _ T134 (mkF m 201 #[vr a1, vj q2, .second, vi j4, vi (1 : Int32), vr x0, vj j73, .second] [(.int (r_9_b_1_2 nL i12 j4))])
      refine cs_istore cG X134 hx (hb hby d6_201) (l' := #[vr a1, vj q2, .second, vi j4, vi (1 : Int32), vi (r_9_b_1_2 nL i12 j4), vj j73, .second]) rfl ?_
      show own_Go _ _ _ _ T134 (mkF m 203 #[vr a1, vj q2, .second, vi j4, vi (1 : Int32), vi (r_9_b_1_2 nL i12 j4), vj j73, .second] [])
      obtain ⟨j135, hj135⟩ : ∃ z : Int32, z = (r_9_b_1_2 nL i12 j4) := ⟨_, rfl⟩
      rw [← hj135]
      refine cs_aloadN cG X134 hx (hb hby d6_203) rfl rfl ?_
      refine cs_dup cG X134 hx (hb hby d6_204) rfl ?_
      refine cs_get cG X134 hx hZ hown (wd 38 _ rfl) e134 F_a1_turns (hb hby d6_205) ?_
      intro T136 X136 e136
      refine cs_iload cG X136 hx (hb hby d6_208) rfl ?_
      refine cs_iloadN cG X136 hx (hb hby d6_210) rfl ?_
      show own_Go _ _ _ _ T136 (mkF m 211 #[vr a1, vj q2, .second, vi j4, vi (1 : Int32), vi j135, vj j73, .second] [(.int j4), (.int j135), (.long nt), (.ref a1)])
      obtain ⟨T140, L140, j140, ⟨X140, e140, NN, hj140⟩, st140⟩ : own_Tj p.tables e below (fun T' L' j => Stand p l e ({ frames := 3, cells := 1, slots := 5, locals := 51 } : Room) s m #[(.ref a1), (.long q2)] below meth c T' L' 1 5 ∧ T'.heap = T133.heap ∧ Fr n0 L' ∧ j = (if j135 = j4 then nL.toInt64 else (r_18 (j135 - j4) nL).toInt64)) (fun j => (mkF m 234 #[vr a1, vj q2, .second, vi j4, vi (1 : Int32), vi j135, vj j73, .second] [(.long j), (.long nt), (.ref a1)])) T136 (mkF m 211 #[vr a1, vj q2, .second, vi j4, vi (1 : Int32), vi j135, vj j73, .second] [(.int j4), (.int j135), (.long nt), (.ref a1)]) := by
        by_cases hc211_14 : j135 = j4
        · skip
          refine cs_icmpNo cT X136 hx (hb hby d6_211) (teq hc211_14).2 ?_
          refine cs_aloadN cT X136 hx (hb hby d6_214) rfl rfl ?_
          refine cs_get cT X136 hx hZ hown (wd 29 _ rfl) e136 F_a1_length (hb hby d6_215) ?_
          intro T141 X141 e141
          refine cs_i2l cT X141 hx (hb hby d6_218) rfl ?_
          refine cs_goto cT X141 hx (pc' := 234) (hb hby d6_219) (by decide) (by decide) ?_
          exact ⟨T141, _, nL.toInt64, ⟨X141, e141, NN, (if_pos hc211_14).symm⟩, fun t k => k⟩
        · skip
          refine cs_icmpYes cT X136 hx (pc' := 222) (hb hby d6_211) (feq hc211_14).2 (by decide) (by decide) ?_
          refine cs_iload cT X136 hx (hb hby d6_222) rfl ?_
          refine cs_iloadN cT X136 hx (hb hby d6_224) rfl ?_
          refine cs_isub cT X136 hx (hb hby d6_225) rfl ?_
          refine cs_aloadN cT X136 hx (hb hby d6_226) rfl rfl ?_
          refine cs_get cT X136 hx hZ hown (wd 29 _ rfl) e136 F_a1_length (hb hby d6_227) ?_
          intro T142 X142 e142
          refine cs_S cT X142 hx hZ hown (wd 108 _ rfl) (wd 109 _ rfl) (wd 67 _ rfl) (wd 110 _ rfl) (by decide) (rm18 l Z a0 hw [] (j135 - j4) nL T133.heap n0 Z0 hhhhnz2_31_25_194) (by decide) (by decide) (by decide) (by decide) e142 (by rw [hml]; rfl) (argsL := [(.int (j135 - j4)), (.int nL)]) (S := [(.long nt), (.ref a1)]) (lenOf pd_10 rfl) rfl (W := 3) (Nat.le_of_eq rfl) (hb hby d6_230) rfl ?_
          intro v143 T143 L143 X143 hQ143
          obtain ⟨rfl, N143q, e143⟩ := hQ143
          have NN := Fr.app NN N143q
          show own_Tj p.tables e below _ _ T143 (mkF m 233 #[vr a1, vj q2, .second, vi j4, vi (1 : Int32), vi j135, vj j73, .second] [(.int (r_18 (j135 - j4) nL)), (.long nt), (.ref a1)])
          refine cs_i2l cT X143 hx (hb hby d6_233) rfl ?_
          exact ⟨T143, _, (r_18 (j135 - j4) nL).toInt64, ⟨X143, e143, NN, (if_neg hc211_14).symm⟩, fun t k => k⟩
      refine own_go st140 ?_
      refine cs_ladd cG X140 hx (hb hby d6_234) rfl ?_
      show own_Go _ _ _ _ T140 (mkF m 235 #[vr a1, vj q2, .second, vi j4, vi (1 : Int32), vi j135, vj j73, .second] [(.long (nt + j140)), (.ref a1)])
      obtain ⟨j144, hj144⟩ : ∃ z : Int64, z = (nt + j140) := ⟨_, rfl⟩
      rw [← hj144]
      refine cs_put cG X140 hx hZ hown (wd 38 _ rfl) e140 F_a1_turns E_a1 (Or.inl (wd 39 _ rfl)) (wd 2 _ rfl) (ty := .long) (by decide) rfl rfl (hb hby d6_235) ?_
      intro T145 h145 X145 e145 W145
      have F_a1_length := F_a1_length.other W145 (Or.inr (slot_ne (Or.inr (wd 30 _ rfl)) (Or.inl (wd 39 _ rfl)) (by decide) (t := .int) (t' := .long) (by decide) (by decide)))
      have F_a1_turns := F_a1_turns.same W145
      have F_a1_alike := F_a1_alike.other W145 (Or.inr (slot_ne (Or.inl (wd 32 _ rfl)) (Or.inl (wd 39 _ rfl)) (by decide) (t := .long) (t' := .long) (by decide) (by decide)))
      have F_a1_idle := F_a1_idle.other W145 (Or.inr (slot_ne (Or.inl (wd 64 _ rfl)) (Or.inl (wd 39 _ rfl)) (by decide) (t := .int) (t' := .long) (by decide) (by decide)))
      have F_a1_chains := F_a1_chains.other W145 (Or.inr (slot_ne (Or.inr (wd 28 _ rfl)) (Or.inl (wd 39 _ rfl)) (by decide) (t := (.object own_cD)) (t' := .long) (by decide) (by decide)))
      have F_dq_head := F_dq_head.other W145 (Or.inl ne_dq_a1)
      have F_dq_tail := F_dq_tail.other W145 (Or.inl ne_dq_a1)
      have F_dq_elements := F_dq_elements.other W145 (Or.inl ne_dq_a1)
      have E_dq := E_dq.wr W145
      have V_ar := V_ar.other W145 ne_ar_a1
      have E_a1 := E_a1.wr W145
      have E_b133_0 := E_b133_0.wr W145
      have F_b133_0_size := F_b133_0_size.other W145 (Or.inl (Ne.symm ne_a1_b133_0))
      have F_b133_0_resume := F_b133_0_resume.other W145 (Or.inl (Ne.symm ne_a1_b133_0))
      have Z0 := Nat.le_trans Z0 (Keep.of_wr W145).1
      have NN := Fr.snoc X145 NN g_a1
      refine cs_aloadN cG X145 hx (hb hby d6_238) rfl rfl ?_
      refine cs_get cG X145 hx hZ hown (wd 63 _ rfl) e145 F_a1_idle (hb hby d6_239) ?_
      intro T146 X146 e146
      refine cs_aloadN cG X146 hx (hb hby d6_242) rfl rfl ?_
      refine cs_get cG X146 hx hZ hown (wd 29 _ rfl) e146 F_a1_length (hb hby d6_243) ?_
      intro T147 X147 e147
      have hs246_0 : i12 = nL := own_at_6_1_hs246_0_ff q2 nL ni ra0 sa0 ka0 i12 j73 hi12 hj73 hN hhhnz26_25_194 hhhhnz2_31_25_194 hhnz2_230 hnz132 hhnz16_162 hc100_3 hc151_10
      refine cs_icmpNo cG X147 hx (hb hby d6_246) (teq hs246_0).2 ?_
      refine cs_aloadN cG X147 hx (hb hby d6_249) rfl rfl ?_
      refine cs_get cG X147 hx hZ hown (wd 27 _ rfl) e147 F_a1_chains (hb hby d6_250) ?_
      intro T148 X148 e148
      refine cs_V cG X148 hx hZ hown (wd 127 _ rfl) (wd 128 _ rfl) (wd 130 _ rfl) (wd 129 _ rfl) (wd 12 _ rfl) (wd 131 _ rfl) (by decide) (rm21_1_2 l Z a0 hw [] dq ar k_ar b133_0 h145 n0 Z0 F_dq_tail F_dq_head F_dq_elements V_ar) (by decide) (by decide) (by decide) (by decide) e148 E_dq (by rw [hml]; rfl) (argsL := []) (S := []) (lenOf pd_6 rfl) rfl (W := 0) (Nat.le_of_eq rfl) (hb hby d6_253) rfl ?_
      intro v149 T149 L149 X149 hQ149
      obtain ⟨rfl, N149q, e149⟩ := hQ149
      have NN := Fr.app NN N149q
      show own_Go _ _ _ _ T149 (mkF m 256 #[vr a1, vj q2, .second, vi j4, vi (1 : Int32), vi j135, vj j73, .second] [(.int (1 : Int32))])
      refine cs_iconst cG X149 hx (hb hby d6_256) (z := (1 : Int32)) rfl ?_
      refine cs_icmpNo cG X149 hx (hb hby d6_257) (teq (rfl : (1 : Int32) = (1 : Int32))).2 ?_
      refine cs_aloadN cG X149 hx (hb hby d6_260) rfl rfl ?_
      refine cs_get cG X149 hx hZ hown (wd 27 _ rfl) e149 F_a1_chains (hb hby d6_261) ?_
      intro T150 X150 e150
      refine cs_V cG X150 hx hZ hown (wd 111 _ rfl) (wd 112 _ rfl) (wd 114 _ rfl) (wd 113 _ rfl) (wd 12 _ rfl) (wd 115 _ rfl) (by decide) (rm19_1_2 l Z a0 hw [] dq ar k_ar b133_0 h145 n0 Z0 F_dq_elements F_dq_head V_ar) (by decide) (by decide) (by decide) (by decide) e150 E_dq (by rw [hml]; rfl) (argsL := []) (S := []) (lenOf pd_9 rfl) rfl (W := 0) (Nat.le_of_eq rfl) (hb hby d6_264) rfl ?_
      intro v151 T151 L151 X151 hQ151
      obtain ⟨rfl, N151q, e151⟩ := hQ151
      have NN := Fr.app NN N151q
      show own_Go _ _ _ _ T151 (mkF m 267 #[vr a1, vj q2, .second, vi j4, vi (1 : Int32), vi j135, vj j73, .second] [(.ref b133_0)])
      refine cs_cast cG X151 hx hZ hown (wd 84 _ rfl) e151 (Ins.self E_b133_0) (hb hby d6_267) ?_
      intro T152 X152 e152
      refine cs_getR cG X152 hx hZ hown (wd 135 _ rfl) e152 F_b133_0_size (hb hby d6_270) ?_
      refine cs_lconst cG X152 hx (hb hby d6_273) (z := (1 : Int64)) rfl ?_
      refine cs_lcmp cG X152 hx (hb hby d6_274) ?_
      refine cs_ifNo cG X152 hx (hb hby d6_275) ((if0 _ _).trans (teq ((lw_eq (1 : Int64) (1 : Int64)).mpr (rfl : (1 : Int64) = (1 : Int64)))).2) ?_
      refine cs_aloadN cG X152 hx (hb hby d6_278) rfl rfl ?_
      refine cs_aloadN cG X152 hx (hb hby d6_279) rfl rfl ?_
      refine cs_get cG X152 hx hZ hown (wd 27 _ rfl) e152 F_a1_chains (hb hby d6_280) ?_
      intro T153 X153 e153
      refine cs_V cG X153 hx hZ hown (wd 142 _ rfl) (wd 143 _ rfl) (wd 145 _ rfl) (wd 144 _ rfl) (wd 12 _ rfl) (wd 146 _ rfl) (by decide) (rm24_1_2 l Z a0 hw [] dq ar k_ar b133_0 h145 n0 Z0 F_dq_tail F_dq_elements F_dq_head O_ar V_ar ne_dq_ar g_ar E_dq g_dq) (by decide) (by decide) (by decide) (by decide) e153 E_dq (by rw [hml]; rfl) (argsL := []) (S := [(.ref a1)]) (lenOf pd_9 rfl) rfl (W := 1) (Nat.le_of_eq rfl) (hb hby d6_283) rfl ?_
      intro v154 T154 L154 X154 hQ154
      obtain ⟨rfl, N154q, K154, Q154_0, Q154_1, Q154_2, Q154_3, Q154_4⟩ := hQ154
      have F_a1_length := F_a1_length.keep K154 (ninS (Ne.symm ne_dq_a1) (ninS (Ne.symm ne_ar_a1) nin0))
      have F_a1_turns := F_a1_turns.keep K154 (ninS (Ne.symm ne_dq_a1) (ninS (Ne.symm ne_ar_a1) nin0))
      have F_a1_alike := F_a1_alike.keep K154 (ninS (Ne.symm ne_dq_a1) (ninS (Ne.symm ne_ar_a1) nin0))
      have F_a1_idle := F_a1_idle.keep K154 (ninS (Ne.symm ne_dq_a1) (ninS (Ne.symm ne_ar_a1) nin0))
      have F_a1_chains := F_a1_chains.keep K154 (ninS (Ne.symm ne_dq_a1) (ninS (Ne.symm ne_ar_a1) nin0))
      have E_a1 := E_a1.keep K154
      have E_b133_0 := E_b133_0.keep K154
      have F_b133_0_resume := F_b133_0_resume.keep K154 (ninS (Ne.symm ne_dq_b133_0) (ninS (Ne.symm ne_ar_b133_0) nin0))
      have E_dq := Q154_0
      have F_dq_tail := Q154_1
      have F_dq_head := Q154_3
      have Z0 := Nat.le_trans Z0 K154.1
      have NN := Fr.app NN N154q
      show own_Go _ _ _ _ T154 (mkF m 286 #[vr a1, vj q2, .second, vi j4, vi (1 : Int32), vi j135, vj j73, .second] [(.ref b133_0), (.ref a1)])
      refine cs_cast cG X154 hx hZ hown (wd 84 _ rfl) rfl (Ins.self E_b133_0) (hb hby d6_286) ?_
      intro T155 X155 e155
      refine cs_getR cG X155 hx hZ hown (wd 117 _ rfl) e155 F_b133_0_resume (hb hby d6_289) ?_
      show own_Go _ _ _ _ T155 (mkF m 292 #[vr a1, vj q2, .second, vi j4, vi (1 : Int32), vi j135, vj j73, .second] [(.long (q2 + nL.toInt64)), (.ref a1)])
      obtain ⟨j156, hj156⟩ : ∃ z : Int64, z = (q2 + nL.toInt64) := ⟨_, rfl⟩
      rw [← hj156]
      rw [← hj156] at F_b133_0_resume
      refine cs_put cG X155 hx hZ hown (wd 31 _ rfl) e155 F_a1_alike E_a1 (Or.inl (wd 32 _ rfl)) (wd 2 _ rfl) (ty := .long) (by decide) rfl rfl (hb hby d6_292) ?_
      intro T157 h157 X157 e157 W157
      have F_a1_length := F_a1_length.other W157 (Or.inr (slot_ne (Or.inr (wd 30 _ rfl)) (Or.inl (wd 32 _ rfl)) (by decide) (t := .int) (t' := .long) (by decide) (by decide)))
      have F_a1_turns := F_a1_turns.other W157 (Or.inr (slot_ne (Or.inl (wd 39 _ rfl)) (Or.inl (wd 32 _ rfl)) (by decide) (t := .long) (t' := .long) (by decide) (by decide)))
      have F_a1_alike := F_a1_alike.same W157
      have F_a1_idle := F_a1_idle.other W157 (Or.inr (slot_ne (Or.inl (wd 64 _ rfl)) (Or.inl (wd 32 _ rfl)) (by decide) (t := .int) (t' := .long) (by decide) (by decide)))
      have F_a1_chains := F_a1_chains.other W157 (Or.inr (slot_ne (Or.inr (wd 28 _ rfl)) (Or.inl (wd 32 _ rfl)) (by decide) (t := (.object own_cD)) (t' := .long) (by decide) (by decide)))
      have F_dq_head := F_dq_head.other W157 (Or.inl ne_dq_a1)
      have F_dq_tail := F_dq_tail.other W157 (Or.inl ne_dq_a1)
      have E_dq := E_dq.wr W157
      have E_a1 := E_a1.wr W157
      have Z0 := Nat.le_trans Z0 (Keep.of_wr W157).1
      have NN := Fr.snoc X157 NN g_a1
      show own_Go _ _ _ _ T157 (mkF m 295 #[vr a1, vj q2, .second, vi j4, vi (1 : Int32), vi j135, vj j73, .second] [])
      obtain ⟨fs, hr, hrun, hended, hW, hsame⟩ := X157.leave (v := none) (fun _ => rfl)
      refine ⟨_, _, ?_, hrun, hended, _, _, rfl, ?_, ⟨_, rfl⟩, hW, hsame.mono (by decide) (by decide)⟩
      · exact X157.returnOut hx Bd.returns (hb hby d6_295) hr
      · show Q6_1 Z a1 q2 nL nt na ni dq ar fa0 ra0 sa0 ga0 ka0 k_ar x0 h0 n0 _ T157.heap _
        rw [e157]
        have hlf_0 : own_tk1 nL q2 nt na ni fa0 ra0 sa0 ga0 ka0 = ((j144, j156, i12, 3, ((0 : Int32), (0 : Int64), (0 : Int64), (0 : Int32), (0 : Int64)), ((0 : Int32), (0 : Int64))) : own_A) := own_at_6_1_hlf_0_ff q2 nL nt na ni fa0 ra0 sa0 ga0 ka0 j4 i12 j73 j135 j140 j144 j156 hj4 hi12 hj73 hj135 hj140 hj144 hj156 hN hhhnz26_25_194 hhhhnz2_31_25_194 hhnz2_230 hnz132 hhnz16_162 hc100_3 hc151_10 hs246_0
        exact ⟨rfl, NN, Z0, (by rw [hlf_0]; exact own_mk3 E_a1 g_a1 F_a1_length F_a1_turns F_a1_alike F_a1_idle F_a1_chains E_dq ne_dq_a1 F_dq_head F_dq_tail)⟩
theorem ef_6_2 (m : MethodId) (a1 : Addr) (q2 : Int64) : entryFrame m #[(.ref a1), (.long q2)] 8 = mkF m 0 #[.val (.ref a1), .val (.long q2), .second, .unset, .unset, .unset, .unset, .unset] [] := by first | (simp [entryFrame, mkF, argsToLocals, Value.category]; done) | rfl
def Q6_2 (Z : State) (a1 : Addr) (q2 : Int64) (nL : Int32) (nt : Int64) (na : Int64) (ni : Int32) (dq : Addr) (ar : Addr) (fa0 : Int32) (ra0 : Int64) (sa0 : Int64) (ga0 : Int32) (ka0 : Int64) (fa1 : Int32) (ra1 : Int64) (k_ar : ClassId) (x0 : Addr) (x1 : Addr) (h0 : Heap) (n0 : Nat) (v : Option Value) (h : Heap) (L : List Loc) : Prop := v = none ∧ Fr n0 L ∧ n0 ≤ h.size ∧ own_Bn Z h n0 a1 nL (own_tk2 nL q2 nt na ni fa0 ra0 sa0 ga0 ka0 fa1 ra1)
theorem own_at_6_2_hlf_0_tt (q2 : Int64) (nL : Int32) (nt : Int64) (na : Int64) (ni : Int32) (fa0 : Int32) (ra0 : Int64) (sa0 : Int64) (ga0 : Int32) (ka0 : Int64) (fa1 : Int32) (ra1 : Int64) (j12 : Int32) (hj12 : j12 = (if ni < nL then (if q2 < ni.toInt64 then (0 : Int32) else (1 : Int32)) else (0 : Int32))) (hN : own_N2 q2 nL ni ra0 sa0 ka0 ra1) (hhhnz26_25_194 : ¬ (nL.toInt64 = (0 : Int64))) (hhhhnz2_31_25_194 : ¬ (nL = (0 : Int32))) (hhnz2_230 : ¬ (nL = (0 : Int32))) (hnz132 : ¬ (ka0 = (0 : Int64))) (hhnz16_162 : ¬ (nL.toInt64 = (0 : Int64))) (hc100_3 : q2 < ra0) (hc181_4 : j12 = (0 : Int32)) : own_tk2 nL q2 nt na ni fa0 ra0 sa0 ga0 ka0 fa1 ra1 = own_t4 nt := by
  subst hj12
  refine (if_pos hc100_3).trans ?_
  refine (if_pos hc181_4).trans ?_
  rfl
theorem own_at_6_2_hhc28_194_0_tf (q2 : Int64) (nL : Int32) (ni : Int32) (fa0 : Int32) (ra0 : Int64) (sa0 : Int64) (ka0 : Int64) (fa1 : Int32) (ra1 : Int64) (j4 : Int32) (j12 : Int32) (hj4 : j4 = (r_9_b_0_2 nL ni fa0)) (hj12 : j12 = (if ni < nL then (if q2 < ni.toInt64 then (0 : Int32) else (1 : Int32)) else (0 : Int32))) (hN : own_N2 q2 nL ni ra0 sa0 ka0 ra1) (hhhnz26_25_194 : ¬ (nL.toInt64 = (0 : Int64))) (hhhhnz2_31_25_194 : ¬ (nL = (0 : Int32))) (hhnz2_230 : ¬ (nL = (0 : Int32))) (hnz132 : ¬ (ka0 = (0 : Int64))) (hhnz16_162 : ¬ (nL.toInt64 = (0 : Int64))) (hc100_3 : q2 < ra0) (hc181_4 : ¬ (j12 = (0 : Int32))) : ¬ ((r_20 j4 (q2 + nL.toInt64) nL (1 : Int64) fa1 (0 : Int32) ra1 (1 : Int64)) = (0 : Int32)) := by
  rw [r_20, if_neg (by decide)]
  decide
theorem own_at_6_2_hlf_0_tft (q2 : Int64) (nL : Int32) (nt : Int64) (na : Int64) (ni : Int32) (fa0 : Int32) (ra0 : Int64) (sa0 : Int64) (ga0 : Int32) (ka0 : Int64) (fa1 : Int32) (ra1 : Int64) (j4 : Int32) (i12 : Int32) (j12 : Int32) (j31 : Int32) (j36 : Int64) (j40 : Int64) (hj4 : j4 = (r_9_b_0_2 nL ni fa0)) (hi12 : i12 = (if ni < nL then (if q2 < ni.toInt64 then ni else (r_10 (q2 + (1 : Int64)) (nL.toInt64)).toInt32) else ni)) (hj12 : j12 = (if ni < nL then (if q2 < ni.toInt64 then (0 : Int32) else (1 : Int32)) else (0 : Int32))) (hj31 : j31 = (r_9_b_0_2 nL i12 fa0)) (hj36 : j36 = (if j31 = j4 then nL.toInt64 else (r_18 (j31 - j4) nL).toInt64)) (hj40 : j40 = (nt + j36)) (hN : own_N2 q2 nL ni ra0 sa0 ka0 ra1) (hhhnz26_25_194 : ¬ (nL.toInt64 = (0 : Int64))) (hhhhnz2_31_25_194 : ¬ (nL = (0 : Int32))) (hhnz2_230 : ¬ (nL = (0 : Int32))) (hnz132 : ¬ (ka0 = (0 : Int64))) (hhnz16_162 : ¬ (nL.toInt64 = (0 : Int64))) (hc100_3 : q2 < ra0) (hc181_4 : ¬ (j12 = (0 : Int32))) (hhc28_194_0 : ¬ ((r_20 j4 (q2 + nL.toInt64) nL (1 : Int64) fa1 (0 : Int32) ra1 (1 : Int64)) = (0 : Int32))) (hc246_6 : i12 = nL) : own_tk2 nL q2 nt na ni fa0 ra0 sa0 ga0 ka0 fa1 ra1 = own_t4 j40 := by
  subst hj40; subst hj36; subst hj31; subst hj12; subst hi12; subst hj4
  refine (if_pos hc100_3).trans ?_
  refine (if_neg hc181_4).trans ?_
  rfl
theorem own_at_6_2_hlf_0_tff (q2 : Int64) (nL : Int32) (nt : Int64) (na : Int64) (ni : Int32) (fa0 : Int32) (ra0 : Int64) (sa0 : Int64) (ga0 : Int32) (ka0 : Int64) (fa1 : Int32) (ra1 : Int64) (j4 : Int32) (i12 : Int32) (j12 : Int32) (j31 : Int32) (j36 : Int64) (j40 : Int64) (hj4 : j4 = (r_9_b_0_2 nL ni fa0)) (hi12 : i12 = (if ni < nL then (if q2 < ni.toInt64 then ni else (r_10 (q2 + (1 : Int64)) (nL.toInt64)).toInt32) else ni)) (hj12 : j12 = (if ni < nL then (if q2 < ni.toInt64 then (0 : Int32) else (1 : Int32)) else (0 : Int32))) (hj31 : j31 = (r_9_b_0_2 nL i12 fa0)) (hj36 : j36 = (if j31 = j4 then nL.toInt64 else (r_18 (j31 - j4) nL).toInt64)) (hj40 : j40 = (nt + j36)) (hN : own_N2 q2 nL ni ra0 sa0 ka0 ra1) (hhhnz26_25_194 : ¬ (nL.toInt64 = (0 : Int64))) (hhhhnz2_31_25_194 : ¬ (nL = (0 : Int32))) (hhnz2_230 : ¬ (nL = (0 : Int32))) (hnz132 : ¬ (ka0 = (0 : Int64))) (hhnz16_162 : ¬ (nL.toInt64 = (0 : Int64))) (hc100_3 : q2 < ra0) (hc181_4 : ¬ (j12 = (0 : Int32))) (hhc28_194_0 : ¬ ((r_20 j4 (q2 + nL.toInt64) nL (1 : Int64) fa1 (0 : Int32) ra1 (1 : Int64)) = (0 : Int32))) (hc246_6 : ¬ (i12 = nL)) : own_tk2 nL q2 nt na ni fa0 ra0 sa0 ga0 ka0 fa1 ra1 = own_t4 j40 := by
  subst hj40; subst hj36; subst hj31; subst hj12; subst hi12; subst hj4
  refine (if_pos hc100_3).trans ?_
  refine (if_neg hc181_4).trans ?_
  rfl
theorem own_at_6_2_hs100_0_ft (q2 : Int64) (nL : Int32) (ni : Int32) (ra0 : Int64) (sa0 : Int64) (ka0 : Int64) (ra1 : Int64) (j50 : Int64) (j54 : Int64) (hj50 : j50 = (r_10 sa0 (((q2 - ra0) / ka0) + (1 : Int64)))) (hj54 : j54 = (ra0 + (j50 * ka0))) (hN : own_N2 q2 nL ni ra0 sa0 ka0 ra1) (hhhnz26_25_194 : ¬ (nL.toInt64 = (0 : Int64))) (hhhhnz2_31_25_194 : ¬ (nL = (0 : Int32))) (hhnz2_230 : ¬ (nL = (0 : Int32))) (hnz132 : ¬ (ka0 = (0 : Int64))) (hhnz16_162 : ¬ (nL.toInt64 = (0 : Int64))) (hc100_3 : ¬ (q2 < ra0)) (hc151_7 : j50 < sa0) : q2 < j54 := by
  subst hj54; subst hj50
  exact ((hN.2.2.2 hc100_3).2.1 hc151_7)
theorem own_at_6_2_hhc28_194_0_ft (q2 : Int64) (nL : Int32) (ni : Int32) (fa0 : Int32) (ra0 : Int64) (sa0 : Int64) (ka0 : Int64) (fa1 : Int32) (ra1 : Int64) (j4 : Int32) (j50 : Int64) (j54 : Int64) (hj4 : j4 = (r_9_b_0_2 nL ni fa0)) (hj50 : j50 = (r_10 sa0 (((q2 - ra0) / ka0) + (1 : Int64)))) (hj54 : j54 = (ra0 + (j50 * ka0))) (hN : own_N2 q2 nL ni ra0 sa0 ka0 ra1) (hhhnz26_25_194 : ¬ (nL.toInt64 = (0 : Int64))) (hhhhnz2_31_25_194 : ¬ (nL = (0 : Int32))) (hhnz2_230 : ¬ (nL = (0 : Int32))) (hnz132 : ¬ (ka0 = (0 : Int64))) (hhnz16_162 : ¬ (nL.toInt64 = (0 : Int64))) (hc100_3 : ¬ (q2 < ra0)) (hc151_7 : j50 < sa0) (hs100_0 : q2 < j54) : ¬ ((r_20 j4 (q2 + nL.toInt64) nL (1 : Int64) fa1 (0 : Int32) ra1 (1 : Int64)) = (0 : Int32)) := by
  rw [r_20, if_neg (by decide)]
  decide
theorem own_at_6_2_hs246_0_ft (q2 : Int64) (nL : Int32) (ni : Int32) (fa0 : Int32) (ra0 : Int64) (sa0 : Int64) (ka0 : Int64) (fa1 : Int32) (ra1 : Int64) (j4 : Int32) (i12 : Int32) (j50 : Int64) (j54 : Int64) (hj4 : j4 = (r_9_b_0_2 nL ni fa0)) (hi12 : i12 = (if ni < nL then (if q2 < ni.toInt64 then ni else (r_10 (q2 + (1 : Int64)) (nL.toInt64)).toInt32) else ni)) (hj50 : j50 = (r_10 sa0 (((q2 - ra0) / ka0) + (1 : Int64)))) (hj54 : j54 = (ra0 + (j50 * ka0))) (hN : own_N2 q2 nL ni ra0 sa0 ka0 ra1) (hhhnz26_25_194 : ¬ (nL.toInt64 = (0 : Int64))) (hhhhnz2_31_25_194 : ¬ (nL = (0 : Int32))) (hhnz2_230 : ¬ (nL = (0 : Int32))) (hnz132 : ¬ (ka0 = (0 : Int64))) (hhnz16_162 : ¬ (nL.toInt64 = (0 : Int64))) (hc100_3 : ¬ (q2 < ra0)) (hc151_7 : j50 < sa0) (hs100_0 : q2 < j54) (hhc28_194_0 : ¬ ((r_20 j4 (q2 + nL.toInt64) nL (1 : Int64) fa1 (0 : Int32) ra1 (1 : Int64)) = (0 : Int32))) : i12 = nL := by
  subst hj54; subst hj50; subst hi12; subst hj4
  exact (hN.2.2.2 hc100_3).1
theorem own_at_6_2_hlf_0_ft (q2 : Int64) (nL : Int32) (nt : Int64) (na : Int64) (ni : Int32) (fa0 : Int32) (ra0 : Int64) (sa0 : Int64) (ga0 : Int32) (ka0 : Int64) (fa1 : Int32) (ra1 : Int64) (j4 : Int32) (i12 : Int32) (j50 : Int64) (j53 : Int32) (j54 : Int64) (j67 : Int32) (j72 : Int64) (j76 : Int64) (hj4 : j4 = (r_9_b_0_2 nL ni fa0)) (hi12 : i12 = (if ni < nL then (if q2 < ni.toInt64 then ni else (r_10 (q2 + (1 : Int64)) (nL.toInt64)).toInt32) else ni)) (hj50 : j50 = (r_10 sa0 (((q2 - ra0) / ka0) + (1 : Int64)))) (hj53 : j53 = ((fa0.toInt64 + (j50 * ga0.toInt64)) - ((fa0.toInt64 + (j50 * ga0.toInt64)) / nL.toInt64) * nL.toInt64).toInt32) (hj54 : j54 = (ra0 + (j50 * ka0))) (hj67 : j67 = (r_9_b_0_2 nL i12 j53)) (hj72 : j72 = (if j67 = j4 then nL.toInt64 else (r_18 (j67 - j4) nL).toInt64)) (hj76 : j76 = (nt + j72)) (hN : own_N2 q2 nL ni ra0 sa0 ka0 ra1) (hhhnz26_25_194 : ¬ (nL.toInt64 = (0 : Int64))) (hhhhnz2_31_25_194 : ¬ (nL = (0 : Int32))) (hhnz2_230 : ¬ (nL = (0 : Int32))) (hnz132 : ¬ (ka0 = (0 : Int64))) (hhnz16_162 : ¬ (nL.toInt64 = (0 : Int64))) (hc100_3 : ¬ (q2 < ra0)) (hc151_7 : j50 < sa0) (hs100_0 : q2 < j54) (hhc28_194_0 : ¬ ((r_20 j4 (q2 + nL.toInt64) nL (1 : Int64) fa1 (0 : Int32) ra1 (1 : Int64)) = (0 : Int32))) (hs246_0 : i12 = nL) : own_tk2 nL q2 nt na ni fa0 ra0 sa0 ga0 ka0 fa1 ra1 = own_t4 j76 := by
  subst hj76; subst hj72; subst hj67; subst hj54; subst hj53; subst hj50; subst hi12; subst hj4
  refine (if_neg hc100_3).trans ?_
  refine (if_pos hc151_7).trans ?_
  rfl
theorem own_at_6_2_hhc28_194_0_fft (q2 : Int64) (nL : Int32) (ni : Int32) (fa0 : Int32) (ra0 : Int64) (sa0 : Int64) (ka0 : Int64) (fa1 : Int32) (ra1 : Int64) (j4 : Int32) (j50 : Int64) (hj4 : j4 = (r_9_b_0_2 nL ni fa0)) (hj50 : j50 = (r_10 sa0 (((q2 - ra0) / ka0) + (1 : Int64)))) (hN : own_N2 q2 nL ni ra0 sa0 ka0 ra1) (hhhnz26_25_194 : ¬ (nL.toInt64 = (0 : Int64))) (hhhhnz2_31_25_194 : ¬ (nL = (0 : Int32))) (hhnz2_230 : ¬ (nL = (0 : Int32))) (hnz132 : ¬ (ka0 = (0 : Int64))) (hhnz16_162 : ¬ (nL.toInt64 = (0 : Int64))) (hc100_3 : ¬ (q2 < ra0)) (hc151_7 : ¬ (j50 < sa0)) (hc100_9 : q2 < ra1) : ¬ ((r_20 j4 (q2 + nL.toInt64) nL (1 : Int64) fa1 (0 : Int32) ra1 (1 : Int64)) = (0 : Int32)) := by
  rw [r_20, if_neg (by decide)]
  decide
theorem own_at_6_2_hs246_0_fft (q2 : Int64) (nL : Int32) (ni : Int32) (fa0 : Int32) (ra0 : Int64) (sa0 : Int64) (ka0 : Int64) (fa1 : Int32) (ra1 : Int64) (j4 : Int32) (i12 : Int32) (j50 : Int64) (hj4 : j4 = (r_9_b_0_2 nL ni fa0)) (hi12 : i12 = (if ni < nL then (if q2 < ni.toInt64 then ni else (r_10 (q2 + (1 : Int64)) (nL.toInt64)).toInt32) else ni)) (hj50 : j50 = (r_10 sa0 (((q2 - ra0) / ka0) + (1 : Int64)))) (hN : own_N2 q2 nL ni ra0 sa0 ka0 ra1) (hhhnz26_25_194 : ¬ (nL.toInt64 = (0 : Int64))) (hhhhnz2_31_25_194 : ¬ (nL = (0 : Int32))) (hhnz2_230 : ¬ (nL = (0 : Int32))) (hnz132 : ¬ (ka0 = (0 : Int64))) (hhnz16_162 : ¬ (nL.toInt64 = (0 : Int64))) (hc100_3 : ¬ (q2 < ra0)) (hc151_7 : ¬ (j50 < sa0)) (hc100_9 : q2 < ra1) (hhc28_194_0 : ¬ ((r_20 j4 (q2 + nL.toInt64) nL (1 : Int64) fa1 (0 : Int32) ra1 (1 : Int64)) = (0 : Int32))) : i12 = nL := by
  subst hj50; subst hi12; subst hj4
  exact (hN.2.2.2 hc100_3).1
theorem own_at_6_2_hs275_0_fft (q2 : Int64) (nL : Int32) (ni : Int32) (fa0 : Int32) (ra0 : Int64) (sa0 : Int64) (ka0 : Int64) (fa1 : Int32) (ra1 : Int64) (j4 : Int32) (i12 : Int32) (j50 : Int64) (j91 : Int64) (hj4 : j4 = (r_9_b_0_2 nL ni fa0)) (hi12 : i12 = (if ni < nL then (if q2 < ni.toInt64 then ni else (r_10 (q2 + (1 : Int64)) (nL.toInt64)).toInt32) else ni)) (hj50 : j50 = (r_10 sa0 (((q2 - ra0) / ka0) + (1 : Int64)))) (hj91 : j91 = (u_20_a1_size j4 (q2 + nL.toInt64) nL (1 : Int64) fa1 (0 : Int32) ra1 (1 : Int64))) (hN : own_N2 q2 nL ni ra0 sa0 ka0 ra1) (hhhnz26_25_194 : ¬ (nL.toInt64 = (0 : Int64))) (hhhhnz2_31_25_194 : ¬ (nL = (0 : Int32))) (hhnz2_230 : ¬ (nL = (0 : Int32))) (hnz132 : ¬ (ka0 = (0 : Int64))) (hhnz16_162 : ¬ (nL.toInt64 = (0 : Int64))) (hc100_3 : ¬ (q2 < ra0)) (hc151_7 : ¬ (j50 < sa0)) (hc100_9 : q2 < ra1) (hhc28_194_0 : ¬ ((r_20 j4 (q2 + nL.toInt64) nL (1 : Int64) fa1 (0 : Int32) ra1 (1 : Int64)) = (0 : Int32))) (hs246_0 : i12 = nL) : ¬ (j91 = (1 : Int64)) := by
  subst hj91; subst hj50; subst hi12; subst hj4
  intro q
  rw [u_20_a1_size, if_neg (by decide)] at q
  exact absurd q (by decide)
theorem own_at_6_2_hlf_0_fft (q2 : Int64) (nL : Int32) (nt : Int64) (na : Int64) (ni : Int32) (fa0 : Int32) (ra0 : Int64) (sa0 : Int64) (ga0 : Int32) (ka0 : Int64) (fa1 : Int32) (ra1 : Int64) (j4 : Int32) (i12 : Int32) (j50 : Int64) (j91 : Int64) (j95 : Int32) (j100 : Int64) (j104 : Int64) (hj4 : j4 = (r_9_b_0_2 nL ni fa0)) (hi12 : i12 = (if ni < nL then (if q2 < ni.toInt64 then ni else (r_10 (q2 + (1 : Int64)) (nL.toInt64)).toInt32) else ni)) (hj50 : j50 = (r_10 sa0 (((q2 - ra0) / ka0) + (1 : Int64)))) (hj91 : j91 = (u_20_a1_size j4 (q2 + nL.toInt64) nL (1 : Int64) fa1 (0 : Int32) ra1 (1 : Int64))) (hj95 : j95 = (r_9_b_1_2 nL i12 fa1)) (hj100 : j100 = (if j95 = j4 then nL.toInt64 else (r_18 (j95 - j4) nL).toInt64)) (hj104 : j104 = (nt + j100)) (hN : own_N2 q2 nL ni ra0 sa0 ka0 ra1) (hhhnz26_25_194 : ¬ (nL.toInt64 = (0 : Int64))) (hhhhnz2_31_25_194 : ¬ (nL = (0 : Int32))) (hhnz2_230 : ¬ (nL = (0 : Int32))) (hnz132 : ¬ (ka0 = (0 : Int64))) (hhnz16_162 : ¬ (nL.toInt64 = (0 : Int64))) (hc100_3 : ¬ (q2 < ra0)) (hc151_7 : ¬ (j50 < sa0)) (hc100_9 : q2 < ra1) (hhc28_194_0 : ¬ ((r_20 j4 (q2 + nL.toInt64) nL (1 : Int64) fa1 (0 : Int32) ra1 (1 : Int64)) = (0 : Int32))) (hs246_0 : i12 = nL) (hs275_0 : ¬ (j91 = (1 : Int64))) : own_tk2 nL q2 nt na ni fa0 ra0 sa0 ga0 ka0 fa1 ra1 = own_t4 j104 := by
  subst hj104; subst hj100; subst hj95; subst hj91; subst hj50; subst hi12; subst hj4
  refine (if_neg hc100_3).trans ?_
  refine (if_neg hc151_7).trans ?_
  refine (if_pos hc100_9).trans ?_
  rfl
theorem own_at_6_2_hs151_0_fff (q2 : Int64) (nL : Int32) (ni : Int32) (ra0 : Int64) (sa0 : Int64) (ka0 : Int64) (ra1 : Int64) (j50 : Int64) (j117 : Int64) (hj50 : j50 = (r_10 sa0 (((q2 - ra0) / ka0) + (1 : Int64)))) (hj117 : j117 = (r_10 (1 : Int64) (((q2 - ra1) / (1 : Int64)) + (1 : Int64)))) (hN : own_N2 q2 nL ni ra0 sa0 ka0 ra1) (hhhnz26_25_194 : ¬ (nL.toInt64 = (0 : Int64))) (hhhhnz2_31_25_194 : ¬ (nL = (0 : Int32))) (hhnz2_230 : ¬ (nL = (0 : Int32))) (hnz132 : ¬ (ka0 = (0 : Int64))) (hhnz16_162 : ¬ (nL.toInt64 = (0 : Int64))) (hc100_3 : ¬ (q2 < ra0)) (hc151_7 : ¬ (j50 < sa0)) (hc100_9 : ¬ (q2 < ra1)) : ¬ (j117 < (1 : Int64)) := by
  subst hj117; subst hj50
  exact (hN.2.2.2 hc100_3).2.2 hc100_9
theorem own_at_6_2_hs246_0_fff (q2 : Int64) (nL : Int32) (ni : Int32) (ra0 : Int64) (sa0 : Int64) (ka0 : Int64) (ra1 : Int64) (i12 : Int32) (j50 : Int64) (j117 : Int64) (hi12 : i12 = (if ni < nL then (if q2 < ni.toInt64 then ni else (r_10 (q2 + (1 : Int64)) (nL.toInt64)).toInt32) else ni)) (hj50 : j50 = (r_10 sa0 (((q2 - ra0) / ka0) + (1 : Int64)))) (hj117 : j117 = (r_10 (1 : Int64) (((q2 - ra1) / (1 : Int64)) + (1 : Int64)))) (hN : own_N2 q2 nL ni ra0 sa0 ka0 ra1) (hhhnz26_25_194 : ¬ (nL.toInt64 = (0 : Int64))) (hhhhnz2_31_25_194 : ¬ (nL = (0 : Int32))) (hhnz2_230 : ¬ (nL = (0 : Int32))) (hnz132 : ¬ (ka0 = (0 : Int64))) (hhnz16_162 : ¬ (nL.toInt64 = (0 : Int64))) (hc100_3 : ¬ (q2 < ra0)) (hc151_7 : ¬ (j50 < sa0)) (hc100_9 : ¬ (q2 < ra1)) (hs151_0 : ¬ (j117 < (1 : Int64))) : i12 = nL := by
  subst hj117; subst hj50; subst hi12
  exact (hN.2.2.2 hc100_3).1
theorem own_at_6_2_hlf_0_fff (q2 : Int64) (nL : Int32) (nt : Int64) (na : Int64) (ni : Int32) (fa0 : Int32) (ra0 : Int64) (sa0 : Int64) (ga0 : Int32) (ka0 : Int64) (fa1 : Int32) (ra1 : Int64) (j4 : Int32) (i12 : Int32) (j50 : Int64) (j117 : Int64) (j125 : Int32) (j130 : Int64) (j134 : Int64) (hj4 : j4 = (r_9_b_0_2 nL ni fa0)) (hi12 : i12 = (if ni < nL then (if q2 < ni.toInt64 then ni else (r_10 (q2 + (1 : Int64)) (nL.toInt64)).toInt32) else ni)) (hj50 : j50 = (r_10 sa0 (((q2 - ra0) / ka0) + (1 : Int64)))) (hj117 : j117 = (r_10 (1 : Int64) (((q2 - ra1) / (1 : Int64)) + (1 : Int64)))) (hj125 : j125 = (r_9_b_2_3 nL i12 j4)) (hj130 : j130 = (if j125 = j4 then nL.toInt64 else (r_18 (j125 - j4) nL).toInt64)) (hj134 : j134 = (nt + j130)) (hN : own_N2 q2 nL ni ra0 sa0 ka0 ra1) (hhhnz26_25_194 : ¬ (nL.toInt64 = (0 : Int64))) (hhhhnz2_31_25_194 : ¬ (nL = (0 : Int32))) (hhnz2_230 : ¬ (nL = (0 : Int32))) (hnz132 : ¬ (ka0 = (0 : Int64))) (hhnz16_162 : ¬ (nL.toInt64 = (0 : Int64))) (hc100_3 : ¬ (q2 < ra0)) (hc151_7 : ¬ (j50 < sa0)) (hc100_9 : ¬ (q2 < ra1)) (hs151_0 : ¬ (j117 < (1 : Int64))) (hs246_0 : i12 = nL) : own_tk2 nL q2 nt na ni fa0 ra0 sa0 ga0 ka0 fa1 ra1 = own_t4 j134 := by
  subst hj134; subst hj130; subst hj125; subst hj117; subst hj50; subst hi12; subst hj4
  refine (if_neg hc100_3).trans ?_
  refine (if_neg hc151_7).trans ?_
  refine (if_neg hc100_9).trans ?_
  rfl
set_option maxRecDepth 65536 in
set_option maxHeartbeats 40000000 in
theorem rm6_2 (l : Launch) (Z : State) (a0 : Array Value) (hw : ∀ d ∈ tables_1, d.before a0 Z = true) (ws : List Jvm.Cond) (a1 : Addr) (q2 : Int64) (nL : Int32) (nt : Int64) (na : Int64) (ni : Int32) (dq : Addr) (ar : Addr) (fa0 : Int32) (ra0 : Int64) (sa0 : Int64) (ga0 : Int32) (ka0 : Int64) (fa1 : Int32) (ra1 : Int64) (k_ar : ClassId) (x0 : Addr) (x1 : Addr) (h0 : Heap) (n0 : Nat) (Z0 : n0 ≤ h0.size) (F_a1_length : Fld Z h0 a1 own_cC "length" "I" (.int nL)) (F_a1_turns : Fld Z h0 a1 own_cC "turns" "J" (.long nt)) (F_a1_alike : Fld Z h0 a1 own_cC "alike" "J" (.long na)) (F_a1_idle : Fld Z h0 a1 own_cC "idle" "I" (.int ni)) (F_a1_chains : Fld Z h0 a1 own_cC "chains" "Ljava/util/ArrayDeque;" (.ref dq)) (F_dq_head : Fld Z h0 dq own_cD "head" "I" (.int (0 : Int32))) (F_dq_tail : Fld Z h0 dq own_cD "tail" "I" (.int (2 : Int32))) (F_dq_elements : Fld Z h0 dq own_cD "elements" "[Ljava/lang/Object;" (.ref ar)) (F_x0_from : Fld Z h0 x0 own_cP "from" "I" (.int fa0)) (F_x0_resume : Fld Z h0 x0 own_cP "resume" "J" (.long ra0)) (F_x0_size : Fld Z h0 x0 own_cP "size" "J" (.long sa0)) (F_x0_fromStep : Fld Z h0 x0 own_cP "fromStep" "I" (.int ga0)) (F_x0_resumeStep : Fld Z h0 x0 own_cP "resumeStep" "J" (.long ka0)) (F_x1_from : Fld Z h0 x1 own_cP "from" "I" (.int fa1)) (F_x1_resume : Fld Z h0 x1 own_cP "resume" "J" (.long ra1)) (F_x1_size : Fld Z h0 x1 own_cP "size" "J" (.long (1 : Int64))) (F_x1_fromStep : Fld Z h0 x1 own_cP "fromStep" "I" (.int (0 : Int32))) (F_x1_resumeStep : Fld Z h0 x1 own_cP "resumeStep" "J" (.long (1 : Int64))) (hN : own_N2 q2 nL ni ra0 sa0 ka0 ra1) (E_dq : Exa Z h0 dq own_cD) (O_ar : Ovr Z k_ar "java/lang/Object") (V_ar : Arv Z h0 ar k_ar (.object "java/lang/Object") (17 : Int32) [(.ref x0), (.ref x1), .null, .null, .null, .null, .null, .null, .null, .null, .null, .null, .null, .null, .null, .null, .null] .null) (E_x0 : Exa Z h0 x0 own_cP) (E_a1 : Exa Z h0 a1 own_cC) (ne_dq_a1 : dq ≠ a1) (ne_x0_a1 : x0 ≠ a1) (ne_x1_a1 : x1 ≠ a1) (ne_ar_a1 : ar ≠ a1) (g_a1 : n0 ≤ a1) (E_x1 : Exa Z h0 x1 own_cP) (g_x1 : n0 ≤ x1) (ne_dq_x1 : dq ≠ x1) (ne_ar_x1 : ar ≠ x1) (hhhnz26_25_194 : ¬ (nL.toInt64 = (0 : Int64))) (hhhhnz2_31_25_194 : ¬ (nL = (0 : Int32))) (ne_x0_x1 : x0 ≠ x1) (hhnz2_230 : ¬ (nL = (0 : Int32))) (hnz132 : ¬ (ka0 = (0 : Int64))) (g_x0 : n0 ≤ x0) (hhnz16_162 : ¬ (nL.toInt64 = (0 : Int64))) (ne_dq_x0 : dq ≠ x0) (ne_ar_x0 : ar ≠ x0) (ne_dq_ar : dq ≠ ar) (g_ar : n0 ≤ ar) (g_dq : n0 ≤ dq) :
    own_Met l (⟨own_cC, "takeApart", "(J)V"⟩ : MethodName) prog_29_method_5_code 8 none ws ({ frames := 3, cells := 1, slots := 5, locals := 51 } : Room) #[(.ref a1), (.long q2)] Z h0 (Q6_2 Z a1 q2 nL nt na ni dq ar fa0 ra0 sa0 ga0 ka0 fa1 ra1 k_ar x0 x1 h0 n0) := by
  refine own_met (plainFor_of_name pn_3) ?_
  intro p e s m below meth c s₁ Bd hx hby hml hZ hown hnm X0 e0
  have wd : ∀ (i : Nat) (d : Jvm.Cond), tables_1[i]? = some d → d.before a0 Z = true := fun i d q => hw d (List.mem_of_getElem? q)
  have NN := Fr.nil n0
  have KK : Keep h0 h0 [a1, x1, x0, ar, dq] := Keep.refl h0 _
  refine own_start (ef_6_2 m a1 q2) ?_
  refine cs_aloadN cG X0 hx (hb hby d6_0) rfl rfl ?_
  refine cs_get cG X0 hx hZ hown (wd 27 _ rfl) e0 F_a1_chains (hb hby d6_1) ?_
  intro T1 X1 e1
  refine cs_V cG X1 hx hZ hown (wd 44 _ rfl) (wd 45 _ rfl) (wd 47 _ rfl) (wd 46 _ rfl) (wd 12 _ rfl) (wd 48 _ rfl) (by decide) (rm7_0_2 l Z a0 hw [] dq h0 n0 Z0 F_dq_head F_dq_tail) (by decide) (by decide) (by decide) (by decide) e1 E_dq (by rw [hml]; rfl) (argsL := []) (S := []) (lenOf pd_4 rfl) rfl (W := 0) (Nat.le_of_eq rfl) (hb hby d6_4) rfl ?_
  intro v2 T2 L2 X2 hQ2
  obtain ⟨rfl, N2q, e2⟩ := hQ2
  have NN := Fr.app NN N2q
  show own_Go _ _ _ _ T2 (mkF m 7 #[vr a1, vj q2, .second, .unset, .unset, .unset, .unset, .unset] [(.int (0 : Int32))])
  refine cs_ifYes cG X2 hx (pc' := 27) (hb hby d6_7) ((if0 _ _).trans (teq (rfl : (0 : Int32) = (0 : Int32))).1) (by decide) (by decide) ?_
  refine cs_aloadN cG X2 hx (hb hby d6_27) rfl rfl ?_
  refine cs_P cG X2 hx hZ hown (wd 59 _ rfl) (wd 60 _ rfl) (wd 61 _ rfl) (wd 36 _ rfl) rfl (wd 3 _ rfl) (wd 62 _ rfl) (by decide) (rm9_b_0_2 l Z a0 hw [] a1 nL ni dq ar k_ar x0 x1 fa0 h0 n0 Z0 F_a1_length F_a1_idle F_a1_chains F_dq_elements F_dq_head V_ar E_dq E_x0 F_x0_from) (by decide) (by decide) (by decide) (by decide) e2 E_a1 (by rw [hml]; rfl) (argsL := []) (S := []) (lenOf pd_6 rfl) rfl (W := 0) (Nat.le_of_eq rfl) (hb hby d6_28) rfl ?_
  intro v3 T3 L3 X3 hQ3
  obtain ⟨rfl, N3q, e3⟩ := hQ3
  have NN := Fr.app NN N3q
  show own_Go _ _ _ _ T3 (mkF m 31 #[vr a1, vj q2, .second, .unset, .unset, .unset, .unset, .unset] [(.int (r_9_b_0_2 nL ni fa0))])
  refine cs_istoreN cG X3 hx (hb hby d6_31) (l' := #[vr a1, vj q2, .second, vi (r_9_b_0_2 nL ni fa0), .unset, .unset, .unset, .unset]) rfl ?_
  show own_Go _ _ _ _ T3 (mkF m 32 #[vr a1, vj q2, .second, vi (r_9_b_0_2 nL ni fa0), .unset, .unset, .unset, .unset] [])
  obtain ⟨j4, hj4⟩ : ∃ z : Int32, z = (r_9_b_0_2 nL ni fa0) := ⟨_, rfl⟩
  rw [← hj4]
  refine cs_iconst cG X3 hx (hb hby d6_32) (z := (0 : Int32)) rfl ?_
  refine cs_istore cG X3 hx (hb hby d6_33) (l' := #[vr a1, vj q2, .second, vi j4, vi (0 : Int32), .unset, .unset, .unset]) rfl ?_
  show own_Go _ _ _ _ T3 (mkF m 35 #[vr a1, vj q2, .second, vi j4, vi (0 : Int32), .unset, .unset, .unset] [])
  obtain ⟨T12, L12, i12, j12, ⟨X12, NN, Z0, F_a1_length, F_a1_turns, F_a1_alike, F_a1_idle, F_a1_chains, F_dq_head, F_dq_tail, F_dq_elements, F_x0_from, F_x0_resume, F_x0_size, F_x0_fromStep, F_x0_resumeStep, F_x1_from, F_x1_resume, F_x1_size, F_x1_fromStep, F_x1_resumeStep, E_dq, V_ar, E_x0, E_a1, E_x1, hi12, hj12⟩, st12⟩ : own_Wj p.tables e below (fun T' L' i j => Stand p l e ({ frames := 3, cells := 1, slots := 5, locals := 51 } : Room) s m #[(.ref a1), (.long q2)] below meth c T' L' 0 0 ∧ Fr n0 L' ∧ n0 ≤ T'.heap.size ∧ Fld Z T'.heap a1 own_cC "length" "I" (.int nL) ∧ Fld Z T'.heap a1 own_cC "turns" "J" (.long nt) ∧ Fld Z T'.heap a1 own_cC "alike" "J" (.long na) ∧ Fld Z T'.heap a1 own_cC "idle" "I" (.int i) ∧ Fld Z T'.heap a1 own_cC "chains" "Ljava/util/ArrayDeque;" (.ref dq) ∧ Fld Z T'.heap dq own_cD "head" "I" (.int (0 : Int32)) ∧ Fld Z T'.heap dq own_cD "tail" "I" (.int (2 : Int32)) ∧ Fld Z T'.heap dq own_cD "elements" "[Ljava/lang/Object;" (.ref ar) ∧ Fld Z T'.heap x0 own_cP "from" "I" (.int fa0) ∧ Fld Z T'.heap x0 own_cP "resume" "J" (.long ra0) ∧ Fld Z T'.heap x0 own_cP "size" "J" (.long sa0) ∧ Fld Z T'.heap x0 own_cP "fromStep" "I" (.int ga0) ∧ Fld Z T'.heap x0 own_cP "resumeStep" "J" (.long ka0) ∧ Fld Z T'.heap x1 own_cP "from" "I" (.int fa1) ∧ Fld Z T'.heap x1 own_cP "resume" "J" (.long ra1) ∧ Fld Z T'.heap x1 own_cP "size" "J" (.long (1 : Int64)) ∧ Fld Z T'.heap x1 own_cP "fromStep" "I" (.int (0 : Int32)) ∧ Fld Z T'.heap x1 own_cP "resumeStep" "J" (.long (1 : Int64)) ∧ Exa Z T'.heap dq own_cD ∧ Arv Z T'.heap ar k_ar (.object "java/lang/Object") (17 : Int32) [(.ref x0), (.ref x1), .null, .null, .null, .null, .null, .null, .null, .null, .null, .null, .null, .null, .null, .null, .null] .null ∧ Exa Z T'.heap x0 own_cP ∧ Exa Z T'.heap a1 own_cC ∧ Exa Z T'.heap x1 own_cP ∧ i = (if ni < nL then (if q2 < ni.toInt64 then ni else (r_10 (q2 + (1 : Int64)) (nL.toInt64)).toInt32) else ni) ∧ j = (if ni < nL then (if q2 < ni.toInt64 then (0 : Int32) else (1 : Int32)) else (0 : Int32))) (fun i j => (mkF m 75 #[vr a1, vj q2, .second, vi j4, vi j, .unset, .unset, .unset] [])) T3 (mkF m 35 #[vr a1, vj q2, .second, vi j4, vi (0 : Int32), .unset, .unset, .unset] []) := by
    refine cs_aloadN cW X3 hx (hb hby d6_35) rfl rfl ?_
    refine cs_get cW X3 hx hZ hown (wd 63 _ rfl) e3 F_a1_idle (hb hby d6_36) ?_
    intro T13 X13 e13
    refine cs_aloadN cW X13 hx (hb hby d6_39) rfl rfl ?_
    refine cs_get cW X13 hx hZ hown (wd 29 _ rfl) e13 F_a1_length (hb hby d6_40) ?_
    intro T14 X14 e14
    by_cases hc43_1 : ni < nL
    · as_aux_lemma =>
      refine cs_icmpNo cW X14 hx (hb hby d6_43) (tlt hc43_1).2.1 ?_
      refine cs_aloadN cW X14 hx (hb hby d6_46) rfl rfl ?_
      refine cs_get cW X14 hx hZ hown (wd 63 _ rfl) e14 F_a1_idle (hb hby d6_47) ?_
      intro T15 X15 e15
      refine cs_i2l cW X15 hx (hb hby d6_50) rfl ?_
      refine cs_lloadN cW X15 hx (hb hby d6_51) rfl ?_
      refine cs_lcmp cW X15 hx (hb hby d6_52) ?_
      by_cases hc53_2 : q2 < ni.toInt64
      · as_aux_lemma =>
        refine cs_ifYes cW X15 hx (pc' := 75) (hb hby d6_53) ((if0 _ _).trans (tlt ((lw_gt ni.toInt64 q2).mpr hc53_2)).2.2.1) (by decide) (by decide) ?_
        refine ⟨T15, _, ni, (0 : Int32), ⟨X15, NN, ?_⟩, fun t k => k⟩
        rw [e15]
        exact ⟨Z0, F_a1_length, F_a1_turns, F_a1_alike, F_a1_idle, F_a1_chains, F_dq_head, F_dq_tail, F_dq_elements, F_x0_from, F_x0_resume, F_x0_size, F_x0_fromStep, F_x0_resumeStep, F_x1_from, F_x1_resume, F_x1_size, F_x1_fromStep, F_x1_resumeStep, E_dq, V_ar, E_x0, E_a1, E_x1, (by simp only [if_pos hc43_1, if_pos hc53_2]), (by simp only [if_pos hc43_1, if_pos hc53_2])⟩
      · as_aux_lemma =>
        refine cs_ifNo cW X15 hx (hb hby d6_53) ((if0 _ _).trans (flt (fun q => hc53_2 ((lw_gt ni.toInt64 q2).mp q))).2.2.1) ?_
        refine cs_aloadN cW X15 hx (hb hby d6_56) rfl rfl ?_
        refine cs_lloadN cW X15 hx (hb hby d6_57) rfl ?_
        refine cs_lconst cW X15 hx (hb hby d6_58) (z := (1 : Int64)) rfl ?_
        refine cs_ladd cW X15 hx (hb hby d6_59) rfl ?_
        refine cs_aloadN cW X15 hx (hb hby d6_60) rfl rfl ?_
        refine cs_get cW X15 hx hZ hown (wd 29 _ rfl) e15 F_a1_length (hb hby d6_61) ?_
        intro T16 X16 e16
        refine cs_i2l cW X16 hx (hb hby d6_64) rfl ?_
        refine cs_S cW X16 hx hZ hown (wd 65 _ rfl) (wd 66 _ rfl) (wd 67 _ rfl) (wd 68 _ rfl) (by decide) (rm10 l Z a0 hw [] (q2 + (1 : Int64)) (nL.toInt64) h0 n0 Z0 ) (by decide) (by decide) (by decide) (by decide) e16 (by rw [hml]; rfl) (argsL := [(.long (q2 + (1 : Int64))), (.long nL.toInt64)]) (S := [(.ref a1)]) (lenOf pd_7 rfl) rfl (W := 1) (Nat.le_of_eq rfl) (hb hby d6_65) rfl ?_
        intro v17 T17 L17 X17 hQ17
        obtain ⟨rfl, N17q, e17⟩ := hQ17
        have NN := Fr.app NN N17q
        show own_Wj p.tables e below _ _ T17 (mkF m 68 #[vr a1, vj q2, .second, vi j4, vi (0 : Int32), .unset, .unset, .unset] [(.long (r_10 (q2 + (1 : Int64)) (nL.toInt64))), (.ref a1)])
        refine cs_l2i cW X17 hx (hb hby d6_68) rfl ?_
        show own_Wj p.tables e below _ _ T17 (mkF m 69 #[vr a1, vj q2, .second, vi j4, vi (0 : Int32), .unset, .unset, .unset] [(.int (r_10 (q2 + (1 : Int64)) (nL.toInt64)).toInt32), (.ref a1)])
        obtain ⟨j18, hj18⟩ : ∃ z : Int32, z = (r_10 (q2 + (1 : Int64)) (nL.toInt64)).toInt32 := ⟨_, rfl⟩
        rw [← hj18]
        refine cs_put cW X17 hx hZ hown (wd 63 _ rfl) e17 F_a1_idle E_a1 (Or.inl (wd 64 _ rfl)) (wd 2 _ rfl) (ty := .int) (by decide) rfl rfl (hb hby d6_69) ?_
        intro T19 h19 X19 e19 W19
        have F_a1_length := F_a1_length.other W19 (Or.inr (slot_ne (Or.inr (wd 30 _ rfl)) (Or.inl (wd 64 _ rfl)) (by decide) (t := .int) (t' := .int) (by decide) (by decide)))
        have F_a1_turns := F_a1_turns.other W19 (Or.inr (slot_ne (Or.inl (wd 39 _ rfl)) (Or.inl (wd 64 _ rfl)) (by decide) (t := .long) (t' := .int) (by decide) (by decide)))
        have F_a1_alike := F_a1_alike.other W19 (Or.inr (slot_ne (Or.inl (wd 32 _ rfl)) (Or.inl (wd 64 _ rfl)) (by decide) (t := .long) (t' := .int) (by decide) (by decide)))
        have F_a1_idle := F_a1_idle.same W19
        have F_a1_chains := F_a1_chains.other W19 (Or.inr (slot_ne (Or.inr (wd 28 _ rfl)) (Or.inl (wd 64 _ rfl)) (by decide) (t := (.object own_cD)) (t' := .int) (by decide) (by decide)))
        have F_dq_head := F_dq_head.other W19 (Or.inl ne_dq_a1)
        have F_dq_tail := F_dq_tail.other W19 (Or.inl ne_dq_a1)
        have F_dq_elements := F_dq_elements.other W19 (Or.inl ne_dq_a1)
        have F_x0_from := F_x0_from.other W19 (Or.inl ne_x0_a1)
        have F_x0_resume := F_x0_resume.other W19 (Or.inl ne_x0_a1)
        have F_x0_size := F_x0_size.other W19 (Or.inl ne_x0_a1)
        have F_x0_fromStep := F_x0_fromStep.other W19 (Or.inl ne_x0_a1)
        have F_x0_resumeStep := F_x0_resumeStep.other W19 (Or.inl ne_x0_a1)
        have F_x1_from := F_x1_from.other W19 (Or.inl ne_x1_a1)
        have F_x1_resume := F_x1_resume.other W19 (Or.inl ne_x1_a1)
        have F_x1_size := F_x1_size.other W19 (Or.inl ne_x1_a1)
        have F_x1_fromStep := F_x1_fromStep.other W19 (Or.inl ne_x1_a1)
        have F_x1_resumeStep := F_x1_resumeStep.other W19 (Or.inl ne_x1_a1)
        have E_dq := E_dq.wr W19
        have V_ar := V_ar.other W19 ne_ar_a1
        have E_x0 := E_x0.wr W19
        have E_a1 := E_a1.wr W19
        have E_x1 := E_x1.wr W19
        have Z0 := Nat.le_trans Z0 (Keep.of_wr W19).1
        have NN := Fr.snoc X19 NN g_a1
        refine cs_iconst cW X19 hx (hb hby d6_72) (z := (1 : Int32)) rfl ?_
        refine cs_istore cW X19 hx (hb hby d6_73) (l' := #[vr a1, vj q2, .second, vi j4, vi (1 : Int32), .unset, .unset, .unset]) rfl ?_
        refine ⟨T19, _, j18, (1 : Int32), ⟨X19, NN, ?_⟩, fun t k => k⟩
        rw [e19]
        exact ⟨Z0, F_a1_length, F_a1_turns, F_a1_alike, F_a1_idle, F_a1_chains, F_dq_head, F_dq_tail, F_dq_elements, F_x0_from, F_x0_resume, F_x0_size, F_x0_fromStep, F_x0_resumeStep, F_x1_from, F_x1_resume, F_x1_size, F_x1_fromStep, F_x1_resumeStep, E_dq, V_ar, E_x0, E_a1, E_x1, (by simp only [if_pos hc43_1, if_neg hc53_2, hj18]), (by simp only [if_pos hc43_1, if_neg hc53_2, hj18])⟩
    · as_aux_lemma =>
      refine cs_icmpYes cW X14 hx (pc' := 75) (hb hby d6_43) (flt hc43_1).2.1 (by decide) (by decide) ?_
      refine ⟨T14, _, ni, (0 : Int32), ⟨X14, NN, ?_⟩, fun t k => k⟩
      rw [e14]
      exact ⟨Z0, F_a1_length, F_a1_turns, F_a1_alike, F_a1_idle, F_a1_chains, F_dq_head, F_dq_tail, F_dq_elements, F_x0_from, F_x0_resume, F_x0_size, F_x0_fromStep, F_x0_resumeStep, F_x1_from, F_x1_resume, F_x1_size, F_x1_fromStep, F_x1_resumeStep, E_dq, V_ar, E_x0, E_a1, E_x1, (by simp only [if_neg hc43_1]), (by simp only [if_neg hc43_1])⟩
  refine own_go st12 ?_
  show own_Go _ _ _ _ T12 (mkF m 75 #[vr a1, vj q2, .second, vi j4, vi j12, .unset, .unset, .unset] [])
  refine cs_aloadN cG X12 hx (hb hby d6_75) rfl rfl ?_
  refine cs_get cG X12 hx hZ hown (wd 27 _ rfl) rfl F_a1_chains (hb hby d6_76) ?_
  intro T20 X20 e20
  refine cs_V cG X20 hx hZ hown (wd 44 _ rfl) (wd 45 _ rfl) (wd 47 _ rfl) (wd 46 _ rfl) (wd 12 _ rfl) (wd 48 _ rfl) (by decide) (rm7_0_2 l Z a0 hw [] dq T12.heap n0 Z0 F_dq_head F_dq_tail) (by decide) (by decide) (by decide) (by decide) e20 E_dq (by rw [hml]; rfl) (argsL := []) (S := []) (lenOf pd_4 rfl) rfl (W := 0) (Nat.le_of_eq rfl) (hb hby d6_79) rfl ?_
  intro v21 T21 L21 X21 hQ21
  obtain ⟨rfl, N21q, e21⟩ := hQ21
  have NN := Fr.app NN N21q
  show own_Go _ _ _ _ T21 (mkF m 82 #[vr a1, vj q2, .second, vi j4, vi j12, .unset, .unset, .unset] [(.int (0 : Int32))])
  refine cs_ifNo cG X21 hx (hb hby d6_82) ((if0 _ _).trans (teq (rfl : (0 : Int32) = (0 : Int32))).2) ?_
  refine cs_aloadN cG X21 hx (hb hby d6_85) rfl rfl ?_
  refine cs_get cG X21 hx hZ hown (wd 27 _ rfl) e21 F_a1_chains (hb hby d6_86) ?_
  intro T22 X22 e22
  refine cs_V cG X22 hx hZ hown (wd 111 _ rfl) (wd 112 _ rfl) (wd 114 _ rfl) (wd 113 _ rfl) (wd 12 _ rfl) (wd 115 _ rfl) (by decide) (rm19_0_2 l Z a0 hw [] dq ar k_ar x0 x1 T12.heap n0 Z0 F_dq_elements F_dq_head V_ar) (by decide) (by decide) (by decide) (by decide) e22 E_dq (by rw [hml]; rfl) (argsL := []) (S := []) (lenOf pd_9 rfl) rfl (W := 0) (Nat.le_of_eq rfl) (hb hby d6_89) rfl ?_
  intro v23 T23 L23 X23 hQ23
  obtain ⟨rfl, N23q, e23⟩ := hQ23
  have NN := Fr.app NN N23q
  show own_Go _ _ _ _ T23 (mkF m 92 #[vr a1, vj q2, .second, vi j4, vi j12, .unset, .unset, .unset] [(.ref x0)])
  refine cs_cast cG X23 hx hZ hown (wd 84 _ rfl) e23 (Ins.self E_x0) (hb hby d6_92) ?_
  intro T24 X24 e24
  refine cs_getR cG X24 hx hZ hown (wd 117 _ rfl) e24 F_x0_resume (hb hby d6_95) ?_
  refine cs_lloadN cG X24 hx (hb hby d6_98) rfl ?_
  refine cs_lcmp cG X24 hx (hb hby d6_99) ?_
  by_cases hc100_3 : q2 < ra0
  · as_aux_lemma =>
    refine cs_ifYes cG X24 hx (pc' := 179) (hb hby d6_100) ((if0 _ _).trans (tlt ((lw_gt ra0 q2).mpr hc100_3)).2.2.1) (by decide) (by decide) ?_
    refine cs_iload cG X24 hx (hb hby d6_179) rfl ?_
    by_cases hc181_4 : j12 = (0 : Int32)
    · as_aux_lemma =>
      refine cs_ifNo cG X24 hx (hb hby d6_181) ((if0 _ _).trans (teq hc181_4).2) ?_
      show own_Go _ _ _ _ T24 (mkF m 184 #[vr a1, vj q2, .second, vi j4, vi j12, .unset, .unset, .unset] [])
      obtain ⟨fs, hr, hrun, hended, hW, hsame⟩ := X24.leave (v := none) (fun _ => rfl)
      refine ⟨_, _, ?_, hrun, hended, _, _, rfl, ?_, ⟨_, rfl⟩, hW, hsame.mono (by decide) (by decide)⟩
      · exact X24.returnOut hx Bd.returns (hb hby d6_184) hr
      · show Q6_2 Z a1 q2 nL nt na ni dq ar fa0 ra0 sa0 ga0 ka0 fa1 ra1 k_ar x0 x1 h0 n0 _ T24.heap _
        rw [e24]
        have hlf_0 : own_tk2 nL q2 nt na ni fa0 ra0 sa0 ga0 ka0 fa1 ra1 = own_t4 nt := own_at_6_2_hlf_0_tt q2 nL nt na ni fa0 ra0 sa0 ga0 ka0 fa1 ra1 j12 hj12 hN hhhnz26_25_194 hhhhnz2_31_25_194 hhnz2_230 hnz132 hhnz16_162 hc100_3 hc181_4
        exact ⟨rfl, NN, Z0, (by rw [hlf_0]; exact own_mk4 E_a1 g_a1 F_a1_length F_a1_turns)⟩
    · as_aux_lemma =>
      refine cs_ifYes cG X24 hx (pc' := 185) (hb hby d6_181) ((if0 _ _).trans (feq hc181_4).2) (by decide) (by decide) ?_
      refine cs_aloadN cG X24 hx (hb hby d6_185) rfl rfl ?_
      refine cs_iloadN cG X24 hx (hb hby d6_186) rfl ?_
      refine cs_lloadN cG X24 hx (hb hby d6_187) rfl ?_
      refine cs_aloadN cG X24 hx (hb hby d6_188) rfl rfl ?_
      refine cs_get cG X24 hx hZ hown (wd 29 _ rfl) e24 F_a1_length (hb hby d6_189) ?_
      intro T25 X25 e25
      refine cs_i2l cG X25 hx (hb hby d6_192) rfl ?_
      refine cs_ladd cG X25 hx (hb hby d6_193) rfl ?_
      have hhc28_194_0 : ¬ ((r_20 j4 (q2 + nL.toInt64) nL (1 : Int64) fa1 (0 : Int32) ra1 (1 : Int64)) = (0 : Int32)) := own_at_6_2_hhc28_194_0_tf q2 nL ni fa0 ra0 sa0 ka0 fa1 ra1 j4 j12 hj4 hj12 hN hhhnz26_25_194 hhhhnz2_31_25_194 hhnz2_230 hnz132 hhnz16_162 hc100_3 hc181_4
      refine cs_P cG X25 hx hZ hown (wd 69 _ rfl) (wd 70 _ rfl) (wd 71 _ rfl) (wd 36 _ rfl) rfl (wd 3 _ rfl) (wd 72 _ rfl) (by decide) (rm11_e_0_2 l Z a0 hw [] a1 j4 (q2 + nL.toInt64) dq ar k_ar x0 x1 nL (1 : Int64) fa1 (0 : Int32) ra1 (1 : Int64) T12.heap n0 Z0 F_a1_chains F_dq_elements F_dq_tail O_ar V_ar E_dq E_x1 F_a1_length F_x1_size F_x1_from F_x1_fromStep F_x1_resume F_x1_resumeStep g_x1 hhhnz26_25_194 hhhhnz2_31_25_194 (Ne.symm ne_x1_a1) ne_dq_x1 ne_ar_x1 hhc28_194_0) (by decide) (by decide) (by decide) (by decide) e25 E_a1 (by rw [hml]; rfl) (argsL := [(.int j4), (.long (q2 + nL.toInt64))]) (S := []) (lenOf pd_8 rfl) rfl (W := 0) (Nat.le_of_eq rfl) (hb hby d6_194) rfl ?_
      intro v26 T26 L26 X26 hQ26
      obtain ⟨rfl, N26q, K26, Q26_0, Q26_1, Q26_2, Q26_3, Q26_4, Q26_5⟩ := hQ26
      have F_a1_length := F_a1_length.keep K26 (ninS (Ne.symm ne_x1_a1) nin0)
      have F_a1_turns := F_a1_turns.keep K26 (ninS (Ne.symm ne_x1_a1) nin0)
      have F_a1_idle := F_a1_idle.keep K26 (ninS (Ne.symm ne_x1_a1) nin0)
      have F_a1_chains := F_a1_chains.keep K26 (ninS (Ne.symm ne_x1_a1) nin0)
      have F_dq_head := F_dq_head.keep K26 (ninS ne_dq_x1 nin0)
      have F_dq_tail := F_dq_tail.keep K26 (ninS ne_dq_x1 nin0)
      have F_dq_elements := F_dq_elements.keep K26 (ninS ne_dq_x1 nin0)
      have F_x0_from := F_x0_from.keep K26 (ninS ne_x0_x1 nin0)
      have E_dq := E_dq.keep K26
      have V_ar := V_ar.keep K26 (ninS ne_ar_x1 nin0)
      have E_x0 := E_x0.keep K26
      have E_a1 := E_a1.keep K26
      have F_x1_size := Q26_1
      have F_x1_fromStep := Q26_3
      have F_x1_resumeStep := Q26_5
      obtain ⟨j27, hj27⟩ : ∃ z : Int64, z = (u_20_a1_size j4 (q2 + nL.toInt64) nL (1 : Int64) fa1 (0 : Int32) ra1 (1 : Int64)) := ⟨_, rfl⟩
      rw [← hj27] at F_x1_size
      obtain ⟨j28, hj28⟩ : ∃ z : Int32, z = (u_20_a1_fromStep j4 (q2 + nL.toInt64) nL (1 : Int64) fa1 (0 : Int32) ra1 (1 : Int64)) := ⟨_, rfl⟩
      rw [← hj28] at F_x1_fromStep
      obtain ⟨j29, hj29⟩ : ∃ z : Int64, z = (u_20_a1_resumeStep j4 (q2 + nL.toInt64) nL (1 : Int64) fa1 (0 : Int32) ra1 (1 : Int64)) := ⟨_, rfl⟩
      rw [← hj29] at F_x1_resumeStep
      have Z0 := Nat.le_trans Z0 K26.1
      have NN := Fr.app NN N26q
      show own_Go _ _ _ _ T26 (mkF m 197 #[vr a1, vj q2, .second, vi j4, vi j12, .unset, .unset, .unset] [])
      refine cs_aloadN cG X26 hx (hb hby d6_197) rfl rfl ?_
      refine cs_P cG X26 hx hZ hown (wd 59 _ rfl) (wd 60 _ rfl) (wd 61 _ rfl) (wd 36 _ rfl) rfl (wd 3 _ rfl) (wd 62 _ rfl) (by decide) (rm9_b_0_2 l Z a0 hw [] a1 nL i12 dq ar k_ar x0 x1 fa0 T26.heap n0 Z0 F_a1_length F_a1_idle F_a1_chains F_dq_elements F_dq_head V_ar E_dq E_x0 F_x0_from) (by decide) (by decide) (by decide) (by decide) rfl E_a1 (by rw [hml]; rfl) (argsL := []) (S := []) (lenOf pd_6 rfl) rfl (W := 0) (Nat.le_of_eq rfl) (hb hby d6_198) rfl ?_
      intro v30 T30 L30 X30 hQ30
      obtain ⟨rfl, N30q, e30⟩ := hQ30
      have NN := Fr.app NN N30q
      show own_Go _ _ _ _ T30 (mkF m 201 #[vr a1, vj q2, .second, vi j4, vi j12, .unset, .unset, .unset] [(.int (r_9_b_0_2 nL i12 fa0))])
      refine cs_istore cG X30 hx (hb hby d6_201) (l' := #[vr a1, vj q2, .second, vi j4, vi j12, vi (r_9_b_0_2 nL i12 fa0), .unset, .unset]) rfl ?_
      show own_Go _ _ _ _ T30 (mkF m 203 #[vr a1, vj q2, .second, vi j4, vi j12, vi (r_9_b_0_2 nL i12 fa0), .unset, .unset] [])
      obtain ⟨j31, hj31⟩ : ∃ z : Int32, z = (r_9_b_0_2 nL i12 fa0) := ⟨_, rfl⟩
      rw [← hj31]
      refine cs_aloadN cG X30 hx (hb hby d6_203) rfl rfl ?_
      refine cs_dup cG X30 hx (hb hby d6_204) rfl ?_
      refine cs_get cG X30 hx hZ hown (wd 38 _ rfl) e30 F_a1_turns (hb hby d6_205) ?_
      intro T32 X32 e32
      refine cs_iload cG X32 hx (hb hby d6_208) rfl ?_
      refine cs_iloadN cG X32 hx (hb hby d6_210) rfl ?_
      show own_Go _ _ _ _ T32 (mkF m 211 #[vr a1, vj q2, .second, vi j4, vi j12, vi j31, .unset, .unset] [(.int j4), (.int j31), (.long nt), (.ref a1)])
      obtain ⟨T36, L36, j36, ⟨X36, e36, NN, hj36⟩, st36⟩ : own_Tj p.tables e below (fun T' L' j => Stand p l e ({ frames := 3, cells := 1, slots := 5, locals := 51 } : Room) s m #[(.ref a1), (.long q2)] below meth c T' L' 0 0 ∧ T'.heap = T26.heap ∧ Fr n0 L' ∧ j = (if j31 = j4 then nL.toInt64 else (r_18 (j31 - j4) nL).toInt64)) (fun j => (mkF m 234 #[vr a1, vj q2, .second, vi j4, vi j12, vi j31, .unset, .unset] [(.long j), (.long nt), (.ref a1)])) T32 (mkF m 211 #[vr a1, vj q2, .second, vi j4, vi j12, vi j31, .unset, .unset] [(.int j4), (.int j31), (.long nt), (.ref a1)]) := by
        by_cases hc211_5 : j31 = j4
        · skip
          refine cs_icmpNo cT X32 hx (hb hby d6_211) (teq hc211_5).2 ?_
          refine cs_aloadN cT X32 hx (hb hby d6_214) rfl rfl ?_
          refine cs_get cT X32 hx hZ hown (wd 29 _ rfl) e32 F_a1_length (hb hby d6_215) ?_
          intro T37 X37 e37
          refine cs_i2l cT X37 hx (hb hby d6_218) rfl ?_
          refine cs_goto cT X37 hx (pc' := 234) (hb hby d6_219) (by decide) (by decide) ?_
          exact ⟨T37, _, nL.toInt64, ⟨X37, e37, NN, (if_pos hc211_5).symm⟩, fun t k => k⟩
        · skip
          refine cs_icmpYes cT X32 hx (pc' := 222) (hb hby d6_211) (feq hc211_5).2 (by decide) (by decide) ?_
          refine cs_iload cT X32 hx (hb hby d6_222) rfl ?_
          refine cs_iloadN cT X32 hx (hb hby d6_224) rfl ?_
          refine cs_isub cT X32 hx (hb hby d6_225) rfl ?_
          refine cs_aloadN cT X32 hx (hb hby d6_226) rfl rfl ?_
          refine cs_get cT X32 hx hZ hown (wd 29 _ rfl) e32 F_a1_length (hb hby d6_227) ?_
          intro T38 X38 e38
          refine cs_S cT X38 hx hZ hown (wd 108 _ rfl) (wd 109 _ rfl) (wd 67 _ rfl) (wd 110 _ rfl) (by decide) (rm18 l Z a0 hw [] (j31 - j4) nL T26.heap n0 Z0 hhhhnz2_31_25_194) (by decide) (by decide) (by decide) (by decide) e38 (by rw [hml]; rfl) (argsL := [(.int (j31 - j4)), (.int nL)]) (S := [(.long nt), (.ref a1)]) (lenOf pd_10 rfl) rfl (W := 3) (Nat.le_of_eq rfl) (hb hby d6_230) rfl ?_
          intro v39 T39 L39 X39 hQ39
          obtain ⟨rfl, N39q, e39⟩ := hQ39
          have NN := Fr.app NN N39q
          show own_Tj p.tables e below _ _ T39 (mkF m 233 #[vr a1, vj q2, .second, vi j4, vi j12, vi j31, .unset, .unset] [(.int (r_18 (j31 - j4) nL)), (.long nt), (.ref a1)])
          refine cs_i2l cT X39 hx (hb hby d6_233) rfl ?_
          exact ⟨T39, _, (r_18 (j31 - j4) nL).toInt64, ⟨X39, e39, NN, (if_neg hc211_5).symm⟩, fun t k => k⟩
      refine own_go st36 ?_
      refine cs_ladd cG X36 hx (hb hby d6_234) rfl ?_
      show own_Go _ _ _ _ T36 (mkF m 235 #[vr a1, vj q2, .second, vi j4, vi j12, vi j31, .unset, .unset] [(.long (nt + j36)), (.ref a1)])
      obtain ⟨j40, hj40⟩ : ∃ z : Int64, z = (nt + j36) := ⟨_, rfl⟩
      rw [← hj40]
      refine cs_put cG X36 hx hZ hown (wd 38 _ rfl) e36 F_a1_turns E_a1 (Or.inl (wd 39 _ rfl)) (wd 2 _ rfl) (ty := .long) (by decide) rfl rfl (hb hby d6_235) ?_
      intro T41 h41 X41 e41 W41
      have F_a1_length := F_a1_length.other W41 (Or.inr (slot_ne (Or.inr (wd 30 _ rfl)) (Or.inl (wd 39 _ rfl)) (by decide) (t := .int) (t' := .long) (by decide) (by decide)))
      have F_a1_turns := F_a1_turns.same W41
      have F_a1_idle := F_a1_idle.other W41 (Or.inr (slot_ne (Or.inl (wd 64 _ rfl)) (Or.inl (wd 39 _ rfl)) (by decide) (t := .int) (t' := .long) (by decide) (by decide)))
      have F_a1_chains := F_a1_chains.other W41 (Or.inr (slot_ne (Or.inr (wd 28 _ rfl)) (Or.inl (wd 39 _ rfl)) (by decide) (t := (.object own_cD)) (t' := .long) (by decide) (by decide)))
      have F_dq_head := F_dq_head.other W41 (Or.inl ne_dq_a1)
      have F_dq_tail := F_dq_tail.other W41 (Or.inl ne_dq_a1)
      have F_dq_elements := F_dq_elements.other W41 (Or.inl ne_dq_a1)
      have E_dq := E_dq.wr W41
      have V_ar := V_ar.other W41 ne_ar_a1
      have E_a1 := E_a1.wr W41
      have Z0 := Nat.le_trans Z0 (Keep.of_wr W41).1
      have NN := Fr.snoc X41 NN g_a1
      refine cs_aloadN cG X41 hx (hb hby d6_238) rfl rfl ?_
      refine cs_get cG X41 hx hZ hown (wd 63 _ rfl) e41 F_a1_idle (hb hby d6_239) ?_
      intro T42 X42 e42
      refine cs_aloadN cG X42 hx (hb hby d6_242) rfl rfl ?_
      refine cs_get cG X42 hx hZ hown (wd 29 _ rfl) e42 F_a1_length (hb hby d6_243) ?_
      intro T43 X43 e43
      by_cases hc246_6 : i12 = nL
      · as_aux_lemma =>
        refine cs_icmpNo cG X43 hx (hb hby d6_246) (teq hc246_6).2 ?_
        refine cs_aloadN cG X43 hx (hb hby d6_249) rfl rfl ?_
        refine cs_get cG X43 hx hZ hown (wd 27 _ rfl) e43 F_a1_chains (hb hby d6_250) ?_
        intro T44 X44 e44
        refine cs_V cG X44 hx hZ hown (wd 127 _ rfl) (wd 128 _ rfl) (wd 130 _ rfl) (wd 129 _ rfl) (wd 12 _ rfl) (wd 131 _ rfl) (by decide) (rm21_0_2 l Z a0 hw [] dq ar k_ar x0 x1 h41 n0 Z0 F_dq_tail F_dq_head F_dq_elements V_ar) (by decide) (by decide) (by decide) (by decide) e44 E_dq (by rw [hml]; rfl) (argsL := []) (S := []) (lenOf pd_6 rfl) rfl (W := 0) (Nat.le_of_eq rfl) (hb hby d6_253) rfl ?_
        intro v45 T45 L45 X45 hQ45
        obtain ⟨rfl, N45q, e45⟩ := hQ45
        have NN := Fr.app NN N45q
        show own_Go _ _ _ _ T45 (mkF m 256 #[vr a1, vj q2, .second, vi j4, vi j12, vi j31, .unset, .unset] [(.int (2 : Int32))])
        refine cs_iconst cG X45 hx (hb hby d6_256) (z := (1 : Int32)) rfl ?_
        refine cs_icmpYes cG X45 hx (pc' := 295) (hb hby d6_257) (feq (by decide : ¬ ((2 : Int32) = (1 : Int32)))).2 (by decide) (by decide) ?_
        show own_Go _ _ _ _ T45 (mkF m 295 #[vr a1, vj q2, .second, vi j4, vi j12, vi j31, .unset, .unset] [])
        obtain ⟨fs, hr, hrun, hended, hW, hsame⟩ := X45.leave (v := none) (fun _ => rfl)
        refine ⟨_, _, ?_, hrun, hended, _, _, rfl, ?_, ⟨_, rfl⟩, hW, hsame.mono (by decide) (by decide)⟩
        · exact X45.returnOut hx Bd.returns (hb hby d6_295) hr
        · show Q6_2 Z a1 q2 nL nt na ni dq ar fa0 ra0 sa0 ga0 ka0 fa1 ra1 k_ar x0 x1 h0 n0 _ T45.heap _
          rw [e45]
          have hlf_0 : own_tk2 nL q2 nt na ni fa0 ra0 sa0 ga0 ka0 fa1 ra1 = own_t4 j40 := own_at_6_2_hlf_0_tft q2 nL nt na ni fa0 ra0 sa0 ga0 ka0 fa1 ra1 j4 i12 j12 j31 j36 j40 hj4 hi12 hj12 hj31 hj36 hj40 hN hhhnz26_25_194 hhhhnz2_31_25_194 hhnz2_230 hnz132 hhnz16_162 hc100_3 hc181_4 hhc28_194_0 hc246_6
          exact ⟨rfl, NN, Z0, (by rw [hlf_0]; exact own_mk4 E_a1 g_a1 F_a1_length F_a1_turns)⟩
      · as_aux_lemma =>
        refine cs_icmpYes cG X43 hx (pc' := 295) (hb hby d6_246) (feq hc246_6).2 (by decide) (by decide) ?_
        show own_Go _ _ _ _ T43 (mkF m 295 #[vr a1, vj q2, .second, vi j4, vi j12, vi j31, .unset, .unset] [])
        obtain ⟨fs, hr, hrun, hended, hW, hsame⟩ := X43.leave (v := none) (fun _ => rfl)
        refine ⟨_, _, ?_, hrun, hended, _, _, rfl, ?_, ⟨_, rfl⟩, hW, hsame.mono (by decide) (by decide)⟩
        · exact X43.returnOut hx Bd.returns (hb hby d6_295) hr
        · show Q6_2 Z a1 q2 nL nt na ni dq ar fa0 ra0 sa0 ga0 ka0 fa1 ra1 k_ar x0 x1 h0 n0 _ T43.heap _
          rw [e43]
          have hlf_0 : own_tk2 nL q2 nt na ni fa0 ra0 sa0 ga0 ka0 fa1 ra1 = own_t4 j40 := own_at_6_2_hlf_0_tff q2 nL nt na ni fa0 ra0 sa0 ga0 ka0 fa1 ra1 j4 i12 j12 j31 j36 j40 hj4 hi12 hj12 hj31 hj36 hj40 hN hhhnz26_25_194 hhhhnz2_31_25_194 hhnz2_230 hnz132 hhnz16_162 hc100_3 hc181_4 hhc28_194_0 hc246_6
          exact ⟨rfl, NN, Z0, (by rw [hlf_0]; exact own_mk4 E_a1 g_a1 F_a1_length F_a1_turns)⟩
  · as_aux_lemma =>
    refine cs_ifNo cG X24 hx (hb hby d6_100) ((if0 _ _).trans (flt (fun q => hc100_3 ((lw_gt ra0 q2).mp q))).2.2.1) ?_
    refine cs_aloadN cG X24 hx (hb hby d6_103) rfl rfl ?_
    refine cs_get cG X24 hx hZ hown (wd 27 _ rfl) e24 F_a1_chains (hb hby d6_104) ?_
    intro T46 X46 e46
    refine cs_V cG X46 hx hZ hown (wd 111 _ rfl) (wd 112 _ rfl) (wd 114 _ rfl) (wd 113 _ rfl) (wd 12 _ rfl) (wd 115 _ rfl) (by decide) (rm19_0_2 l Z a0 hw [] dq ar k_ar x0 x1 T12.heap n0 Z0 F_dq_elements F_dq_head V_ar) (by decide) (by decide) (by decide) (by decide) e46 E_dq (by rw [hml]; rfl) (argsL := []) (S := []) (lenOf pd_9 rfl) rfl (W := 0) (Nat.le_of_eq rfl) (hb hby d6_107) rfl ?_
    intro v47 T47 L47 X47 hQ47
    obtain ⟨rfl, N47q, e47⟩ := hQ47
    have NN := Fr.app NN N47q
    show own_Go _ _ _ _ T47 (mkF m 110 #[vr a1, vj q2, .second, vi j4, vi j12, .unset, .unset, .unset] [(.ref x0)])
    refine cs_cast cG X47 hx hZ hown (wd 84 _ rfl) e47 (Ins.self E_x0) (hb hby d6_110) ?_
    intro T48 X48 e48
    refine cs_astore cG X48 hx (hb hby d6_113) rfl (l' := #[vr a1, vj q2, .second, vi j4, vi j12, vr x0, .unset, .unset]) rfl ?_
    refine cs_aload cG X48 hx (hb hby d6_115) rfl rfl ?_
    refine cs_getR cG X48 hx hZ hown (wd 135 _ rfl) e48 F_x0_size (hb hby d6_117) ?_
    refine cs_lloadN cG X48 hx (hb hby d6_120) rfl ?_
    refine cs_aload cG X48 hx (hb hby d6_121) rfl rfl ?_
    refine cs_getR cG X48 hx hZ hown (wd 117 _ rfl) e48 F_x0_resume (hb hby d6_123) ?_
    refine cs_lsub cG X48 hx (hb hby d6_126) rfl ?_
    refine cs_aload cG X48 hx (hb hby d6_127) rfl rfl ?_
    refine cs_getR cG X48 hx hZ hown (wd 136 _ rfl) e48 F_x0_resumeStep (hb hby d6_129) ?_
    refine cs_ldiv cG X48 hx (hb hby d6_132) rfl hnz132 ?_
    refine cs_lconst cG X48 hx (hb hby d6_133) (z := (1 : Int64)) rfl ?_
    refine cs_ladd cG X48 hx (hb hby d6_134) rfl ?_
    refine cs_S cG X48 hx hZ hown (wd 65 _ rfl) (wd 66 _ rfl) (wd 67 _ rfl) (wd 68 _ rfl) (by decide) (rm10 l Z a0 hw [] sa0 (((q2 - ra0) / ka0) + (1 : Int64)) T12.heap n0 Z0 ) (by decide) (by decide) (by decide) (by decide) e48 (by rw [hml]; rfl) (argsL := [(.long sa0), (.long (((q2 - ra0) / ka0) + (1 : Int64)))]) (S := []) (lenOf pd_7 rfl) rfl (W := 0) (Nat.le_of_eq rfl) (hb hby d6_135) rfl ?_
    intro v49 T49 L49 X49 hQ49
    obtain ⟨rfl, N49q, e49⟩ := hQ49
    have NN := Fr.app NN N49q
    show own_Go _ _ _ _ T49 (mkF m 138 #[vr a1, vj q2, .second, vi j4, vi j12, vr x0, .unset, .unset] [(.long (r_10 sa0 (((q2 - ra0) / ka0) + (1 : Int64))))])
    refine cs_lstore cG X49 hx (hb hby d6_138) (l' := #[vr a1, vj q2, .second, vi j4, vi j12, vr x0, vj (r_10 sa0 (((q2 - ra0) / ka0) + (1 : Int64))), .second]) rfl ?_
    show own_Go _ _ _ _ T49 (mkF m 140 #[vr a1, vj q2, .second, vi j4, vi j12, vr x0, vj (r_10 sa0 (((q2 - ra0) / ka0) + (1 : Int64))), .second] [])
    obtain ⟨j50, hj50⟩ : ∃ z : Int64, z = (r_10 sa0 (((q2 - ra0) / ka0) + (1 : Int64))) := ⟨_, rfl⟩
    rw [← hj50]
    refine cs_iconst cG X49 hx (hb hby d6_140) (z := (1 : Int32)) rfl ?_
    refine cs_istore cG X49 hx (hb hby d6_141) (l' := #[vr a1, vj q2, .second, vi j4, vi (1 : Int32), vr x0, vj j50, .second]) rfl ?_
    refine cs_lload cG X49 hx (hb hby d6_143) rfl ?_
    refine cs_aload cG X49 hx (hb hby d6_145) rfl rfl ?_
    refine cs_getR cG X49 hx hZ hown (wd 135 _ rfl) e49 F_x0_size (hb hby d6_147) ?_
    refine cs_lcmp cG X49 hx (hb hby d6_150) ?_
    by_cases hc151_7 : j50 < sa0
    · as_aux_lemma =>
      refine cs_ifNo cG X49 hx (hb hby d6_151) ((if0 _ _).trans (tlt ((lw_lt j50 sa0).mpr hc151_7)).2.1) ?_
      refine cs_aload cG X49 hx (hb hby d6_154) rfl rfl ?_
      refine cs_lload cG X49 hx (hb hby d6_156) rfl ?_
      refine cs_aloadN cG X49 hx (hb hby d6_158) rfl rfl ?_
      refine cs_get cG X49 hx hZ hown (wd 29 _ rfl) e49 F_a1_length (hb hby d6_159) ?_
      intro T51 X51 e51
      refine cs_V cG X51 hx hZ hown (wd 137 _ rfl) (wd 138 _ rfl) (wd 140 _ rfl) (wd 139 _ rfl) (wd 86 _ rfl) (wd 141 _ rfl) (by decide) (rm23 l Z a0 hw [] x0 j50 nL fa0 ga0 ra0 ka0 sa0 T12.heap n0 Z0 F_x0_from F_x0_fromStep hhhnz26_25_194 E_x0 g_x0 F_x0_resume F_x0_resumeStep F_x0_size) (by decide) (by decide) (by decide) (by decide) e51 E_x0 (by rw [hml]; rfl) (argsL := [(.long j50), (.int nL)]) (S := []) (lenOf pd_15 rfl) rfl (W := 0) (Nat.le_of_eq rfl) (hb hby d6_162) rfl ?_
      intro v52 T52 L52 X52 hQ52
      obtain ⟨rfl, N52q, K52, Q52_0, Q52_1, Q52_2, Q52_3, Q52_4, Q52_5⟩ := hQ52
      have F_a1_length := F_a1_length.keep K52 (ninS (Ne.symm ne_x0_a1) nin0)
      have F_a1_turns := F_a1_turns.keep K52 (ninS (Ne.symm ne_x0_a1) nin0)
      have F_a1_idle := F_a1_idle.keep K52 (ninS (Ne.symm ne_x0_a1) nin0)
      have F_a1_chains := F_a1_chains.keep K52 (ninS (Ne.symm ne_x0_a1) nin0)
      have F_dq_head := F_dq_head.keep K52 (ninS ne_dq_x0 nin0)
      have F_dq_tail := F_dq_tail.keep K52 (ninS ne_dq_x0 nin0)
      have F_dq_elements := F_dq_elements.keep K52 (ninS ne_dq_x0 nin0)
      have F_x1_from := F_x1_from.keep K52 (ninS (Ne.symm ne_x0_x1) nin0)
      have F_x1_resume := F_x1_resume.keep K52 (ninS (Ne.symm ne_x0_x1) nin0)
      have F_x1_size := F_x1_size.keep K52 (ninS (Ne.symm ne_x0_x1) nin0)
      have F_x1_fromStep := F_x1_fromStep.keep K52 (ninS (Ne.symm ne_x0_x1) nin0)
      have F_x1_resumeStep := F_x1_resumeStep.keep K52 (ninS (Ne.symm ne_x0_x1) nin0)
      have E_dq := E_dq.keep K52
      have V_ar := V_ar.keep K52 (ninS ne_ar_x0 nin0)
      have E_a1 := E_a1.keep K52
      have E_x1 := E_x1.keep K52
      have E_x0 := Q52_0
      have F_x0_from := Q52_1
      have F_x0_resume := Q52_3
      have F_x0_size := Q52_5
      obtain ⟨j53, hj53⟩ : ∃ z : Int32, z = ((fa0.toInt64 + (j50 * ga0.toInt64)) - ((fa0.toInt64 + (j50 * ga0.toInt64)) / nL.toInt64) * nL.toInt64).toInt32 := ⟨_, rfl⟩
      rw [← hj53] at F_x0_from
      obtain ⟨j54, hj54⟩ : ∃ z : Int64, z = (ra0 + (j50 * ka0)) := ⟨_, rfl⟩
      rw [← hj54] at F_x0_resume
      obtain ⟨j55, hj55⟩ : ∃ z : Int64, z = (sa0 - j50) := ⟨_, rfl⟩
      rw [← hj55] at F_x0_size
      have Z0 := Nat.le_trans Z0 K52.1
      have NN := Fr.app NN N52q
      show own_Go _ _ _ _ T52 (mkF m 165 #[vr a1, vj q2, .second, vi j4, vi (1 : Int32), vr x0, vj j50, .second] [])
      refine cs_goto cG X52 hx (pc' := 176) (hb hby d6_165) (by decide) (by decide) ?_
      refine cs_goto cG X52 hx (pc' := 75) (hb hby d6_176) (by decide) (by decide) ?_
      refine cs_aloadN cG X52 hx (hb hby d6_75) rfl rfl ?_
      refine cs_get cG X52 hx hZ hown (wd 27 _ rfl) rfl F_a1_chains (hb hby d6_76) ?_
      intro T56 X56 e56
      refine cs_V cG X56 hx hZ hown (wd 44 _ rfl) (wd 45 _ rfl) (wd 47 _ rfl) (wd 46 _ rfl) (wd 12 _ rfl) (wd 48 _ rfl) (by decide) (rm7_0_2 l Z a0 hw [] dq T52.heap n0 Z0 F_dq_head F_dq_tail) (by decide) (by decide) (by decide) (by decide) e56 E_dq (by rw [hml]; rfl) (argsL := []) (S := []) (lenOf pd_4 rfl) rfl (W := 0) (Nat.le_of_eq rfl) (hb hby d6_79) rfl ?_
      intro v57 T57 L57 X57 hQ57
      obtain ⟨rfl, N57q, e57⟩ := hQ57
      have NN := Fr.app NN N57q
      show own_Go _ _ _ _ T57 (mkF m 82 #[vr a1, vj q2, .second, vi j4, vi (1 : Int32), vr x0, vj j50, .second] [(.int (0 : Int32))])
      refine cs_ifNo cG X57 hx (hb hby d6_82) ((if0 _ _).trans (teq (rfl : (0 : Int32) = (0 : Int32))).2) ?_
      refine cs_aloadN cG X57 hx (hb hby d6_85) rfl rfl ?_
      refine cs_get cG X57 hx hZ hown (wd 27 _ rfl) e57 F_a1_chains (hb hby d6_86) ?_
      intro T58 X58 e58
      refine cs_V cG X58 hx hZ hown (wd 111 _ rfl) (wd 112 _ rfl) (wd 114 _ rfl) (wd 113 _ rfl) (wd 12 _ rfl) (wd 115 _ rfl) (by decide) (rm19_0_2 l Z a0 hw [] dq ar k_ar x0 x1 T52.heap n0 Z0 F_dq_elements F_dq_head V_ar) (by decide) (by decide) (by decide) (by decide) e58 E_dq (by rw [hml]; rfl) (argsL := []) (S := []) (lenOf pd_9 rfl) rfl (W := 0) (Nat.le_of_eq rfl) (hb hby d6_89) rfl ?_
      intro v59 T59 L59 X59 hQ59
      obtain ⟨rfl, N59q, e59⟩ := hQ59
      have NN := Fr.app NN N59q
      show own_Go _ _ _ _ T59 (mkF m 92 #[vr a1, vj q2, .second, vi j4, vi (1 : Int32), vr x0, vj j50, .second] [(.ref x0)])
      refine cs_cast cG X59 hx hZ hown (wd 84 _ rfl) e59 (Ins.self E_x0) (hb hby d6_92) ?_
      intro T60 X60 e60
      refine cs_getR cG X60 hx hZ hown (wd 117 _ rfl) e60 F_x0_resume (hb hby d6_95) ?_
      refine cs_lloadN cG X60 hx (hb hby d6_98) rfl ?_
      refine cs_lcmp cG X60 hx (hb hby d6_99) ?_
      have hs100_0 : q2 < j54 := own_at_6_2_hs100_0_ft q2 nL ni ra0 sa0 ka0 ra1 j50 j54 hj50 hj54 hN hhhnz26_25_194 hhhhnz2_31_25_194 hhnz2_230 hnz132 hhnz16_162 hc100_3 hc151_7
      refine cs_ifYes cG X60 hx (pc' := 179) (hb hby d6_100) ((if0 _ _).trans (tlt ((lw_gt j54 q2).mpr hs100_0)).2.2.1) (by decide) (by decide) ?_
      refine cs_iload cG X60 hx (hb hby d6_179) rfl ?_
      refine cs_ifYes cG X60 hx (pc' := 185) (hb hby d6_181) ((if0 _ _).trans (feq (by decide : ¬ ((1 : Int32) = (0 : Int32)))).2) (by decide) (by decide) ?_
      refine cs_aloadN cG X60 hx (hb hby d6_185) rfl rfl ?_
      refine cs_iloadN cG X60 hx (hb hby d6_186) rfl ?_
      refine cs_lloadN cG X60 hx (hb hby d6_187) rfl ?_
      refine cs_aloadN cG X60 hx (hb hby d6_188) rfl rfl ?_
      refine cs_get cG X60 hx hZ hown (wd 29 _ rfl) e60 F_a1_length (hb hby d6_189) ?_
      intro T61 X61 e61
      refine cs_i2l cG X61 hx (hb hby d6_192) rfl ?_
      refine cs_ladd cG X61 hx (hb hby d6_193) rfl ?_
      have hhc28_194_0 : ¬ ((r_20 j4 (q2 + nL.toInt64) nL (1 : Int64) fa1 (0 : Int32) ra1 (1 : Int64)) = (0 : Int32)) := own_at_6_2_hhc28_194_0_ft q2 nL ni fa0 ra0 sa0 ka0 fa1 ra1 j4 j50 j54 hj4 hj50 hj54 hN hhhnz26_25_194 hhhhnz2_31_25_194 hhnz2_230 hnz132 hhnz16_162 hc100_3 hc151_7 hs100_0
      refine cs_P cG X61 hx hZ hown (wd 69 _ rfl) (wd 70 _ rfl) (wd 71 _ rfl) (wd 36 _ rfl) rfl (wd 3 _ rfl) (wd 72 _ rfl) (by decide) (rm11_e_0_2 l Z a0 hw [] a1 j4 (q2 + nL.toInt64) dq ar k_ar x0 x1 nL (1 : Int64) fa1 (0 : Int32) ra1 (1 : Int64) T52.heap n0 Z0 F_a1_chains F_dq_elements F_dq_tail O_ar V_ar E_dq E_x1 F_a1_length F_x1_size F_x1_from F_x1_fromStep F_x1_resume F_x1_resumeStep g_x1 hhhnz26_25_194 hhhhnz2_31_25_194 (Ne.symm ne_x1_a1) ne_dq_x1 ne_ar_x1 hhc28_194_0) (by decide) (by decide) (by decide) (by decide) e61 E_a1 (by rw [hml]; rfl) (argsL := [(.int j4), (.long (q2 + nL.toInt64))]) (S := []) (lenOf pd_8 rfl) rfl (W := 0) (Nat.le_of_eq rfl) (hb hby d6_194) rfl ?_
      intro v62 T62 L62 X62 hQ62
      obtain ⟨rfl, N62q, K62, Q62_0, Q62_1, Q62_2, Q62_3, Q62_4, Q62_5⟩ := hQ62
      have F_a1_length := F_a1_length.keep K62 (ninS (Ne.symm ne_x1_a1) nin0)
      have F_a1_turns := F_a1_turns.keep K62 (ninS (Ne.symm ne_x1_a1) nin0)
      have F_a1_idle := F_a1_idle.keep K62 (ninS (Ne.symm ne_x1_a1) nin0)
      have F_a1_chains := F_a1_chains.keep K62 (ninS (Ne.symm ne_x1_a1) nin0)
      have F_dq_head := F_dq_head.keep K62 (ninS ne_dq_x1 nin0)
      have F_dq_tail := F_dq_tail.keep K62 (ninS ne_dq_x1 nin0)
      have F_dq_elements := F_dq_elements.keep K62 (ninS ne_dq_x1 nin0)
      have F_x0_from := F_x0_from.keep K62 (ninS ne_x0_x1 nin0)
      have E_dq := E_dq.keep K62
      have V_ar := V_ar.keep K62 (ninS ne_ar_x1 nin0)
      have E_x0 := E_x0.keep K62
      have E_a1 := E_a1.keep K62
      have F_x1_size := Q62_1
      have F_x1_fromStep := Q62_3
      have F_x1_resumeStep := Q62_5
      obtain ⟨j63, hj63⟩ : ∃ z : Int64, z = (u_20_a1_size j4 (q2 + nL.toInt64) nL (1 : Int64) fa1 (0 : Int32) ra1 (1 : Int64)) := ⟨_, rfl⟩
      rw [← hj63] at F_x1_size
      obtain ⟨j64, hj64⟩ : ∃ z : Int32, z = (u_20_a1_fromStep j4 (q2 + nL.toInt64) nL (1 : Int64) fa1 (0 : Int32) ra1 (1 : Int64)) := ⟨_, rfl⟩
      rw [← hj64] at F_x1_fromStep
      obtain ⟨j65, hj65⟩ : ∃ z : Int64, z = (u_20_a1_resumeStep j4 (q2 + nL.toInt64) nL (1 : Int64) fa1 (0 : Int32) ra1 (1 : Int64)) := ⟨_, rfl⟩
      rw [← hj65] at F_x1_resumeStep
      have Z0 := Nat.le_trans Z0 K62.1
      have NN := Fr.app NN N62q
      show own_Go _ _ _ _ T62 (mkF m 197 #[vr a1, vj q2, .second, vi j4, vi (1 : Int32), vr x0, vj j50, .second] [])
      refine cs_aloadN cG X62 hx (hb hby d6_197) rfl rfl ?_
      refine cs_P cG X62 hx hZ hown (wd 59 _ rfl) (wd 60 _ rfl) (wd 61 _ rfl) (wd 36 _ rfl) rfl (wd 3 _ rfl) (wd 62 _ rfl) (by decide) (rm9_b_0_2 l Z a0 hw [] a1 nL i12 dq ar k_ar x0 x1 j53 T62.heap n0 Z0 F_a1_length F_a1_idle F_a1_chains F_dq_elements F_dq_head V_ar E_dq E_x0 F_x0_from) (by decide) (by decide) (by decide) (by decide) rfl E_a1 (by rw [hml]; rfl) (argsL := []) (S := []) (lenOf pd_6 rfl) rfl (W := 0) (Nat.le_of_eq rfl) (hb hby d6_198) rfl ?_
      intro v66 T66 L66 X66 hQ66
      obtain ⟨rfl, N66q, e66⟩ := hQ66
      have NN := Fr.app NN N66q
      show own_Go _ _ _ _ T66 (mkF m 201 #[vr a1, vj q2, .second, vi j4, vi (1 : Int32), vr x0, vj j50, .second] [(.int (r_9_b_0_2 nL i12 j53))])
      refine cs_istore cG X66 hx (hb hby d6_201) (l' := #[vr a1, vj q2, .second, vi j4, vi (1 : Int32), vi (r_9_b_0_2 nL i12 j53), vj j50, .second]) rfl ?_
      show own_Go _ _ _ _ T66 (mkF m 203 #[vr a1, vj q2, .second, vi j4, vi (1 : Int32), vi (r_9_b_0_2 nL i12 j53), vj j50, .second] [])
      obtain ⟨j67, hj67⟩ : ∃ z : Int32, z = (r_9_b_0_2 nL i12 j53) := ⟨_, rfl⟩
      rw [← hj67]
      refine cs_aloadN cG X66 hx (hb hby d6_203) rfl rfl ?_
      refine cs_dup cG X66 hx (hb hby d6_204) rfl ?_
      refine cs_get cG X66 hx hZ hown (wd 38 _ rfl) e66 F_a1_turns (hb hby d6_205) ?_
      intro T68 X68 e68
      refine cs_iload cG X68 hx (hb hby d6_208) rfl ?_
      refine cs_iloadN cG X68 hx (hb hby d6_210) rfl ?_
      show own_Go _ _ _ _ T68 (mkF m 211 #[vr a1, vj q2, .second, vi j4, vi (1 : Int32), vi j67, vj j50, .second] [(.int j4), (.int j67), (.long nt), (.ref a1)])
      obtain ⟨T72, L72, j72, ⟨X72, e72, NN, hj72⟩, st72⟩ : own_Tj p.tables e below (fun T' L' j => Stand p l e ({ frames := 3, cells := 1, slots := 5, locals := 51 } : Room) s m #[(.ref a1), (.long q2)] below meth c T' L' 0 0 ∧ T'.heap = T62.heap ∧ Fr n0 L' ∧ j = (if j67 = j4 then nL.toInt64 else (r_18 (j67 - j4) nL).toInt64)) (fun j => (mkF m 234 #[vr a1, vj q2, .second, vi j4, vi (1 : Int32), vi j67, vj j50, .second] [(.long j), (.long nt), (.ref a1)])) T68 (mkF m 211 #[vr a1, vj q2, .second, vi j4, vi (1 : Int32), vi j67, vj j50, .second] [(.int j4), (.int j67), (.long nt), (.ref a1)]) := by
        by_cases hc211_8 : j67 = j4
        · skip
          refine cs_icmpNo cT X68 hx (hb hby d6_211) (teq hc211_8).2 ?_
          refine cs_aloadN cT X68 hx (hb hby d6_214) rfl rfl ?_
          refine cs_get cT X68 hx hZ hown (wd 29 _ rfl) e68 F_a1_length (hb hby d6_215) ?_
          intro T73 X73 e73
          refine cs_i2l cT X73 hx (hb hby d6_218) rfl ?_
          refine cs_goto cT X73 hx (pc' := 234) (hb hby d6_219) (by decide) (by decide) ?_
          exact ⟨T73, _, nL.toInt64, ⟨X73, e73, NN, (if_pos hc211_8).symm⟩, fun t k => k⟩
        · skip
          refine cs_icmpYes cT X68 hx (pc' := 222) (hb hby d6_211) (feq hc211_8).2 (by decide) (by decide) ?_
          refine cs_iload cT X68 hx (hb hby d6_222) rfl ?_
          refine cs_iloadN cT X68 hx (hb hby d6_224) rfl ?_
          refine cs_isub cT X68 hx (hb hby d6_225) rfl ?_
          refine cs_aloadN cT X68 hx (hb hby d6_226) rfl rfl ?_
          refine cs_get cT X68 hx hZ hown (wd 29 _ rfl) e68 F_a1_length (hb hby d6_227) ?_
          intro T74 X74 e74
          refine cs_S cT X74 hx hZ hown (wd 108 _ rfl) (wd 109 _ rfl) (wd 67 _ rfl) (wd 110 _ rfl) (by decide) (rm18 l Z a0 hw [] (j67 - j4) nL T62.heap n0 Z0 hhhhnz2_31_25_194) (by decide) (by decide) (by decide) (by decide) e74 (by rw [hml]; rfl) (argsL := [(.int (j67 - j4)), (.int nL)]) (S := [(.long nt), (.ref a1)]) (lenOf pd_10 rfl) rfl (W := 3) (Nat.le_of_eq rfl) (hb hby d6_230) rfl ?_
          intro v75 T75 L75 X75 hQ75
          obtain ⟨rfl, N75q, e75⟩ := hQ75
          have NN := Fr.app NN N75q
          show own_Tj p.tables e below _ _ T75 (mkF m 233 #[vr a1, vj q2, .second, vi j4, vi (1 : Int32), vi j67, vj j50, .second] [(.int (r_18 (j67 - j4) nL)), (.long nt), (.ref a1)])
          refine cs_i2l cT X75 hx (hb hby d6_233) rfl ?_
          exact ⟨T75, _, (r_18 (j67 - j4) nL).toInt64, ⟨X75, e75, NN, (if_neg hc211_8).symm⟩, fun t k => k⟩
      refine own_go st72 ?_
      refine cs_ladd cG X72 hx (hb hby d6_234) rfl ?_
      show own_Go _ _ _ _ T72 (mkF m 235 #[vr a1, vj q2, .second, vi j4, vi (1 : Int32), vi j67, vj j50, .second] [(.long (nt + j72)), (.ref a1)])
      obtain ⟨j76, hj76⟩ : ∃ z : Int64, z = (nt + j72) := ⟨_, rfl⟩
      rw [← hj76]
      refine cs_put cG X72 hx hZ hown (wd 38 _ rfl) e72 F_a1_turns E_a1 (Or.inl (wd 39 _ rfl)) (wd 2 _ rfl) (ty := .long) (by decide) rfl rfl (hb hby d6_235) ?_
      intro T77 h77 X77 e77 W77
      have F_a1_length := F_a1_length.other W77 (Or.inr (slot_ne (Or.inr (wd 30 _ rfl)) (Or.inl (wd 39 _ rfl)) (by decide) (t := .int) (t' := .long) (by decide) (by decide)))
      have F_a1_turns := F_a1_turns.same W77
      have F_a1_idle := F_a1_idle.other W77 (Or.inr (slot_ne (Or.inl (wd 64 _ rfl)) (Or.inl (wd 39 _ rfl)) (by decide) (t := .int) (t' := .long) (by decide) (by decide)))
      have F_a1_chains := F_a1_chains.other W77 (Or.inr (slot_ne (Or.inr (wd 28 _ rfl)) (Or.inl (wd 39 _ rfl)) (by decide) (t := (.object own_cD)) (t' := .long) (by decide) (by decide)))
      have F_dq_head := F_dq_head.other W77 (Or.inl ne_dq_a1)
      have F_dq_tail := F_dq_tail.other W77 (Or.inl ne_dq_a1)
      have F_dq_elements := F_dq_elements.other W77 (Or.inl ne_dq_a1)
      have E_dq := E_dq.wr W77
      have V_ar := V_ar.other W77 ne_ar_a1
      have E_a1 := E_a1.wr W77
      have Z0 := Nat.le_trans Z0 (Keep.of_wr W77).1
      have NN := Fr.snoc X77 NN g_a1
      refine cs_aloadN cG X77 hx (hb hby d6_238) rfl rfl ?_
      refine cs_get cG X77 hx hZ hown (wd 63 _ rfl) e77 F_a1_idle (hb hby d6_239) ?_
      intro T78 X78 e78
      refine cs_aloadN cG X78 hx (hb hby d6_242) rfl rfl ?_
      refine cs_get cG X78 hx hZ hown (wd 29 _ rfl) e78 F_a1_length (hb hby d6_243) ?_
      intro T79 X79 e79
      have hs246_0 : i12 = nL := own_at_6_2_hs246_0_ft q2 nL ni fa0 ra0 sa0 ka0 fa1 ra1 j4 i12 j50 j54 hj4 hi12 hj50 hj54 hN hhhnz26_25_194 hhhhnz2_31_25_194 hhnz2_230 hnz132 hhnz16_162 hc100_3 hc151_7 hs100_0 hhc28_194_0
      refine cs_icmpNo cG X79 hx (hb hby d6_246) (teq hs246_0).2 ?_
      refine cs_aloadN cG X79 hx (hb hby d6_249) rfl rfl ?_
      refine cs_get cG X79 hx hZ hown (wd 27 _ rfl) e79 F_a1_chains (hb hby d6_250) ?_
      intro T80 X80 e80
      refine cs_V cG X80 hx hZ hown (wd 127 _ rfl) (wd 128 _ rfl) (wd 130 _ rfl) (wd 129 _ rfl) (wd 12 _ rfl) (wd 131 _ rfl) (by decide) (rm21_0_2 l Z a0 hw [] dq ar k_ar x0 x1 h77 n0 Z0 F_dq_tail F_dq_head F_dq_elements V_ar) (by decide) (by decide) (by decide) (by decide) e80 E_dq (by rw [hml]; rfl) (argsL := []) (S := []) (lenOf pd_6 rfl) rfl (W := 0) (Nat.le_of_eq rfl) (hb hby d6_253) rfl ?_
      intro v81 T81 L81 X81 hQ81
      obtain ⟨rfl, N81q, e81⟩ := hQ81
      have NN := Fr.app NN N81q
      show own_Go _ _ _ _ T81 (mkF m 256 #[vr a1, vj q2, .second, vi j4, vi (1 : Int32), vi j67, vj j50, .second] [(.int (2 : Int32))])
      refine cs_iconst cG X81 hx (hb hby d6_256) (z := (1 : Int32)) rfl ?_
      refine cs_icmpYes cG X81 hx (pc' := 295) (hb hby d6_257) (feq (by decide : ¬ ((2 : Int32) = (1 : Int32)))).2 (by decide) (by decide) ?_
      show own_Go _ _ _ _ T81 (mkF m 295 #[vr a1, vj q2, .second, vi j4, vi (1 : Int32), vi j67, vj j50, .second] [])
      obtain ⟨fs, hr, hrun, hended, hW, hsame⟩ := X81.leave (v := none) (fun _ => rfl)
      refine ⟨_, _, ?_, hrun, hended, _, _, rfl, ?_, ⟨_, rfl⟩, hW, hsame.mono (by decide) (by decide)⟩
      · exact X81.returnOut hx Bd.returns (hb hby d6_295) hr
      · show Q6_2 Z a1 q2 nL nt na ni dq ar fa0 ra0 sa0 ga0 ka0 fa1 ra1 k_ar x0 x1 h0 n0 _ T81.heap _
        rw [e81]
        have hlf_0 : own_tk2 nL q2 nt na ni fa0 ra0 sa0 ga0 ka0 fa1 ra1 = own_t4 j76 := own_at_6_2_hlf_0_ft q2 nL nt na ni fa0 ra0 sa0 ga0 ka0 fa1 ra1 j4 i12 j50 j53 j54 j67 j72 j76 hj4 hi12 hj50 hj53 hj54 hj67 hj72 hj76 hN hhhnz26_25_194 hhhhnz2_31_25_194 hhnz2_230 hnz132 hhnz16_162 hc100_3 hc151_7 hs100_0 hhc28_194_0 hs246_0
        exact ⟨rfl, NN, Z0, (by rw [hlf_0]; exact own_mk4 E_a1 g_a1 F_a1_length F_a1_turns)⟩
    · as_aux_lemma =>
      refine cs_ifYes cG X49 hx (pc' := 168) (hb hby d6_151) ((if0 _ _).trans (flt (fun q => hc151_7 ((lw_lt j50 sa0).mp q))).2.1) (by decide) (by decide) ?_
      refine cs_aloadN cG X49 hx (hb hby d6_168) rfl rfl ?_
      refine cs_get cG X49 hx hZ hown (wd 27 _ rfl) e49 F_a1_chains (hb hby d6_169) ?_
      intro T82 X82 e82
      refine cs_V cG X82 hx hZ hown (wd 142 _ rfl) (wd 143 _ rfl) (wd 145 _ rfl) (wd 144 _ rfl) (wd 12 _ rfl) (wd 146 _ rfl) (by decide) (rm24_0_2 l Z a0 hw [] dq ar k_ar x0 x1 T12.heap n0 Z0 F_dq_tail F_dq_elements F_dq_head O_ar V_ar ne_dq_ar g_ar E_dq g_dq) (by decide) (by decide) (by decide) (by decide) e82 E_dq (by rw [hml]; rfl) (argsL := []) (S := []) (lenOf pd_9 rfl) rfl (W := 0) (Nat.le_of_eq rfl) (hb hby d6_172) rfl ?_
      intro v83 T83 L83 X83 hQ83
      obtain ⟨rfl, N83q, K83, Q83_0, Q83_1, Q83_2, Q83_3, Q83_4⟩ := hQ83
      have F_a1_length := F_a1_length.keep K83 (ninS (Ne.symm ne_dq_a1) (ninS (Ne.symm ne_ar_a1) nin0))
      have F_a1_turns := F_a1_turns.keep K83 (ninS (Ne.symm ne_dq_a1) (ninS (Ne.symm ne_ar_a1) nin0))
      have F_a1_alike := F_a1_alike.keep K83 (ninS (Ne.symm ne_dq_a1) (ninS (Ne.symm ne_ar_a1) nin0))
      have F_a1_idle := F_a1_idle.keep K83 (ninS (Ne.symm ne_dq_a1) (ninS (Ne.symm ne_ar_a1) nin0))
      have F_a1_chains := F_a1_chains.keep K83 (ninS (Ne.symm ne_dq_a1) (ninS (Ne.symm ne_ar_a1) nin0))
      have F_x1_from := F_x1_from.keep K83 (ninS (Ne.symm ne_dq_x1) (ninS (Ne.symm ne_ar_x1) nin0))
      have F_x1_resume := F_x1_resume.keep K83 (ninS (Ne.symm ne_dq_x1) (ninS (Ne.symm ne_ar_x1) nin0))
      have F_x1_size := F_x1_size.keep K83 (ninS (Ne.symm ne_dq_x1) (ninS (Ne.symm ne_ar_x1) nin0))
      have F_x1_fromStep := F_x1_fromStep.keep K83 (ninS (Ne.symm ne_dq_x1) (ninS (Ne.symm ne_ar_x1) nin0))
      have F_x1_resumeStep := F_x1_resumeStep.keep K83 (ninS (Ne.symm ne_dq_x1) (ninS (Ne.symm ne_ar_x1) nin0))
      have E_a1 := E_a1.keep K83
      have E_x1 := E_x1.keep K83
      have E_dq := Q83_0
      have F_dq_tail := Q83_1
      have F_dq_elements := Q83_2
      have F_dq_head := Q83_3
      have V_ar := Q83_4
      have Z0 := Nat.le_trans Z0 K83.1
      have NN := Fr.app NN N83q
      show own_Go _ _ _ _ T83 (mkF m 175 #[vr a1, vj q2, .second, vi j4, vi (1 : Int32), vr x0, vj j50, .second] [(.ref x0)])
      refine cs_pop cG X83 hx (hb hby d6_175) rfl ?_
      refine cs_goto cG X83 hx (pc' := 75) (hb hby d6_176) (by decide) (by decide) ?_
      refine cs_aloadN cG X83 hx (hb hby d6_75) rfl rfl ?_
      refine cs_get cG X83 hx hZ hown (wd 27 _ rfl) rfl F_a1_chains (hb hby d6_76) ?_
      intro T84 X84 e84
      refine cs_V cG X84 hx hZ hown (wd 44 _ rfl) (wd 45 _ rfl) (wd 47 _ rfl) (wd 46 _ rfl) (wd 12 _ rfl) (wd 48 _ rfl) (by decide) (rm7_1_2 l Z a0 hw [] dq T83.heap n0 Z0 F_dq_head F_dq_tail) (by decide) (by decide) (by decide) (by decide) e84 E_dq (by rw [hml]; rfl) (argsL := []) (S := []) (lenOf pd_4 rfl) rfl (W := 0) (Nat.le_of_eq rfl) (hb hby d6_79) rfl ?_
      intro v85 T85 L85 X85 hQ85
      obtain ⟨rfl, N85q, e85⟩ := hQ85
      have NN := Fr.app NN N85q
      show own_Go _ _ _ _ T85 (mkF m 82 #[vr a1, vj q2, .second, vi j4, vi (1 : Int32), vr x0, vj j50, .second] [(.int (0 : Int32))])
      refine cs_ifNo cG X85 hx (hb hby d6_82) ((if0 _ _).trans (teq (rfl : (0 : Int32) = (0 : Int32))).2) ?_
      refine cs_aloadN cG X85 hx (hb hby d6_85) rfl rfl ?_
      refine cs_get cG X85 hx hZ hown (wd 27 _ rfl) e85 F_a1_chains (hb hby d6_86) ?_
      intro T86 X86 e86
      refine cs_V cG X86 hx hZ hown (wd 111 _ rfl) (wd 112 _ rfl) (wd 114 _ rfl) (wd 113 _ rfl) (wd 12 _ rfl) (wd 115 _ rfl) (by decide) (rm19_1_2 l Z a0 hw [] dq ar k_ar x1 T83.heap n0 Z0 F_dq_elements F_dq_head V_ar) (by decide) (by decide) (by decide) (by decide) e86 E_dq (by rw [hml]; rfl) (argsL := []) (S := []) (lenOf pd_9 rfl) rfl (W := 0) (Nat.le_of_eq rfl) (hb hby d6_89) rfl ?_
      intro v87 T87 L87 X87 hQ87
      obtain ⟨rfl, N87q, e87⟩ := hQ87
      have NN := Fr.app NN N87q
      show own_Go _ _ _ _ T87 (mkF m 92 #[vr a1, vj q2, .second, vi j4, vi (1 : Int32), vr x0, vj j50, .second] [(.ref x1)])
      refine cs_cast cG X87 hx hZ hown (wd 84 _ rfl) e87 (Ins.self E_x1) (hb hby d6_92) ?_
      intro T88 X88 e88
      refine cs_getR cG X88 hx hZ hown (wd 117 _ rfl) e88 F_x1_resume (hb hby d6_95) ?_
      refine cs_lloadN cG X88 hx (hb hby d6_98) rfl ?_
      refine cs_lcmp cG X88 hx (hb hby d6_99) ?_
      by_cases hc100_9 : q2 < ra1
      · as_aux_lemma =>
        refine cs_ifYes cG X88 hx (pc' := 179) (hb hby d6_100) ((if0 _ _).trans (tlt ((lw_gt ra1 q2).mpr hc100_9)).2.2.1) (by decide) (by decide) ?_
        refine cs_iload cG X88 hx (hb hby d6_179) rfl ?_
        refine cs_ifYes cG X88 hx (pc' := 185) (hb hby d6_181) ((if0 _ _).trans (feq (by decide : ¬ ((1 : Int32) = (0 : Int32)))).2) (by decide) (by decide) ?_
        refine cs_aloadN cG X88 hx (hb hby d6_185) rfl rfl ?_
        refine cs_iloadN cG X88 hx (hb hby d6_186) rfl ?_
        refine cs_lloadN cG X88 hx (hb hby d6_187) rfl ?_
        refine cs_aloadN cG X88 hx (hb hby d6_188) rfl rfl ?_
        refine cs_get cG X88 hx hZ hown (wd 29 _ rfl) e88 F_a1_length (hb hby d6_189) ?_
        intro T89 X89 e89
        refine cs_i2l cG X89 hx (hb hby d6_192) rfl ?_
        refine cs_ladd cG X89 hx (hb hby d6_193) rfl ?_
        have hhc28_194_0 : ¬ ((r_20 j4 (q2 + nL.toInt64) nL (1 : Int64) fa1 (0 : Int32) ra1 (1 : Int64)) = (0 : Int32)) := own_at_6_2_hhc28_194_0_fft q2 nL ni fa0 ra0 sa0 ka0 fa1 ra1 j4 j50 hj4 hj50 hN hhhnz26_25_194 hhhhnz2_31_25_194 hhnz2_230 hnz132 hhnz16_162 hc100_3 hc151_7 hc100_9
        refine cs_P cG X89 hx hZ hown (wd 69 _ rfl) (wd 70 _ rfl) (wd 71 _ rfl) (wd 36 _ rfl) rfl (wd 3 _ rfl) (wd 72 _ rfl) (by decide) (rm11_e_1_2 l Z a0 hw [] a1 j4 (q2 + nL.toInt64) dq ar k_ar x1 nL (1 : Int64) fa1 (0 : Int32) ra1 (1 : Int64) T83.heap n0 Z0 F_a1_chains F_dq_elements F_dq_tail O_ar V_ar E_dq E_x1 F_a1_length F_x1_size F_x1_from F_x1_fromStep F_x1_resume F_x1_resumeStep g_x1 hhhnz26_25_194 hhhhnz2_31_25_194 (Ne.symm ne_x1_a1) ne_dq_x1 ne_ar_x1 hhc28_194_0) (by decide) (by decide) (by decide) (by decide) e89 E_a1 (by rw [hml]; rfl) (argsL := [(.int j4), (.long (q2 + nL.toInt64))]) (S := []) (lenOf pd_8 rfl) rfl (W := 0) (Nat.le_of_eq rfl) (hb hby d6_194) rfl ?_
        intro v90 T90 L90 X90 hQ90
        obtain ⟨rfl, N90q, K90, Q90_0, Q90_1, Q90_2, Q90_3, Q90_4, Q90_5⟩ := hQ90
        have F_a1_length := F_a1_length.keep K90 (ninS (Ne.symm ne_x1_a1) nin0)
        have F_a1_turns := F_a1_turns.keep K90 (ninS (Ne.symm ne_x1_a1) nin0)
        have F_a1_idle := F_a1_idle.keep K90 (ninS (Ne.symm ne_x1_a1) nin0)
        have F_a1_chains := F_a1_chains.keep K90 (ninS (Ne.symm ne_x1_a1) nin0)
        have F_dq_head := F_dq_head.keep K90 (ninS ne_dq_x1 nin0)
        have F_dq_tail := F_dq_tail.keep K90 (ninS ne_dq_x1 nin0)
        have F_dq_elements := F_dq_elements.keep K90 (ninS ne_dq_x1 nin0)
        have E_dq := E_dq.keep K90
        have V_ar := V_ar.keep K90 (ninS ne_ar_x1 nin0)
        have E_a1 := E_a1.keep K90
        have E_x1 := Q90_0
        have F_x1_size := Q90_1
        have F_x1_from := Q90_2
        have F_x1_fromStep := Q90_3
        have F_x1_resumeStep := Q90_5
        obtain ⟨j91, hj91⟩ : ∃ z : Int64, z = (u_20_a1_size j4 (q2 + nL.toInt64) nL (1 : Int64) fa1 (0 : Int32) ra1 (1 : Int64)) := ⟨_, rfl⟩
        rw [← hj91] at F_x1_size
        obtain ⟨j92, hj92⟩ : ∃ z : Int32, z = (u_20_a1_fromStep j4 (q2 + nL.toInt64) nL (1 : Int64) fa1 (0 : Int32) ra1 (1 : Int64)) := ⟨_, rfl⟩
        rw [← hj92] at F_x1_fromStep
        obtain ⟨j93, hj93⟩ : ∃ z : Int64, z = (u_20_a1_resumeStep j4 (q2 + nL.toInt64) nL (1 : Int64) fa1 (0 : Int32) ra1 (1 : Int64)) := ⟨_, rfl⟩
        rw [← hj93] at F_x1_resumeStep
        have Z0 := Nat.le_trans Z0 K90.1
        have NN := Fr.app NN N90q
        show own_Go _ _ _ _ T90 (mkF m 197 #[vr a1, vj q2, .second, vi j4, vi (1 : Int32), vr x0, vj j50, .second] [])
        refine cs_aloadN cG X90 hx (hb hby d6_197) rfl rfl ?_
        refine cs_P cG X90 hx hZ hown (wd 59 _ rfl) (wd 60 _ rfl) (wd 61 _ rfl) (wd 36 _ rfl) rfl (wd 3 _ rfl) (wd 62 _ rfl) (by decide) (rm9_b_1_2 l Z a0 hw [] a1 nL i12 dq ar k_ar x1 fa1 T90.heap n0 Z0 F_a1_length F_a1_idle F_a1_chains F_dq_elements F_dq_head V_ar E_dq E_x1 F_x1_from) (by decide) (by decide) (by decide) (by decide) rfl E_a1 (by rw [hml]; rfl) (argsL := []) (S := []) (lenOf pd_6 rfl) rfl (W := 0) (Nat.le_of_eq rfl) (hb hby d6_198) rfl ?_
        intro v94 T94 L94 X94 hQ94
        obtain ⟨rfl, N94q, e94⟩ := hQ94
        have NN := Fr.app NN N94q
        show own_Go _ _ _ _ T94 (mkF m 201 #[vr a1, vj q2, .second, vi j4, vi (1 : Int32), vr x0, vj j50, .second] [(.int (r_9_b_1_2 nL i12 fa1))])
        refine cs_istore cG X94 hx (hb hby d6_201) (l' := #[vr a1, vj q2, .second, vi j4, vi (1 : Int32), vi (r_9_b_1_2 nL i12 fa1), vj j50, .second]) rfl ?_
        show own_Go _ _ _ _ T94 (mkF m 203 #[vr a1, vj q2, .second, vi j4, vi (1 : Int32), vi (r_9_b_1_2 nL i12 fa1), vj j50, .second] [])
        obtain ⟨j95, hj95⟩ : ∃ z : Int32, z = (r_9_b_1_2 nL i12 fa1) := ⟨_, rfl⟩
        rw [← hj95]
        refine cs_aloadN cG X94 hx (hb hby d6_203) rfl rfl ?_
        refine cs_dup cG X94 hx (hb hby d6_204) rfl ?_
        refine cs_get cG X94 hx hZ hown (wd 38 _ rfl) e94 F_a1_turns (hb hby d6_205) ?_
        intro T96 X96 e96
        refine cs_iload cG X96 hx (hb hby d6_208) rfl ?_
        refine cs_iloadN cG X96 hx (hb hby d6_210) rfl ?_
        show own_Go _ _ _ _ T96 (mkF m 211 #[vr a1, vj q2, .second, vi j4, vi (1 : Int32), vi j95, vj j50, .second] [(.int j4), (.int j95), (.long nt), (.ref a1)])
        obtain ⟨T100, L100, j100, ⟨X100, e100, NN, hj100⟩, st100⟩ : own_Tj p.tables e below (fun T' L' j => Stand p l e ({ frames := 3, cells := 1, slots := 5, locals := 51 } : Room) s m #[(.ref a1), (.long q2)] below meth c T' L' 0 0 ∧ T'.heap = T90.heap ∧ Fr n0 L' ∧ j = (if j95 = j4 then nL.toInt64 else (r_18 (j95 - j4) nL).toInt64)) (fun j => (mkF m 234 #[vr a1, vj q2, .second, vi j4, vi (1 : Int32), vi j95, vj j50, .second] [(.long j), (.long nt), (.ref a1)])) T96 (mkF m 211 #[vr a1, vj q2, .second, vi j4, vi (1 : Int32), vi j95, vj j50, .second] [(.int j4), (.int j95), (.long nt), (.ref a1)]) := by
          by_cases hc211_10 : j95 = j4
          · skip
            refine cs_icmpNo cT X96 hx (hb hby d6_211) (teq hc211_10).2 ?_
            refine cs_aloadN cT X96 hx (hb hby d6_214) rfl rfl ?_
            refine cs_get cT X96 hx hZ hown (wd 29 _ rfl) e96 F_a1_length (hb hby d6_215) ?_
            intro T101 X101 e101
            refine cs_i2l cT X101 hx (hb hby d6_218) rfl ?_
            refine cs_goto cT X101 hx (pc' := 234) (hb hby d6_219) (by decide) (by decide) ?_
            exact ⟨T101, _, nL.toInt64, ⟨X101, e101, NN, (if_pos hc211_10).symm⟩, fun t k => k⟩
          · skip
            refine cs_icmpYes cT X96 hx (pc' := 222) (hb hby d6_211) (feq hc211_10).2 (by decide) (by decide) ?_
            refine cs_iload cT X96 hx (hb hby d6_222) rfl ?_
            refine cs_iloadN cT X96 hx (hb hby d6_224) rfl ?_
            refine cs_isub cT X96 hx (hb hby d6_225) rfl ?_
            refine cs_aloadN cT X96 hx (hb hby d6_226) rfl rfl ?_
            refine cs_get cT X96 hx hZ hown (wd 29 _ rfl) e96 F_a1_length (hb hby d6_227) ?_
            intro T102 X102 e102
            refine cs_S cT X102 hx hZ hown (wd 108 _ rfl) (wd 109 _ rfl) (wd 67 _ rfl) (wd 110 _ rfl) (by decide) (rm18 l Z a0 hw [] (j95 - j4) nL T90.heap n0 Z0 hhhhnz2_31_25_194) (by decide) (by decide) (by decide) (by decide) e102 (by rw [hml]; rfl) (argsL := [(.int (j95 - j4)), (.int nL)]) (S := [(.long nt), (.ref a1)]) (lenOf pd_10 rfl) rfl (W := 3) (Nat.le_of_eq rfl) (hb hby d6_230) rfl ?_
            intro v103 T103 L103 X103 hQ103
            obtain ⟨rfl, N103q, e103⟩ := hQ103
            have NN := Fr.app NN N103q
            show own_Tj p.tables e below _ _ T103 (mkF m 233 #[vr a1, vj q2, .second, vi j4, vi (1 : Int32), vi j95, vj j50, .second] [(.int (r_18 (j95 - j4) nL)), (.long nt), (.ref a1)])
            refine cs_i2l cT X103 hx (hb hby d6_233) rfl ?_
            exact ⟨T103, _, (r_18 (j95 - j4) nL).toInt64, ⟨X103, e103, NN, (if_neg hc211_10).symm⟩, fun t k => k⟩
        refine own_go st100 ?_
        refine cs_ladd cG X100 hx (hb hby d6_234) rfl ?_
        show own_Go _ _ _ _ T100 (mkF m 235 #[vr a1, vj q2, .second, vi j4, vi (1 : Int32), vi j95, vj j50, .second] [(.long (nt + j100)), (.ref a1)])
        obtain ⟨j104, hj104⟩ : ∃ z : Int64, z = (nt + j100) := ⟨_, rfl⟩
        rw [← hj104]
        refine cs_put cG X100 hx hZ hown (wd 38 _ rfl) e100 F_a1_turns E_a1 (Or.inl (wd 39 _ rfl)) (wd 2 _ rfl) (ty := .long) (by decide) rfl rfl (hb hby d6_235) ?_
        intro T105 h105 X105 e105 W105
        have F_a1_length := F_a1_length.other W105 (Or.inr (slot_ne (Or.inr (wd 30 _ rfl)) (Or.inl (wd 39 _ rfl)) (by decide) (t := .int) (t' := .long) (by decide) (by decide)))
        have F_a1_turns := F_a1_turns.same W105
        have F_a1_idle := F_a1_idle.other W105 (Or.inr (slot_ne (Or.inl (wd 64 _ rfl)) (Or.inl (wd 39 _ rfl)) (by decide) (t := .int) (t' := .long) (by decide) (by decide)))
        have F_a1_chains := F_a1_chains.other W105 (Or.inr (slot_ne (Or.inr (wd 28 _ rfl)) (Or.inl (wd 39 _ rfl)) (by decide) (t := (.object own_cD)) (t' := .long) (by decide) (by decide)))
        have F_dq_head := F_dq_head.other W105 (Or.inl ne_dq_a1)
        have F_dq_tail := F_dq_tail.other W105 (Or.inl ne_dq_a1)
        have F_dq_elements := F_dq_elements.other W105 (Or.inl ne_dq_a1)
        have F_x1_size := F_x1_size.other W105 (Or.inl ne_x1_a1)
        have E_dq := E_dq.wr W105
        have V_ar := V_ar.other W105 ne_ar_a1
        have E_a1 := E_a1.wr W105
        have E_x1 := E_x1.wr W105
        have Z0 := Nat.le_trans Z0 (Keep.of_wr W105).1
        have NN := Fr.snoc X105 NN g_a1
        refine cs_aloadN cG X105 hx (hb hby d6_238) rfl rfl ?_
        refine cs_get cG X105 hx hZ hown (wd 63 _ rfl) e105 F_a1_idle (hb hby d6_239) ?_
        intro T106 X106 e106
        refine cs_aloadN cG X106 hx (hb hby d6_242) rfl rfl ?_
        refine cs_get cG X106 hx hZ hown (wd 29 _ rfl) e106 F_a1_length (hb hby d6_243) ?_
        intro T107 X107 e107
        have hs246_0 : i12 = nL := own_at_6_2_hs246_0_fft q2 nL ni fa0 ra0 sa0 ka0 fa1 ra1 j4 i12 j50 hj4 hi12 hj50 hN hhhnz26_25_194 hhhhnz2_31_25_194 hhnz2_230 hnz132 hhnz16_162 hc100_3 hc151_7 hc100_9 hhc28_194_0
        refine cs_icmpNo cG X107 hx (hb hby d6_246) (teq hs246_0).2 ?_
        refine cs_aloadN cG X107 hx (hb hby d6_249) rfl rfl ?_
        refine cs_get cG X107 hx hZ hown (wd 27 _ rfl) e107 F_a1_chains (hb hby d6_250) ?_
        intro T108 X108 e108
        refine cs_V cG X108 hx hZ hown (wd 127 _ rfl) (wd 128 _ rfl) (wd 130 _ rfl) (wd 129 _ rfl) (wd 12 _ rfl) (wd 131 _ rfl) (by decide) (rm21_1_2 l Z a0 hw [] dq ar k_ar x1 h105 n0 Z0 F_dq_tail F_dq_head F_dq_elements V_ar) (by decide) (by decide) (by decide) (by decide) e108 E_dq (by rw [hml]; rfl) (argsL := []) (S := []) (lenOf pd_6 rfl) rfl (W := 0) (Nat.le_of_eq rfl) (hb hby d6_253) rfl ?_
        intro v109 T109 L109 X109 hQ109
        obtain ⟨rfl, N109q, e109⟩ := hQ109
        have NN := Fr.app NN N109q
        show own_Go _ _ _ _ T109 (mkF m 256 #[vr a1, vj q2, .second, vi j4, vi (1 : Int32), vi j95, vj j50, .second] [(.int (1 : Int32))])
        refine cs_iconst cG X109 hx (hb hby d6_256) (z := (1 : Int32)) rfl ?_
        refine cs_icmpNo cG X109 hx (hb hby d6_257) (teq (rfl : (1 : Int32) = (1 : Int32))).2 ?_
        refine cs_aloadN cG X109 hx (hb hby d6_260) rfl rfl ?_
        refine cs_get cG X109 hx hZ hown (wd 27 _ rfl) e109 F_a1_chains (hb hby d6_261) ?_
        intro T110 X110 e110
        refine cs_V cG X110 hx hZ hown (wd 111 _ rfl) (wd 112 _ rfl) (wd 114 _ rfl) (wd 113 _ rfl) (wd 12 _ rfl) (wd 115 _ rfl) (by decide) (rm19_1_2 l Z a0 hw [] dq ar k_ar x1 h105 n0 Z0 F_dq_elements F_dq_head V_ar) (by decide) (by decide) (by decide) (by decide) e110 E_dq (by rw [hml]; rfl) (argsL := []) (S := []) (lenOf pd_9 rfl) rfl (W := 0) (Nat.le_of_eq rfl) (hb hby d6_264) rfl ?_
        intro v111 T111 L111 X111 hQ111
        obtain ⟨rfl, N111q, e111⟩ := hQ111
        have NN := Fr.app NN N111q
        show own_Go _ _ _ _ T111 (mkF m 267 #[vr a1, vj q2, .second, vi j4, vi (1 : Int32), vi j95, vj j50, .second] [(.ref x1)])
        refine cs_cast cG X111 hx hZ hown (wd 84 _ rfl) e111 (Ins.self E_x1) (hb hby d6_267) ?_
        intro T112 X112 e112
        refine cs_getR cG X112 hx hZ hown (wd 135 _ rfl) e112 F_x1_size (hb hby d6_270) ?_
        refine cs_lconst cG X112 hx (hb hby d6_273) (z := (1 : Int64)) rfl ?_
        refine cs_lcmp cG X112 hx (hb hby d6_274) ?_
        have hs275_0 : ¬ (j91 = (1 : Int64)) := own_at_6_2_hs275_0_fft q2 nL ni fa0 ra0 sa0 ka0 fa1 ra1 j4 i12 j50 j91 hj4 hi12 hj50 hj91 hN hhhnz26_25_194 hhhhnz2_31_25_194 hhnz2_230 hnz132 hhnz16_162 hc100_3 hc151_7 hc100_9 hhc28_194_0 hs246_0
        refine cs_ifYes cG X112 hx (pc' := 295) (hb hby d6_275) ((if0 _ _).trans (feq (fun q => hs275_0 ((lw_eq j91 (1 : Int64)).mp q))).2) (by decide) (by decide) ?_
        show own_Go _ _ _ _ T112 (mkF m 295 #[vr a1, vj q2, .second, vi j4, vi (1 : Int32), vi j95, vj j50, .second] [])
        obtain ⟨fs, hr, hrun, hended, hW, hsame⟩ := X112.leave (v := none) (fun _ => rfl)
        refine ⟨_, _, ?_, hrun, hended, _, _, rfl, ?_, ⟨_, rfl⟩, hW, hsame.mono (by decide) (by decide)⟩
        · exact X112.returnOut hx Bd.returns (hb hby d6_295) hr
        · show Q6_2 Z a1 q2 nL nt na ni dq ar fa0 ra0 sa0 ga0 ka0 fa1 ra1 k_ar x0 x1 h0 n0 _ T112.heap _
          rw [e112]
          have hlf_0 : own_tk2 nL q2 nt na ni fa0 ra0 sa0 ga0 ka0 fa1 ra1 = own_t4 j104 := own_at_6_2_hlf_0_fft q2 nL nt na ni fa0 ra0 sa0 ga0 ka0 fa1 ra1 j4 i12 j50 j91 j95 j100 j104 hj4 hi12 hj50 hj91 hj95 hj100 hj104 hN hhhnz26_25_194 hhhhnz2_31_25_194 hhnz2_230 hnz132 hhnz16_162 hc100_3 hc151_7 hc100_9 hhc28_194_0 hs246_0 hs275_0
          exact ⟨rfl, NN, Z0, (by rw [hlf_0]; exact own_mk4 E_a1 g_a1 F_a1_length F_a1_turns)⟩
      · as_aux_lemma =>
        refine cs_ifNo cG X88 hx (hb hby d6_100) ((if0 _ _).trans (flt (fun q => hc100_9 ((lw_gt ra1 q2).mp q))).2.2.1) ?_
        refine cs_aloadN cG X88 hx (hb hby d6_103) rfl rfl ?_
        refine cs_get cG X88 hx hZ hown (wd 27 _ rfl) e88 F_a1_chains (hb hby d6_104) ?_
        intro T113 X113 e113
        refine cs_V cG X113 hx hZ hown (wd 111 _ rfl) (wd 112 _ rfl) (wd 114 _ rfl) (wd 113 _ rfl) (wd 12 _ rfl) (wd 115 _ rfl) (by decide) (rm19_1_2 l Z a0 hw [] dq ar k_ar x1 T83.heap n0 Z0 F_dq_elements F_dq_head V_ar) (by decide) (by decide) (by decide) (by decide) e113 E_dq (by rw [hml]; rfl) (argsL := []) (S := []) (lenOf pd_9 rfl) rfl (W := 0) (Nat.le_of_eq rfl) (hb hby d6_107) rfl ?_
        intro v114 T114 L114 X114 hQ114
        obtain ⟨rfl, N114q, e114⟩ := hQ114
        have NN := Fr.app NN N114q
        show own_Go _ _ _ _ T114 (mkF m 110 #[vr a1, vj q2, .second, vi j4, vi (1 : Int32), vr x0, vj j50, .second] [(.ref x1)])
        refine cs_cast cG X114 hx hZ hown (wd 84 _ rfl) e114 (Ins.self E_x1) (hb hby d6_110) ?_
        intro T115 X115 e115
        refine cs_astore cG X115 hx (hb hby d6_113) rfl (l' := #[vr a1, vj q2, .second, vi j4, vi (1 : Int32), vr x1, vj j50, .second]) rfl ?_
        refine cs_aload cG X115 hx (hb hby d6_115) rfl rfl ?_
        refine cs_getR cG X115 hx hZ hown (wd 135 _ rfl) e115 F_x1_size (hb hby d6_117) ?_
        refine cs_lloadN cG X115 hx (hb hby d6_120) rfl ?_
        refine cs_aload cG X115 hx (hb hby d6_121) rfl rfl ?_
        refine cs_getR cG X115 hx hZ hown (wd 117 _ rfl) e115 F_x1_resume (hb hby d6_123) ?_
        refine cs_lsub cG X115 hx (hb hby d6_126) rfl ?_
        refine cs_aload cG X115 hx (hb hby d6_127) rfl rfl ?_
        refine cs_getR cG X115 hx hZ hown (wd 136 _ rfl) e115 F_x1_resumeStep (hb hby d6_129) ?_
        refine cs_ldiv cG X115 hx (hb hby d6_132) rfl (by decide) ?_
        refine cs_lconst cG X115 hx (hb hby d6_133) (z := (1 : Int64)) rfl ?_
        refine cs_ladd cG X115 hx (hb hby d6_134) rfl ?_
        refine cs_S cG X115 hx hZ hown (wd 65 _ rfl) (wd 66 _ rfl) (wd 67 _ rfl) (wd 68 _ rfl) (by decide) (rm10 l Z a0 hw [] (1 : Int64) (((q2 - ra1) / (1 : Int64)) + (1 : Int64)) T83.heap n0 Z0 ) (by decide) (by decide) (by decide) (by decide) e115 (by rw [hml]; rfl) (argsL := [(.long (1 : Int64)), (.long (((q2 - ra1) / (1 : Int64)) + (1 : Int64)))]) (S := []) (lenOf pd_7 rfl) rfl (W := 0) (Nat.le_of_eq rfl) (hb hby d6_135) rfl ?_
        intro v116 T116 L116 X116 hQ116
        obtain ⟨rfl, N116q, e116⟩ := hQ116
        have NN := Fr.app NN N116q
        show own_Go _ _ _ _ T116 (mkF m 138 #[vr a1, vj q2, .second, vi j4, vi (1 : Int32), vr x1, vj j50, .second] [(.long (r_10 (1 : Int64) (((q2 - ra1) / (1 : Int64)) + (1 : Int64))))])
        refine cs_lstore cG X116 hx (hb hby d6_138) (l' := #[vr a1, vj q2, .second, vi j4, vi (1 : Int32), vr x1, vj (r_10 (1 : Int64) (((q2 - ra1) / (1 : Int64)) + (1 : Int64))), .second]) rfl ?_
        show own_Go _ _ _ _ T116 (mkF m 140 #[vr a1, vj q2, .second, vi j4, vi (1 : Int32), vr x1, vj (r_10 (1 : Int64) (((q2 - ra1) / (1 : Int64)) + (1 : Int64))), .second] [])
        obtain ⟨j117, hj117⟩ : ∃ z : Int64, z = (r_10 (1 : Int64) (((q2 - ra1) / (1 : Int64)) + (1 : Int64))) := ⟨_, rfl⟩
        rw [← hj117]
        refine cs_iconst cG X116 hx (hb hby d6_140) (z := (1 : Int32)) rfl ?_
        refine cs_istore cG X116 hx (hb hby d6_141) (l' := #[vr a1, vj q2, .second, vi j4, vi (1 : Int32), vr x1, vj j117, .second]) rfl ?_
        refine cs_lload cG X116 hx (hb hby d6_143) rfl ?_
        refine cs_aload cG X116 hx (hb hby d6_145) rfl rfl ?_
        refine cs_getR cG X116 hx hZ hown (wd 135 _ rfl) e116 F_x1_size (hb hby d6_147) ?_
        refine cs_lcmp cG X116 hx (hb hby d6_150) ?_
        have hs151_0 : ¬ (j117 < (1 : Int64)) := own_at_6_2_hs151_0_fff q2 nL ni ra0 sa0 ka0 ra1 j50 j117 hj50 hj117 hN hhhnz26_25_194 hhhhnz2_31_25_194 hhnz2_230 hnz132 hhnz16_162 hc100_3 hc151_7 hc100_9
        refine cs_ifYes cG X116 hx (pc' := 168) (hb hby d6_151) ((if0 _ _).trans (flt (fun q => hs151_0 ((lw_lt j117 (1 : Int64)).mp q))).2.1) (by decide) (by decide) ?_
        refine cs_aloadN cG X116 hx (hb hby d6_168) rfl rfl ?_
        refine cs_get cG X116 hx hZ hown (wd 27 _ rfl) e116 F_a1_chains (hb hby d6_169) ?_
        intro T118 X118 e118
        refine cs_V cG X118 hx hZ hown (wd 142 _ rfl) (wd 143 _ rfl) (wd 145 _ rfl) (wd 144 _ rfl) (wd 12 _ rfl) (wd 146 _ rfl) (by decide) (rm24_1_2 l Z a0 hw [] dq ar k_ar x1 T83.heap n0 Z0 F_dq_tail F_dq_elements F_dq_head O_ar V_ar ne_dq_ar g_ar E_dq g_dq) (by decide) (by decide) (by decide) (by decide) e118 E_dq (by rw [hml]; rfl) (argsL := []) (S := []) (lenOf pd_9 rfl) rfl (W := 0) (Nat.le_of_eq rfl) (hb hby d6_172) rfl ?_
        intro v119 T119 L119 X119 hQ119
        obtain ⟨rfl, N119q, K119, Q119_0, Q119_1, Q119_2, Q119_3, Q119_4⟩ := hQ119
        have F_a1_length := F_a1_length.keep K119 (ninS (Ne.symm ne_dq_a1) (ninS (Ne.symm ne_ar_a1) nin0))
        have F_a1_turns := F_a1_turns.keep K119 (ninS (Ne.symm ne_dq_a1) (ninS (Ne.symm ne_ar_a1) nin0))
        have F_a1_alike := F_a1_alike.keep K119 (ninS (Ne.symm ne_dq_a1) (ninS (Ne.symm ne_ar_a1) nin0))
        have F_a1_idle := F_a1_idle.keep K119 (ninS (Ne.symm ne_dq_a1) (ninS (Ne.symm ne_ar_a1) nin0))
        have F_a1_chains := F_a1_chains.keep K119 (ninS (Ne.symm ne_dq_a1) (ninS (Ne.symm ne_ar_a1) nin0))
        have E_a1 := E_a1.keep K119
        have E_dq := Q119_0
        have F_dq_tail := Q119_1
        have F_dq_elements := Q119_2
        have F_dq_head := Q119_3
        have V_ar := Q119_4
        have Z0 := Nat.le_trans Z0 K119.1
        have NN := Fr.app NN N119q
        show own_Go _ _ _ _ T119 (mkF m 175 #[vr a1, vj q2, .second, vi j4, vi (1 : Int32), vr x1, vj j117, .second] [(.ref x1)])
        refine cs_pop cG X119 hx (hb hby d6_175) rfl ?_
        refine cs_goto cG X119 hx (pc' := 75) (hb hby d6_176) (by decide) (by decide) ?_
        refine cs_aloadN cG X119 hx (hb hby d6_75) rfl rfl ?_
        refine cs_get cG X119 hx hZ hown (wd 27 _ rfl) rfl F_a1_chains (hb hby d6_76) ?_
        intro T120 X120 e120
        refine cs_V cG X120 hx hZ hown (wd 44 _ rfl) (wd 45 _ rfl) (wd 47 _ rfl) (wd 46 _ rfl) (wd 12 _ rfl) (wd 48 _ rfl) (by decide) (rm7_2_2 l Z a0 hw [] dq T119.heap n0 Z0 F_dq_head F_dq_tail) (by decide) (by decide) (by decide) (by decide) e120 E_dq (by rw [hml]; rfl) (argsL := []) (S := []) (lenOf pd_4 rfl) rfl (W := 0) (Nat.le_of_eq rfl) (hb hby d6_79) rfl ?_
        intro v121 T121 L121 X121 hQ121
        obtain ⟨rfl, N121q, e121⟩ := hQ121
        have NN := Fr.app NN N121q
        show own_Go _ _ _ _ T121 (mkF m 82 #[vr a1, vj q2, .second, vi j4, vi (1 : Int32), vr x1, vj j117, .second] [(.int (1 : Int32))])
        refine cs_ifYes cG X121 hx (pc' := 179) (hb hby d6_82) ((if0 _ _).trans (feq (by decide : ¬ ((1 : Int32) = (0 : Int32)))).2) (by decide) (by decide) ?_
        refine cs_iload cG X121 hx (hb hby d6_179) rfl ?_
        refine cs_ifYes cG X121 hx (pc' := 185) (hb hby d6_181) ((if0 _ _).trans (feq (by decide : ¬ ((1 : Int32) = (0 : Int32)))).2) (by decide) (by decide) ?_
        refine cs_aloadN cG X121 hx (hb hby d6_185) rfl rfl ?_
        refine cs_iloadN cG X121 hx (hb hby d6_186) rfl ?_
        refine cs_lloadN cG X121 hx (hb hby d6_187) rfl ?_
        refine cs_aloadN cG X121 hx (hb hby d6_188) rfl rfl ?_
        refine cs_get cG X121 hx hZ hown (wd 29 _ rfl) e121 F_a1_length (hb hby d6_189) ?_
        intro T122 X122 e122
        refine cs_i2l cG X122 hx (hb hby d6_192) rfl ?_
        refine cs_ladd cG X122 hx (hb hby d6_193) rfl ?_
        refine cs_P cG X122 hx hZ hown (wd 69 _ rfl) (wd 70 _ rfl) (wd 71 _ rfl) (wd 36 _ rfl) rfl (wd 3 _ rfl) (wd 72 _ rfl) (by decide) (rm11_o_2_2 l Z a0 hw [] a1 j4 (q2 + nL.toInt64) dq ar k_ar T119.heap n0 Z0 F_a1_chains F_dq_elements F_dq_tail O_ar V_ar E_dq ne_dq_ar g_ar F_dq_head g_dq (Ne.symm ne_dq_a1) (Ne.symm ne_ar_a1)) (by decide) (by decide) (by decide) (by decide) e122 E_a1 (by rw [hml]; rfl) (argsL := [(.int j4), (.long (q2 + nL.toInt64))]) (S := []) (lenOf pd_8 rfl) rfl (W := 0) (Nat.le_of_eq rfl) (hb hby d6_194) rfl ?_
        intro v123 T123 L123 X123 hQ123
        obtain ⟨b123_0, rfl, N123q, K123, Q123_0, Q123_1, Q123_2, Q123_3, Q123_4, R123_0, R123_1, R123_2, R123_3, R123_4, R123_5, R123_6, R123_7⟩ := hQ123
        have ne_a1_b123_0 : a1 ≠ b123_0 := Nat.ne_of_lt (Nat.lt_of_lt_of_le F_a1_length.lt R123_1)
        have ne_dq_b123_0 : dq ≠ b123_0 := Nat.ne_of_lt (Nat.lt_of_lt_of_le F_dq_head.lt R123_1)
        have ne_ar_b123_0 : ar ≠ b123_0 := Nat.ne_of_lt (Nat.lt_of_lt_of_le V_ar.lt R123_1)
        have F_a1_length := F_a1_length.keep K123 (ninS (Ne.symm ne_dq_a1) (ninS (Ne.symm ne_ar_a1) nin0))
        have F_a1_turns := F_a1_turns.keep K123 (ninS (Ne.symm ne_dq_a1) (ninS (Ne.symm ne_ar_a1) nin0))
        have F_a1_alike := F_a1_alike.keep K123 (ninS (Ne.symm ne_dq_a1) (ninS (Ne.symm ne_ar_a1) nin0))
        have F_a1_idle := F_a1_idle.keep K123 (ninS (Ne.symm ne_dq_a1) (ninS (Ne.symm ne_ar_a1) nin0))
        have F_a1_chains := F_a1_chains.keep K123 (ninS (Ne.symm ne_dq_a1) (ninS (Ne.symm ne_ar_a1) nin0))
        have E_a1 := E_a1.keep K123
        have E_dq := Q123_0
        have F_dq_elements := Q123_1
        have F_dq_tail := Q123_2
        have F_dq_head := Q123_3
        have V_ar := Q123_4
        have E_b123_0 := R123_2
        have F_b123_0_size := R123_3
        have F_b123_0_from := R123_5
        have F_b123_0_resume := R123_6
        have Z0 := Nat.le_trans Z0 K123.1
        have NN := Fr.app NN N123q
        show own_Go _ _ _ _ T123 (mkF m 197 #[vr a1, vj q2, .second, vi j4, vi (1 : Int32), vr x1, vj j117, .second] [])
        refine cs_aloadN cG X123 hx (hb hby d6_197) rfl rfl ?_
        refine cs_P cG X123 hx hZ hown (wd 59 _ rfl) (wd 60 _ rfl) (wd 61 _ rfl) (wd 36 _ rfl) rfl (wd 3 _ rfl) (wd 62 _ rfl) (by decide) (rm9_b_2_3 l Z a0 hw [] a1 nL i12 dq ar k_ar b123_0 j4 T123.heap n0 Z0 F_a1_length F_a1_idle F_a1_chains F_dq_elements F_dq_head V_ar E_dq E_b123_0 F_b123_0_from) (by decide) (by decide) (by decide) (by decide) rfl E_a1 (by rw [hml]; rfl) (argsL := []) (S := []) (lenOf pd_6 rfl) rfl (W := 0) (Nat.le_of_eq rfl) (hb hby d6_198) rfl ?_
        intro v124 T124 L124 X124 hQ124
        obtain ⟨rfl, N124q, e124⟩ := hQ124
        have NN := Fr.app NN N124q
        show own_Go _ _ _ _ T124 (mkF m 201 #[vr a1, vj q2, .second, vi j4, vi (1 : Int32), vr x1, vj j117, .second] [(.int (r_9_b_2_3 nL i12 j4))])
        refine cs_istore cG X124 hx (hb hby d6_201) (l' := #[vr a1, vj q2, .second, vi j4, vi (1 : Int32), vi (r_9_b_2_3 nL i12 j4), vj j117, .second]) rfl ?_
        show own_Go _ _ _ _ T124 (mkF m 203 #[vr a1, vj q2, .second, vi j4, vi (1 : Int32), vi (r_9_b_2_3 nL i12 j4), vj j117, .second] [])
        obtain ⟨j125, hj125⟩ : ∃ z : Int32, z = (r_9_b_2_3 nL i12 j4) := ⟨_, rfl⟩
        rw [← hj125]
        refine cs_aloadN cG X124 hx (hb hby d6_203) rfl rfl ?_
        refine cs_dup cG X124 hx (hb hby d6_204) rfl ?_
        refine cs_get cG X124 hx hZ hown (wd 38 _ rfl) e124 F_a1_turns (hb hby d6_205) ?_
        intro T126 X126 e126
        refine cs_iload cG X126 hx (hb hby d6_208) rfl ?_
        refine cs_iloadN cG X126 hx (hb hby d6_210) rfl ?_
        show own_Go _ _ _ _ T126 (mkF m 211 #[vr a1, vj q2, .second, vi j4, vi (1 : Int32), vi j125, vj j117, .second] [(.int j4), (.int j125), (.long nt), (.ref a1)])
        obtain ⟨T130, L130, j130, ⟨X130, e130, NN, hj130⟩, st130⟩ : own_Tj p.tables e below (fun T' L' j => Stand p l e ({ frames := 3, cells := 1, slots := 5, locals := 51 } : Room) s m #[(.ref a1), (.long q2)] below meth c T' L' 1 5 ∧ T'.heap = T123.heap ∧ Fr n0 L' ∧ j = (if j125 = j4 then nL.toInt64 else (r_18 (j125 - j4) nL).toInt64)) (fun j => (mkF m 234 #[vr a1, vj q2, .second, vi j4, vi (1 : Int32), vi j125, vj j117, .second] [(.long j), (.long nt), (.ref a1)])) T126 (mkF m 211 #[vr a1, vj q2, .second, vi j4, vi (1 : Int32), vi j125, vj j117, .second] [(.int j4), (.int j125), (.long nt), (.ref a1)]) := by
          by_cases hc211_11 : j125 = j4
          · skip
            refine cs_icmpNo cT X126 hx (hb hby d6_211) (teq hc211_11).2 ?_
            refine cs_aloadN cT X126 hx (hb hby d6_214) rfl rfl ?_
            refine cs_get cT X126 hx hZ hown (wd 29 _ rfl) e126 F_a1_length (hb hby d6_215) ?_
            intro T131 X131 e131
            refine cs_i2l cT X131 hx (hb hby d6_218) rfl ?_
            refine cs_goto cT X131 hx (pc' := 234) (hb hby d6_219) (by decide) (by decide) ?_
            exact ⟨T131, _, nL.toInt64, ⟨X131, e131, NN, (if_pos hc211_11).symm⟩, fun t k => k⟩
          · skip
            refine cs_icmpYes cT X126 hx (pc' := 222) (hb hby d6_211) (feq hc211_11).2 (by decide) (by decide) ?_
            refine cs_iload cT X126 hx (hb hby d6_222) rfl ?_
            refine cs_iloadN cT X126 hx (hb hby d6_224) rfl ?_
            refine cs_isub cT X126 hx (hb hby d6_225) rfl ?_
            refine cs_aloadN cT X126 hx (hb hby d6_226) rfl rfl ?_
            refine cs_get cT X126 hx hZ hown (wd 29 _ rfl) e126 F_a1_length (hb hby d6_227) ?_
            intro T132 X132 e132
            refine cs_S cT X132 hx hZ hown (wd 108 _ rfl) (wd 109 _ rfl) (wd 67 _ rfl) (wd 110 _ rfl) (by decide) (rm18 l Z a0 hw [] (j125 - j4) nL T123.heap n0 Z0 hhhhnz2_31_25_194) (by decide) (by decide) (by decide) (by decide) e132 (by rw [hml]; rfl) (argsL := [(.int (j125 - j4)), (.int nL)]) (S := [(.long nt), (.ref a1)]) (lenOf pd_10 rfl) rfl (W := 3) (Nat.le_of_eq rfl) (hb hby d6_230) rfl ?_
            intro v133 T133 L133 X133 hQ133
            obtain ⟨rfl, N133q, e133⟩ := hQ133
            have NN := Fr.app NN N133q
            show own_Tj p.tables e below _ _ T133 (mkF m 233 #[vr a1, vj q2, .second, vi j4, vi (1 : Int32), vi j125, vj j117, .second] [(.int (r_18 (j125 - j4) nL)), (.long nt), (.ref a1)])
            refine cs_i2l cT X133 hx (hb hby d6_233) rfl ?_
            exact ⟨T133, _, (r_18 (j125 - j4) nL).toInt64, ⟨X133, e133, NN, (if_neg hc211_11).symm⟩, fun t k => k⟩
        refine own_go st130 ?_
        refine cs_ladd cG X130 hx (hb hby d6_234) rfl ?_
        show own_Go _ _ _ _ T130 (mkF m 235 #[vr a1, vj q2, .second, vi j4, vi (1 : Int32), vi j125, vj j117, .second] [(.long (nt + j130)), (.ref a1)])
        obtain ⟨j134, hj134⟩ : ∃ z : Int64, z = (nt + j130) := ⟨_, rfl⟩
        rw [← hj134]
        refine cs_put cG X130 hx hZ hown (wd 38 _ rfl) e130 F_a1_turns E_a1 (Or.inl (wd 39 _ rfl)) (wd 2 _ rfl) (ty := .long) (by decide) rfl rfl (hb hby d6_235) ?_
        intro T135 h135 X135 e135 W135
        have F_a1_length := F_a1_length.other W135 (Or.inr (slot_ne (Or.inr (wd 30 _ rfl)) (Or.inl (wd 39 _ rfl)) (by decide) (t := .int) (t' := .long) (by decide) (by decide)))
        have F_a1_turns := F_a1_turns.same W135
        have F_a1_alike := F_a1_alike.other W135 (Or.inr (slot_ne (Or.inl (wd 32 _ rfl)) (Or.inl (wd 39 _ rfl)) (by decide) (t := .long) (t' := .long) (by decide) (by decide)))
        have F_a1_idle := F_a1_idle.other W135 (Or.inr (slot_ne (Or.inl (wd 64 _ rfl)) (Or.inl (wd 39 _ rfl)) (by decide) (t := .int) (t' := .long) (by decide) (by decide)))
        have F_a1_chains := F_a1_chains.other W135 (Or.inr (slot_ne (Or.inr (wd 28 _ rfl)) (Or.inl (wd 39 _ rfl)) (by decide) (t := (.object own_cD)) (t' := .long) (by decide) (by decide)))
        have F_dq_head := F_dq_head.other W135 (Or.inl ne_dq_a1)
        have F_dq_tail := F_dq_tail.other W135 (Or.inl ne_dq_a1)
        have F_dq_elements := F_dq_elements.other W135 (Or.inl ne_dq_a1)
        have E_dq := E_dq.wr W135
        have V_ar := V_ar.other W135 ne_ar_a1
        have E_a1 := E_a1.wr W135
        have E_b123_0 := E_b123_0.wr W135
        have F_b123_0_size := F_b123_0_size.other W135 (Or.inl (Ne.symm ne_a1_b123_0))
        have F_b123_0_resume := F_b123_0_resume.other W135 (Or.inl (Ne.symm ne_a1_b123_0))
        have Z0 := Nat.le_trans Z0 (Keep.of_wr W135).1
        have NN := Fr.snoc X135 NN g_a1
        refine cs_aloadN cG X135 hx (hb hby d6_238) rfl rfl ?_
        refine cs_get cG X135 hx hZ hown (wd 63 _ rfl) e135 F_a1_idle (hb hby d6_239) ?_
        intro T136 X136 e136
        refine cs_aloadN cG X136 hx (hb hby d6_242) rfl rfl ?_
        refine cs_get cG X136 hx hZ hown (wd 29 _ rfl) e136 F_a1_length (hb hby d6_243) ?_
        intro T137 X137 e137
        have hs246_0 : i12 = nL := own_at_6_2_hs246_0_fff q2 nL ni ra0 sa0 ka0 ra1 i12 j50 j117 hi12 hj50 hj117 hN hhhnz26_25_194 hhhhnz2_31_25_194 hhnz2_230 hnz132 hhnz16_162 hc100_3 hc151_7 hc100_9 hs151_0
        refine cs_icmpNo cG X137 hx (hb hby d6_246) (teq hs246_0).2 ?_
        refine cs_aloadN cG X137 hx (hb hby d6_249) rfl rfl ?_
        refine cs_get cG X137 hx hZ hown (wd 27 _ rfl) e137 F_a1_chains (hb hby d6_250) ?_
        intro T138 X138 e138
        refine cs_V cG X138 hx hZ hown (wd 127 _ rfl) (wd 128 _ rfl) (wd 130 _ rfl) (wd 129 _ rfl) (wd 12 _ rfl) (wd 131 _ rfl) (by decide) (rm21_2_3 l Z a0 hw [] dq ar k_ar b123_0 h135 n0 Z0 F_dq_tail F_dq_head F_dq_elements V_ar) (by decide) (by decide) (by decide) (by decide) e138 E_dq (by rw [hml]; rfl) (argsL := []) (S := []) (lenOf pd_6 rfl) rfl (W := 0) (Nat.le_of_eq rfl) (hb hby d6_253) rfl ?_
        intro v139 T139 L139 X139 hQ139
        obtain ⟨rfl, N139q, e139⟩ := hQ139
        have NN := Fr.app NN N139q
        show own_Go _ _ _ _ T139 (mkF m 256 #[vr a1, vj q2, .second, vi j4, vi (1 : Int32), vi j125, vj j117, .second] [(.int (1 : Int32))])
        refine cs_iconst cG X139 hx (hb hby d6_256) (z := (1 : Int32)) rfl ?_
        refine cs_icmpNo cG X139 hx (hb hby d6_257) (teq (rfl : (1 : Int32) = (1 : Int32))).2 ?_
        refine cs_aloadN cG X139 hx (hb hby d6_260) rfl rfl ?_
        refine cs_get cG X139 hx hZ hown (wd 27 _ rfl) e139 F_a1_chains (hb hby d6_261) ?_
        intro T140 X140 e140
        refine cs_V cG X140 hx hZ hown (wd 111 _ rfl) (wd 112 _ rfl) (wd 114 _ rfl) (wd 113 _ rfl) (wd 12 _ rfl) (wd 115 _ rfl) (by decide) (rm19_2_3 l Z a0 hw [] dq ar k_ar b123_0 h135 n0 Z0 F_dq_elements F_dq_head V_ar) (by decide) (by decide) (by decide) (by decide) e140 E_dq (by rw [hml]; rfl) (argsL := []) (S := []) (lenOf pd_9 rfl) rfl (W := 0) (Nat.le_of_eq rfl) (hb hby d6_264) rfl ?_
        intro v141 T141 L141 X141 hQ141
        obtain ⟨rfl, N141q, e141⟩ := hQ141
        have NN := Fr.app NN N141q
        show own_Go _ _ _ _ T141 (mkF m 267 #[vr a1, vj q2, .second, vi j4, vi (1 : Int32), vi j125, vj j117, .second] [(.ref b123_0)])
        refine cs_cast cG X141 hx hZ hown (wd 84 _ rfl) e141 (Ins.self E_b123_0) (hb hby d6_267) ?_
        intro T142 X142 e142
        refine cs_getR cG X142 hx hZ hown (wd 135 _ rfl) e142 F_b123_0_size (hb hby d6_270) ?_
        refine cs_lconst cG X142 hx (hb hby d6_273) (z := (1 : Int64)) rfl ?_
        refine cs_lcmp cG X142 hx (hb hby d6_274) ?_
        refine cs_ifNo cG X142 hx (hb hby d6_275) ((if0 _ _).trans (teq ((lw_eq (1 : Int64) (1 : Int64)).mpr (rfl : (1 : Int64) = (1 : Int64)))).2) ?_
        refine cs_aloadN cG X142 hx (hb hby d6_278) rfl rfl ?_
        refine cs_aloadN cG X142 hx (hb hby d6_279) rfl rfl ?_
        refine cs_get cG X142 hx hZ hown (wd 27 _ rfl) e142 F_a1_chains (hb hby d6_280) ?_
        intro T143 X143 e143
        refine cs_V cG X143 hx hZ hown (wd 142 _ rfl) (wd 143 _ rfl) (wd 145 _ rfl) (wd 144 _ rfl) (wd 12 _ rfl) (wd 146 _ rfl) (by decide) (rm24_2_3 l Z a0 hw [] dq ar k_ar b123_0 h135 n0 Z0 F_dq_tail F_dq_elements F_dq_head O_ar V_ar ne_dq_ar g_ar E_dq g_dq) (by decide) (by decide) (by decide) (by decide) e143 E_dq (by rw [hml]; rfl) (argsL := []) (S := [(.ref a1)]) (lenOf pd_9 rfl) rfl (W := 1) (Nat.le_of_eq rfl) (hb hby d6_283) rfl ?_
        intro v144 T144 L144 X144 hQ144
        obtain ⟨rfl, N144q, K144, Q144_0, Q144_1, Q144_2, Q144_3, Q144_4⟩ := hQ144
        have F_a1_length := F_a1_length.keep K144 (ninS (Ne.symm ne_dq_a1) (ninS (Ne.symm ne_ar_a1) nin0))
        have F_a1_turns := F_a1_turns.keep K144 (ninS (Ne.symm ne_dq_a1) (ninS (Ne.symm ne_ar_a1) nin0))
        have F_a1_alike := F_a1_alike.keep K144 (ninS (Ne.symm ne_dq_a1) (ninS (Ne.symm ne_ar_a1) nin0))
        have E_a1 := E_a1.keep K144
        have E_b123_0 := E_b123_0.keep K144
        have F_b123_0_resume := F_b123_0_resume.keep K144 (ninS (Ne.symm ne_dq_b123_0) (ninS (Ne.symm ne_ar_b123_0) nin0))
        have Z0 := Nat.le_trans Z0 K144.1
        have NN := Fr.app NN N144q
        show own_Go _ _ _ _ T144 (mkF m 286 #[vr a1, vj q2, .second, vi j4, vi (1 : Int32), vi j125, vj j117, .second] [(.ref b123_0), (.ref a1)])
        refine cs_cast cG X144 hx hZ hown (wd 84 _ rfl) rfl (Ins.self E_b123_0) (hb hby d6_286) ?_
        intro T145 X145 e145
        refine cs_getR cG X145 hx hZ hown (wd 117 _ rfl) e145 F_b123_0_resume (hb hby d6_289) ?_
        show own_Go _ _ _ _ T145 (mkF m 292 #[vr a1, vj q2, .second, vi j4, vi (1 : Int32), vi j125, vj j117, .second] [(.long (q2 + nL.toInt64)), (.ref a1)])
        obtain ⟨j146, hj146⟩ : ∃ z : Int64, z = (q2 + nL.toInt64) := ⟨_, rfl⟩
        rw [← hj146]
        rw [← hj146] at F_b123_0_resume
        refine cs_put cG X145 hx hZ hown (wd 31 _ rfl) e145 F_a1_alike E_a1 (Or.inl (wd 32 _ rfl)) (wd 2 _ rfl) (ty := .long) (by decide) rfl rfl (hb hby d6_292) ?_
        intro T147 h147 X147 e147 W147
        have F_a1_length := F_a1_length.other W147 (Or.inr (slot_ne (Or.inr (wd 30 _ rfl)) (Or.inl (wd 32 _ rfl)) (by decide) (t := .int) (t' := .long) (by decide) (by decide)))
        have F_a1_turns := F_a1_turns.other W147 (Or.inr (slot_ne (Or.inl (wd 39 _ rfl)) (Or.inl (wd 32 _ rfl)) (by decide) (t := .long) (t' := .long) (by decide) (by decide)))
        have E_a1 := E_a1.wr W147
        have Z0 := Nat.le_trans Z0 (Keep.of_wr W147).1
        have NN := Fr.snoc X147 NN g_a1
        show own_Go _ _ _ _ T147 (mkF m 295 #[vr a1, vj q2, .second, vi j4, vi (1 : Int32), vi j125, vj j117, .second] [])
        obtain ⟨fs, hr, hrun, hended, hW, hsame⟩ := X147.leave (v := none) (fun _ => rfl)
        refine ⟨_, _, ?_, hrun, hended, _, _, rfl, ?_, ⟨_, rfl⟩, hW, hsame.mono (by decide) (by decide)⟩
        · exact X147.returnOut hx Bd.returns (hb hby d6_295) hr
        · show Q6_2 Z a1 q2 nL nt na ni dq ar fa0 ra0 sa0 ga0 ka0 fa1 ra1 k_ar x0 x1 h0 n0 _ T147.heap _
          rw [e147]
          have hlf_0 : own_tk2 nL q2 nt na ni fa0 ra0 sa0 ga0 ka0 fa1 ra1 = own_t4 j134 := own_at_6_2_hlf_0_fff q2 nL nt na ni fa0 ra0 sa0 ga0 ka0 fa1 ra1 j4 i12 j50 j117 j125 j130 j134 hj4 hi12 hj50 hj117 hj125 hj130 hj134 hN hhhnz26_25_194 hhhhnz2_31_25_194 hhnz2_230 hnz132 hhnz16_162 hc100_3 hc151_7 hc100_9 hs151_0 hs246_0
          exact ⟨rfl, NN, Z0, (by rw [hlf_0]; exact own_mk4 E_a1 g_a1 F_a1_length F_a1_turns)⟩
theorem d5_0 : decode prog_29_method_2_code 0 = .ok (.lload_n 1, 1) := by decide +kernel
theorem d5_1 : decode prog_29_method_2_code 1 = .ok (.aload_n 0, 1) := by decide +kernel
theorem d5_2 : decode prog_29_method_2_code 2 = .ok (.getfield 20, 3) := by decide +kernel
theorem d5_5 : decode prog_29_method_2_code 5 = .ok (.lcmp, 1) := by decide +kernel
theorem d5_6 : decode prog_29_method_2_code 6 = .ok (.ifCond .lt 31, 3) := by decide +kernel
theorem d5_9 : decode prog_29_method_2_code 9 = .ok (.aload_n 0, 1) := by decide +kernel
theorem d5_10 : decode prog_29_method_2_code 10 = .ok (.lload_n 1, 1) := by decide +kernel
theorem d5_11 : decode prog_29_method_2_code 11 = .ok (.aload_n 0, 1) := by decide +kernel
theorem d5_12 : decode prog_29_method_2_code 12 = .ok (.getfield 16, 3) := by decide +kernel
theorem d5_15 : decode prog_29_method_2_code 15 = .ok (.i2l, 1) := by decide +kernel
theorem d5_16 : decode prog_29_method_2_code 16 = .ok (.ladd, 1) := by decide +kernel
theorem d5_17 : decode prog_29_method_2_code 17 = .ok (.putfield 20, 3) := by decide +kernel
theorem d5_20 : decode prog_29_method_2_code 20 = .ok (.aload_n 0, 1) := by decide +kernel
theorem d5_21 : decode prog_29_method_2_code 21 = .ok (.dup, 1) := by decide +kernel
theorem d5_22 : decode prog_29_method_2_code 22 = .ok (.getfield 24, 3) := by decide +kernel
theorem d5_25 : decode prog_29_method_2_code 25 = .ok (.aload_n 0, 1) := by decide +kernel
theorem d5_26 : decode prog_29_method_2_code 26 = .ok (.getfield 16, 3) := by decide +kernel
theorem d5_29 : decode prog_29_method_2_code 29 = .ok (.i2l, 1) := by decide +kernel
theorem d5_30 : decode prog_29_method_2_code 30 = .ok (.ladd, 1) := by decide +kernel
theorem d5_31 : decode prog_29_method_2_code 31 = .ok (.putfield 24, 3) := by decide +kernel
theorem d5_34 : decode prog_29_method_2_code 34 = .ok (.goto 8, 3) := by decide +kernel
theorem d5_42 : decode prog_29_method_2_code 42 = .ok (.iconst 1, 1) := by decide +kernel
theorem d5_43 : decode prog_29_method_2_code 43 = .ok (.ireturn, 1) := by decide +kernel
theorem ef_5_a (m : MethodId) (a1 : Addr) (q2 : Int64) : entryFrame m #[(.ref a1), (.long q2)] 3 = mkF m 0 #[.val (.ref a1), .val (.long q2), .second] [] := by first | (simp [entryFrame, mkF, argsToLocals, Value.category]; done) | rfl
def Q5_a (Z : State) (a1 : Addr) (q2 : Int64) (nL : Int32) (nt : Int64) (na : Int64) (ni : Int32) (dq : Addr) (hh : Int32) (h0 : Heap) (n0 : Nat) (v : Option Value) (h : Heap) (L : List Loc) : Prop := v = some (.int (1 : Int32)) ∧ Fr n0 L ∧ n0 ≤ h.size ∧ own_Bn Z h n0 a1 nL (own_tk3 nL q2 nt ni)
theorem own_at_5_a_hlf_0 (q2 : Int64) (nL : Int32) (nt : Int64) (na : Int64) (ni : Int32) (hc6 : ¬ (q2 < na)) : own_tk3 nL q2 nt ni = (((nt + nL.toInt64), (q2 + nL.toInt64), ni, 3, ((0 : Int32), (0 : Int64), (0 : Int64), (0 : Int32), (0 : Int64)), ((0 : Int32), (0 : Int64))) : own_A) := by
  skip
  rfl
set_option maxRecDepth 65536 in
set_option maxHeartbeats 40000000 in
theorem rm5_a (l : Launch) (Z : State) (a0 : Array Value) (hw : ∀ d ∈ tables_1, d.before a0 Z = true) (ws : List Jvm.Cond) (a1 : Addr) (q2 : Int64) (nL : Int32) (nt : Int64) (na : Int64) (ni : Int32) (dq : Addr) (hh : Int32) (h0 : Heap) (n0 : Nat) (Z0 : n0 ≤ h0.size) (E_dq : Exa Z h0 dq own_cD) (F_a1_length : Fld Z h0 a1 own_cC "length" "I" (.int nL)) (F_a1_turns : Fld Z h0 a1 own_cC "turns" "J" (.long nt)) (F_a1_alike : Fld Z h0 a1 own_cC "alike" "J" (.long na)) (F_a1_idle : Fld Z h0 a1 own_cC "idle" "I" (.int ni)) (F_a1_chains : Fld Z h0 a1 own_cC "chains" "Ljava/util/ArrayDeque;" (.ref dq)) (F_dq_head : Fld Z h0 dq own_cD "head" "I" (.int hh)) (F_dq_tail : Fld Z h0 dq own_cD "tail" "I" (.int hh)) (hc6 : ¬ (q2 < na)) (E_a1 : Exa Z h0 a1 own_cC) (ne_dq_a1 : dq ≠ a1) (g_a1 : n0 ≤ a1) :
    own_Met l (⟨own_cC, "onOccurrence", "(J)Z"⟩ : MethodName) prog_29_method_2_code 3 (some .boolean) ws ({ frames := 4, cells := 1, slots := 5, locals := 70 } : Room) #[(.ref a1), (.long q2)] Z h0 (Q5_a Z a1 q2 nL nt na ni dq hh h0 n0) := by
  refine own_met (plainFor_of_name pn_3) ?_
  intro p e s m below meth c s₁ Bd hx hby hml hZ hown hnm X0 e0
  have wd : ∀ (i : Nat) (d : Jvm.Cond), tables_1[i]? = some d → d.before a0 Z = true := fun i d q => hw d (List.mem_of_getElem? q)
  have NN := Fr.nil n0
  have KK : Keep h0 h0 [a1] := Keep.refl h0 _
  refine own_start (ef_5_a m a1 q2) ?_
  refine cs_lloadN cG X0 hx (hb hby d5_0) rfl ?_
  refine cs_aloadN cG X0 hx (hb hby d5_1) rfl rfl ?_
  refine cs_get cG X0 hx hZ hown (wd 31 _ rfl) e0 F_a1_alike (hb hby d5_2) ?_
  intro T1 X1 e1
  refine cs_lcmp cG X1 hx (hb hby d5_5) ?_
  refine cs_ifNo cG X1 hx (hb hby d5_6) ((if0 _ _).trans (flt (fun q => hc6 ((lw_lt q2 na).mp q))).1) ?_
  refine cs_aloadN cG X1 hx (hb hby d5_9) rfl rfl ?_
  refine cs_lloadN cG X1 hx (hb hby d5_10) rfl ?_
  refine cs_aloadN cG X1 hx (hb hby d5_11) rfl rfl ?_
  refine cs_get cG X1 hx hZ hown (wd 29 _ rfl) e1 F_a1_length (hb hby d5_12) ?_
  intro T2 X2 e2
  refine cs_i2l cG X2 hx (hb hby d5_15) rfl ?_
  refine cs_ladd cG X2 hx (hb hby d5_16) rfl ?_
  refine cs_put cG X2 hx hZ hown (wd 31 _ rfl) e2 F_a1_alike E_a1 (Or.inl (wd 32 _ rfl)) (wd 2 _ rfl) (ty := .long) (by decide) rfl rfl (hb hby d5_17) ?_
  intro T3 h3 X3 e3 W3
  have E_dq := E_dq.wr W3
  have F_a1_length := F_a1_length.other W3 (Or.inr (slot_ne (Or.inr (wd 30 _ rfl)) (Or.inl (wd 32 _ rfl)) (by decide) (t := .int) (t' := .long) (by decide) (by decide)))
  have F_a1_turns := F_a1_turns.other W3 (Or.inr (slot_ne (Or.inl (wd 39 _ rfl)) (Or.inl (wd 32 _ rfl)) (by decide) (t := .long) (t' := .long) (by decide) (by decide)))
  have F_a1_alike := F_a1_alike.same W3
  have F_a1_idle := F_a1_idle.other W3 (Or.inr (slot_ne (Or.inl (wd 64 _ rfl)) (Or.inl (wd 32 _ rfl)) (by decide) (t := .int) (t' := .long) (by decide) (by decide)))
  have F_a1_chains := F_a1_chains.other W3 (Or.inr (slot_ne (Or.inr (wd 28 _ rfl)) (Or.inl (wd 32 _ rfl)) (by decide) (t := (.object own_cD)) (t' := .long) (by decide) (by decide)))
  have F_dq_head := F_dq_head.other W3 (Or.inl ne_dq_a1)
  have F_dq_tail := F_dq_tail.other W3 (Or.inl ne_dq_a1)
  have E_a1 := E_a1.wr W3
  have Z0 := Nat.le_trans Z0 (Keep.of_wr W3).1
  have NN := Fr.snoc X3 NN g_a1
  refine cs_aloadN cG X3 hx (hb hby d5_20) rfl rfl ?_
  refine cs_dup cG X3 hx (hb hby d5_21) rfl ?_
  refine cs_get cG X3 hx hZ hown (wd 38 _ rfl) e3 F_a1_turns (hb hby d5_22) ?_
  intro T4 X4 e4
  refine cs_aloadN cG X4 hx (hb hby d5_25) rfl rfl ?_
  refine cs_get cG X4 hx hZ hown (wd 29 _ rfl) e4 F_a1_length (hb hby d5_26) ?_
  intro T5 X5 e5
  refine cs_i2l cG X5 hx (hb hby d5_29) rfl ?_
  refine cs_ladd cG X5 hx (hb hby d5_30) rfl ?_
  refine cs_put cG X5 hx hZ hown (wd 38 _ rfl) e5 F_a1_turns E_a1 (Or.inl (wd 39 _ rfl)) (wd 2 _ rfl) (ty := .long) (by decide) rfl rfl (hb hby d5_31) ?_
  intro T6 h6 X6 e6 W6
  have E_dq := E_dq.wr W6
  have F_a1_length := F_a1_length.other W6 (Or.inr (slot_ne (Or.inr (wd 30 _ rfl)) (Or.inl (wd 39 _ rfl)) (by decide) (t := .int) (t' := .long) (by decide) (by decide)))
  have F_a1_turns := F_a1_turns.same W6
  have F_a1_alike := F_a1_alike.other W6 (Or.inr (slot_ne (Or.inl (wd 32 _ rfl)) (Or.inl (wd 39 _ rfl)) (by decide) (t := .long) (t' := .long) (by decide) (by decide)))
  have F_a1_idle := F_a1_idle.other W6 (Or.inr (slot_ne (Or.inl (wd 64 _ rfl)) (Or.inl (wd 39 _ rfl)) (by decide) (t := .int) (t' := .long) (by decide) (by decide)))
  have F_a1_chains := F_a1_chains.other W6 (Or.inr (slot_ne (Or.inr (wd 28 _ rfl)) (Or.inl (wd 39 _ rfl)) (by decide) (t := (.object own_cD)) (t' := .long) (by decide) (by decide)))
  have F_dq_head := F_dq_head.other W6 (Or.inl ne_dq_a1)
  have F_dq_tail := F_dq_tail.other W6 (Or.inl ne_dq_a1)
  have E_a1 := E_a1.wr W6
  have Z0 := Nat.le_trans Z0 (Keep.of_wr W6).1
  have NN := Fr.snoc X6 NN g_a1
  refine cs_goto cG X6 hx (pc' := 42) (hb hby d5_34) (by decide) (by decide) ?_
  refine cs_iconst cG X6 hx (hb hby d5_42) (z := (1 : Int32)) rfl ?_
  show own_Go _ _ _ _ T6 (mkF m 43 #[vr a1, vj q2, .second] [(.int (1 : Int32))])
  obtain ⟨fs, hr, hrun, hended, hW, hsame⟩ := X6.leave (v := some (.int (1 : Int32))) (fun h => by rw [Bd.returns] at h; cases h)
  refine ⟨_, _, ?_, hrun, hended, _, _, rfl, ?_, ⟨_, rfl⟩, hW, hsame.mono (by decide) (by decide)⟩
  · exact retN X6 hx (t := .boolean) Bd.returns (by simp) (hb hby d5_43) hr
  · show Q5_a Z a1 q2 nL nt na ni dq hh h0 n0 _ T6.heap _
    rw [e6]
    have hlf_0 : own_tk3 nL q2 nt ni = (((nt + nL.toInt64), (q2 + nL.toInt64), ni, 3, ((0 : Int32), (0 : Int64), (0 : Int64), (0 : Int32), (0 : Int64)), ((0 : Int32), (0 : Int64))) : own_A) := own_at_5_a_hlf_0 q2 nL nt na ni hc6
    exact ⟨rfl, NN, Z0, (by rw [hlf_0]; exact own_mk3 E_a1 g_a1 F_a1_length F_a1_turns F_a1_alike F_a1_idle F_a1_chains E_dq ne_dq_a1 F_dq_head F_dq_tail)⟩
theorem d5_37 : decode prog_29_method_2_code 37 = .ok (.aload_n 0, 1) := by decide +kernel
theorem d5_38 : decode prog_29_method_2_code 38 = .ok (.lload_n 1, 1) := by decide +kernel
theorem d5_39 : decode prog_29_method_2_code 39 = .ok (.invokevirtual 27, 3) := by decide +kernel
theorem pd_3 : parseMethodDescriptor "(J)V" = some ⟨[.long], none⟩ := by decide +kernel
theorem ef_5_s (m : MethodId) (a1 : Addr) (q2 : Int64) : entryFrame m #[(.ref a1), (.long q2)] 3 = mkF m 0 #[.val (.ref a1), .val (.long q2), .second] [] := by first | (simp [entryFrame, mkF, argsToLocals, Value.category]; done) | rfl
def Q5_s (Z : State) (a1 : Addr) (q2 : Int64) (nL : Int32) (nt : Int64) (na : Int64) (ni : Int32) (dq : Addr) (hh : Int32) (h0 : Heap) (n0 : Nat) (v : Option Value) (h : Heap) (L : List Loc) : Prop := v = some (.int (1 : Int32)) ∧ Fr n0 L ∧ n0 ≤ h.size ∧ own_Bn Z h n0 a1 nL (own_tks nt na ni)
theorem own_at_5_s_hlf_0 (q2 : Int64) (nt : Int64) (na : Int64) (ni : Int32) (hc6 : q2 < na) (hhc16_39 : (0 : Int64) < nt) : own_tks nt na ni = ((nt, na, ni, 3, ((0 : Int32), (0 : Int64), (0 : Int64), (0 : Int32), (0 : Int64)), ((0 : Int32), (0 : Int64))) : own_A) := by
  skip
  rfl
set_option maxRecDepth 65536 in
set_option maxHeartbeats 40000000 in
theorem rm5_s (l : Launch) (Z : State) (a0 : Array Value) (hw : ∀ d ∈ tables_1, d.before a0 Z = true) (ws : List Jvm.Cond) (a1 : Addr) (q2 : Int64) (nL : Int32) (nt : Int64) (na : Int64) (ni : Int32) (dq : Addr) (hh : Int32) (h0 : Heap) (n0 : Nat) (Z0 : n0 ≤ h0.size) (E_dq : Exa Z h0 dq own_cD) (E_a1 : Exa Z h0 a1 own_cC) (F_a1_length : Fld Z h0 a1 own_cC "length" "I" (.int nL)) (F_a1_turns : Fld Z h0 a1 own_cC "turns" "J" (.long nt)) (F_a1_alike : Fld Z h0 a1 own_cC "alike" "J" (.long na)) (F_a1_idle : Fld Z h0 a1 own_cC "idle" "I" (.int ni)) (F_a1_chains : Fld Z h0 a1 own_cC "chains" "Ljava/util/ArrayDeque;" (.ref dq)) (F_dq_head : Fld Z h0 dq own_cD "head" "I" (.int hh)) (F_dq_tail : Fld Z h0 dq own_cD "tail" "I" (.int hh)) (hc6 : q2 < na) (hhc16_39 : (0 : Int64) < nt) (g_a1 : n0 ≤ a1) (ne_dq_a1 : dq ≠ a1) :
    own_Met l (⟨own_cC, "onOccurrence", "(J)Z"⟩ : MethodName) prog_29_method_2_code 3 (some .boolean) ws ({ frames := 4, cells := 1, slots := 5, locals := 70 } : Room) #[(.ref a1), (.long q2)] Z h0 (Q5_s Z a1 q2 nL nt na ni dq hh h0 n0) := by
  refine own_met (plainFor_of_name pn_3) ?_
  intro p e s m below meth c s₁ Bd hx hby hml hZ hown hnm X0 e0
  have wd : ∀ (i : Nat) (d : Jvm.Cond), tables_1[i]? = some d → d.before a0 Z = true := fun i d q => hw d (List.mem_of_getElem? q)
  have NN := Fr.nil n0
  have KK : Keep h0 h0 [] := Keep.refl h0 _
  refine own_start (ef_5_s m a1 q2) ?_
  refine cs_lloadN cG X0 hx (hb hby d5_0) rfl ?_
  refine cs_aloadN cG X0 hx (hb hby d5_1) rfl rfl ?_
  refine cs_get cG X0 hx hZ hown (wd 31 _ rfl) e0 F_a1_alike (hb hby d5_2) ?_
  intro T1 X1 e1
  refine cs_lcmp cG X1 hx (hb hby d5_5) ?_
  refine cs_ifYes cG X1 hx (pc' := 37) (hb hby d5_6) ((if0 _ _).trans (tlt ((lw_lt q2 na).mpr hc6)).1) (by decide) (by decide) ?_
  refine cs_aloadN cG X1 hx (hb hby d5_37) rfl rfl ?_
  refine cs_lloadN cG X1 hx (hb hby d5_38) rfl ?_
  refine cs_P cG X1 hx hZ hown (wd 40 _ rfl) (wd 41 _ rfl) (wd 42 _ rfl) (wd 36 _ rfl) rfl (wd 3 _ rfl) (wd 43 _ rfl) (by decide) (rm6_x l Z a0 hw [] a1 q2 dq hh nt h0 n0 Z0 F_a1_chains F_dq_head F_dq_tail E_dq F_a1_turns hhc16_39) (by decide) (by decide) (by decide) (by decide) e1 E_a1 (by rw [hml]; rfl) (argsL := [(.long q2)]) (S := []) (lenOf pd_3 rfl) rfl (W := 0) (Nat.le_of_eq rfl) (hb hby d5_39) rfl ?_
  intro v2 T2 L2 X2 hQ2
  obtain ⟨rfl, N2q, e2⟩ := hQ2
  have NN := Fr.app NN N2q
  show own_Go _ _ _ _ T2 (mkF m 42 #[vr a1, vj q2, .second] [])
  refine cs_iconst cG X2 hx (hb hby d5_42) (z := (1 : Int32)) rfl ?_
  show own_Go _ _ _ _ T2 (mkF m 43 #[vr a1, vj q2, .second] [(.int (1 : Int32))])
  obtain ⟨fs, hr, hrun, hended, hW, hsame⟩ := X2.leave (v := some (.int (1 : Int32))) (fun h => by rw [Bd.returns] at h; cases h)
  refine ⟨_, _, ?_, hrun, hended, _, _, rfl, ?_, ⟨_, rfl⟩, hW, hsame.mono (by decide) (by decide)⟩
  · exact retN X2 hx (t := .boolean) Bd.returns (by simp) (hb hby d5_43) hr
  · show Q5_s Z a1 q2 nL nt na ni dq hh h0 n0 _ T2.heap _
    rw [e2]
    have hlf_0 : own_tks nt na ni = ((nt, na, ni, 3, ((0 : Int32), (0 : Int64), (0 : Int64), (0 : Int32), (0 : Int64)), ((0 : Int32), (0 : Int64))) : own_A) := own_at_5_s_hlf_0 q2 nt na ni hc6 hhc16_39
    exact ⟨rfl, NN, Z0, (by rw [hlf_0]; exact own_mk3 E_a1 g_a1 F_a1_length F_a1_turns F_a1_alike F_a1_idle F_a1_chains E_dq ne_dq_a1 F_dq_head F_dq_tail)⟩
theorem ef_5_b (m : MethodId) (a1 : Addr) (q2 : Int64) : entryFrame m #[(.ref a1), (.long q2)] 3 = mkF m 0 #[.val (.ref a1), .val (.long q2), .second] [] := by first | (simp [entryFrame, mkF, argsToLocals, Value.category]; done) | rfl
def Q5_b (Z : State) (a1 : Addr) (q2 : Int64) (nL : Int32) (nt : Int64) (na : Int64) (ni : Int32) (dq : Addr) (ar : Addr) (k_ar : ClassId) (h0 : Heap) (n0 : Nat) (v : Option Value) (h : Heap) (L : List Loc) : Prop := v = some (.int (1 : Int32)) ∧ Fr n0 L ∧ n0 ≤ h.size ∧ own_Bn Z h n0 a1 nL (own_tk0 nL q2 nt ni)
set_option maxRecDepth 65536 in
set_option maxHeartbeats 40000000 in
theorem rm5_b (l : Launch) (Z : State) (a0 : Array Value) (hw : ∀ d ∈ tables_1, d.before a0 Z = true) (ws : List Jvm.Cond) (a1 : Addr) (q2 : Int64) (nL : Int32) (nt : Int64) (na : Int64) (ni : Int32) (dq : Addr) (ar : Addr) (k_ar : ClassId) (h0 : Heap) (n0 : Nat) (Z0 : n0 ≤ h0.size) (F_a1_length : Fld Z h0 a1 own_cC "length" "I" (.int nL)) (F_a1_turns : Fld Z h0 a1 own_cC "turns" "J" (.long nt)) (F_a1_alike : Fld Z h0 a1 own_cC "alike" "J" (.long na)) (F_a1_idle : Fld Z h0 a1 own_cC "idle" "I" (.int ni)) (F_a1_chains : Fld Z h0 a1 own_cC "chains" "Ljava/util/ArrayDeque;" (.ref dq)) (F_dq_head : Fld Z h0 dq own_cD "head" "I" (.int (0 : Int32))) (F_dq_tail : Fld Z h0 dq own_cD "tail" "I" (.int (0 : Int32))) (F_dq_elements : Fld Z h0 dq own_cD "elements" "[Ljava/lang/Object;" (.ref ar)) (hc6 : q2 < na) (E_dq : Exa Z h0 dq own_cD) (E_a1 : Exa Z h0 a1 own_cC) (ne_dq_a1 : dq ≠ a1) (g_a1 : n0 ≤ a1) (O_ar : Ovr Z k_ar "java/lang/Object") (V_ar : Arv Z h0 ar k_ar (.object "java/lang/Object") (17 : Int32) [.null, .null, .null, .null, .null, .null, .null, .null, .null, .null, .null, .null, .null, .null, .null, .null, .null] .null) (ne_dq_ar : dq ≠ ar) (g_ar : n0 ≤ ar) (g_dq : n0 ≤ dq) (ne_a1_ar : a1 ≠ ar) (hhhc8_198_39 : (r_10 (q2 + (1 : Int64)) (nL.toInt64)).toInt32 < nL) (hhc211_39 : ¬ ((r_10 (q2 + (1 : Int64)) (nL.toInt64)).toInt32 = ni)) (hhhnz2_230_39 : ¬ (nL = (0 : Int32))) (hhc246_39 : ¬ ((r_10 (q2 + (1 : Int64)) (nL.toInt64)).toInt32 = nL)) (hhc16_39 : ¬ ((0 : Int64) < nt)) (hhhc8_28_39 : ni < nL) (hhc43_39 : ni < nL) (hhc53_39 : ¬ (q2 < ni.toInt64)) :
    own_Met l (⟨own_cC, "onOccurrence", "(J)Z"⟩ : MethodName) prog_29_method_2_code 3 (some .boolean) ws ({ frames := 4, cells := 1, slots := 5, locals := 70 } : Room) #[(.ref a1), (.long q2)] Z h0 (Q5_b Z a1 q2 nL nt na ni dq ar k_ar h0 n0) := by
  refine own_met (plainFor_of_name pn_3) ?_
  intro p e s m below meth c s₁ Bd hx hby hml hZ hown hnm X0 e0
  have wd : ∀ (i : Nat) (d : Jvm.Cond), tables_1[i]? = some d → d.before a0 Z = true := fun i d q => hw d (List.mem_of_getElem? q)
  have NN := Fr.nil n0
  have KK : Keep h0 h0 [] := Keep.refl h0 _
  refine own_start (ef_5_b m a1 q2) ?_
  refine cs_lloadN cG X0 hx (hb hby d5_0) rfl ?_
  refine cs_aloadN cG X0 hx (hb hby d5_1) rfl rfl ?_
  refine cs_get cG X0 hx hZ hown (wd 31 _ rfl) e0 F_a1_alike (hb hby d5_2) ?_
  intro T1 X1 e1
  refine cs_lcmp cG X1 hx (hb hby d5_5) ?_
  refine cs_ifYes cG X1 hx (pc' := 37) (hb hby d5_6) ((if0 _ _).trans (tlt ((lw_lt q2 na).mpr hc6)).1) (by decide) (by decide) ?_
  refine cs_aloadN cG X1 hx (hb hby d5_37) rfl rfl ?_
  refine cs_lloadN cG X1 hx (hb hby d5_38) rfl ?_
  refine cs_P cG X1 hx hZ hown (wd 40 _ rfl) (wd 41 _ rfl) (wd 42 _ rfl) (wd 36 _ rfl) rfl (wd 3 _ rfl) (wd 43 _ rfl) (by decide) (rm6_0 l Z a0 hw [] a1 q2 nL nt na ni dq ar k_ar h0 n0 Z0 F_a1_length F_a1_turns F_a1_alike F_a1_idle F_a1_chains F_dq_head F_dq_tail F_dq_elements E_dq hhc16_39 E_a1 ne_dq_a1 g_a1 hhhc8_28_39 hhhc8_28_39 hhc53_39 O_ar V_ar ne_dq_ar g_ar g_dq ne_a1_ar hhhc8_198_39 hhc211_39 hhhnz2_230_39 hhc246_39) (by decide) (by decide) (by decide) (by decide) e1 E_a1 (by rw [hml]; rfl) (argsL := [(.long q2)]) (S := []) (lenOf pd_3 rfl) rfl (W := 0) (Nat.le_of_eq rfl) (hb hby d5_39) rfl ?_
  intro v2 T2 L2 X2 hQ2
  obtain ⟨rfl, N2q, Z0, R2⟩ := hQ2
  have NN := Fr.app NN N2q
  show own_Go _ _ _ _ T2 (mkF m 42 #[vr a1, vj q2, .second] [])
  refine cs_iconst cG X2 hx (hb hby d5_42) (z := (1 : Int32)) rfl ?_
  show own_Go _ _ _ _ T2 (mkF m 43 #[vr a1, vj q2, .second] [(.int (1 : Int32))])
  obtain ⟨fs, hr, hrun, hended, hW, hsame⟩ := X2.leave (v := some (.int (1 : Int32))) (fun h => by rw [Bd.returns] at h; cases h)
  refine ⟨_, _, ?_, hrun, hended, _, _, rfl, ?_, ⟨_, rfl⟩, hW, hsame.mono (by decide) (by decide)⟩
  · exact retN X2 hx (t := .boolean) Bd.returns (by simp) (hb hby d5_43) hr
  · show Q5_b Z a1 q2 nL nt na ni dq ar k_ar h0 n0 _ T2.heap _
    exact ⟨rfl, NN, Z0, R2⟩
theorem ef_5_1 (m : MethodId) (a1 : Addr) (q2 : Int64) : entryFrame m #[(.ref a1), (.long q2)] 3 = mkF m 0 #[.val (.ref a1), .val (.long q2), .second] [] := by first | (simp [entryFrame, mkF, argsToLocals, Value.category]; done) | rfl
def Q5_1 (Z : State) (a1 : Addr) (q2 : Int64) (nL : Int32) (nt : Int64) (na : Int64) (ni : Int32) (dq : Addr) (ar : Addr) (fa0 : Int32) (ra0 : Int64) (sa0 : Int64) (ga0 : Int32) (ka0 : Int64) (k_ar : ClassId) (x0 : Addr) (h0 : Heap) (n0 : Nat) (v : Option Value) (h : Heap) (L : List Loc) : Prop := v = some (.int (1 : Int32)) ∧ Fr n0 L ∧ n0 ≤ h.size ∧ own_Bn Z h n0 a1 nL (own_tk1 nL q2 nt na ni fa0 ra0 sa0 ga0 ka0)
set_option maxRecDepth 65536 in
set_option maxHeartbeats 40000000 in
theorem rm5_1 (l : Launch) (Z : State) (a0 : Array Value) (hw : ∀ d ∈ tables_1, d.before a0 Z = true) (ws : List Jvm.Cond) (a1 : Addr) (q2 : Int64) (nL : Int32) (nt : Int64) (na : Int64) (ni : Int32) (dq : Addr) (ar : Addr) (fa0 : Int32) (ra0 : Int64) (sa0 : Int64) (ga0 : Int32) (ka0 : Int64) (k_ar : ClassId) (x0 : Addr) (h0 : Heap) (n0 : Nat) (Z0 : n0 ≤ h0.size) (F_a1_length : Fld Z h0 a1 own_cC "length" "I" (.int nL)) (F_a1_turns : Fld Z h0 a1 own_cC "turns" "J" (.long nt)) (F_a1_alike : Fld Z h0 a1 own_cC "alike" "J" (.long na)) (F_a1_idle : Fld Z h0 a1 own_cC "idle" "I" (.int ni)) (F_a1_chains : Fld Z h0 a1 own_cC "chains" "Ljava/util/ArrayDeque;" (.ref dq)) (F_dq_head : Fld Z h0 dq own_cD "head" "I" (.int (0 : Int32))) (F_dq_tail : Fld Z h0 dq own_cD "tail" "I" (.int (1 : Int32))) (F_dq_elements : Fld Z h0 dq own_cD "elements" "[Ljava/lang/Object;" (.ref ar)) (F_x0_from : Fld Z h0 x0 own_cP "from" "I" (.int fa0)) (F_x0_resume : Fld Z h0 x0 own_cP "resume" "J" (.long ra0)) (F_x0_size : Fld Z h0 x0 own_cP "size" "J" (.long sa0)) (F_x0_fromStep : Fld Z h0 x0 own_cP "fromStep" "I" (.int ga0)) (F_x0_resumeStep : Fld Z h0 x0 own_cP "resumeStep" "J" (.long ka0)) (hc6 : q2 < na) (E_dq : Exa Z h0 dq own_cD) (O_ar : Ovr Z k_ar "java/lang/Object") (V_ar : Arv Z h0 ar k_ar (.object "java/lang/Object") (17 : Int32) [(.ref x0), .null, .null, .null, .null, .null, .null, .null, .null, .null, .null, .null, .null, .null, .null, .null, .null] .null) (E_x0 : Exa Z h0 x0 own_cP) (E_a1 : Exa Z h0 a1 own_cC) (ne_dq_a1 : dq ≠ a1) (ne_x0_a1 : x0 ≠ a1) (ne_ar_a1 : ar ≠ a1) (g_a1 : n0 ≤ a1) (g_dq : n0 ≤ dq) (g_ar : n0 ≤ ar) (ne_dq_ar : dq ≠ ar) (g_x0 : n0 ≤ x0) (ne_dq_x0 : dq ≠ x0) (ne_ar_x0 : ar ≠ x0) (hhN_39 : own_N1 q2 nL ni ra0 sa0 ka0) (hhhhnz26_25_194_39 : ¬ (nL.toInt64 = (0 : Int64))) (hhhhhnz2_31_25_194_39 : ¬ (nL = (0 : Int32))) (hhhnz2_230_39 : ¬ (nL = (0 : Int32))) (hhnz132_39 : ¬ (ka0 = (0 : Int64))) (hhhnz16_162_39 : ¬ (nL.toInt64 = (0 : Int64))) :
    own_Met l (⟨own_cC, "onOccurrence", "(J)Z"⟩ : MethodName) prog_29_method_2_code 3 (some .boolean) ws ({ frames := 4, cells := 1, slots := 5, locals := 70 } : Room) #[(.ref a1), (.long q2)] Z h0 (Q5_1 Z a1 q2 nL nt na ni dq ar fa0 ra0 sa0 ga0 ka0 k_ar x0 h0 n0) := by
  refine own_met (plainFor_of_name pn_3) ?_
  intro p e s m below meth c s₁ Bd hx hby hml hZ hown hnm X0 e0
  have wd : ∀ (i : Nat) (d : Jvm.Cond), tables_1[i]? = some d → d.before a0 Z = true := fun i d q => hw d (List.mem_of_getElem? q)
  have NN := Fr.nil n0
  have KK : Keep h0 h0 [] := Keep.refl h0 _
  refine own_start (ef_5_1 m a1 q2) ?_
  refine cs_lloadN cG X0 hx (hb hby d5_0) rfl ?_
  refine cs_aloadN cG X0 hx (hb hby d5_1) rfl rfl ?_
  refine cs_get cG X0 hx hZ hown (wd 31 _ rfl) e0 F_a1_alike (hb hby d5_2) ?_
  intro T1 X1 e1
  refine cs_lcmp cG X1 hx (hb hby d5_5) ?_
  refine cs_ifYes cG X1 hx (pc' := 37) (hb hby d5_6) ((if0 _ _).trans (tlt ((lw_lt q2 na).mpr hc6)).1) (by decide) (by decide) ?_
  refine cs_aloadN cG X1 hx (hb hby d5_37) rfl rfl ?_
  refine cs_lloadN cG X1 hx (hb hby d5_38) rfl ?_
  refine cs_P cG X1 hx hZ hown (wd 40 _ rfl) (wd 41 _ rfl) (wd 42 _ rfl) (wd 36 _ rfl) rfl (wd 3 _ rfl) (wd 43 _ rfl) (by decide) (rm6_1 l Z a0 hw [] a1 q2 nL nt na ni dq ar fa0 ra0 sa0 ga0 ka0 k_ar x0 h0 n0 Z0 F_a1_length F_a1_turns F_a1_alike F_a1_idle F_a1_chains F_dq_head F_dq_tail F_dq_elements F_x0_from F_x0_resume F_x0_size F_x0_fromStep F_x0_resumeStep hhN_39 E_dq O_ar V_ar E_x0 E_a1 ne_dq_a1 ne_x0_a1 ne_ar_a1 g_a1 g_dq g_ar ne_dq_ar g_x0 ne_dq_x0 ne_ar_x0 hhhhnz26_25_194_39 hhhhhnz2_31_25_194_39 hhhhhnz2_31_25_194_39 hhnz132_39 hhhhnz26_25_194_39) (by decide) (by decide) (by decide) (by decide) e1 E_a1 (by rw [hml]; rfl) (argsL := [(.long q2)]) (S := []) (lenOf pd_3 rfl) rfl (W := 0) (Nat.le_of_eq rfl) (hb hby d5_39) rfl ?_
  intro v2 T2 L2 X2 hQ2
  obtain ⟨rfl, N2q, Z0, R2⟩ := hQ2
  have NN := Fr.app NN N2q
  show own_Go _ _ _ _ T2 (mkF m 42 #[vr a1, vj q2, .second] [])
  refine cs_iconst cG X2 hx (hb hby d5_42) (z := (1 : Int32)) rfl ?_
  show own_Go _ _ _ _ T2 (mkF m 43 #[vr a1, vj q2, .second] [(.int (1 : Int32))])
  obtain ⟨fs, hr, hrun, hended, hW, hsame⟩ := X2.leave (v := some (.int (1 : Int32))) (fun h => by rw [Bd.returns] at h; cases h)
  refine ⟨_, _, ?_, hrun, hended, _, _, rfl, ?_, ⟨_, rfl⟩, hW, hsame.mono (by decide) (by decide)⟩
  · exact retN X2 hx (t := .boolean) Bd.returns (by simp) (hb hby d5_43) hr
  · show Q5_1 Z a1 q2 nL nt na ni dq ar fa0 ra0 sa0 ga0 ka0 k_ar x0 h0 n0 _ T2.heap _
    exact ⟨rfl, NN, Z0, R2⟩
theorem ef_5_2 (m : MethodId) (a1 : Addr) (q2 : Int64) : entryFrame m #[(.ref a1), (.long q2)] 3 = mkF m 0 #[.val (.ref a1), .val (.long q2), .second] [] := by first | (simp [entryFrame, mkF, argsToLocals, Value.category]; done) | rfl
def Q5_2 (Z : State) (a1 : Addr) (q2 : Int64) (nL : Int32) (nt : Int64) (na : Int64) (ni : Int32) (dq : Addr) (ar : Addr) (fa0 : Int32) (ra0 : Int64) (sa0 : Int64) (ga0 : Int32) (ka0 : Int64) (fa1 : Int32) (ra1 : Int64) (k_ar : ClassId) (x0 : Addr) (x1 : Addr) (h0 : Heap) (n0 : Nat) (v : Option Value) (h : Heap) (L : List Loc) : Prop := v = some (.int (1 : Int32)) ∧ Fr n0 L ∧ n0 ≤ h.size ∧ own_Bn Z h n0 a1 nL (own_tk2 nL q2 nt na ni fa0 ra0 sa0 ga0 ka0 fa1 ra1)
set_option maxRecDepth 65536 in
set_option maxHeartbeats 40000000 in
theorem rm5_2 (l : Launch) (Z : State) (a0 : Array Value) (hw : ∀ d ∈ tables_1, d.before a0 Z = true) (ws : List Jvm.Cond) (a1 : Addr) (q2 : Int64) (nL : Int32) (nt : Int64) (na : Int64) (ni : Int32) (dq : Addr) (ar : Addr) (fa0 : Int32) (ra0 : Int64) (sa0 : Int64) (ga0 : Int32) (ka0 : Int64) (fa1 : Int32) (ra1 : Int64) (k_ar : ClassId) (x0 : Addr) (x1 : Addr) (h0 : Heap) (n0 : Nat) (Z0 : n0 ≤ h0.size) (F_a1_length : Fld Z h0 a1 own_cC "length" "I" (.int nL)) (F_a1_turns : Fld Z h0 a1 own_cC "turns" "J" (.long nt)) (F_a1_alike : Fld Z h0 a1 own_cC "alike" "J" (.long na)) (F_a1_idle : Fld Z h0 a1 own_cC "idle" "I" (.int ni)) (F_a1_chains : Fld Z h0 a1 own_cC "chains" "Ljava/util/ArrayDeque;" (.ref dq)) (F_dq_head : Fld Z h0 dq own_cD "head" "I" (.int (0 : Int32))) (F_dq_tail : Fld Z h0 dq own_cD "tail" "I" (.int (2 : Int32))) (F_dq_elements : Fld Z h0 dq own_cD "elements" "[Ljava/lang/Object;" (.ref ar)) (F_x0_from : Fld Z h0 x0 own_cP "from" "I" (.int fa0)) (F_x0_resume : Fld Z h0 x0 own_cP "resume" "J" (.long ra0)) (F_x0_size : Fld Z h0 x0 own_cP "size" "J" (.long sa0)) (F_x0_fromStep : Fld Z h0 x0 own_cP "fromStep" "I" (.int ga0)) (F_x0_resumeStep : Fld Z h0 x0 own_cP "resumeStep" "J" (.long ka0)) (F_x1_from : Fld Z h0 x1 own_cP "from" "I" (.int fa1)) (F_x1_resume : Fld Z h0 x1 own_cP "resume" "J" (.long ra1)) (F_x1_size : Fld Z h0 x1 own_cP "size" "J" (.long (1 : Int64))) (F_x1_fromStep : Fld Z h0 x1 own_cP "fromStep" "I" (.int (0 : Int32))) (F_x1_resumeStep : Fld Z h0 x1 own_cP "resumeStep" "J" (.long (1 : Int64))) (hc6 : q2 < na) (E_dq : Exa Z h0 dq own_cD) (O_ar : Ovr Z k_ar "java/lang/Object") (V_ar : Arv Z h0 ar k_ar (.object "java/lang/Object") (17 : Int32) [(.ref x0), (.ref x1), .null, .null, .null, .null, .null, .null, .null, .null, .null, .null, .null, .null, .null, .null, .null] .null) (E_x0 : Exa Z h0 x0 own_cP) (E_a1 : Exa Z h0 a1 own_cC) (ne_dq_a1 : dq ≠ a1) (ne_x0_a1 : x0 ≠ a1) (ne_x1_a1 : x1 ≠ a1) (ne_ar_a1 : ar ≠ a1) (g_a1 : n0 ≤ a1) (E_x1 : Exa Z h0 x1 own_cP) (g_x1 : n0 ≤ x1) (ne_dq_x1 : dq ≠ x1) (ne_ar_x1 : ar ≠ x1) (ne_x0_x1 : x0 ≠ x1) (g_x0 : n0 ≤ x0) (ne_dq_x0 : dq ≠ x0) (ne_ar_x0 : ar ≠ x0) (ne_dq_ar : dq ≠ ar) (g_ar : n0 ≤ ar) (g_dq : n0 ≤ dq) (hhN_39 : own_N2 q2 nL ni ra0 sa0 ka0 ra1) (hhhhnz26_25_194_39 : ¬ (nL.toInt64 = (0 : Int64))) (hhhhhnz2_31_25_194_39 : ¬ (nL = (0 : Int32))) (hhhnz2_230_39 : ¬ (nL = (0 : Int32))) (hhnz132_39 : ¬ (ka0 = (0 : Int64))) (hhhnz16_162_39 : ¬ (nL.toInt64 = (0 : Int64))) :
    own_Met l (⟨own_cC, "onOccurrence", "(J)Z"⟩ : MethodName) prog_29_method_2_code 3 (some .boolean) ws ({ frames := 4, cells := 1, slots := 5, locals := 70 } : Room) #[(.ref a1), (.long q2)] Z h0 (Q5_2 Z a1 q2 nL nt na ni dq ar fa0 ra0 sa0 ga0 ka0 fa1 ra1 k_ar x0 x1 h0 n0) := by
  refine own_met (plainFor_of_name pn_3) ?_
  intro p e s m below meth c s₁ Bd hx hby hml hZ hown hnm X0 e0
  have wd : ∀ (i : Nat) (d : Jvm.Cond), tables_1[i]? = some d → d.before a0 Z = true := fun i d q => hw d (List.mem_of_getElem? q)
  have NN := Fr.nil n0
  have KK : Keep h0 h0 [] := Keep.refl h0 _
  refine own_start (ef_5_2 m a1 q2) ?_
  refine cs_lloadN cG X0 hx (hb hby d5_0) rfl ?_
  refine cs_aloadN cG X0 hx (hb hby d5_1) rfl rfl ?_
  refine cs_get cG X0 hx hZ hown (wd 31 _ rfl) e0 F_a1_alike (hb hby d5_2) ?_
  intro T1 X1 e1
  refine cs_lcmp cG X1 hx (hb hby d5_5) ?_
  refine cs_ifYes cG X1 hx (pc' := 37) (hb hby d5_6) ((if0 _ _).trans (tlt ((lw_lt q2 na).mpr hc6)).1) (by decide) (by decide) ?_
  refine cs_aloadN cG X1 hx (hb hby d5_37) rfl rfl ?_
  refine cs_lloadN cG X1 hx (hb hby d5_38) rfl ?_
  refine cs_P cG X1 hx hZ hown (wd 40 _ rfl) (wd 41 _ rfl) (wd 42 _ rfl) (wd 36 _ rfl) rfl (wd 3 _ rfl) (wd 43 _ rfl) (by decide) (rm6_2 l Z a0 hw [] a1 q2 nL nt na ni dq ar fa0 ra0 sa0 ga0 ka0 fa1 ra1 k_ar x0 x1 h0 n0 Z0 F_a1_length F_a1_turns F_a1_alike F_a1_idle F_a1_chains F_dq_head F_dq_tail F_dq_elements F_x0_from F_x0_resume F_x0_size F_x0_fromStep F_x0_resumeStep F_x1_from F_x1_resume F_x1_size F_x1_fromStep F_x1_resumeStep hhN_39 E_dq O_ar V_ar E_x0 E_a1 ne_dq_a1 ne_x0_a1 ne_x1_a1 ne_ar_a1 g_a1 E_x1 g_x1 ne_dq_x1 ne_ar_x1 hhhhnz26_25_194_39 hhhhhnz2_31_25_194_39 ne_x0_x1 hhhhhnz2_31_25_194_39 hhnz132_39 g_x0 hhhhnz26_25_194_39 ne_dq_x0 ne_ar_x0 ne_dq_ar g_ar g_dq) (by decide) (by decide) (by decide) (by decide) e1 E_a1 (by rw [hml]; rfl) (argsL := [(.long q2)]) (S := []) (lenOf pd_3 rfl) rfl (W := 0) (Nat.le_of_eq rfl) (hb hby d5_39) rfl ?_
  intro v2 T2 L2 X2 hQ2
  obtain ⟨rfl, N2q, Z0, R2⟩ := hQ2
  have NN := Fr.app NN N2q
  show own_Go _ _ _ _ T2 (mkF m 42 #[vr a1, vj q2, .second] [])
  refine cs_iconst cG X2 hx (hb hby d5_42) (z := (1 : Int32)) rfl ?_
  show own_Go _ _ _ _ T2 (mkF m 43 #[vr a1, vj q2, .second] [(.int (1 : Int32))])
  obtain ⟨fs, hr, hrun, hended, hW, hsame⟩ := X2.leave (v := some (.int (1 : Int32))) (fun h => by rw [Bd.returns] at h; cases h)
  refine ⟨_, _, ?_, hrun, hended, _, _, rfl, ?_, ⟨_, rfl⟩, hW, hsame.mono (by decide) (by decide)⟩
  · exact retN X2 hx (t := .boolean) Bd.returns (by simp) (hb hby d5_43) hr
  · show Q5_2 Z a1 q2 nL nt na ni dq ar fa0 ra0 sa0 ga0 ka0 fa1 ra1 k_ar x0 x1 h0 n0 _ T2.heap _
    exact ⟨rfl, NN, Z0, R2⟩
def QB (Z : State) (a1 : Addr) (nL : Int32) (B : own_A) (n0 : Nat) (v : Option Value) (h : Heap) (L : List Loc) : Prop := v = some (.int (1 : Int32)) ∧ Fr n0 L ∧ n0 ≤ h.size ∧ own_Bn Z h n0 a1 nL B
theorem rm5B (l : Launch) (Z : State) (a0 : Array Value) (hw : ∀ d ∈ tables_1, d.before a0 Z = true) (ws : List Jvm.Cond) (a1 : Addr) (q2 : Int64) (nL : Int32) (A : own_A) (h0 : Heap) (n0 : Nat) (Z0 : n0 ≤ h0.size) (hB : own_Bn Z h0 n0 a1 nL A) (hk : own_ok nL A q2 = true) :
    own_Met l (⟨own_cC, "onOccurrence", "(J)Z"⟩ : MethodName) prog_29_method_2_code 3 (some .boolean) ws ({ frames := 4, cells := 1, slots := 5, locals := 70 } : Room) #[(.ref a1), (.long q2)] Z h0 (QB Z a1 nL (own_step nL A q2) n0) := by
  obtain ⟨nt, na, ni, tag, ⟨fa0, ra0, sa0, ga0, ka0⟩, ⟨fa1, ra1⟩⟩ := A
  by_cases t0 : tag = 0
  · subst t0
    obtain ⟨dq, ar, k_ar, E_a1, g_a1, F_a1_length, F_a1_turns, F_a1_alike, F_a1_idle, F_a1_chains, E_dq, g_dq, ne_dq_a1, F_dq_head, F_dq_tail, F_dq_elements, O_ar, V_ar, g_ar, ne_ar_a1, ne_dq_ar⟩ := (hB : own_B0 Z h0 n0 a1 nL nt na ni)
    by_cases hc6 : q2 < na
    · have hs : own_step nL (nt, na, ni, 0, (fa0, ra0, sa0, ga0, ka0), (fa1, ra1)) q2 = own_tk0 nL q2 nt ni := if_pos hc6
      have hk' : decide (own_N0 q2 nt nL ni) = true := Eq.trans (if_pos hc6).symm hk
      obtain ⟨n1, n2, n3, n4, n5, n6, n7⟩ := of_decide_eq_true hk'
      rw [hs]
      exact rm5_b l Z a0 hw ws a1 q2 nL nt na ni dq ar k_ar h0 n0 Z0 F_a1_length F_a1_turns F_a1_alike F_a1_idle F_a1_chains F_dq_head F_dq_tail F_dq_elements (by assumption) E_dq E_a1 ne_dq_a1 g_a1 O_ar V_ar ne_dq_ar g_ar g_dq (Ne.symm ne_ar_a1) (by assumption) (by assumption) (by assumption) (by assumption) (by assumption) (by assumption) (by assumption) (by assumption)
    · have hs : own_step nL (nt, na, ni, 0, (fa0, ra0, sa0, ga0, ka0), (fa1, ra1)) q2 = own_tk3 nL q2 nt ni := if_neg hc6
      rw [hs]
      exact rm5_a l Z a0 hw ws a1 q2 nL nt na ni dq (0 : Int32) h0 n0 Z0 E_dq F_a1_length F_a1_turns F_a1_alike F_a1_idle F_a1_chains F_dq_head F_dq_tail (by assumption) E_a1 ne_dq_a1 g_a1
  by_cases t1 : tag = 1
  · subst t1
    obtain ⟨dq, ar, k_ar, x0, E_a1, g_a1, F_a1_length, F_a1_turns, F_a1_alike, F_a1_idle, F_a1_chains, E_dq, g_dq, ne_dq_a1, F_dq_head, F_dq_tail, F_dq_elements, O_ar, V_ar, g_ar, ne_ar_a1, ne_dq_ar, E_x0, g_x0, F_x0_from, F_x0_resume, F_x0_size, F_x0_fromStep, F_x0_resumeStep, ne_x0_a1, ne_dq_x0, ne_ar_x0⟩ := (hB : own_B1 Z h0 n0 a1 nL nt na ni fa0 ra0 sa0 ga0 ka0)
    obtain ⟨hc6, hN⟩ := of_decide_eq_true (hk : decide (q2 < na ∧ own_N1 q2 nL ni ra0 sa0 ka0) = true)
    have n1 := hN.1
    have n2 := hN.2.1
    have n3 := hN.2.2.1
    exact rm5_1 l Z a0 hw ws a1 q2 nL nt na ni dq ar fa0 ra0 sa0 ga0 ka0 k_ar x0 h0 n0 Z0 F_a1_length F_a1_turns F_a1_alike F_a1_idle F_a1_chains F_dq_head F_dq_tail F_dq_elements F_x0_from F_x0_resume F_x0_size F_x0_fromStep F_x0_resumeStep (by assumption) E_dq O_ar V_ar E_x0 E_a1 ne_dq_a1 ne_x0_a1 ne_ar_a1 g_a1 g_dq g_ar ne_dq_ar g_x0 ne_dq_x0 ne_ar_x0 (by assumption) (by assumption) (by assumption) (by assumption) (by assumption) (by assumption)
  by_cases t2 : tag = 2
  · subst t2
    obtain ⟨dq, ar, k_ar, x0, x1, E_a1, g_a1, F_a1_length, F_a1_turns, F_a1_alike, F_a1_idle, F_a1_chains, E_dq, g_dq, ne_dq_a1, F_dq_head, F_dq_tail, F_dq_elements, O_ar, V_ar, g_ar, ne_ar_a1, ne_dq_ar, E_x0, g_x0, F_x0_from, F_x0_resume, F_x0_size, F_x0_fromStep, F_x0_resumeStep, ne_x0_a1, ne_dq_x0, ne_ar_x0, E_x1, g_x1, F_x1_from, F_x1_resume, F_x1_size, F_x1_fromStep, F_x1_resumeStep, ne_x1_a1, ne_dq_x1, ne_ar_x1, ne_x0_x1⟩ := (hB : own_B2 Z h0 n0 a1 nL nt na ni fa0 ra0 sa0 ga0 ka0 fa1 ra1)
    obtain ⟨hc6, hN⟩ := of_decide_eq_true (hk : decide (q2 < na ∧ own_N2 q2 nL ni ra0 sa0 ka0 ra1) = true)
    have n1 := hN.1
    have n2 := hN.2.1
    have n3 := hN.2.2.1
    exact rm5_2 l Z a0 hw ws a1 q2 nL nt na ni dq ar fa0 ra0 sa0 ga0 ka0 fa1 ra1 k_ar x0 x1 h0 n0 Z0 F_a1_length F_a1_turns F_a1_alike F_a1_idle F_a1_chains F_dq_head F_dq_tail F_dq_elements F_x0_from F_x0_resume F_x0_size F_x0_fromStep F_x0_resumeStep F_x1_from F_x1_resume F_x1_size F_x1_fromStep F_x1_resumeStep (by assumption) E_dq O_ar V_ar E_x0 E_a1 ne_dq_a1 ne_x0_a1 ne_x1_a1 ne_ar_a1 g_a1 E_x1 g_x1 ne_dq_x1 ne_ar_x1 ne_x0_x1 g_x0 ne_dq_x0 ne_ar_x0 ne_dq_ar g_ar g_dq (by assumption) (by assumption) (by assumption) (by assumption) (by assumption) (by assumption)
  by_cases t3 : tag = 3
  · subst t3
    obtain ⟨dq, hh, E_a1, g_a1, F_a1_length, F_a1_turns, F_a1_alike, F_a1_idle, F_a1_chains, E_dq, ne_dq_a1, F_dq_head, F_dq_tail⟩ := (hB : own_B3 Z h0 n0 a1 nL nt na ni)
    have n1 : (0 : Int64) < nt := of_decide_eq_true hk
    by_cases hc6 : q2 < na
    · have hs : own_step nL (nt, na, ni, 3, (fa0, ra0, sa0, ga0, ka0), (fa1, ra1)) q2 = own_tks nt na ni := if_pos hc6
      rw [hs]
      exact rm5_s l Z a0 hw ws a1 q2 nL nt na ni dq hh h0 n0 Z0 E_dq E_a1 F_a1_length F_a1_turns F_a1_alike F_a1_idle F_a1_chains F_dq_head F_dq_tail (by assumption) (by assumption) g_a1 ne_dq_a1
    · have hs : own_step nL (nt, na, ni, 3, (fa0, ra0, sa0, ga0, ka0), (fa1, ra1)) q2 = own_tk3 nL q2 nt ni := if_neg hc6
      rw [hs]
      exact rm5_a l Z a0 hw ws a1 q2 nL nt na ni dq hh h0 n0 Z0 E_dq F_a1_length F_a1_turns F_a1_alike F_a1_idle F_a1_chains F_dq_head F_dq_tail (by assumption) E_a1 ne_dq_a1 g_a1
  exfalso
  rcases tag with _ | _ | _ | _ | tag
  · exact t0 rfl
  · exact t1 rfl
  · exact t2 rfl
  · exact t3 rfl
  · exact Bool.noConfusion (hk : false = true)
def own_fN (n : Nat) (K : Nat → Bool) : Bool := match n with | 0 => K 0 | m + 1 => K (m + 1)
def own_f64 (x : Int64) (K : Int64 → Bool) : Bool := own_fN x.toBitVec.toNat fun n => K (Int64.ofBitVec (BitVec.ofNat 64 n))
def own_f32 (x : Int32) (K : Int32 → Bool) : Bool := own_fN x.toBitVec.toNat fun n => K (Int32.ofBitVec (BitVec.ofNat 32 n))
def own_fA (A : own_A) (K : own_A → Bool) : Bool :=
  match A with
  | (t, al, i, tag, (f, r, s, g, k), (f2, r2)) => own_f64 t fun t => own_f64 al fun al => own_f32 i fun i => own_fN tag fun tag => own_f32 f fun f => own_f64 r fun r => own_f64 s fun s => own_f32 g fun g => own_f64 k fun k => own_f32 f2 fun f2 => own_f64 r2 fun r2 => K (t, al, i, tag, (f, r, s, g, k), (f2, r2))
def own_gr (L p : Nat) (q : Nat × Nat × Nat) : Nat × Nat × Nat := match Nat.ble q.2.1 p with | false => q | true => (q.1, p + L, q.2.2 + 1)
def own_fq (q : Nat × Nat × Nat) (K : Nat × Nat × Nat → Bool) : Bool := own_fN q.1 fun c => own_fN q.2.1 fun n => own_fN q.2.2 fun e => K (c, n, e)
def own_fl (L p : Nat) : List (Nat × Nat × Nat) → (List (Nat × Nat × Nat) → Bool) → Bool
  | [], K => K []
  | q :: r, K => own_fq (own_gr L p q) fun q' => own_fl L p r fun r' => K (q' :: r')
def own_chk (L : Nat) (A : own_A) (qs : List (Nat × Nat × Nat)) : Bool := own_fN A.1.toBitVec.toNat fun t => decide (t ≤ 40) && qs.all fun q => Nat.beq ((t + L - 1 - q.1) / L) q.2.2
def own_fB (n : Nat) (A : own_A) (K : own_A → Bool) : Bool := match n with | 0 => K A | _ => own_fA A K
def own_run (L : Nat) : Nat → Nat → own_A → Nat → List (Nat × Nat × Nat) → Bool
  | 0, _, A, _, qs => own_chk L A qs
  | n + 1, lo, A, p, qs => own_chk L A qs && (List.range lo).all fun g => own_fN (p + g) fun p => own_ok (Int32.ofNat L) A (Int64.ofNat p) && own_fB n (own_step (Int32.ofNat L) A (Int64.ofNat p)) fun A => own_fl L p qs fun qs => own_run L n 8 A p qs
def own_all (L : Nat) : Bool := own_run L 4 16 (own_A0 (Int32.ofNat L)) 0 ((List.range L).map fun c => (c, c, 0))
theorem d1_0 : decode prog_29_method_1_code 0 = .ok (.aload_n 0, 1) := by decide +kernel
theorem d1_1 : decode prog_29_method_1_code 1 = .ok (.invokespecial 1, 3) := by decide +kernel
theorem d1_4 : decode prog_29_method_1_code 4 = .ok (.aload_n 0, 1) := by decide +kernel
theorem d1_5 : decode prog_29_method_1_code 5 = .ok (.new 7, 3) := by decide +kernel
theorem d1_8 : decode prog_29_method_1_code 8 = .ok (.dup, 1) := by decide +kernel
theorem d1_9 : decode prog_29_method_1_code 9 = .ok (.invokespecial 9, 3) := by decide +kernel
theorem d1_12 : decode prog_29_method_1_code 12 = .ok (.putfield 10, 3) := by decide +kernel
theorem d1_15 : decode prog_29_method_1_code 15 = .ok (.aload_n 0, 1) := by decide +kernel
theorem d1_16 : decode prog_29_method_1_code 16 = .ok (.iload_n 1, 1) := by decide +kernel
theorem d1_17 : decode prog_29_method_1_code 17 = .ok (.putfield 16, 3) := by decide +kernel
theorem d1_20 : decode prog_29_method_1_code 20 = .ok (.aload_n 0, 1) := by decide +kernel
theorem d1_21 : decode prog_29_method_1_code 21 = .ok (.iload_n 1, 1) := by decide +kernel
theorem d1_22 : decode prog_29_method_1_code 22 = .ok (.iconst 1, 1) := by decide +kernel
theorem d1_23 : decode prog_29_method_1_code 23 = .ok (.isub, 1) := by decide +kernel
theorem d1_24 : decode prog_29_method_1_code 24 = .ok (.i2l, 1) := by decide +kernel
theorem d1_25 : decode prog_29_method_1_code 25 = .ok (.putfield 20, 3) := by decide +kernel
theorem d1_28 : decode prog_29_method_1_code 28 = .ok (.return_, 1) := by decide +kernel
theorem ef_1 (m : MethodId) (a1 : Addr) (p2 : Int32) : entryFrame m #[(.ref a1), (.int p2)] 2 = mkF m 0 #[.val (.ref a1), .val (.int p2)] [] := by first | (simp [entryFrame, mkF, argsToLocals, Value.category]; done) | rfl
def Q1 (Z : State) (a1 : Addr) (p2 : Int32) (w_turns_a1 : Int64) (w_idle_a1 : Int32) (u_chains_a1 : Value) (u_length_a1 : Value) (u_alike_a1 : Value) (h0 : Heap) (n0 : Nat) (v : Option Value) (h : Heap) (L : List Loc) : Prop := ∃ (b2 : Addr), ∃ (b3_0 : Addr), ∃ (k3_1 : ClassId), v = none ∧ Fr n0 L ∧ Keep h0 h [a1] ∧ Exa Z h a1 own_cC ∧ Fld Z h a1 own_cC "turns" "J" (.long w_turns_a1) ∧ Fld Z h a1 own_cC "idle" "I" (.int w_idle_a1) ∧ Fld Z h a1 own_cC "chains" "Ljava/util/ArrayDeque;" (.ref b2) ∧ Fld Z h a1 own_cC "length" "I" (.int p2) ∧ Fld Z h a1 own_cC "alike" "J" (.long (p2 - (1 : Int32)).toInt64) ∧ n0 ≤ b2 ∧ h0.size ≤ b2 ∧ Exa Z h b2 own_cD ∧ Fld Z h b2 own_cD "elements" "[Ljava/lang/Object;" (.ref b3_0) ∧ Fld Z h b2 own_cD "head" "I" (.int (0 : Int32)) ∧ Fld Z h b2 own_cD "tail" "I" (.int (0 : Int32)) ∧ b2 ≠ b3_0 ∧ n0 ≤ b3_0 ∧ h0.size ≤ b3_0 ∧ Arv Z h b3_0 k3_1 (.object "java/lang/Object") (17 : Int32) [.null, .null, .null, .null, .null, .null, .null, .null, .null, .null, .null, .null, .null, .null, .null, .null, .null] .null ∧ Ovr Z k3_1 "java/lang/Object"
set_option maxRecDepth 65536 in
set_option maxHeartbeats 40000000 in
theorem rm1 (l : Launch) (Z : State) (a0 : Array Value) (hw : ∀ d ∈ tables_1, d.before a0 Z = true) (ws : List Jvm.Cond) (a1 : Addr) (p2 : Int32) (w_turns_a1 : Int64) (w_idle_a1 : Int32) (u_chains_a1 : Value) (u_length_a1 : Value) (u_alike_a1 : Value) (h0 : Heap) (n0 : Nat) (Z0 : n0 ≤ h0.size) (F_a1_turns : Fld Z h0 a1 own_cC "turns" "J" (.long w_turns_a1)) (F_a1_idle : Fld Z h0 a1 own_cC "idle" "I" (.int w_idle_a1)) (E_a1 : Exa Z h0 a1 own_cC) (F_a1_chains : Fld Z h0 a1 own_cC "chains" "Ljava/util/ArrayDeque;" u_chains_a1) (g_a1 : n0 ≤ a1) (F_a1_length : Fld Z h0 a1 own_cC "length" "I" u_length_a1) (F_a1_alike : Fld Z h0 a1 own_cC "alike" "J" u_alike_a1) :
    own_Met l (⟨own_cC, "<init>", "(I)V"⟩ : MethodName) prog_29_method_1_code 2 none ws ({ frames := 3, cells := 2, slots := 20, locals := 38 } : Room) #[(.ref a1), (.int p2)] Z h0 (Q1 Z a1 p2 w_turns_a1 w_idle_a1 u_chains_a1 u_length_a1 u_alike_a1 h0 n0) := by
  refine own_met (plainFor_of_name pn_3) ?_
  intro p e s m below meth c s₁ Bd hx hby hml hZ hown hnm X0 e0
  have wd : ∀ (i : Nat) (d : Jvm.Cond), tables_1[i]? = some d → d.before a0 Z = true := fun i d q => hw d (List.mem_of_getElem? q)
  have NN := Fr.nil n0
  have KK : Keep h0 h0 [a1] := Keep.refl h0 _
  refine own_start (ef_1 m a1 p2) ?_
  refine cs_aloadN cG X0 hx (hb hby d1_0) rfl rfl ?_
  obtain ⟨T1, X1, e1, st1⟩ := initO X0 hx hZ hown (wd 7 _ rfl) (wd 8 _ rfl) (wd 9 _ rfl) e0 (g := (mkF m 1 #[vr a1, vi p2] [(.ref a1)])) rfl (by rw [hml]; rfl) rfl (hb hby d1_1) (by decide) (W := 0) (by show 2 * 0 + _ ≤ _; exact Nat.le_of_eq rfl) (by decide)
  refine own_go st1 ?_
  show own_Go _ _ _ _ T1 (mkF m 4 #[vr a1, vi p2] [])
  refine cs_aloadN cG X1 hx (hb hby d1_4) rfl rfl ?_
  obtain ⟨T2, h2, X2, e2, E2, A2, D2, -, st2⟩ := newO X1 hx hZ hown (wd 10 _ rfl) (wd 11 _ rfl) (wd 12 _ rfl) e1 (g := (mkF m 5 #[vr a1, vi p2] [(.ref a1)])) rfl (hb hby d1_5) (by decide) (by decide)
  obtain ⟨b2, g2⟩ : ∃ z, z = h0.size := ⟨_, rfl⟩
  rw [← g2] at A2 D2 st2
  have g_b2 : n0 ≤ b2 := Nat.le_trans Z0 (Nat.le_of_eq g2.symm)
  have sz_b2 : h0.size ≤ b2 := Nat.le_trans KK.1 (Nat.le_of_eq g2.symm)
  have ne_a1_b2 : a1 ≠ b2 := Nat.ne_of_lt (Nat.lt_of_lt_of_le F_a1_turns.lt (Nat.le_of_eq g2.symm))
  have F_a1_turns := F_a1_turns.ext E2
  have F_a1_idle := F_a1_idle.ext E2
  have E_a1 := E_a1.ext E2
  have F_a1_chains := F_a1_chains.ext E2
  have F_a1_length := F_a1_length.ext E2
  have F_a1_alike := F_a1_alike.ext E2
  have Z0 := Nat.le_trans Z0 E2.1
  have KK := KK.ext E2
  have E_b2 := A2
  have F_b2_elements : Fld Z h2 b2 own_cD "elements" "[Ljava/lang/Object;" .null := D2 (Or.inl (wd 26 _ rfl)) (ty := (.array (.object "java/lang/Object"))) (by decide)
  have F_b2_head : Fld Z h2 b2 own_cD "head" "I" (.int (0 : Int32)) := D2 (Or.inl (wd 50 _ rfl)) (ty := .int) (by decide)
  have F_b2_tail : Fld Z h2 b2 own_cD "tail" "I" (.int (0 : Int32)) := D2 (Or.inl (wd 52 _ rfl)) (ty := .int) (by decide)
  refine own_go st2 ?_
  show own_Go _ _ _ _ T2 (mkF m 8 #[vr a1, vi p2] [(.ref b2), (.ref a1)])
  refine cs_dup cG X2 hx (hb hby d1_8) rfl ?_
  refine cs_I cG X2 hx hZ hown (wd 13 _ rfl) (wd 14 _ rfl) (wd 12 _ rfl) (wd 15 _ rfl) rfl (by decide) (rm3 l Z a0 hw [] b2 (0 : Int32) (0 : Int32) .null h2 n0 Z0 F_b2_head F_b2_tail E_b2 F_b2_elements g_b2) (by decide) (by decide) (by decide) (by decide) e2 (by rw [hml]; rfl) (argsL := []) (S := [(.ref b2), (.ref a1)]) (lenOf pd_1 rfl) rfl (W := 2) (Nat.le_of_eq rfl) (hb hby d1_9) rfl ?_
  intro v3 T3 L3 X3 hQ3
  obtain ⟨b3_0, k3_1, rfl, N3q, K3, Q3_0, Q3_1, Q3_2, Q3_3, R3_0, R3_1, R3_2, R3_3⟩ := hQ3
  have ne_a1_b3_0 : a1 ≠ b3_0 := Nat.ne_of_lt (Nat.lt_of_lt_of_le F_a1_turns.lt R3_1)
  have ne_b2_b3_0 : b2 ≠ b3_0 := Nat.ne_of_lt (Nat.lt_of_lt_of_le E_b2.lt R3_1)
  have F_a1_turns := F_a1_turns.keep K3 (ninS ne_a1_b2 nin0)
  have F_a1_idle := F_a1_idle.keep K3 (ninS ne_a1_b2 nin0)
  have E_a1 := E_a1.keep K3
  have F_a1_chains := F_a1_chains.keep K3 (ninS ne_a1_b2 nin0)
  have F_a1_length := F_a1_length.keep K3 (ninS ne_a1_b2 nin0)
  have F_a1_alike := F_a1_alike.keep K3 (ninS ne_a1_b2 nin0)
  have E_b2 := Q3_0
  have F_b2_head := Q3_1
  have F_b2_tail := Q3_2
  have F_b2_elements := Q3_3
  have g_b3_0 := R3_0
  have sz_b3_0 : h0.size ≤ b3_0 := Nat.le_trans KK.1 R3_1
  have V_b3_0 := R3_2
  have O_b3_0 := R3_3
  have KK := KK.trans K3 (allS (Or.inr sz_b2) all0)
  have NN := Fr.app NN N3q
  show own_Go _ _ _ _ T3 (mkF m 12 #[vr a1, vi p2] [(.ref b2), (.ref a1)])
  refine cs_put cG X3 hx hZ hown (wd 27 _ rfl) rfl F_a1_chains E_a1 (Or.inr ⟨(wd 28 _ rfl), rfl, hnm⟩) (wd 2 _ rfl) (ty := (.object own_cD)) (by decide) rfl rfl (hb hby d1_12) ?_
  intro T4 h4 X4 e4 W4
  have F_a1_turns := F_a1_turns.other W4 (Or.inr (slot_ne (Or.inl (wd 39 _ rfl)) (Or.inr (wd 28 _ rfl)) (by decide) (t := .long) (t' := (.object own_cD)) (by decide) (by decide)))
  have F_a1_idle := F_a1_idle.other W4 (Or.inr (slot_ne (Or.inl (wd 64 _ rfl)) (Or.inr (wd 28 _ rfl)) (by decide) (t := .int) (t' := (.object own_cD)) (by decide) (by decide)))
  have E_a1 := E_a1.wr W4
  have F_a1_chains := F_a1_chains.same W4
  have F_a1_length := F_a1_length.other W4 (Or.inr (slot_ne (Or.inr (wd 30 _ rfl)) (Or.inr (wd 28 _ rfl)) (by decide) (t := .int) (t' := (.object own_cD)) (by decide) (by decide)))
  have F_a1_alike := F_a1_alike.other W4 (Or.inr (slot_ne (Or.inl (wd 32 _ rfl)) (Or.inr (wd 28 _ rfl)) (by decide) (t := .long) (t' := (.object own_cD)) (by decide) (by decide)))
  have E_b2 := E_b2.wr W4
  have F_b2_elements := F_b2_elements.other W4 (Or.inl (Ne.symm ne_a1_b2))
  have F_b2_head := F_b2_head.other W4 (Or.inl (Ne.symm ne_a1_b2))
  have F_b2_tail := F_b2_tail.other W4 (Or.inl (Ne.symm ne_a1_b2))
  have V_b3_0 := V_b3_0.other W4 (Ne.symm ne_a1_b3_0)
  have KK := KK.wr W4 (Or.inl (List.mem_of_getElem? (i := 0) rfl))
  have NN := Fr.snoc X4 NN g_a1
  refine cs_aloadN cG X4 hx (hb hby d1_15) rfl rfl ?_
  refine cs_iloadN cG X4 hx (hb hby d1_16) rfl ?_
  refine cs_put cG X4 hx hZ hown (wd 29 _ rfl) e4 F_a1_length E_a1 (Or.inr ⟨(wd 30 _ rfl), rfl, hnm⟩) (wd 2 _ rfl) (ty := .int) (by decide) rfl rfl (hb hby d1_17) ?_
  intro T5 h5 X5 e5 W5
  have F_a1_turns := F_a1_turns.other W5 (Or.inr (slot_ne (Or.inl (wd 39 _ rfl)) (Or.inr (wd 30 _ rfl)) (by decide) (t := .long) (t' := .int) (by decide) (by decide)))
  have F_a1_idle := F_a1_idle.other W5 (Or.inr (slot_ne (Or.inl (wd 64 _ rfl)) (Or.inr (wd 30 _ rfl)) (by decide) (t := .int) (t' := .int) (by decide) (by decide)))
  have E_a1 := E_a1.wr W5
  have F_a1_chains := F_a1_chains.other W5 (Or.inr (slot_ne (Or.inr (wd 28 _ rfl)) (Or.inr (wd 30 _ rfl)) (by decide) (t := (.object own_cD)) (t' := .int) (by decide) (by decide)))
  have F_a1_length := F_a1_length.same W5
  have F_a1_alike := F_a1_alike.other W5 (Or.inr (slot_ne (Or.inl (wd 32 _ rfl)) (Or.inr (wd 30 _ rfl)) (by decide) (t := .long) (t' := .int) (by decide) (by decide)))
  have E_b2 := E_b2.wr W5
  have F_b2_elements := F_b2_elements.other W5 (Or.inl (Ne.symm ne_a1_b2))
  have F_b2_head := F_b2_head.other W5 (Or.inl (Ne.symm ne_a1_b2))
  have F_b2_tail := F_b2_tail.other W5 (Or.inl (Ne.symm ne_a1_b2))
  have V_b3_0 := V_b3_0.other W5 (Ne.symm ne_a1_b3_0)
  have KK := KK.wr W5 (Or.inl (List.mem_of_getElem? (i := 0) rfl))
  have NN := Fr.snoc X5 NN g_a1
  refine cs_aloadN cG X5 hx (hb hby d1_20) rfl rfl ?_
  refine cs_iloadN cG X5 hx (hb hby d1_21) rfl ?_
  refine cs_iconst cG X5 hx (hb hby d1_22) (z := (1 : Int32)) rfl ?_
  refine cs_isub cG X5 hx (hb hby d1_23) rfl ?_
  refine cs_i2l cG X5 hx (hb hby d1_24) rfl ?_
  refine cs_put cG X5 hx hZ hown (wd 31 _ rfl) e5 F_a1_alike E_a1 (Or.inl (wd 32 _ rfl)) (wd 2 _ rfl) (ty := .long) (by decide) rfl rfl (hb hby d1_25) ?_
  intro T6 h6 X6 e6 W6
  have F_a1_turns := F_a1_turns.other W6 (Or.inr (slot_ne (Or.inl (wd 39 _ rfl)) (Or.inl (wd 32 _ rfl)) (by decide) (t := .long) (t' := .long) (by decide) (by decide)))
  have F_a1_idle := F_a1_idle.other W6 (Or.inr (slot_ne (Or.inl (wd 64 _ rfl)) (Or.inl (wd 32 _ rfl)) (by decide) (t := .int) (t' := .long) (by decide) (by decide)))
  have E_a1 := E_a1.wr W6
  have F_a1_chains := F_a1_chains.other W6 (Or.inr (slot_ne (Or.inr (wd 28 _ rfl)) (Or.inl (wd 32 _ rfl)) (by decide) (t := (.object own_cD)) (t' := .long) (by decide) (by decide)))
  have F_a1_length := F_a1_length.other W6 (Or.inr (slot_ne (Or.inr (wd 30 _ rfl)) (Or.inl (wd 32 _ rfl)) (by decide) (t := .int) (t' := .long) (by decide) (by decide)))
  have F_a1_alike := F_a1_alike.same W6
  have E_b2 := E_b2.wr W6
  have F_b2_elements := F_b2_elements.other W6 (Or.inl (Ne.symm ne_a1_b2))
  have F_b2_head := F_b2_head.other W6 (Or.inl (Ne.symm ne_a1_b2))
  have F_b2_tail := F_b2_tail.other W6 (Or.inl (Ne.symm ne_a1_b2))
  have V_b3_0 := V_b3_0.other W6 (Ne.symm ne_a1_b3_0)
  have KK := KK.wr W6 (Or.inl (List.mem_of_getElem? (i := 0) rfl))
  have NN := Fr.snoc X6 NN g_a1
  show own_Go _ _ _ _ T6 (mkF m 28 #[vr a1, vi p2] [])
  obtain ⟨fs, hr, hrun, hended, hW, hsame⟩ := X6.leave (v := none) (fun _ => rfl)
  refine ⟨_, _, ?_, hrun, hended, _, _, rfl, ?_, ⟨_, rfl⟩, hW, hsame.mono (by decide) (by decide)⟩
  · exact X6.returnOut hx Bd.returns (hb hby d1_28) hr
  · show Q1 Z a1 p2 w_turns_a1 w_idle_a1 u_chains_a1 u_length_a1 u_alike_a1 h0 n0 _ T6.heap _
    rw [e6]
    exact ⟨b2, b3_0, k3_1, rfl, NN, KK, E_a1, F_a1_turns, F_a1_idle, F_a1_chains, F_a1_length, F_a1_alike, g_b2, sz_b2, E_b2, F_b2_elements, F_b2_head, F_b2_tail, ne_b2_b3_0, g_b3_0, sz_b3_0, V_b3_0, O_b3_0⟩
theorem d8_0 : decode prog_29_method_3_code 0 = .ok (.aload_n 0, 1) := by decide +kernel
theorem d8_1 : decode prog_29_method_3_code 1 = .ok (.getfield 24, 3) := by decide +kernel
theorem d8_4 : decode prog_29_method_3_code 4 = .ok (.iload_n 1, 1) := by decide +kernel
theorem d8_5 : decode prog_29_method_3_code 5 = .ok (.i2l, 1) := by decide +kernel
theorem d8_6 : decode prog_29_method_3_code 6 = .ok (.lsub, 1) := by decide +kernel
theorem d8_7 : decode prog_29_method_3_code 7 = .ok (.aload_n 0, 1) := by decide +kernel
theorem d8_8 : decode prog_29_method_3_code 8 = .ok (.getfield 16, 3) := by decide +kernel
theorem d8_11 : decode prog_29_method_3_code 11 = .ok (.i2l, 1) := by decide +kernel
theorem d8_12 : decode prog_29_method_3_code 12 = .ok (.ladd, 1) := by decide +kernel
theorem d8_13 : decode prog_29_method_3_code 13 = .ok (.lconst 1, 1) := by decide +kernel
theorem d8_14 : decode prog_29_method_3_code 14 = .ok (.lsub, 1) := by decide +kernel
theorem d8_15 : decode prog_29_method_3_code 15 = .ok (.aload_n 0, 1) := by decide +kernel
theorem d8_16 : decode prog_29_method_3_code 16 = .ok (.getfield 16, 3) := by decide +kernel
theorem d8_19 : decode prog_29_method_3_code 19 = .ok (.i2l, 1) := by decide +kernel
theorem d8_20 : decode prog_29_method_3_code 20 = .ok (.ldiv, 1) := by decide +kernel
theorem d8_21 : decode prog_29_method_3_code 21 = .ok (.lreturn, 1) := by decide +kernel
theorem ef_8 (m : MethodId) (a1 : Addr) (p2 : Int32) : entryFrame m #[(.ref a1), (.int p2)] 2 = mkF m 0 #[.val (.ref a1), .val (.int p2)] [] := by first | (simp [entryFrame, mkF, argsToLocals, Value.category]; done) | rfl
def r_8 (p2 : Int32) (w_turns_a1 : Int64) (w_length_a1 : Int32) : Int64 := ((((w_turns_a1 - p2.toInt64) + w_length_a1.toInt64) - (1 : Int64)) / w_length_a1.toInt64)
def Q8 (Z : State) (a1 : Addr) (p2 : Int32) (w_turns_a1 : Int64) (w_length_a1 : Int32) (h0 : Heap) (n0 : Nat) (v : Option Value) (h : Heap) (L : List Loc) : Prop := v = some (.long (r_8 p2 w_turns_a1 w_length_a1)) ∧ Fr n0 L ∧ h = h0
set_option maxRecDepth 65536 in
set_option maxHeartbeats 40000000 in
theorem rm8 (l : Launch) (Z : State) (a0 : Array Value) (hw : ∀ d ∈ tables_1, d.before a0 Z = true) (ws : List Jvm.Cond) (a1 : Addr) (p2 : Int32) (w_turns_a1 : Int64) (w_length_a1 : Int32) (h0 : Heap) (n0 : Nat) (Z0 : n0 ≤ h0.size) (F_a1_turns : Fld Z h0 a1 own_cC "turns" "J" (.long w_turns_a1)) (F_a1_length : Fld Z h0 a1 own_cC "length" "I" (.int w_length_a1)) (hnz20 : ¬ (w_length_a1.toInt64 = (0 : Int64))) :
    own_Met l (⟨own_cC, "count", "(I)J"⟩ : MethodName) prog_29_method_3_code 2 (some .long) ws ({ frames := 0, cells := 0, slots := 0, locals := 0 } : Room) #[(.ref a1), (.int p2)] Z h0 (Q8 Z a1 p2 w_turns_a1 w_length_a1 h0 n0) := by
  refine own_met (plainFor_of_name pn_3) ?_
  intro p e s m below meth c s₁ Bd hx hby hml hZ hown hnm X0 e0
  have wd : ∀ (i : Nat) (d : Jvm.Cond), tables_1[i]? = some d → d.before a0 Z = true := fun i d q => hw d (List.mem_of_getElem? q)
  have NN := Fr.nil n0
  have KK : Keep h0 h0 [] := Keep.refl h0 _
  refine own_start (ef_8 m a1 p2) ?_
  refine cs_aloadN cG X0 hx (hb hby d8_0) rfl rfl ?_
  refine cs_get cG X0 hx hZ hown (wd 38 _ rfl) e0 F_a1_turns (hb hby d8_1) ?_
  intro T1 X1 e1
  refine cs_iloadN cG X1 hx (hb hby d8_4) rfl ?_
  refine cs_i2l cG X1 hx (hb hby d8_5) rfl ?_
  refine cs_lsub cG X1 hx (hb hby d8_6) rfl ?_
  refine cs_aloadN cG X1 hx (hb hby d8_7) rfl rfl ?_
  refine cs_get cG X1 hx hZ hown (wd 29 _ rfl) e1 F_a1_length (hb hby d8_8) ?_
  intro T2 X2 e2
  refine cs_i2l cG X2 hx (hb hby d8_11) rfl ?_
  refine cs_ladd cG X2 hx (hb hby d8_12) rfl ?_
  refine cs_lconst cG X2 hx (hb hby d8_13) (z := (1 : Int64)) rfl ?_
  refine cs_lsub cG X2 hx (hb hby d8_14) rfl ?_
  refine cs_aloadN cG X2 hx (hb hby d8_15) rfl rfl ?_
  refine cs_get cG X2 hx hZ hown (wd 29 _ rfl) e2 F_a1_length (hb hby d8_16) ?_
  intro T3 X3 e3
  refine cs_i2l cG X3 hx (hb hby d8_19) rfl ?_
  refine cs_ldiv cG X3 hx (hb hby d8_20) rfl hnz20 ?_
  show own_Go _ _ _ _ T3 (mkF m 21 #[vr a1, vi p2] [(.long ((((w_turns_a1 - p2.toInt64) + w_length_a1.toInt64) - (1 : Int64)) / w_length_a1.toInt64))])
  obtain ⟨fs, hr, hrun, hended, hW, hsame⟩ := X3.leave (v := some (.long ((((w_turns_a1 - p2.toInt64) + w_length_a1.toInt64) - (1 : Int64)) / w_length_a1.toInt64))) (fun h => by rw [Bd.returns] at h; cases h)
  refine ⟨_, _, ?_, hrun, hended, _, _, rfl, ?_, ⟨_, rfl⟩, hW, hsame.mono (by decide) (by decide)⟩
  · exact own_retJ X3 hx Bd.returns (hb hby d8_21) hr
  · show Q8 Z a1 p2 w_turns_a1 w_length_a1 h0 n0 _ T3.heap _
    rw [e3]
    exact ⟨rfl, NN, rfl⟩
theorem own_fN_eq (n : Nat) (K : Nat → Bool) : own_fN n K = K n := by cases n <;> rfl
theorem own_b64 (x : Int64) : Int64.ofBitVec (BitVec.ofNat 64 x.toBitVec.toNat) = x := by rw [BitVec.ofNat_toNat, BitVec.setWidth_eq]; rfl
theorem own_b32 (x : Int32) : Int32.ofBitVec (BitVec.ofNat 32 x.toBitVec.toNat) = x := by rw [BitVec.ofNat_toNat, BitVec.setWidth_eq]; rfl
theorem own_f64_eq (x : Int64) (K : Int64 → Bool) : own_f64 x K = K x := by unfold own_f64; rw [own_fN_eq, own_b64]
theorem own_f32_eq (x : Int32) (K : Int32 → Bool) : own_f32 x K = K x := by unfold own_f32; rw [own_fN_eq, own_b32]
theorem own_fA_eq (A : own_A) (K : own_A → Bool) : own_fA A K = K A := by
  obtain ⟨t, al, i, tag, ⟨f, r, s, g, k⟩, ⟨f2, r2⟩⟩ := A
  unfold own_fA
  simp only [own_f64_eq, own_f32_eq, own_fN_eq]
theorem own_fB_eq (n : Nat) (A : own_A) (K : own_A → Bool) : own_fB n A K = K A := by
  cases n
  · rfl
  · exact own_fA_eq A K
theorem own_fq_eq (q : Nat × Nat × Nat) (K : Nat × Nat × Nat → Bool) : own_fq q K = K q := by
  unfold own_fq
  simp only [own_fN_eq]
theorem own_fl_eq (L p : Nat) (qs : List (Nat × Nat × Nat)) (K : List (Nat × Nat × Nat) → Bool) : own_fl L p qs K = K (qs.map (own_gr L p)) := by
  induction qs generalizing K with
  | nil => rfl
  | cons q r ih =>
    show own_fq (own_gr L p q) (fun q' => own_fl L p r fun r' => K (q' :: r')) = _
    rw [own_fq_eq, ih]
    rfl
theorem own_run_go {L n lo : Nat} {A : own_A} {p : Nat} {qs : List (Nat × Nat × Nat)} (h : own_run L (n + 1) lo A p qs = true) {g : Nat} (hg : g < lo) : own_ok (Int32.ofNat L) A (Int64.ofNat (p + g)) = true ∧ own_run L n 8 (own_step (Int32.ofNat L) A (Int64.ofNat (p + g))) (p + g) (qs.map (own_gr L (p + g))) = true := by
  have h2 := (Bool.and_eq_true_iff.mp (show (own_chk L A qs && _) = true from h)).2
  have h3 := List.all_eq_true.mp h2 g (List.mem_range.mpr hg)
  rw [own_fN_eq, own_fB_eq, own_fl_eq] at h3
  exact Bool.and_eq_true_iff.mp h3
theorem own_run_ck {L n lo : Nat} {A : own_A} {p : Nat} {qs : List (Nat × Nat × Nat)} (h : own_run L n lo A p qs = true) : own_chk L A qs = true := by
  cases n
  · exact h
  · exact (Bool.and_eq_true_iff.mp (show (own_chk L A qs && _) = true from h)).1
theorem own_ck_at {L : Nat} {A : own_A} {qs : List (Nat × Nat × Nat)} (h : own_chk L A qs = true) {q : Nat × Nat × Nat} (hq : q ∈ qs) : ∃ t, t ≤ 40 ∧ A.1 = Int64.ofNat t ∧ (t + L - 1 - q.1) / L = q.2.2 := by
  unfold own_chk at h
  rw [own_fN_eq] at h
  obtain ⟨h1, h2⟩ := Bool.and_eq_true_iff.mp h
  refine ⟨A.1.toBitVec.toNat, of_decide_eq_true h1, ?_, Nat.eq_of_beq_eq_true (List.all_eq_true.mp h2 q hq)⟩
  exact (own_b64 A.1).symm
def own_cnt : Bool := (List.range 41).all fun t => own_fN t fun t => (List.range 9).all fun L => own_fN L fun L => (List.range L).all fun c => own_fN c fun c => decide (r_8 (Int32.ofNat c) (Int64.ofNat t) (Int32.ofNat L) = Int64.ofNat ((t + L - 1 - c) / L))
theorem own_pl_c : own_cnt = true := by decide +kernel
theorem own_pl_cnt {t L c : Nat} (ht : t ≤ 40) (hL : L ≤ 8) (hc : c < L) : r_8 (Int32.ofNat c) (Int64.ofNat t) (Int32.ofNat L) = Int64.ofNat ((t + L - 1 - c) / L) := by
  have h := own_pl_c
  unfold own_cnt at h
  have h1 := List.all_eq_true.mp h t (List.mem_range.mpr (by omega))
  rw [own_fN_eq] at h1
  have h2 := List.all_eq_true.mp h1 L (List.mem_range.mpr (by omega))
  rw [own_fN_eq] at h2
  have h3 := List.all_eq_true.mp h2 c (List.mem_range.mpr hc)
  rw [own_fN_eq] at h3
  exact of_decide_eq_true h3
theorem own_pl_r : ∀ k, k < 8 → own_all (k + 1) = true := by decide +kernel
theorem own_pl_lt {a b : Nat} (ha : a < 1000) (hb : b < 1000) : (Int64.ofNat a < Int64.ofNat b) ↔ a < b := by
  rw [Int64.lt_iff_toInt_lt, Int64.toInt_ofNat_of_lt (by omega), Int64.toInt_ofNat_of_lt (by omega)]
  omega
theorem own_pl_and (x : Int32) (m : Nat) (hm : m < 16) : ∃ k, k ≤ m ∧ (x &&& Int32.ofNat m) = Int32.ofNat k := by
  refine ⟨x.toBitVec.toNat &&& m, Nat.and_le_right, ?_⟩
  apply Int32.toBitVec_inj.mp
  apply BitVec.eq_of_toNat_eq
  have e1 : (x &&& Int32.ofNat m).toBitVec = x.toBitVec &&& BitVec.ofNat 32 m := rfl
  have e2 : (Int32.ofNat (x.toBitVec.toNat &&& m)).toBitVec = BitVec.ofNat 32 (x.toBitVec.toNat &&& m) := rfl
  have e3 : x.toBitVec.toNat &&& m ≤ m := Nat.and_le_right
  rw [e1, e2, BitVec.toNat_and, BitVec.toNat_ofNat, BitVec.toNat_ofNat, Nat.mod_eq_of_lt (by omega), Nat.mod_eq_of_lt (by omega)]
theorem own_pl_64 : ∀ k, k < 16 → (Int32.ofNat k).toInt64 = Int64.ofNat k := by decide +kernel
theorem own_pl_add (a b : Nat) : Int64.ofNat a + Int64.ofNat b = Int64.ofNat (a + b) := (Int64.ofNat_add a b).symm
theorem own_pl_L (x : Int32) : ∃ K, K < 8 ∧ (1 : Int32) + (x &&& (7 : Int32)) = Int32.ofNat (K + 1) := by
  obtain ⟨k, hk, e⟩ := own_pl_and x 7 (by decide)
  refine ⟨k, by omega, ?_⟩
  have e' : (x &&& (7 : Int32)) = Int32.ofNat k := e
  rw [e']
  exact (by decide +kernel : ∀ k, k < 8 → (1 : Int32) + Int32.ofNat k = Int32.ofNat (k + 1)) k (by omega)
theorem own_pl_p (x : Int32) : ∃ a, a < 16 ∧ (x &&& (15 : Int32)).toInt64 = Int64.ofNat (0 + a) := by
  obtain ⟨k, hk, e⟩ := own_pl_and x 15 (by decide)
  refine ⟨k, by omega, ?_⟩
  have e' : (x &&& (15 : Int32)) = Int32.ofNat k := e
  rw [e', own_pl_64 k (by omega), Nat.zero_add]
theorem own_pl_g (x : Int32) : ∃ a, a < 8 ∧ (x &&& (7 : Int32)).toInt64 = Int64.ofNat a := by
  obtain ⟨k, hk, e⟩ := own_pl_and x 7 (by decide)
  refine ⟨k, by omega, ?_⟩
  have e' : (x &&& (7 : Int32)) = Int32.ofNat k := e
  rw [e', own_pl_64 k (by omega)]
theorem own_pl_cov (x : Int32) {K : Nat} (hK : K < 8) : ∃ c, c < K + 1 ∧ (x &&& (2147483647 : Int32)) % Int32.ofNat (K + 1) = Int32.ofNat c := by
  have e : (Int32.ofNat (K + 1)).toInt = ((K + 1 : Nat) : Int) := Int32.toInt_ofNat_of_lt (by omega)
  have h := c_mask x (2147483647 : Int32) 31 (by decide) (by decide)
  have g := (c_iremV (x &&& (2147483647 : Int32)) (Int32.ofNat (K + 1))).1 (by omega) (by omega)
  refine ⟨((x &&& (2147483647 : Int32)) % Int32.ofNat (K + 1)).toInt.toNat, by omega, ?_⟩
  apply Int32.toInt_inj.mp
  rw [Int32.toInt_ofNat_of_lt (by omega)]
  omega
theorem own_pl_nz : ∀ K, K < 8 → ¬ (Int32.ofNat (K + 1) = (0 : Int32)) ∧ ¬ ((Int32.ofNat (K + 1)).toInt64 = (0 : Int64)) ∧ (Int32.ofNat (K + 1)).toInt64 = Int64.ofNat (K + 1) := by decide +kernel
theorem own_pl_le {n a b : Int32} (h : ¬ (a < n)) (hab : a.toInt ≤ b.toInt) : ¬ (b < n) := by
  rw [Int32.lt_iff_toInt_lt] at h ⊢
  omega
theorem own_pl_gr {K p : Nat} {q : Nat × Nat × Nat} {N E : Int64} (hK : K < 8) (hp : p < 900) (hN : N = Int64.ofNat q.2.1) (hq : q.2.1 < 900) (hE : E = Int64.ofNat q.2.2) :
    (if Int64.ofNat p < N then N else (Int64.ofNat p + (Int32.ofNat (K + 1)).toInt64)) = Int64.ofNat (own_gr (K + 1) p q).2.1 ∧ (if Int64.ofNat p < N then E else (E + (1 : Int64))) = Int64.ofNat (own_gr (K + 1) p q).2.2 ∧ (own_gr (K + 1) p q).1 = q.1 ∧ (own_gr (K + 1) p q).2.1 ≤ q.2.1 + p + (K + 1) := by
  unfold own_gr
  subst hN hE
  rw [(own_pl_nz K hK).2.2]
  cases hb : Nat.ble q.2.1 p with
  | false =>
    have h1 : ¬ (q.2.1 ≤ p) := fun h => by rw [Nat.ble_eq_true_of_le h] at hb; cases hb
    have h2 : Int64.ofNat p < Int64.ofNat q.2.1 := (own_pl_lt (by omega) (by omega)).mpr (by omega)
    rw [if_pos h2, if_pos h2]
    exact ⟨rfl, rfl, rfl, by show q.2.1 ≤ _; omega⟩
  | true =>
    have h1 : q.2.1 ≤ p := Nat.le_of_ble_eq_true hb
    have h2 : ¬ (Int64.ofNat p < Int64.ofNat q.2.1) := fun h => by have := (own_pl_lt (by omega) (by omega)).mp h; omega
    rw [if_neg h2, if_neg h2, own_pl_add]
    exact ⟨rfl, (Int64.ofNat_add q.2.2 1).symm, rfl, by show p + (K + 1) ≤ _; omega⟩
theorem own_pl_end {K t c e : Nat} {A : own_A} {E : Int64} {j : Int32} (hK : K < 8) (hc : c < K + 1) (ht : t ≤ 40) (hA : A.1 = Int64.ofNat t) (hE : E = Int64.ofNat e) (he : (t + (K + 1) - 1 - c) / (K + 1) = e) (hj : j = (if (r_8 (Int32.ofNat c) (A.1) (Int32.ofNat (K + 1))) = E then (1 : Int32) else (0 : Int32))) : nar .boolean j = 1 := by
  rw [hA, own_pl_cnt ht (by omega) hc, hE, he, if_pos rfl] at hj
  rw [hj]
  rfl
theorem pn_4 : plainName own_cW = true := by first | (simp [plainName, overriddenIn]; done) | decide +kernel
theorem pd_0 : parseMethodDescriptor "(I)V" = some ⟨[.int], none⟩ := by decide +kernel
theorem pd_2 : parseMethodDescriptor "(J)Z" = some ⟨[.long], some .boolean⟩ := by decide +kernel
theorem pd_5 : parseMethodDescriptor "(I)J" = some ⟨[.int], some .long⟩ := by decide +kernel
theorem ef_0 (m : MethodId) (p1 : Int32) (p2 : Int32) (p3 : Int32) (p4 : Int32) (p5 : Int32) (p6 : Int32) : entryFrame m #[(.int p1), (.int p2), (.int p3), (.int p4), (.int p5), (.int p6)] maxLocals = mkF m 0 #[.val (.int p1), .val (.int p2), .val (.int p3), .val (.int p4), .val (.int p5), .val (.int p6), .unset, .unset, .unset, .unset, .unset, .unset, .unset, .unset, .unset, .unset, .unset, .unset, .unset, .unset, .unset, .unset] [] := by first | (simp [entryFrame, mkF, argsToLocals, Value.category, maxLocals]; done) | rfl
def Q0 (Z : State) (p1 : Int32) (p2 : Int32) (p3 : Int32) (p4 : Int32) (p5 : Int32) (p6 : Int32) (h0 : Heap) (n0 : Nat) (v : Option Value) (h : Heap) (L : List Loc) : Prop := v = some (.int 1) ∧ Fr n0 L
theorem own_at_hnz14 (p1 : Int32) (j1 : Int32) (hj1 : j1 = ((1 : Int32) + (p1 &&& (7 : Int32)))) : ¬ (j1 = (0 : Int32)) := by
  obtain ⟨K, hK, eK⟩ := own_pl_L p1
  rw [eK] at hj1
  subst hj1
  exact (own_pl_nz K hK).1
theorem own_at_hhk_95_t (p1 : Int32) (p3 : Int32) (p4 : Int32) (j1 : Int32) (j3 : Int32) (j4 : Int64) (hj1 : j1 = ((1 : Int32) + (p1 &&& (7 : Int32)))) (hj3 : j3 = ((p3 &&& (2147483647 : Int32)) % (5 : Int32))) (hj4 : j4 = (p4 &&& (15 : Int32)).toInt64) (hnz14 : ¬ (j1 = (0 : Int32))) (hc88_1 : (0 : Int32) < j3) : own_ok j1 (own_A0 j1) j4 = true := by
  obtain ⟨K, hK, eK⟩ := own_pl_L p1
  rw [eK] at hj1
  subst hj1
  obtain ⟨g0, b0, e0⟩ := own_pl_p p4
  rw [e0] at hj4
  subst hj4
  have r1 := own_run_go (own_pl_r K hK) b0
  exact r1.1
theorem own_at_hhk_131_tt (p1 : Int32) (p3 : Int32) (p4 : Int32) (p5 : Int32) (j1 : Int32) (j3 : Int32) (j4 : Int64) (j5 : Int64) (A11 : own_A) (hj1 : j1 = ((1 : Int32) + (p1 &&& (7 : Int32)))) (hj3 : j3 = ((p3 &&& (2147483647 : Int32)) % (5 : Int32))) (hj4 : j4 = (p4 &&& (15 : Int32)).toInt64) (hj5 : j5 = (j4 + (p5 &&& (7 : Int32)).toInt64)) (hA11 : A11 = own_step j1 (own_A0 j1) j4) (hnz14 : ¬ (j1 = (0 : Int32))) (hc88_1 : (0 : Int32) < j3) (hhk_95 : own_ok j1 (own_A0 j1) j4 = true) (hc124_3 : (1 : Int32) < j3) : own_ok j1 A11 j5 = true := by
  obtain ⟨K, hK, eK⟩ := own_pl_L p1
  rw [eK] at hj1
  subst hj1
  obtain ⟨g0, b0, e0⟩ := own_pl_p p4
  rw [e0] at hj4
  subst hj4
  have r1 := own_run_go (own_pl_r K hK) b0
  obtain ⟨g1, b1, e1⟩ := own_pl_g p5
  rw [e1, own_pl_add] at hj5
  subst hj5
  have r2 := own_run_go r1.2 b1
  subst hA11
  exact r2.1
theorem own_at_hhk_167_ttt (p1 : Int32) (p3 : Int32) (p4 : Int32) (p5 : Int32) (j1 : Int32) (j3 : Int32) (j4 : Int64) (j5 : Int64) (j6 : Int64) (A11 : own_A) (A15 : own_A) (hj1 : j1 = ((1 : Int32) + (p1 &&& (7 : Int32)))) (hj3 : j3 = ((p3 &&& (2147483647 : Int32)) % (5 : Int32))) (hj4 : j4 = (p4 &&& (15 : Int32)).toInt64) (hj5 : j5 = (j4 + (p5 &&& (7 : Int32)).toInt64)) (hj6 : j6 = (j5 + (((p5.toUInt32 >>> ((3 : Int32) &&& 31).toUInt32).toInt32) &&& (7 : Int32)).toInt64)) (hA11 : A11 = own_step j1 (own_A0 j1) j4) (hA15 : A15 = own_step j1 A11 j5) (hnz14 : ¬ (j1 = (0 : Int32))) (hc88_1 : (0 : Int32) < j3) (hhk_95 : own_ok j1 (own_A0 j1) j4 = true) (hc124_3 : (1 : Int32) < j3) (hhk_131 : own_ok j1 A11 j5 = true) (hc160_5 : (2 : Int32) < j3) : own_ok j1 A15 j6 = true := by
  obtain ⟨K, hK, eK⟩ := own_pl_L p1
  rw [eK] at hj1
  subst hj1
  obtain ⟨g0, b0, e0⟩ := own_pl_p p4
  rw [e0] at hj4
  subst hj4
  have r1 := own_run_go (own_pl_r K hK) b0
  obtain ⟨g1, b1, e1⟩ := own_pl_g p5
  rw [e1, own_pl_add] at hj5
  subst hj5
  have r2 := own_run_go r1.2 b1
  obtain ⟨g2, b2, e2⟩ := own_pl_g ((p5.toUInt32 >>> ((3 : Int32) &&& 31).toUInt32).toInt32)
  rw [e2, own_pl_add] at hj6
  subst hj6
  have r3 := own_run_go r2.2 b2
  subst hA11
  subst hA15
  exact r3.1
theorem own_at_hhk_203_tttt (p1 : Int32) (p3 : Int32) (p4 : Int32) (p5 : Int32) (p6 : Int32) (j1 : Int32) (j3 : Int32) (j4 : Int64) (j5 : Int64) (j6 : Int64) (j7 : Int64) (A11 : own_A) (A15 : own_A) (A19 : own_A) (hj1 : j1 = ((1 : Int32) + (p1 &&& (7 : Int32)))) (hj3 : j3 = ((p3 &&& (2147483647 : Int32)) % (5 : Int32))) (hj4 : j4 = (p4 &&& (15 : Int32)).toInt64) (hj5 : j5 = (j4 + (p5 &&& (7 : Int32)).toInt64)) (hj6 : j6 = (j5 + (((p5.toUInt32 >>> ((3 : Int32) &&& 31).toUInt32).toInt32) &&& (7 : Int32)).toInt64)) (hj7 : j7 = (j6 + (p6 &&& (7 : Int32)).toInt64)) (hA11 : A11 = own_step j1 (own_A0 j1) j4) (hA15 : A15 = own_step j1 A11 j5) (hA19 : A19 = own_step j1 A15 j6) (hnz14 : ¬ (j1 = (0 : Int32))) (hc88_1 : (0 : Int32) < j3) (hhk_95 : own_ok j1 (own_A0 j1) j4 = true) (hc124_3 : (1 : Int32) < j3) (hhk_131 : own_ok j1 A11 j5 = true) (hc160_5 : (2 : Int32) < j3) (hhk_167 : own_ok j1 A15 j6 = true) (hc196_7 : (3 : Int32) < j3) : own_ok j1 A19 j7 = true := by
  obtain ⟨K, hK, eK⟩ := own_pl_L p1
  rw [eK] at hj1
  subst hj1
  obtain ⟨g0, b0, e0⟩ := own_pl_p p4
  rw [e0] at hj4
  subst hj4
  have r1 := own_run_go (own_pl_r K hK) b0
  obtain ⟨g1, b1, e1⟩ := own_pl_g p5
  rw [e1, own_pl_add] at hj5
  subst hj5
  have r2 := own_run_go r1.2 b1
  obtain ⟨g2, b2, e2⟩ := own_pl_g ((p5.toUInt32 >>> ((3 : Int32) &&& 31).toUInt32).toInt32)
  rw [e2, own_pl_add] at hj6
  subst hj6
  have r3 := own_run_go r2.2 b2
  obtain ⟨g3, b3, e3⟩ := own_pl_g p6
  rw [e3, own_pl_add] at hj7
  subst hj7
  have r4 := own_run_go r3.2 b3
  subst hA11
  subst hA15
  subst hA19
  exact r4.1
theorem own_at_hhnz20_233_tttt (p1 : Int32) (p3 : Int32) (p4 : Int32) (p5 : Int32) (p6 : Int32) (j1 : Int32) (j3 : Int32) (j4 : Int64) (j5 : Int64) (j6 : Int64) (j7 : Int64) (A11 : own_A) (A15 : own_A) (A19 : own_A) (hj1 : j1 = ((1 : Int32) + (p1 &&& (7 : Int32)))) (hj3 : j3 = ((p3 &&& (2147483647 : Int32)) % (5 : Int32))) (hj4 : j4 = (p4 &&& (15 : Int32)).toInt64) (hj5 : j5 = (j4 + (p5 &&& (7 : Int32)).toInt64)) (hj6 : j6 = (j5 + (((p5.toUInt32 >>> ((3 : Int32) &&& 31).toUInt32).toInt32) &&& (7 : Int32)).toInt64)) (hj7 : j7 = (j6 + (p6 &&& (7 : Int32)).toInt64)) (hA11 : A11 = own_step j1 (own_A0 j1) j4) (hA15 : A15 = own_step j1 A11 j5) (hA19 : A19 = own_step j1 A15 j6) (hnz14 : ¬ (j1 = (0 : Int32))) (hc88_1 : (0 : Int32) < j3) (hhk_95 : own_ok j1 (own_A0 j1) j4 = true) (hc124_3 : (1 : Int32) < j3) (hhk_131 : own_ok j1 A11 j5 = true) (hc160_5 : (2 : Int32) < j3) (hhk_167 : own_ok j1 A15 j6 = true) (hc196_7 : (3 : Int32) < j3) (hhk_203 : own_ok j1 A19 j7 = true) : ¬ (j1.toInt64 = (0 : Int64)) := by
  obtain ⟨K, hK, eK⟩ := own_pl_L p1
  rw [eK] at hj1
  subst hj1
  exact (own_pl_nz K hK).2.1
theorem own_yes_tttt (p1 : Int32) (p2 : Int32) (p3 : Int32) (p4 : Int32) (p5 : Int32) (p6 : Int32) (j1 : Int32) (j2 : Int32) (j3 : Int32) (j4 : Int64) (j5 : Int64) (j6 : Int64) (j7 : Int64) (j10 : Int64) (A11 : own_A) (j12 : Int64) (j13 : Int64) (A15 : own_A) (j16 : Int64) (j17 : Int64) (A19 : own_A) (j20 : Int64) (j21 : Int64) (A23 : own_A) (j25 : Int64) (j28 : Int32) (hj1 : j1 = ((1 : Int32) + (p1 &&& (7 : Int32)))) (hj2 : j2 = ((p2 &&& (2147483647 : Int32)) % j1)) (hj3 : j3 = ((p3 &&& (2147483647 : Int32)) % (5 : Int32))) (hj4 : j4 = (p4 &&& (15 : Int32)).toInt64) (hj5 : j5 = (j4 + (p5 &&& (7 : Int32)).toInt64)) (hj6 : j6 = (j5 + (((p5.toUInt32 >>> ((3 : Int32) &&& 31).toUInt32).toInt32) &&& (7 : Int32)).toInt64)) (hj7 : j7 = (j6 + (p6 &&& (7 : Int32)).toInt64)) (hj10 : j10 = j2.toInt64) (hA11 : A11 = own_step j1 (own_A0 j1) j4) (hj12 : j12 = (if j4 < j10 then j10 else (j4 + j1.toInt64))) (hj13 : j13 = (if j4 < j10 then (0 : Int64) else (1 : Int64))) (hA15 : A15 = own_step j1 A11 j5) (hj16 : j16 = (if j5 < j12 then j12 else (j5 + j1.toInt64))) (hj17 : j17 = (if j5 < j12 then j13 else (j13 + (1 : Int64)))) (hA19 : A19 = own_step j1 A15 j6) (hj20 : j20 = (if j6 < j16 then j16 else (j6 + j1.toInt64))) (hj21 : j21 = (if j6 < j16 then j17 else (j17 + (1 : Int64)))) (hA23 : A23 = own_step j1 A19 j7) (hj25 : j25 = (if j7 < j20 then j21 else (j21 + (1 : Int64)))) (hj28 : j28 = (if (r_8 j2 (A23.1) j1) = j25 then (1 : Int32) else (0 : Int32))) (hnz14 : ¬ (j1 = (0 : Int32))) (hc88_1 : (0 : Int32) < j3) (hhk_95 : own_ok j1 (own_A0 j1) j4 = true) (hc124_3 : (1 : Int32) < j3) (hhk_131 : own_ok j1 A11 j5 = true) (hc160_5 : (2 : Int32) < j3) (hhk_167 : own_ok j1 A15 j6 = true) (hc196_7 : (3 : Int32) < j3) (hhk_203 : own_ok j1 A19 j7 = true) (hhnz20_233 : ¬ (j1.toInt64 = (0 : Int64))) : (nar .boolean j28) = 1 := by
  obtain ⟨K, hK, eK⟩ := own_pl_L p1
  rw [eK] at hj1
  subst hj1
  obtain ⟨g0, b0, e0⟩ := own_pl_p p4
  rw [e0] at hj4
  subst hj4
  have r1 := own_run_go (own_pl_r K hK) b0
  obtain ⟨g1, b1, e1⟩ := own_pl_g p5
  rw [e1, own_pl_add] at hj5
  subst hj5
  have r2 := own_run_go r1.2 b1
  obtain ⟨g2, b2, e2⟩ := own_pl_g ((p5.toUInt32 >>> ((3 : Int32) &&& 31).toUInt32).toInt32)
  rw [e2, own_pl_add] at hj6
  subst hj6
  have r3 := own_run_go r2.2 b2
  obtain ⟨g3, b3, e3⟩ := own_pl_g p6
  rw [e3, own_pl_add] at hj7
  subst hj7
  have r4 := own_run_go r3.2 b3
  subst hA11
  subst hA15
  subst hA19
  subst hA23
  obtain ⟨c, hc, ec⟩ := own_pl_cov p2 hK
  rw [ec] at hj2
  subst hj2
  rw [own_pl_64 c (by omega)] at hj10
  have m0 : (c, c, 0) ∈ (List.range (K + 1)).map fun c => (c, c, 0) := List.mem_map.mpr ⟨c, List.mem_range.mpr hc, rfl⟩
  have kc : ((c, c, 0) : Nat × Nat × Nat).2.1 = c := rfl
  have k1 := own_pl_gr (p := 0 + g0) (q := (c, c, 0)) hK (by omega) hj10 (by show c < 900; omega) (rfl : (0 : Int64) = Int64.ofNat 0)
  have m1 := List.mem_map_of_mem (f := own_gr (K + 1) (0 + g0)) m0
  have k2 := own_pl_gr (p := 0 + g0 + g1) (q := (own_gr (K + 1) (0 + g0) (c, c, 0))) hK (by omega) (hj12.trans k1.1) (by have := k1.2.2.2; omega) (hj13.trans k1.2.1)
  have m2 := List.mem_map_of_mem (f := own_gr (K + 1) (0 + g0 + g1)) m1
  have k3 := own_pl_gr (p := 0 + g0 + g1 + g2) (q := (own_gr (K + 1) (0 + g0 + g1) (own_gr (K + 1) (0 + g0) (c, c, 0)))) hK (by omega) (hj16.trans k2.1) (by have := k2.2.2.2; omega) (hj17.trans k2.2.1)
  have m3 := List.mem_map_of_mem (f := own_gr (K + 1) (0 + g0 + g1 + g2)) m2
  have k4 := own_pl_gr (p := 0 + g0 + g1 + g2 + g3) (q := (own_gr (K + 1) (0 + g0 + g1 + g2) (own_gr (K + 1) (0 + g0 + g1) (own_gr (K + 1) (0 + g0) (c, c, 0))))) hK (by omega) (hj20.trans k3.1) (by have := k3.2.2.2; omega) (hj21.trans k3.2.1)
  have m4 := List.mem_map_of_mem (f := own_gr (K + 1) (0 + g0 + g1 + g2 + g3)) m3
  obtain ⟨t, ht, et, eq⟩ := own_ck_at (own_run_ck r4.2) m4
  rw [show (own_gr (K + 1) (0 + g0 + g1 + g2 + g3) (own_gr (K + 1) (0 + g0 + g1 + g2) (own_gr (K + 1) (0 + g0 + g1) (own_gr (K + 1) (0 + g0) (c, c, 0))))).1 = c from (((k4.2.2.1.trans k3.2.2.1).trans k2.2.2.1).trans k1.2.2.1)] at eq
  exact own_pl_end hK hc ht et (hj25.trans k4.2.1) eq hj28
theorem own_at_hhnz20_233_tttf (p1 : Int32) (p3 : Int32) (p4 : Int32) (p5 : Int32) (j1 : Int32) (j3 : Int32) (j4 : Int64) (j5 : Int64) (j6 : Int64) (A11 : own_A) (A15 : own_A) (hj1 : j1 = ((1 : Int32) + (p1 &&& (7 : Int32)))) (hj3 : j3 = ((p3 &&& (2147483647 : Int32)) % (5 : Int32))) (hj4 : j4 = (p4 &&& (15 : Int32)).toInt64) (hj5 : j5 = (j4 + (p5 &&& (7 : Int32)).toInt64)) (hj6 : j6 = (j5 + (((p5.toUInt32 >>> ((3 : Int32) &&& 31).toUInt32).toInt32) &&& (7 : Int32)).toInt64)) (hA11 : A11 = own_step j1 (own_A0 j1) j4) (hA15 : A15 = own_step j1 A11 j5) (hnz14 : ¬ (j1 = (0 : Int32))) (hc88_1 : (0 : Int32) < j3) (hhk_95 : own_ok j1 (own_A0 j1) j4 = true) (hc124_3 : (1 : Int32) < j3) (hhk_131 : own_ok j1 A11 j5 = true) (hc160_5 : (2 : Int32) < j3) (hhk_167 : own_ok j1 A15 j6 = true) (hc196_7 : ¬ ((3 : Int32) < j3)) : ¬ (j1.toInt64 = (0 : Int64)) := by
  obtain ⟨K, hK, eK⟩ := own_pl_L p1
  rw [eK] at hj1
  subst hj1
  exact (own_pl_nz K hK).2.1
theorem own_yes_tttf (p1 : Int32) (p2 : Int32) (p3 : Int32) (p4 : Int32) (p5 : Int32) (j1 : Int32) (j2 : Int32) (j3 : Int32) (j4 : Int64) (j5 : Int64) (j6 : Int64) (j10 : Int64) (A11 : own_A) (j12 : Int64) (j13 : Int64) (A15 : own_A) (j16 : Int64) (j17 : Int64) (A19 : own_A) (j21 : Int64) (j31 : Int32) (hj1 : j1 = ((1 : Int32) + (p1 &&& (7 : Int32)))) (hj2 : j2 = ((p2 &&& (2147483647 : Int32)) % j1)) (hj3 : j3 = ((p3 &&& (2147483647 : Int32)) % (5 : Int32))) (hj4 : j4 = (p4 &&& (15 : Int32)).toInt64) (hj5 : j5 = (j4 + (p5 &&& (7 : Int32)).toInt64)) (hj6 : j6 = (j5 + (((p5.toUInt32 >>> ((3 : Int32) &&& 31).toUInt32).toInt32) &&& (7 : Int32)).toInt64)) (hj10 : j10 = j2.toInt64) (hA11 : A11 = own_step j1 (own_A0 j1) j4) (hj12 : j12 = (if j4 < j10 then j10 else (j4 + j1.toInt64))) (hj13 : j13 = (if j4 < j10 then (0 : Int64) else (1 : Int64))) (hA15 : A15 = own_step j1 A11 j5) (hj16 : j16 = (if j5 < j12 then j12 else (j5 + j1.toInt64))) (hj17 : j17 = (if j5 < j12 then j13 else (j13 + (1 : Int64)))) (hA19 : A19 = own_step j1 A15 j6) (hj21 : j21 = (if j6 < j16 then j17 else (j17 + (1 : Int64)))) (hj31 : j31 = (if (r_8 j2 (A19.1) j1) = j21 then (1 : Int32) else (0 : Int32))) (hnz14 : ¬ (j1 = (0 : Int32))) (hc88_1 : (0 : Int32) < j3) (hhk_95 : own_ok j1 (own_A0 j1) j4 = true) (hc124_3 : (1 : Int32) < j3) (hhk_131 : own_ok j1 A11 j5 = true) (hc160_5 : (2 : Int32) < j3) (hhk_167 : own_ok j1 A15 j6 = true) (hc196_7 : ¬ ((3 : Int32) < j3)) (hhnz20_233 : ¬ (j1.toInt64 = (0 : Int64))) : (nar .boolean j31) = 1 := by
  obtain ⟨K, hK, eK⟩ := own_pl_L p1
  rw [eK] at hj1
  subst hj1
  obtain ⟨g0, b0, e0⟩ := own_pl_p p4
  rw [e0] at hj4
  subst hj4
  have r1 := own_run_go (own_pl_r K hK) b0
  obtain ⟨g1, b1, e1⟩ := own_pl_g p5
  rw [e1, own_pl_add] at hj5
  subst hj5
  have r2 := own_run_go r1.2 b1
  obtain ⟨g2, b2, e2⟩ := own_pl_g ((p5.toUInt32 >>> ((3 : Int32) &&& 31).toUInt32).toInt32)
  rw [e2, own_pl_add] at hj6
  subst hj6
  have r3 := own_run_go r2.2 b2
  subst hA11
  subst hA15
  subst hA19
  obtain ⟨c, hc, ec⟩ := own_pl_cov p2 hK
  rw [ec] at hj2
  subst hj2
  rw [own_pl_64 c (by omega)] at hj10
  have m0 : (c, c, 0) ∈ (List.range (K + 1)).map fun c => (c, c, 0) := List.mem_map.mpr ⟨c, List.mem_range.mpr hc, rfl⟩
  have kc : ((c, c, 0) : Nat × Nat × Nat).2.1 = c := rfl
  have k1 := own_pl_gr (p := 0 + g0) (q := (c, c, 0)) hK (by omega) hj10 (by show c < 900; omega) (rfl : (0 : Int64) = Int64.ofNat 0)
  have m1 := List.mem_map_of_mem (f := own_gr (K + 1) (0 + g0)) m0
  have k2 := own_pl_gr (p := 0 + g0 + g1) (q := (own_gr (K + 1) (0 + g0) (c, c, 0))) hK (by omega) (hj12.trans k1.1) (by have := k1.2.2.2; omega) (hj13.trans k1.2.1)
  have m2 := List.mem_map_of_mem (f := own_gr (K + 1) (0 + g0 + g1)) m1
  have k3 := own_pl_gr (p := 0 + g0 + g1 + g2) (q := (own_gr (K + 1) (0 + g0 + g1) (own_gr (K + 1) (0 + g0) (c, c, 0)))) hK (by omega) (hj16.trans k2.1) (by have := k2.2.2.2; omega) (hj17.trans k2.2.1)
  have m3 := List.mem_map_of_mem (f := own_gr (K + 1) (0 + g0 + g1 + g2)) m2
  obtain ⟨t, ht, et, eq⟩ := own_ck_at (own_run_ck r3.2) m3
  rw [show (own_gr (K + 1) (0 + g0 + g1 + g2) (own_gr (K + 1) (0 + g0 + g1) (own_gr (K + 1) (0 + g0) (c, c, 0)))).1 = c from ((k3.2.2.1.trans k2.2.2.1).trans k1.2.2.1)] at eq
  exact own_pl_end hK hc ht et (hj21.trans k3.2.1) eq hj31
theorem own_at_hs196_ttf (p1 : Int32) (p3 : Int32) (p4 : Int32) (p5 : Int32) (j1 : Int32) (j3 : Int32) (j4 : Int64) (j5 : Int64) (A11 : own_A) (hj1 : j1 = ((1 : Int32) + (p1 &&& (7 : Int32)))) (hj3 : j3 = ((p3 &&& (2147483647 : Int32)) % (5 : Int32))) (hj4 : j4 = (p4 &&& (15 : Int32)).toInt64) (hj5 : j5 = (j4 + (p5 &&& (7 : Int32)).toInt64)) (hA11 : A11 = own_step j1 (own_A0 j1) j4) (hnz14 : ¬ (j1 = (0 : Int32))) (hc88_1 : (0 : Int32) < j3) (hhk_95 : own_ok j1 (own_A0 j1) j4 = true) (hc124_3 : (1 : Int32) < j3) (hhk_131 : own_ok j1 A11 j5 = true) (hc160_5 : ¬ ((2 : Int32) < j3)) : ¬ ((3 : Int32) < j3) := by
  exact own_pl_le hc160_5 (by decide)
theorem own_at_hhnz20_233_ttf (p1 : Int32) (p3 : Int32) (p4 : Int32) (p5 : Int32) (j1 : Int32) (j3 : Int32) (j4 : Int64) (j5 : Int64) (A11 : own_A) (hj1 : j1 = ((1 : Int32) + (p1 &&& (7 : Int32)))) (hj3 : j3 = ((p3 &&& (2147483647 : Int32)) % (5 : Int32))) (hj4 : j4 = (p4 &&& (15 : Int32)).toInt64) (hj5 : j5 = (j4 + (p5 &&& (7 : Int32)).toInt64)) (hA11 : A11 = own_step j1 (own_A0 j1) j4) (hnz14 : ¬ (j1 = (0 : Int32))) (hc88_1 : (0 : Int32) < j3) (hhk_95 : own_ok j1 (own_A0 j1) j4 = true) (hc124_3 : (1 : Int32) < j3) (hhk_131 : own_ok j1 A11 j5 = true) (hc160_5 : ¬ ((2 : Int32) < j3)) (hs196 : ¬ ((3 : Int32) < j3)) : ¬ (j1.toInt64 = (0 : Int64)) := by
  obtain ⟨K, hK, eK⟩ := own_pl_L p1
  rw [eK] at hj1
  subst hj1
  exact (own_pl_nz K hK).2.1
theorem own_yes_ttf (p1 : Int32) (p2 : Int32) (p3 : Int32) (p4 : Int32) (p5 : Int32) (j1 : Int32) (j2 : Int32) (j3 : Int32) (j4 : Int64) (j5 : Int64) (j10 : Int64) (A11 : own_A) (j12 : Int64) (j13 : Int64) (A15 : own_A) (j17 : Int64) (j34 : Int32) (hj1 : j1 = ((1 : Int32) + (p1 &&& (7 : Int32)))) (hj2 : j2 = ((p2 &&& (2147483647 : Int32)) % j1)) (hj3 : j3 = ((p3 &&& (2147483647 : Int32)) % (5 : Int32))) (hj4 : j4 = (p4 &&& (15 : Int32)).toInt64) (hj5 : j5 = (j4 + (p5 &&& (7 : Int32)).toInt64)) (hj10 : j10 = j2.toInt64) (hA11 : A11 = own_step j1 (own_A0 j1) j4) (hj12 : j12 = (if j4 < j10 then j10 else (j4 + j1.toInt64))) (hj13 : j13 = (if j4 < j10 then (0 : Int64) else (1 : Int64))) (hA15 : A15 = own_step j1 A11 j5) (hj17 : j17 = (if j5 < j12 then j13 else (j13 + (1 : Int64)))) (hj34 : j34 = (if (r_8 j2 (A15.1) j1) = j17 then (1 : Int32) else (0 : Int32))) (hnz14 : ¬ (j1 = (0 : Int32))) (hc88_1 : (0 : Int32) < j3) (hhk_95 : own_ok j1 (own_A0 j1) j4 = true) (hc124_3 : (1 : Int32) < j3) (hhk_131 : own_ok j1 A11 j5 = true) (hc160_5 : ¬ ((2 : Int32) < j3)) (hs196 : ¬ ((3 : Int32) < j3)) (hhnz20_233 : ¬ (j1.toInt64 = (0 : Int64))) : (nar .boolean j34) = 1 := by
  obtain ⟨K, hK, eK⟩ := own_pl_L p1
  rw [eK] at hj1
  subst hj1
  obtain ⟨g0, b0, e0⟩ := own_pl_p p4
  rw [e0] at hj4
  subst hj4
  have r1 := own_run_go (own_pl_r K hK) b0
  obtain ⟨g1, b1, e1⟩ := own_pl_g p5
  rw [e1, own_pl_add] at hj5
  subst hj5
  have r2 := own_run_go r1.2 b1
  subst hA11
  subst hA15
  obtain ⟨c, hc, ec⟩ := own_pl_cov p2 hK
  rw [ec] at hj2
  subst hj2
  rw [own_pl_64 c (by omega)] at hj10
  have m0 : (c, c, 0) ∈ (List.range (K + 1)).map fun c => (c, c, 0) := List.mem_map.mpr ⟨c, List.mem_range.mpr hc, rfl⟩
  have kc : ((c, c, 0) : Nat × Nat × Nat).2.1 = c := rfl
  have k1 := own_pl_gr (p := 0 + g0) (q := (c, c, 0)) hK (by omega) hj10 (by show c < 900; omega) (rfl : (0 : Int64) = Int64.ofNat 0)
  have m1 := List.mem_map_of_mem (f := own_gr (K + 1) (0 + g0)) m0
  have k2 := own_pl_gr (p := 0 + g0 + g1) (q := (own_gr (K + 1) (0 + g0) (c, c, 0))) hK (by omega) (hj12.trans k1.1) (by have := k1.2.2.2; omega) (hj13.trans k1.2.1)
  have m2 := List.mem_map_of_mem (f := own_gr (K + 1) (0 + g0 + g1)) m1
  obtain ⟨t, ht, et, eq⟩ := own_ck_at (own_run_ck r2.2) m2
  rw [show (own_gr (K + 1) (0 + g0 + g1) (own_gr (K + 1) (0 + g0) (c, c, 0))).1 = c from (k2.2.2.1.trans k1.2.2.1)] at eq
  exact own_pl_end hK hc ht et (hj17.trans k2.2.1) eq hj34
theorem own_at_hs160_tf (p1 : Int32) (p3 : Int32) (p4 : Int32) (j1 : Int32) (j3 : Int32) (j4 : Int64) (hj1 : j1 = ((1 : Int32) + (p1 &&& (7 : Int32)))) (hj3 : j3 = ((p3 &&& (2147483647 : Int32)) % (5 : Int32))) (hj4 : j4 = (p4 &&& (15 : Int32)).toInt64) (hnz14 : ¬ (j1 = (0 : Int32))) (hc88_1 : (0 : Int32) < j3) (hhk_95 : own_ok j1 (own_A0 j1) j4 = true) (hc124_3 : ¬ ((1 : Int32) < j3)) : ¬ ((2 : Int32) < j3) := by
  exact own_pl_le hc124_3 (by decide)
theorem own_at_hs196_tf (p1 : Int32) (p3 : Int32) (p4 : Int32) (j1 : Int32) (j3 : Int32) (j4 : Int64) (hj1 : j1 = ((1 : Int32) + (p1 &&& (7 : Int32)))) (hj3 : j3 = ((p3 &&& (2147483647 : Int32)) % (5 : Int32))) (hj4 : j4 = (p4 &&& (15 : Int32)).toInt64) (hnz14 : ¬ (j1 = (0 : Int32))) (hc88_1 : (0 : Int32) < j3) (hhk_95 : own_ok j1 (own_A0 j1) j4 = true) (hc124_3 : ¬ ((1 : Int32) < j3)) (hs160 : ¬ ((2 : Int32) < j3)) : ¬ ((3 : Int32) < j3) := by
  exact own_pl_le hc124_3 (by decide)
theorem own_at_hhnz20_233_tf (p1 : Int32) (p3 : Int32) (p4 : Int32) (j1 : Int32) (j3 : Int32) (j4 : Int64) (hj1 : j1 = ((1 : Int32) + (p1 &&& (7 : Int32)))) (hj3 : j3 = ((p3 &&& (2147483647 : Int32)) % (5 : Int32))) (hj4 : j4 = (p4 &&& (15 : Int32)).toInt64) (hnz14 : ¬ (j1 = (0 : Int32))) (hc88_1 : (0 : Int32) < j3) (hhk_95 : own_ok j1 (own_A0 j1) j4 = true) (hc124_3 : ¬ ((1 : Int32) < j3)) (hs160 : ¬ ((2 : Int32) < j3)) (hs196 : ¬ ((3 : Int32) < j3)) : ¬ (j1.toInt64 = (0 : Int64)) := by
  obtain ⟨K, hK, eK⟩ := own_pl_L p1
  rw [eK] at hj1
  subst hj1
  exact (own_pl_nz K hK).2.1
theorem own_yes_tf (p1 : Int32) (p2 : Int32) (p3 : Int32) (p4 : Int32) (j1 : Int32) (j2 : Int32) (j3 : Int32) (j4 : Int64) (j10 : Int64) (A11 : own_A) (j13 : Int64) (j37 : Int32) (hj1 : j1 = ((1 : Int32) + (p1 &&& (7 : Int32)))) (hj2 : j2 = ((p2 &&& (2147483647 : Int32)) % j1)) (hj3 : j3 = ((p3 &&& (2147483647 : Int32)) % (5 : Int32))) (hj4 : j4 = (p4 &&& (15 : Int32)).toInt64) (hj10 : j10 = j2.toInt64) (hA11 : A11 = own_step j1 (own_A0 j1) j4) (hj13 : j13 = (if j4 < j10 then (0 : Int64) else (1 : Int64))) (hj37 : j37 = (if (r_8 j2 (A11.1) j1) = j13 then (1 : Int32) else (0 : Int32))) (hnz14 : ¬ (j1 = (0 : Int32))) (hc88_1 : (0 : Int32) < j3) (hhk_95 : own_ok j1 (own_A0 j1) j4 = true) (hc124_3 : ¬ ((1 : Int32) < j3)) (hs160 : ¬ ((2 : Int32) < j3)) (hs196 : ¬ ((3 : Int32) < j3)) (hhnz20_233 : ¬ (j1.toInt64 = (0 : Int64))) : (nar .boolean j37) = 1 := by
  obtain ⟨K, hK, eK⟩ := own_pl_L p1
  rw [eK] at hj1
  subst hj1
  obtain ⟨g0, b0, e0⟩ := own_pl_p p4
  rw [e0] at hj4
  subst hj4
  have r1 := own_run_go (own_pl_r K hK) b0
  subst hA11
  obtain ⟨c, hc, ec⟩ := own_pl_cov p2 hK
  rw [ec] at hj2
  subst hj2
  rw [own_pl_64 c (by omega)] at hj10
  have m0 : (c, c, 0) ∈ (List.range (K + 1)).map fun c => (c, c, 0) := List.mem_map.mpr ⟨c, List.mem_range.mpr hc, rfl⟩
  have kc : ((c, c, 0) : Nat × Nat × Nat).2.1 = c := rfl
  have k1 := own_pl_gr (p := 0 + g0) (q := (c, c, 0)) hK (by omega) hj10 (by show c < 900; omega) (rfl : (0 : Int64) = Int64.ofNat 0)
  have m1 := List.mem_map_of_mem (f := own_gr (K + 1) (0 + g0)) m0
  obtain ⟨t, ht, et, eq⟩ := own_ck_at (own_run_ck r1.2) m1
  rw [show (own_gr (K + 1) (0 + g0) (c, c, 0)).1 = c from k1.2.2.1] at eq
  exact own_pl_end hK hc ht et (hj13.trans k1.2.1) eq hj37
theorem own_at_hs124_f (p1 : Int32) (p3 : Int32) (j1 : Int32) (j3 : Int32) (hj1 : j1 = ((1 : Int32) + (p1 &&& (7 : Int32)))) (hj3 : j3 = ((p3 &&& (2147483647 : Int32)) % (5 : Int32))) (hnz14 : ¬ (j1 = (0 : Int32))) (hc88_1 : ¬ ((0 : Int32) < j3)) : ¬ ((1 : Int32) < j3) := by
  exact own_pl_le hc88_1 (by decide)
theorem own_at_hs160_f (p1 : Int32) (p3 : Int32) (j1 : Int32) (j3 : Int32) (hj1 : j1 = ((1 : Int32) + (p1 &&& (7 : Int32)))) (hj3 : j3 = ((p3 &&& (2147483647 : Int32)) % (5 : Int32))) (hnz14 : ¬ (j1 = (0 : Int32))) (hc88_1 : ¬ ((0 : Int32) < j3)) (hs124 : ¬ ((1 : Int32) < j3)) : ¬ ((2 : Int32) < j3) := by
  exact own_pl_le hc88_1 (by decide)
theorem own_at_hs196_f (p1 : Int32) (p3 : Int32) (j1 : Int32) (j3 : Int32) (hj1 : j1 = ((1 : Int32) + (p1 &&& (7 : Int32)))) (hj3 : j3 = ((p3 &&& (2147483647 : Int32)) % (5 : Int32))) (hnz14 : ¬ (j1 = (0 : Int32))) (hc88_1 : ¬ ((0 : Int32) < j3)) (hs124 : ¬ ((1 : Int32) < j3)) (hs160 : ¬ ((2 : Int32) < j3)) : ¬ ((3 : Int32) < j3) := by
  exact own_pl_le hc88_1 (by decide)
theorem own_at_hhnz20_233_f (p1 : Int32) (p3 : Int32) (j1 : Int32) (j3 : Int32) (hj1 : j1 = ((1 : Int32) + (p1 &&& (7 : Int32)))) (hj3 : j3 = ((p3 &&& (2147483647 : Int32)) % (5 : Int32))) (hnz14 : ¬ (j1 = (0 : Int32))) (hc88_1 : ¬ ((0 : Int32) < j3)) (hs124 : ¬ ((1 : Int32) < j3)) (hs160 : ¬ ((2 : Int32) < j3)) (hs196 : ¬ ((3 : Int32) < j3)) : ¬ (j1.toInt64 = (0 : Int64)) := by
  obtain ⟨K, hK, eK⟩ := own_pl_L p1
  rw [eK] at hj1
  subst hj1
  exact (own_pl_nz K hK).2.1
theorem own_yes_f (p1 : Int32) (p2 : Int32) (p3 : Int32) (j1 : Int32) (j2 : Int32) (j3 : Int32) (j40 : Int32) (hj1 : j1 = ((1 : Int32) + (p1 &&& (7 : Int32)))) (hj2 : j2 = ((p2 &&& (2147483647 : Int32)) % j1)) (hj3 : j3 = ((p3 &&& (2147483647 : Int32)) % (5 : Int32))) (hj40 : j40 = (if (r_8 j2 (0 : Int64) j1) = (0 : Int64) then (1 : Int32) else (0 : Int32))) (hnz14 : ¬ (j1 = (0 : Int32))) (hc88_1 : ¬ ((0 : Int32) < j3)) (hs124 : ¬ ((1 : Int32) < j3)) (hs160 : ¬ ((2 : Int32) < j3)) (hs196 : ¬ ((3 : Int32) < j3)) (hhnz20_233 : ¬ (j1.toInt64 = (0 : Int64))) : (nar .boolean j40) = 1 := by
  obtain ⟨K, hK, eK⟩ := own_pl_L p1
  rw [eK] at hj1
  subst hj1
  obtain ⟨c, hc, ec⟩ := own_pl_cov p2 hK
  rw [ec] at hj2
  subst hj2
  exact own_pl_end (A := ((0 : Int64), 0, 0, 0, (0, 0, 0, 0, 0), (0, 0))) (t := 0) (e := 0) hK hc (by decide) rfl rfl (Nat.div_eq_of_lt (by omega)) hj40
set_option maxRecDepth 65536 in
set_option maxHeartbeats 40000000 in
theorem rm0 (l : Launch) (Z : State) (a0 : Array Value) (hw : ∀ d ∈ tables_1, d.before a0 Z = true) (ws : List Jvm.Cond) (p1 : Int32) (p2 : Int32) (p3 : Int32) (p4 : Int32) (p5 : Int32) (p6 : Int32) (h0 : Heap) (n0 : Nat) (Z0 : n0 ≤ h0.size) :
    own_Met l x code maxLocals ret ws room_1 #[(.int p1), (.int p2), (.int p3), (.int p4), (.int p5), (.int p6)] Z h0 (Q0 Z p1 p2 p3 p4 p5 p6 h0 n0) := by
  refine own_met (plainFor_of_name pn_4) ?_
  intro p e s m below meth c s₁ Bd hx hby hml hZ hown hnm X0 e0
  have wd : ∀ (i : Nat) (d : Jvm.Cond), tables_1[i]? = some d → d.before a0 Z = true := fun i d q => hw d (List.mem_of_getElem? q)
  have NN := Fr.nil n0
  have KK : Keep h0 h0 [] := Keep.refl h0 _
  refine own_start (ef_0 m p1 p2 p3 p4 p5 p6) ?_
  refine cs_iconst cG X0 hx (hb hby at_0) (z := (1 : Int32)) rfl ?_
  refine cs_iloadN cG X0 hx (hb hby at_1) rfl ?_
  refine cs_bipush cG X0 hx (hb hby at_2) (z := (7 : Int32)) rfl ?_
  refine cs_iand cG X0 hx (hb hby at_4) rfl ?_
  refine cs_iadd cG X0 hx (hb hby at_5) rfl ?_
  refine cs_istore cG X0 hx (hb hby at_6) (l' := #[vi p1, vi p2, vi p3, vi p4, vi p5, vi p6, vi ((1 : Int32) + (p1 &&& (7 : Int32))), .unset, .unset, .unset, .unset, .unset, .unset, .unset, .unset, .unset, .unset, .unset, .unset, .unset, .unset, .unset]) rfl ?_
  show own_Go _ _ _ _ s₁ (mkF m 8 #[vi p1, vi p2, vi p3, vi p4, vi p5, vi p6, vi ((1 : Int32) + (p1 &&& (7 : Int32))), .unset, .unset, .unset, .unset, .unset, .unset, .unset, .unset, .unset, .unset, .unset, .unset, .unset, .unset, .unset] [])
  obtain ⟨j1, hj1⟩ : ∃ z : Int32, z = ((1 : Int32) + (p1 &&& (7 : Int32))) := ⟨_, rfl⟩
  rw [← hj1]
  refine cs_iloadN cG X0 hx (hb hby at_8) rfl ?_
  refine cs_ldc cG X0 hx hZ hown (wd 0 _ rfl) (hb hby at_9) ?_
  refine cs_iand cG X0 hx (hb hby at_11) rfl ?_
  refine cs_iload cG X0 hx (hb hby at_12) rfl ?_
  have hnz14 : ¬ (j1 = (0 : Int32)) := own_at_hnz14 p1 j1 hj1
  refine cs_irem cG X0 hx (hb hby at_14) rfl hnz14 ?_
  refine cs_istore cG X0 hx (hb hby at_15) (l' := #[vi p1, vi p2, vi p3, vi p4, vi p5, vi p6, vi j1, vi ((p2 &&& (2147483647 : Int32)) % j1), .unset, .unset, .unset, .unset, .unset, .unset, .unset, .unset, .unset, .unset, .unset, .unset, .unset, .unset]) rfl ?_
  show own_Go _ _ _ _ s₁ (mkF m 17 #[vi p1, vi p2, vi p3, vi p4, vi p5, vi p6, vi j1, vi ((p2 &&& (2147483647 : Int32)) % j1), .unset, .unset, .unset, .unset, .unset, .unset, .unset, .unset, .unset, .unset, .unset, .unset, .unset, .unset] [])
  obtain ⟨j2, hj2⟩ : ∃ z : Int32, z = ((p2 &&& (2147483647 : Int32)) % j1) := ⟨_, rfl⟩
  rw [← hj2]
  refine cs_iloadN cG X0 hx (hb hby at_17) rfl ?_
  refine cs_ldc cG X0 hx hZ hown (wd 0 _ rfl) (hb hby at_18) ?_
  refine cs_iand cG X0 hx (hb hby at_20) rfl ?_
  refine cs_iconst cG X0 hx (hb hby at_21) (z := (5 : Int32)) rfl ?_
  refine cs_irem cG X0 hx (hb hby at_22) rfl (by decide) ?_
  refine cs_istore cG X0 hx (hb hby at_23) (l' := #[vi p1, vi p2, vi p3, vi p4, vi p5, vi p6, vi j1, vi j2, vi ((p3 &&& (2147483647 : Int32)) % (5 : Int32)), .unset, .unset, .unset, .unset, .unset, .unset, .unset, .unset, .unset, .unset, .unset, .unset, .unset]) rfl ?_
  show own_Go _ _ _ _ s₁ (mkF m 25 #[vi p1, vi p2, vi p3, vi p4, vi p5, vi p6, vi j1, vi j2, vi ((p3 &&& (2147483647 : Int32)) % (5 : Int32)), .unset, .unset, .unset, .unset, .unset, .unset, .unset, .unset, .unset, .unset, .unset, .unset, .unset] [])
  obtain ⟨j3, hj3⟩ : ∃ z : Int32, z = ((p3 &&& (2147483647 : Int32)) % (5 : Int32)) := ⟨_, rfl⟩
  rw [← hj3]
  refine cs_iloadN cG X0 hx (hb hby at_25) rfl ?_
  refine cs_bipush cG X0 hx (hb hby at_26) (z := (15 : Int32)) rfl ?_
  refine cs_iand cG X0 hx (hb hby at_28) rfl ?_
  refine cs_i2l cG X0 hx (hb hby at_29) rfl ?_
  refine cs_lstore cG X0 hx (hb hby at_30) (l' := #[vi p1, vi p2, vi p3, vi p4, vi p5, vi p6, vi j1, vi j2, vi j3, vj (p4 &&& (15 : Int32)).toInt64, .second, .unset, .unset, .unset, .unset, .unset, .unset, .unset, .unset, .unset, .unset, .unset]) rfl ?_
  show own_Go _ _ _ _ s₁ (mkF m 32 #[vi p1, vi p2, vi p3, vi p4, vi p5, vi p6, vi j1, vi j2, vi j3, vj (p4 &&& (15 : Int32)).toInt64, .second, .unset, .unset, .unset, .unset, .unset, .unset, .unset, .unset, .unset, .unset, .unset] [])
  obtain ⟨j4, hj4⟩ : ∃ z : Int64, z = (p4 &&& (15 : Int32)).toInt64 := ⟨_, rfl⟩
  rw [← hj4]
  refine cs_lload cG X0 hx (hb hby at_32) rfl ?_
  refine cs_iload cG X0 hx (hb hby at_34) rfl ?_
  refine cs_bipush cG X0 hx (hb hby at_36) (z := (7 : Int32)) rfl ?_
  refine cs_iand cG X0 hx (hb hby at_38) rfl ?_
  refine cs_i2l cG X0 hx (hb hby at_39) rfl ?_
  refine cs_ladd cG X0 hx (hb hby at_40) rfl ?_
  refine cs_lstore cG X0 hx (hb hby at_41) (l' := #[vi p1, vi p2, vi p3, vi p4, vi p5, vi p6, vi j1, vi j2, vi j3, vj j4, .second, vj (j4 + (p5 &&& (7 : Int32)).toInt64), .second, .unset, .unset, .unset, .unset, .unset, .unset, .unset, .unset, .unset]) rfl ?_
  show own_Go _ _ _ _ s₁ (mkF m 43 #[vi p1, vi p2, vi p3, vi p4, vi p5, vi p6, vi j1, vi j2, vi j3, vj j4, .second, vj (j4 + (p5 &&& (7 : Int32)).toInt64), .second, .unset, .unset, .unset, .unset, .unset, .unset, .unset, .unset, .unset] [])
  obtain ⟨j5, hj5⟩ : ∃ z : Int64, z = (j4 + (p5 &&& (7 : Int32)).toInt64) := ⟨_, rfl⟩
  rw [← hj5]
  refine cs_lload cG X0 hx (hb hby at_43) rfl ?_
  refine cs_iload cG X0 hx (hb hby at_45) rfl ?_
  refine cs_iconst cG X0 hx (hb hby at_47) (z := (3 : Int32)) rfl ?_
  refine cs_iushr cG X0 hx (hb hby at_48) rfl ?_
  refine cs_bipush cG X0 hx (hb hby at_49) (z := (7 : Int32)) rfl ?_
  refine cs_iand cG X0 hx (hb hby at_51) rfl ?_
  refine cs_i2l cG X0 hx (hb hby at_52) rfl ?_
  refine cs_ladd cG X0 hx (hb hby at_53) rfl ?_
  refine cs_lstore cG X0 hx (hb hby at_54) (l' := #[vi p1, vi p2, vi p3, vi p4, vi p5, vi p6, vi j1, vi j2, vi j3, vj j4, .second, vj j5, .second, vj (j5 + (((p5.toUInt32 >>> ((3 : Int32) &&& 31).toUInt32).toInt32) &&& (7 : Int32)).toInt64), .second, .unset, .unset, .unset, .unset, .unset, .unset, .unset]) rfl ?_
  show own_Go _ _ _ _ s₁ (mkF m 56 #[vi p1, vi p2, vi p3, vi p4, vi p5, vi p6, vi j1, vi j2, vi j3, vj j4, .second, vj j5, .second, vj (j5 + (((p5.toUInt32 >>> ((3 : Int32) &&& 31).toUInt32).toInt32) &&& (7 : Int32)).toInt64), .second, .unset, .unset, .unset, .unset, .unset, .unset, .unset] [])
  obtain ⟨j6, hj6⟩ : ∃ z : Int64, z = (j5 + (((p5.toUInt32 >>> ((3 : Int32) &&& 31).toUInt32).toInt32) &&& (7 : Int32)).toInt64) := ⟨_, rfl⟩
  rw [← hj6]
  refine cs_lload cG X0 hx (hb hby at_56) rfl ?_
  refine cs_iload cG X0 hx (hb hby at_58) rfl ?_
  refine cs_bipush cG X0 hx (hb hby at_60) (z := (7 : Int32)) rfl ?_
  refine cs_iand cG X0 hx (hb hby at_62) rfl ?_
  refine cs_i2l cG X0 hx (hb hby at_63) rfl ?_
  refine cs_ladd cG X0 hx (hb hby at_64) rfl ?_
  refine cs_lstore cG X0 hx (hb hby at_65) (l' := #[vi p1, vi p2, vi p3, vi p4, vi p5, vi p6, vi j1, vi j2, vi j3, vj j4, .second, vj j5, .second, vj j6, .second, vj (j6 + (p6 &&& (7 : Int32)).toInt64), .second, .unset, .unset, .unset, .unset, .unset]) rfl ?_
  show own_Go _ _ _ _ s₁ (mkF m 67 #[vi p1, vi p2, vi p3, vi p4, vi p5, vi p6, vi j1, vi j2, vi j3, vj j4, .second, vj j5, .second, vj j6, .second, vj (j6 + (p6 &&& (7 : Int32)).toInt64), .second, .unset, .unset, .unset, .unset, .unset] [])
  obtain ⟨j7, hj7⟩ : ∃ z : Int64, z = (j6 + (p6 &&& (7 : Int32)).toInt64) := ⟨_, rfl⟩
  rw [← hj7]
  obtain ⟨T8, h8, X8, e8, E8, A8, D8, -, st8⟩ := newO X0 hx hZ hown (wd 1 _ rfl) (wd 2 _ rfl) (wd 3 _ rfl) e0 (g := (mkF m 67 #[vi p1, vi p2, vi p3, vi p4, vi p5, vi p6, vi j1, vi j2, vi j3, vj j4, .second, vj j5, .second, vj j6, .second, vj j7, .second, .unset, .unset, .unset, .unset, .unset] [])) rfl (hb hby at_67) (by decide) (by decide)
  obtain ⟨b8, g8⟩ : ∃ z, z = h0.size := ⟨_, rfl⟩
  rw [← g8] at A8 D8 st8
  have g_b8 : n0 ≤ b8 := Nat.le_trans Z0 (Nat.le_of_eq g8.symm)
  have Z0 := Nat.le_trans Z0 E8.1
  have E_b8 := A8
  have F_b8_chains : Fld Z h8 b8 own_cC "chains" "Ljava/util/ArrayDeque;" .null := D8 (Or.inr (wd 28 _ rfl)) (ty := (.object own_cD)) (by decide)
  have F_b8_length : Fld Z h8 b8 own_cC "length" "I" (.int (0 : Int32)) := D8 (Or.inr (wd 30 _ rfl)) (ty := .int) (by decide)
  have F_b8_alike : Fld Z h8 b8 own_cC "alike" "J" (.long (0 : Int64)) := D8 (Or.inl (wd 32 _ rfl)) (ty := .long) (by decide)
  have F_b8_turns : Fld Z h8 b8 own_cC "turns" "J" (.long (0 : Int64)) := D8 (Or.inl (wd 39 _ rfl)) (ty := .long) (by decide)
  have F_b8_idle : Fld Z h8 b8 own_cC "idle" "I" (.int (0 : Int32)) := D8 (Or.inl (wd 64 _ rfl)) (ty := .int) (by decide)
  refine own_go st8 ?_
  show own_Go _ _ _ _ T8 (mkF m 70 #[vi p1, vi p2, vi p3, vi p4, vi p5, vi p6, vi j1, vi j2, vi j3, vj j4, .second, vj j5, .second, vj j6, .second, vj j7, .second, .unset, .unset, .unset, .unset, .unset] [(.ref b8)])
  refine cs_dup cG X8 hx (hb hby at_70) rfl ?_
  refine cs_iload cG X8 hx (hb hby at_71) rfl ?_
  refine cs_I cG X8 hx hZ hown (wd 4 _ rfl) (wd 5 _ rfl) (wd 3 _ rfl) (wd 6 _ rfl) rfl (by decide) (rm1 l Z a0 hw [] b8 j1 (0 : Int64) (0 : Int32) .null (.int (0 : Int32)) (.long (0 : Int64)) h8 n0 Z0 F_b8_turns F_b8_idle E_b8 F_b8_chains g_b8 F_b8_length F_b8_alike) (by decide) (by decide) (by decide) (by decide) e8 (by rw [hml]; rfl) (argsL := [(.int j1)]) (S := [(.ref b8)]) (lenOf pd_0 rfl) rfl (W := 1) (Nat.le_of_eq rfl) (hb hby at_73) rfl ?_
  intro v9 T9 L9 X9 hQ9
  obtain ⟨b9_0, b9_1, k9_2, rfl, N9q, K9, Q9_0, Q9_1, Q9_2, Q9_3, Q9_4, Q9_5, R9_0, R9_1, R9_2, R9_3, R9_4, R9_5, R9_6, R9_7, R9_8, R9_9, R9_10⟩ := hQ9
  have ne_b8_b9_0 : b8 ≠ b9_0 := Nat.ne_of_lt (Nat.lt_of_lt_of_le E_b8.lt R9_1)
  have ne_b8_b9_1 : b8 ≠ b9_1 := Nat.ne_of_lt (Nat.lt_of_lt_of_le E_b8.lt R9_8)
  have E_b8 := Q9_0
  have F_b8_turns := Q9_1
  have F_b8_idle := Q9_2
  have F_b8_chains := Q9_3
  have F_b8_length := Q9_4
  have F_b8_alike := Q9_5
  have g_b9_0 := R9_0
  have E_b9_0 := R9_2
  have F_b9_0_elements := R9_3
  have F_b9_0_head := R9_4
  have F_b9_0_tail := R9_5
  have ne_b9_0_b9_1 := R9_6
  have g_b9_1 := R9_7
  have V_b9_1 := R9_9
  have O_b9_1 := R9_10
  have Z0 := Nat.le_trans Z0 K9.1
  have NN := Fr.app NN N9q
  show own_Go _ _ _ _ T9 (mkF m 76 #[vi p1, vi p2, vi p3, vi p4, vi p5, vi p6, vi j1, vi j2, vi j3, vj j4, .second, vj j5, .second, vj j6, .second, vj j7, .second, .unset, .unset, .unset, .unset, .unset] [(.ref b8)])
  refine cs_astore cG X9 hx (hb hby at_76) rfl (l' := #[vi p1, vi p2, vi p3, vi p4, vi p5, vi p6, vi j1, vi j2, vi j3, vj j4, .second, vj j5, .second, vj j6, .second, vj j7, .second, vr b8, .unset, .unset, .unset, .unset]) rfl ?_
  refine cs_iload cG X9 hx (hb hby at_78) rfl ?_
  refine cs_i2l cG X9 hx (hb hby at_80) rfl ?_
  refine cs_lstore cG X9 hx (hb hby at_81) (l' := #[vi p1, vi p2, vi p3, vi p4, vi p5, vi p6, vi j1, vi j2, vi j3, vj j4, .second, vj j5, .second, vj j6, .second, vj j7, .second, vr b8, vj j2.toInt64, .second, .unset, .unset]) rfl ?_
  show own_Go _ _ _ _ T9 (mkF m 83 #[vi p1, vi p2, vi p3, vi p4, vi p5, vi p6, vi j1, vi j2, vi j3, vj j4, .second, vj j5, .second, vj j6, .second, vj j7, .second, vr b8, vj j2.toInt64, .second, .unset, .unset] [])
  obtain ⟨j10, hj10⟩ : ∃ z : Int64, z = j2.toInt64 := ⟨_, rfl⟩
  rw [← hj10]
  refine cs_lconst cG X9 hx (hb hby at_83) (z := (0 : Int64)) rfl ?_
  refine cs_lstore cG X9 hx (hb hby at_84) (l' := #[vi p1, vi p2, vi p3, vi p4, vi p5, vi p6, vi j1, vi j2, vi j3, vj j4, .second, vj j5, .second, vj j6, .second, vj j7, .second, vr b8, vj j10, .second, vj (0 : Int64), .second]) rfl ?_
  refine cs_iload cG X9 hx (hb hby at_86) rfl ?_
  by_cases hc88_1 : (0 : Int32) < j3
  · as_aux_lemma =>
    refine cs_ifNo cG X9 hx (hb hby at_88) ((if0 _ _).trans (tlt hc88_1).2.2.2) ?_
    refine cs_aload cG X9 hx (hb hby at_91) rfl rfl ?_
    refine cs_lload cG X9 hx (hb hby at_93) rfl ?_
    have hhk_95 : own_ok j1 (own_A0 j1) j4 = true := own_at_hhk_95_t p1 p3 p4 j1 j3 j4 hj1 hj3 hj4 hnz14 hc88_1
    refine cs_V cG X9 hx hZ hown (wd 33 _ rfl) (wd 34 _ rfl) (wd 36 _ rfl) (wd 35 _ rfl) (wd 3 _ rfl) (wd 37 _ rfl) (by decide) (rm5B l Z a0 hw [] b8 j4 j1 (own_A0 j1) T9.heap n0 Z0 (own_mk0 E_b8 g_b8 F_b8_length F_b8_turns F_b8_alike F_b8_idle F_b8_chains E_b9_0 g_b9_0 (Ne.symm ne_b8_b9_0) F_b9_0_head F_b9_0_tail F_b9_0_elements O_b9_1 V_b9_1 g_b9_1 (Ne.symm ne_b8_b9_1) ne_b9_0_b9_1 : own_Bn Z _ n0 b8 j1 (own_A0 j1)) hhk_95) (by decide) (by decide) (by decide) (by decide) rfl E_b8 (by rw [hml]; rfl) (argsL := [(.long j4)]) (S := []) (lenOf pd_2 rfl) rfl (W := 0) (Nat.le_of_eq rfl) (hb hby at_95) rfl ?_
    intro v11 T11 L11 X11 hQ11
    obtain ⟨rfl, N11q, Z0, R11⟩ := hQ11
    obtain ⟨A11, hA11⟩ : ∃ z : own_A, z = own_step j1 (own_A0 j1) j4 := ⟨_, rfl⟩
    rw [← hA11] at R11
    obtain ⟨E_b8, -, F_b8_length, F_b8_turns⟩ := own_hd R11
    have NN := Fr.app NN N11q
    show own_Go _ _ _ _ T11 (mkF m 98 #[vi p1, vi p2, vi p3, vi p4, vi p5, vi p6, vi j1, vi j2, vi j3, vj j4, .second, vj j5, .second, vj j6, .second, vj j7, .second, vr b8, vj j10, .second, vj (0 : Int64), .second] [(.int (1 : Int32))])
    refine cs_pop cG X11 hx (hb hby at_98) rfl ?_
    refine cs_lload cG X11 hx (hb hby at_99) rfl ?_
    refine cs_lload cG X11 hx (hb hby at_101) rfl ?_
    refine cs_lcmp cG X11 hx (hb hby at_103) ?_
    show own_Go _ _ _ _ T11 (mkF m 104 #[vi p1, vi p2, vi p3, vi p4, vi p5, vi p6, vi j1, vi j2, vi j3, vj j4, .second, vj j5, .second, vj j6, .second, vj j7, .second, vr b8, vj j10, .second, vj (0 : Int64), .second] [(.int (lcmpW j4 j10))])
    obtain ⟨j12, j13, hj12, hj13, st14⟩ : ∃ (j12 : Int64), ∃ (j13 : Int64), j12 = (if j4 < j10 then j10 else (j4 + j1.toInt64)) ∧ j13 = (if j4 < j10 then (0 : Int64) else (1 : Int64)) ∧ ∀ t, Steps p.tables e below (T11.setTop (mkF m 121 #[vi p1, vi p2, vi p3, vi p4, vi p5, vi p6, vi j1, vi j2, vi j3, vj j4, .second, vj j5, .second, vj j6, .second, vj j7, .second, vr b8, vj j12, .second, vj j13, .second] [])) t → Steps p.tables e below (T11.setTop (mkF m 104 #[vi p1, vi p2, vi p3, vi p4, vi p5, vi p6, vi j1, vi j2, vi j3, vj j4, .second, vj j5, .second, vj j6, .second, vj j7, .second, vr b8, vj j10, .second, vj (0 : Int64), .second] [(.int (lcmpW j4 j10))])) t := by
      by_cases hc104_2 : j4 < j10
      · skip
        refine ⟨j10, (0 : Int64), (by simp only [if_pos hc104_2]), (by simp only [if_pos hc104_2]), fun t k => ?_⟩
        show Steps _ _ _ (T11.setTop (mkF m 104 #[vi p1, vi p2, vi p3, vi p4, vi p5, vi p6, vi j1, vi j2, vi j3, vj j4, .second, vj j5, .second, vj j6, .second, vj j7, .second, vr b8, vj j10, .second, vj (0 : Int64), .second] [(.int (lcmpW j4 j10))])) _
        refine XS.ifYes X11.here hx rfl (pc0 := 104) (pc' := 121) rfl (hb hby at_104) rfl ((if0 _ _).trans (tlt ((lw_lt j4 j10).mpr hc104_2)).1) (by decide) (by decide) ?_
        exact k
      · skip
        refine ⟨(j4 + j1.toInt64), (1 : Int64), (by simp only [if_neg hc104_2]), (by simp only [if_neg hc104_2]), fun t k => ?_⟩
        show Steps _ _ _ (T11.setTop (mkF m 104 #[vi p1, vi p2, vi p3, vi p4, vi p5, vi p6, vi j1, vi j2, vi j3, vj j4, .second, vj j5, .second, vj j6, .second, vj j7, .second, vr b8, vj j10, .second, vj (0 : Int64), .second] [(.int (lcmpW j4 j10))])) _
        refine XS.ifNo X11.here hx rfl (hb hby at_104) rfl ((if0 _ _).trans (flt (fun q => hc104_2 ((lw_lt j4 j10).mp q))).1) ?_
        show Steps _ _ _ (T11.setTop (mkF m 107 #[vi p1, vi p2, vi p3, vi p4, vi p5, vi p6, vi j1, vi j2, vi j3, vj j4, .second, vj j5, .second, vj j6, .second, vj j7, .second, vr b8, vj j10, .second, vj (0 : Int64), .second] [])) _
        refine XS.lload X11.here hx rfl (hb hby at_107) rfl ?_
        show Steps _ _ _ (T11.setTop (mkF m 109 #[vi p1, vi p2, vi p3, vi p4, vi p5, vi p6, vi j1, vi j2, vi j3, vj j4, .second, vj j5, .second, vj j6, .second, vj j7, .second, vr b8, vj j10, .second, vj (0 : Int64), .second] [(.long (0 : Int64))])) _
        refine XS.lconst X11.here hx rfl (hb hby at_109) ?_
        show Steps _ _ _ (T11.setTop (mkF m 110 #[vi p1, vi p2, vi p3, vi p4, vi p5, vi p6, vi j1, vi j2, vi j3, vj j4, .second, vj j5, .second, vj j6, .second, vj j7, .second, vr b8, vj j10, .second, vj (0 : Int64), .second] [(.long (1 : Int64)), (.long (0 : Int64))])) _
        refine XS.ladd X11.here hx rfl (hb hby at_110) rfl ?_
        show Steps _ _ _ (T11.setTop (mkF m 111 #[vi p1, vi p2, vi p3, vi p4, vi p5, vi p6, vi j1, vi j2, vi j3, vj j4, .second, vj j5, .second, vj j6, .second, vj j7, .second, vr b8, vj j10, .second, vj (0 : Int64), .second] [(.long (1 : Int64))])) _
        refine XS.lstore X11.here hx rfl (hb hby at_111) rfl (l' := #[.val (.int p1), .val (.int p2), .val (.int p3), .val (.int p4), .val (.int p5), .val (.int p6), .val (.int j1), .val (.int j2), .val (.int j3), .val (.long j4), .second, .val (.long j5), .second, .val (.long j6), .second, .val (.long j7), .second, .val (.ref b8), .val (.long j10), .second, .val (.long (1 : Int64)), .second]) rfl ?_
        show Steps _ _ _ (T11.setTop (mkF m 113 #[vi p1, vi p2, vi p3, vi p4, vi p5, vi p6, vi j1, vi j2, vi j3, vj j4, .second, vj j5, .second, vj j6, .second, vj j7, .second, vr b8, vj j10, .second, vj (1 : Int64), .second] [])) _
        refine XS.lload X11.here hx rfl (hb hby at_113) rfl ?_
        show Steps _ _ _ (T11.setTop (mkF m 115 #[vi p1, vi p2, vi p3, vi p4, vi p5, vi p6, vi j1, vi j2, vi j3, vj j4, .second, vj j5, .second, vj j6, .second, vj j7, .second, vr b8, vj j10, .second, vj (1 : Int64), .second] [(.long j4)])) _
        refine XS.iload X11.here hx rfl (hb hby at_115) rfl ?_
        show Steps _ _ _ (T11.setTop (mkF m 117 #[vi p1, vi p2, vi p3, vi p4, vi p5, vi p6, vi j1, vi j2, vi j3, vj j4, .second, vj j5, .second, vj j6, .second, vj j7, .second, vr b8, vj j10, .second, vj (1 : Int64), .second] [(.int j1), (.long j4)])) _
        refine XS.i2l X11.here hx rfl (hb hby at_117) rfl ?_
        show Steps _ _ _ (T11.setTop (mkF m 118 #[vi p1, vi p2, vi p3, vi p4, vi p5, vi p6, vi j1, vi j2, vi j3, vj j4, .second, vj j5, .second, vj j6, .second, vj j7, .second, vr b8, vj j10, .second, vj (1 : Int64), .second] [(.long j1.toInt64), (.long j4)])) _
        refine XS.ladd X11.here hx rfl (hb hby at_118) rfl ?_
        show Steps _ _ _ (T11.setTop (mkF m 119 #[vi p1, vi p2, vi p3, vi p4, vi p5, vi p6, vi j1, vi j2, vi j3, vj j4, .second, vj j5, .second, vj j6, .second, vj j7, .second, vr b8, vj j10, .second, vj (1 : Int64), .second] [(.long (j4 + j1.toInt64))])) _
        refine XS.lstore X11.here hx rfl (hb hby at_119) rfl (l' := #[.val (.int p1), .val (.int p2), .val (.int p3), .val (.int p4), .val (.int p5), .val (.int p6), .val (.int j1), .val (.int j2), .val (.int j3), .val (.long j4), .second, .val (.long j5), .second, .val (.long j6), .second, .val (.long j7), .second, .val (.ref b8), .val (.long (j4 + j1.toInt64)), .second, .val (.long (1 : Int64)), .second]) rfl ?_
        exact k
    refine own_go st14 ?_
    refine cs_iload cG X11 hx (hb hby at_121) rfl ?_
    refine cs_iconst cG X11 hx (hb hby at_123) (z := (1 : Int32)) rfl ?_
    by_cases hc124_3 : (1 : Int32) < j3
    · as_aux_lemma =>
      refine cs_icmpNo cG X11 hx (hb hby at_124) (tlt hc124_3).2.2.2 ?_
      refine cs_aload cG X11 hx (hb hby at_127) rfl rfl ?_
      refine cs_lload cG X11 hx (hb hby at_129) rfl ?_
      have hhk_131 : own_ok j1 A11 j5 = true := own_at_hhk_131_tt p1 p3 p4 p5 j1 j3 j4 j5 A11 hj1 hj3 hj4 hj5 hA11 hnz14 hc88_1 hhk_95 hc124_3
      refine cs_V cG X11 hx hZ hown (wd 33 _ rfl) (wd 34 _ rfl) (wd 36 _ rfl) (wd 35 _ rfl) (wd 3 _ rfl) (wd 37 _ rfl) (by decide) (rm5B l Z a0 hw [] b8 j5 j1 A11 T11.heap n0 Z0 R11 hhk_131) (by decide) (by decide) (by decide) (by decide) rfl E_b8 (by rw [hml]; rfl) (argsL := [(.long j5)]) (S := []) (lenOf pd_2 rfl) rfl (W := 0) (Nat.le_of_eq rfl) (hb hby at_131) rfl ?_
      intro v15 T15 L15 X15 hQ15
      obtain ⟨rfl, N15q, Z0, R15⟩ := hQ15
      obtain ⟨A15, hA15⟩ : ∃ z : own_A, z = own_step j1 A11 j5 := ⟨_, rfl⟩
      rw [← hA15] at R15
      obtain ⟨E_b8, -, F_b8_length, F_b8_turns⟩ := own_hd R15
      have NN := Fr.app NN N15q
      show own_Go _ _ _ _ T15 (mkF m 134 #[vi p1, vi p2, vi p3, vi p4, vi p5, vi p6, vi j1, vi j2, vi j3, vj j4, .second, vj j5, .second, vj j6, .second, vj j7, .second, vr b8, vj j12, .second, vj j13, .second] [(.int (1 : Int32))])
      refine cs_pop cG X15 hx (hb hby at_134) rfl ?_
      refine cs_lload cG X15 hx (hb hby at_135) rfl ?_
      refine cs_lload cG X15 hx (hb hby at_137) rfl ?_
      refine cs_lcmp cG X15 hx (hb hby at_139) ?_
      show own_Go _ _ _ _ T15 (mkF m 140 #[vi p1, vi p2, vi p3, vi p4, vi p5, vi p6, vi j1, vi j2, vi j3, vj j4, .second, vj j5, .second, vj j6, .second, vj j7, .second, vr b8, vj j12, .second, vj j13, .second] [(.int (lcmpW j5 j12))])
      obtain ⟨j16, j17, hj16, hj17, st18⟩ : ∃ (j16 : Int64), ∃ (j17 : Int64), j16 = (if j5 < j12 then j12 else (j5 + j1.toInt64)) ∧ j17 = (if j5 < j12 then j13 else (j13 + (1 : Int64))) ∧ ∀ t, Steps p.tables e below (T15.setTop (mkF m 157 #[vi p1, vi p2, vi p3, vi p4, vi p5, vi p6, vi j1, vi j2, vi j3, vj j4, .second, vj j5, .second, vj j6, .second, vj j7, .second, vr b8, vj j16, .second, vj j17, .second] [])) t → Steps p.tables e below (T15.setTop (mkF m 140 #[vi p1, vi p2, vi p3, vi p4, vi p5, vi p6, vi j1, vi j2, vi j3, vj j4, .second, vj j5, .second, vj j6, .second, vj j7, .second, vr b8, vj j12, .second, vj j13, .second] [(.int (lcmpW j5 j12))])) t := by
        by_cases hc140_4 : j5 < j12
        · skip
          refine ⟨j12, j13, (by simp only [if_pos hc140_4]), (by simp only [if_pos hc140_4]), fun t k => ?_⟩
          show Steps _ _ _ (T15.setTop (mkF m 140 #[vi p1, vi p2, vi p3, vi p4, vi p5, vi p6, vi j1, vi j2, vi j3, vj j4, .second, vj j5, .second, vj j6, .second, vj j7, .second, vr b8, vj j12, .second, vj j13, .second] [(.int (lcmpW j5 j12))])) _
          refine XS.ifYes X15.here hx rfl (pc0 := 140) (pc' := 157) rfl (hb hby at_140) rfl ((if0 _ _).trans (tlt ((lw_lt j5 j12).mpr hc140_4)).1) (by decide) (by decide) ?_
          exact k
        · skip
          refine ⟨(j5 + j1.toInt64), (j13 + (1 : Int64)), (by simp only [if_neg hc140_4]), (by simp only [if_neg hc140_4]), fun t k => ?_⟩
          show Steps _ _ _ (T15.setTop (mkF m 140 #[vi p1, vi p2, vi p3, vi p4, vi p5, vi p6, vi j1, vi j2, vi j3, vj j4, .second, vj j5, .second, vj j6, .second, vj j7, .second, vr b8, vj j12, .second, vj j13, .second] [(.int (lcmpW j5 j12))])) _
          refine XS.ifNo X15.here hx rfl (hb hby at_140) rfl ((if0 _ _).trans (flt (fun q => hc140_4 ((lw_lt j5 j12).mp q))).1) ?_
          show Steps _ _ _ (T15.setTop (mkF m 143 #[vi p1, vi p2, vi p3, vi p4, vi p5, vi p6, vi j1, vi j2, vi j3, vj j4, .second, vj j5, .second, vj j6, .second, vj j7, .second, vr b8, vj j12, .second, vj j13, .second] [])) _
          refine XS.lload X15.here hx rfl (hb hby at_143) rfl ?_
          show Steps _ _ _ (T15.setTop (mkF m 145 #[vi p1, vi p2, vi p3, vi p4, vi p5, vi p6, vi j1, vi j2, vi j3, vj j4, .second, vj j5, .second, vj j6, .second, vj j7, .second, vr b8, vj j12, .second, vj j13, .second] [(.long j13)])) _
          refine XS.lconst X15.here hx rfl (hb hby at_145) ?_
          show Steps _ _ _ (T15.setTop (mkF m 146 #[vi p1, vi p2, vi p3, vi p4, vi p5, vi p6, vi j1, vi j2, vi j3, vj j4, .second, vj j5, .second, vj j6, .second, vj j7, .second, vr b8, vj j12, .second, vj j13, .second] [(.long (1 : Int64)), (.long j13)])) _
          refine XS.ladd X15.here hx rfl (hb hby at_146) rfl ?_
          show Steps _ _ _ (T15.setTop (mkF m 147 #[vi p1, vi p2, vi p3, vi p4, vi p5, vi p6, vi j1, vi j2, vi j3, vj j4, .second, vj j5, .second, vj j6, .second, vj j7, .second, vr b8, vj j12, .second, vj j13, .second] [(.long (j13 + (1 : Int64)))])) _
          refine XS.lstore X15.here hx rfl (hb hby at_147) rfl (l' := #[.val (.int p1), .val (.int p2), .val (.int p3), .val (.int p4), .val (.int p5), .val (.int p6), .val (.int j1), .val (.int j2), .val (.int j3), .val (.long j4), .second, .val (.long j5), .second, .val (.long j6), .second, .val (.long j7), .second, .val (.ref b8), .val (.long j12), .second, .val (.long (j13 + (1 : Int64))), .second]) rfl ?_
          show Steps _ _ _ (T15.setTop (mkF m 149 #[vi p1, vi p2, vi p3, vi p4, vi p5, vi p6, vi j1, vi j2, vi j3, vj j4, .second, vj j5, .second, vj j6, .second, vj j7, .second, vr b8, vj j12, .second, vj (j13 + (1 : Int64)), .second] [])) _
          refine XS.lload X15.here hx rfl (hb hby at_149) rfl ?_
          show Steps _ _ _ (T15.setTop (mkF m 151 #[vi p1, vi p2, vi p3, vi p4, vi p5, vi p6, vi j1, vi j2, vi j3, vj j4, .second, vj j5, .second, vj j6, .second, vj j7, .second, vr b8, vj j12, .second, vj (j13 + (1 : Int64)), .second] [(.long j5)])) _
          refine XS.iload X15.here hx rfl (hb hby at_151) rfl ?_
          show Steps _ _ _ (T15.setTop (mkF m 153 #[vi p1, vi p2, vi p3, vi p4, vi p5, vi p6, vi j1, vi j2, vi j3, vj j4, .second, vj j5, .second, vj j6, .second, vj j7, .second, vr b8, vj j12, .second, vj (j13 + (1 : Int64)), .second] [(.int j1), (.long j5)])) _
          refine XS.i2l X15.here hx rfl (hb hby at_153) rfl ?_
          show Steps _ _ _ (T15.setTop (mkF m 154 #[vi p1, vi p2, vi p3, vi p4, vi p5, vi p6, vi j1, vi j2, vi j3, vj j4, .second, vj j5, .second, vj j6, .second, vj j7, .second, vr b8, vj j12, .second, vj (j13 + (1 : Int64)), .second] [(.long j1.toInt64), (.long j5)])) _
          refine XS.ladd X15.here hx rfl (hb hby at_154) rfl ?_
          show Steps _ _ _ (T15.setTop (mkF m 155 #[vi p1, vi p2, vi p3, vi p4, vi p5, vi p6, vi j1, vi j2, vi j3, vj j4, .second, vj j5, .second, vj j6, .second, vj j7, .second, vr b8, vj j12, .second, vj (j13 + (1 : Int64)), .second] [(.long (j5 + j1.toInt64))])) _
          refine XS.lstore X15.here hx rfl (hb hby at_155) rfl (l' := #[.val (.int p1), .val (.int p2), .val (.int p3), .val (.int p4), .val (.int p5), .val (.int p6), .val (.int j1), .val (.int j2), .val (.int j3), .val (.long j4), .second, .val (.long j5), .second, .val (.long j6), .second, .val (.long j7), .second, .val (.ref b8), .val (.long (j5 + j1.toInt64)), .second, .val (.long (j13 + (1 : Int64))), .second]) rfl ?_
          exact k
      refine own_go st18 ?_
      refine cs_iload cG X15 hx (hb hby at_157) rfl ?_
      refine cs_iconst cG X15 hx (hb hby at_159) (z := (2 : Int32)) rfl ?_
      by_cases hc160_5 : (2 : Int32) < j3
      · as_aux_lemma =>
        refine cs_icmpNo cG X15 hx (hb hby at_160) (tlt hc160_5).2.2.2 ?_
        refine cs_aload cG X15 hx (hb hby at_163) rfl rfl ?_
        refine cs_lload cG X15 hx (hb hby at_165) rfl ?_
        have hhk_167 : own_ok j1 A15 j6 = true := own_at_hhk_167_ttt p1 p3 p4 p5 j1 j3 j4 j5 j6 A11 A15 hj1 hj3 hj4 hj5 hj6 hA11 hA15 hnz14 hc88_1 hhk_95 hc124_3 hhk_131 hc160_5
        refine cs_V cG X15 hx hZ hown (wd 33 _ rfl) (wd 34 _ rfl) (wd 36 _ rfl) (wd 35 _ rfl) (wd 3 _ rfl) (wd 37 _ rfl) (by decide) (rm5B l Z a0 hw [] b8 j6 j1 A15 T15.heap n0 Z0 R15 hhk_167) (by decide) (by decide) (by decide) (by decide) rfl E_b8 (by rw [hml]; rfl) (argsL := [(.long j6)]) (S := []) (lenOf pd_2 rfl) rfl (W := 0) (Nat.le_of_eq rfl) (hb hby at_167) rfl ?_
        intro v19 T19 L19 X19 hQ19
        obtain ⟨rfl, N19q, Z0, R19⟩ := hQ19
        obtain ⟨A19, hA19⟩ : ∃ z : own_A, z = own_step j1 A15 j6 := ⟨_, rfl⟩
        rw [← hA19] at R19
        obtain ⟨E_b8, -, F_b8_length, F_b8_turns⟩ := own_hd R19
        have NN := Fr.app NN N19q
        show own_Go _ _ _ _ T19 (mkF m 170 #[vi p1, vi p2, vi p3, vi p4, vi p5, vi p6, vi j1, vi j2, vi j3, vj j4, .second, vj j5, .second, vj j6, .second, vj j7, .second, vr b8, vj j16, .second, vj j17, .second] [(.int (1 : Int32))])
        refine cs_pop cG X19 hx (hb hby at_170) rfl ?_
        refine cs_lload cG X19 hx (hb hby at_171) rfl ?_
        refine cs_lload cG X19 hx (hb hby at_173) rfl ?_
        refine cs_lcmp cG X19 hx (hb hby at_175) ?_
        show own_Go _ _ _ _ T19 (mkF m 176 #[vi p1, vi p2, vi p3, vi p4, vi p5, vi p6, vi j1, vi j2, vi j3, vj j4, .second, vj j5, .second, vj j6, .second, vj j7, .second, vr b8, vj j16, .second, vj j17, .second] [(.int (lcmpW j6 j16))])
        obtain ⟨j20, j21, hj20, hj21, st22⟩ : ∃ (j20 : Int64), ∃ (j21 : Int64), j20 = (if j6 < j16 then j16 else (j6 + j1.toInt64)) ∧ j21 = (if j6 < j16 then j17 else (j17 + (1 : Int64))) ∧ ∀ t, Steps p.tables e below (T19.setTop (mkF m 193 #[vi p1, vi p2, vi p3, vi p4, vi p5, vi p6, vi j1, vi j2, vi j3, vj j4, .second, vj j5, .second, vj j6, .second, vj j7, .second, vr b8, vj j20, .second, vj j21, .second] [])) t → Steps p.tables e below (T19.setTop (mkF m 176 #[vi p1, vi p2, vi p3, vi p4, vi p5, vi p6, vi j1, vi j2, vi j3, vj j4, .second, vj j5, .second, vj j6, .second, vj j7, .second, vr b8, vj j16, .second, vj j17, .second] [(.int (lcmpW j6 j16))])) t := by
          by_cases hc176_6 : j6 < j16
          · skip
            refine ⟨j16, j17, (by simp only [if_pos hc176_6]), (by simp only [if_pos hc176_6]), fun t k => ?_⟩
            show Steps _ _ _ (T19.setTop (mkF m 176 #[vi p1, vi p2, vi p3, vi p4, vi p5, vi p6, vi j1, vi j2, vi j3, vj j4, .second, vj j5, .second, vj j6, .second, vj j7, .second, vr b8, vj j16, .second, vj j17, .second] [(.int (lcmpW j6 j16))])) _
            refine XS.ifYes X19.here hx rfl (pc0 := 176) (pc' := 193) rfl (hb hby at_176) rfl ((if0 _ _).trans (tlt ((lw_lt j6 j16).mpr hc176_6)).1) (by decide) (by decide) ?_
            exact k
          · skip
            refine ⟨(j6 + j1.toInt64), (j17 + (1 : Int64)), (by simp only [if_neg hc176_6]), (by simp only [if_neg hc176_6]), fun t k => ?_⟩
            show Steps _ _ _ (T19.setTop (mkF m 176 #[vi p1, vi p2, vi p3, vi p4, vi p5, vi p6, vi j1, vi j2, vi j3, vj j4, .second, vj j5, .second, vj j6, .second, vj j7, .second, vr b8, vj j16, .second, vj j17, .second] [(.int (lcmpW j6 j16))])) _
            refine XS.ifNo X19.here hx rfl (hb hby at_176) rfl ((if0 _ _).trans (flt (fun q => hc176_6 ((lw_lt j6 j16).mp q))).1) ?_
            show Steps _ _ _ (T19.setTop (mkF m 179 #[vi p1, vi p2, vi p3, vi p4, vi p5, vi p6, vi j1, vi j2, vi j3, vj j4, .second, vj j5, .second, vj j6, .second, vj j7, .second, vr b8, vj j16, .second, vj j17, .second] [])) _
            refine XS.lload X19.here hx rfl (hb hby at_179) rfl ?_
            show Steps _ _ _ (T19.setTop (mkF m 181 #[vi p1, vi p2, vi p3, vi p4, vi p5, vi p6, vi j1, vi j2, vi j3, vj j4, .second, vj j5, .second, vj j6, .second, vj j7, .second, vr b8, vj j16, .second, vj j17, .second] [(.long j17)])) _
            refine XS.lconst X19.here hx rfl (hb hby at_181) ?_
            show Steps _ _ _ (T19.setTop (mkF m 182 #[vi p1, vi p2, vi p3, vi p4, vi p5, vi p6, vi j1, vi j2, vi j3, vj j4, .second, vj j5, .second, vj j6, .second, vj j7, .second, vr b8, vj j16, .second, vj j17, .second] [(.long (1 : Int64)), (.long j17)])) _
            refine XS.ladd X19.here hx rfl (hb hby at_182) rfl ?_
            show Steps _ _ _ (T19.setTop (mkF m 183 #[vi p1, vi p2, vi p3, vi p4, vi p5, vi p6, vi j1, vi j2, vi j3, vj j4, .second, vj j5, .second, vj j6, .second, vj j7, .second, vr b8, vj j16, .second, vj j17, .second] [(.long (j17 + (1 : Int64)))])) _
            refine XS.lstore X19.here hx rfl (hb hby at_183) rfl (l' := #[.val (.int p1), .val (.int p2), .val (.int p3), .val (.int p4), .val (.int p5), .val (.int p6), .val (.int j1), .val (.int j2), .val (.int j3), .val (.long j4), .second, .val (.long j5), .second, .val (.long j6), .second, .val (.long j7), .second, .val (.ref b8), .val (.long j16), .second, .val (.long (j17 + (1 : Int64))), .second]) rfl ?_
            show Steps _ _ _ (T19.setTop (mkF m 185 #[vi p1, vi p2, vi p3, vi p4, vi p5, vi p6, vi j1, vi j2, vi j3, vj j4, .second, vj j5, .second, vj j6, .second, vj j7, .second, vr b8, vj j16, .second, vj (j17 + (1 : Int64)), .second] [])) _
            refine XS.lload X19.here hx rfl (hb hby at_185) rfl ?_
            show Steps _ _ _ (T19.setTop (mkF m 187 #[vi p1, vi p2, vi p3, vi p4, vi p5, vi p6, vi j1, vi j2, vi j3, vj j4, .second, vj j5, .second, vj j6, .second, vj j7, .second, vr b8, vj j16, .second, vj (j17 + (1 : Int64)), .second] [(.long j6)])) _
            refine XS.iload X19.here hx rfl (hb hby at_187) rfl ?_
            show Steps _ _ _ (T19.setTop (mkF m 189 #[vi p1, vi p2, vi p3, vi p4, vi p5, vi p6, vi j1, vi j2, vi j3, vj j4, .second, vj j5, .second, vj j6, .second, vj j7, .second, vr b8, vj j16, .second, vj (j17 + (1 : Int64)), .second] [(.int j1), (.long j6)])) _
            refine XS.i2l X19.here hx rfl (hb hby at_189) rfl ?_
            show Steps _ _ _ (T19.setTop (mkF m 190 #[vi p1, vi p2, vi p3, vi p4, vi p5, vi p6, vi j1, vi j2, vi j3, vj j4, .second, vj j5, .second, vj j6, .second, vj j7, .second, vr b8, vj j16, .second, vj (j17 + (1 : Int64)), .second] [(.long j1.toInt64), (.long j6)])) _
            refine XS.ladd X19.here hx rfl (hb hby at_190) rfl ?_
            show Steps _ _ _ (T19.setTop (mkF m 191 #[vi p1, vi p2, vi p3, vi p4, vi p5, vi p6, vi j1, vi j2, vi j3, vj j4, .second, vj j5, .second, vj j6, .second, vj j7, .second, vr b8, vj j16, .second, vj (j17 + (1 : Int64)), .second] [(.long (j6 + j1.toInt64))])) _
            refine XS.lstore X19.here hx rfl (hb hby at_191) rfl (l' := #[.val (.int p1), .val (.int p2), .val (.int p3), .val (.int p4), .val (.int p5), .val (.int p6), .val (.int j1), .val (.int j2), .val (.int j3), .val (.long j4), .second, .val (.long j5), .second, .val (.long j6), .second, .val (.long j7), .second, .val (.ref b8), .val (.long (j6 + j1.toInt64)), .second, .val (.long (j17 + (1 : Int64))), .second]) rfl ?_
            exact k
        refine own_go st22 ?_
        refine cs_iload cG X19 hx (hb hby at_193) rfl ?_
        refine cs_iconst cG X19 hx (hb hby at_195) (z := (3 : Int32)) rfl ?_
        by_cases hc196_7 : (3 : Int32) < j3
        · as_aux_lemma =>
          refine cs_icmpNo cG X19 hx (hb hby at_196) (tlt hc196_7).2.2.2 ?_
          refine cs_aload cG X19 hx (hb hby at_199) rfl rfl ?_
          refine cs_lload cG X19 hx (hb hby at_201) rfl ?_
          have hhk_203 : own_ok j1 A19 j7 = true := own_at_hhk_203_tttt p1 p3 p4 p5 p6 j1 j3 j4 j5 j6 j7 A11 A15 A19 hj1 hj3 hj4 hj5 hj6 hj7 hA11 hA15 hA19 hnz14 hc88_1 hhk_95 hc124_3 hhk_131 hc160_5 hhk_167 hc196_7
          refine cs_V cG X19 hx hZ hown (wd 33 _ rfl) (wd 34 _ rfl) (wd 36 _ rfl) (wd 35 _ rfl) (wd 3 _ rfl) (wd 37 _ rfl) (by decide) (rm5B l Z a0 hw [] b8 j7 j1 A19 T19.heap n0 Z0 R19 hhk_203) (by decide) (by decide) (by decide) (by decide) rfl E_b8 (by rw [hml]; rfl) (argsL := [(.long j7)]) (S := []) (lenOf pd_2 rfl) rfl (W := 0) (Nat.le_of_eq rfl) (hb hby at_203) rfl ?_
          intro v23 T23 L23 X23 hQ23
          obtain ⟨rfl, N23q, Z0, R23⟩ := hQ23
          obtain ⟨A23, hA23⟩ : ∃ z : own_A, z = own_step j1 A19 j7 := ⟨_, rfl⟩
          rw [← hA23] at R23
          obtain ⟨E_b8, -, F_b8_length, F_b8_turns⟩ := own_hd R23
          have NN := Fr.app NN N23q
          show own_Go _ _ _ _ T23 (mkF m 206 #[vi p1, vi p2, vi p3, vi p4, vi p5, vi p6, vi j1, vi j2, vi j3, vj j4, .second, vj j5, .second, vj j6, .second, vj j7, .second, vr b8, vj j20, .second, vj j21, .second] [(.int (1 : Int32))])
          refine cs_pop cG X23 hx (hb hby at_206) rfl ?_
          refine cs_lload cG X23 hx (hb hby at_207) rfl ?_
          refine cs_lload cG X23 hx (hb hby at_209) rfl ?_
          refine cs_lcmp cG X23 hx (hb hby at_211) ?_
          show own_Go _ _ _ _ T23 (mkF m 212 #[vi p1, vi p2, vi p3, vi p4, vi p5, vi p6, vi j1, vi j2, vi j3, vj j4, .second, vj j5, .second, vj j6, .second, vj j7, .second, vr b8, vj j20, .second, vj j21, .second] [(.int (lcmpW j7 j20))])
          obtain ⟨j24, j25, hj24, hj25, st26⟩ : ∃ (j24 : Int64), ∃ (j25 : Int64), j24 = (if j7 < j20 then j20 else (j7 + j1.toInt64)) ∧ j25 = (if j7 < j20 then j21 else (j21 + (1 : Int64))) ∧ ∀ t, Steps p.tables e below (T23.setTop (mkF m 229 #[vi p1, vi p2, vi p3, vi p4, vi p5, vi p6, vi j1, vi j2, vi j3, vj j4, .second, vj j5, .second, vj j6, .second, vj j7, .second, vr b8, vj j24, .second, vj j25, .second] [])) t → Steps p.tables e below (T23.setTop (mkF m 212 #[vi p1, vi p2, vi p3, vi p4, vi p5, vi p6, vi j1, vi j2, vi j3, vj j4, .second, vj j5, .second, vj j6, .second, vj j7, .second, vr b8, vj j20, .second, vj j21, .second] [(.int (lcmpW j7 j20))])) t := by
            by_cases hc212_8 : j7 < j20
            · skip
              refine ⟨j20, j21, (by simp only [if_pos hc212_8]), (by simp only [if_pos hc212_8]), fun t k => ?_⟩
              show Steps _ _ _ (T23.setTop (mkF m 212 #[vi p1, vi p2, vi p3, vi p4, vi p5, vi p6, vi j1, vi j2, vi j3, vj j4, .second, vj j5, .second, vj j6, .second, vj j7, .second, vr b8, vj j20, .second, vj j21, .second] [(.int (lcmpW j7 j20))])) _
              refine XS.ifYes X23.here hx rfl (pc0 := 212) (pc' := 229) rfl (hb hby at_212) rfl ((if0 _ _).trans (tlt ((lw_lt j7 j20).mpr hc212_8)).1) (by decide) (by decide) ?_
              exact k
            · skip
              refine ⟨(j7 + j1.toInt64), (j21 + (1 : Int64)), (by simp only [if_neg hc212_8]), (by simp only [if_neg hc212_8]), fun t k => ?_⟩
              show Steps _ _ _ (T23.setTop (mkF m 212 #[vi p1, vi p2, vi p3, vi p4, vi p5, vi p6, vi j1, vi j2, vi j3, vj j4, .second, vj j5, .second, vj j6, .second, vj j7, .second, vr b8, vj j20, .second, vj j21, .second] [(.int (lcmpW j7 j20))])) _
              refine XS.ifNo X23.here hx rfl (hb hby at_212) rfl ((if0 _ _).trans (flt (fun q => hc212_8 ((lw_lt j7 j20).mp q))).1) ?_
              show Steps _ _ _ (T23.setTop (mkF m 215 #[vi p1, vi p2, vi p3, vi p4, vi p5, vi p6, vi j1, vi j2, vi j3, vj j4, .second, vj j5, .second, vj j6, .second, vj j7, .second, vr b8, vj j20, .second, vj j21, .second] [])) _
              refine XS.lload X23.here hx rfl (hb hby at_215) rfl ?_
              show Steps _ _ _ (T23.setTop (mkF m 217 #[vi p1, vi p2, vi p3, vi p4, vi p5, vi p6, vi j1, vi j2, vi j3, vj j4, .second, vj j5, .second, vj j6, .second, vj j7, .second, vr b8, vj j20, .second, vj j21, .second] [(.long j21)])) _
              refine XS.lconst X23.here hx rfl (hb hby at_217) ?_
              show Steps _ _ _ (T23.setTop (mkF m 218 #[vi p1, vi p2, vi p3, vi p4, vi p5, vi p6, vi j1, vi j2, vi j3, vj j4, .second, vj j5, .second, vj j6, .second, vj j7, .second, vr b8, vj j20, .second, vj j21, .second] [(.long (1 : Int64)), (.long j21)])) _
              refine XS.ladd X23.here hx rfl (hb hby at_218) rfl ?_
              show Steps _ _ _ (T23.setTop (mkF m 219 #[vi p1, vi p2, vi p3, vi p4, vi p5, vi p6, vi j1, vi j2, vi j3, vj j4, .second, vj j5, .second, vj j6, .second, vj j7, .second, vr b8, vj j20, .second, vj j21, .second] [(.long (j21 + (1 : Int64)))])) _
              refine XS.lstore X23.here hx rfl (hb hby at_219) rfl (l' := #[.val (.int p1), .val (.int p2), .val (.int p3), .val (.int p4), .val (.int p5), .val (.int p6), .val (.int j1), .val (.int j2), .val (.int j3), .val (.long j4), .second, .val (.long j5), .second, .val (.long j6), .second, .val (.long j7), .second, .val (.ref b8), .val (.long j20), .second, .val (.long (j21 + (1 : Int64))), .second]) rfl ?_
              show Steps _ _ _ (T23.setTop (mkF m 221 #[vi p1, vi p2, vi p3, vi p4, vi p5, vi p6, vi j1, vi j2, vi j3, vj j4, .second, vj j5, .second, vj j6, .second, vj j7, .second, vr b8, vj j20, .second, vj (j21 + (1 : Int64)), .second] [])) _
              refine XS.lload X23.here hx rfl (hb hby at_221) rfl ?_
              show Steps _ _ _ (T23.setTop (mkF m 223 #[vi p1, vi p2, vi p3, vi p4, vi p5, vi p6, vi j1, vi j2, vi j3, vj j4, .second, vj j5, .second, vj j6, .second, vj j7, .second, vr b8, vj j20, .second, vj (j21 + (1 : Int64)), .second] [(.long j7)])) _
              refine XS.iload X23.here hx rfl (hb hby at_223) rfl ?_
              show Steps _ _ _ (T23.setTop (mkF m 225 #[vi p1, vi p2, vi p3, vi p4, vi p5, vi p6, vi j1, vi j2, vi j3, vj j4, .second, vj j5, .second, vj j6, .second, vj j7, .second, vr b8, vj j20, .second, vj (j21 + (1 : Int64)), .second] [(.int j1), (.long j7)])) _
              refine XS.i2l X23.here hx rfl (hb hby at_225) rfl ?_
              show Steps _ _ _ (T23.setTop (mkF m 226 #[vi p1, vi p2, vi p3, vi p4, vi p5, vi p6, vi j1, vi j2, vi j3, vj j4, .second, vj j5, .second, vj j6, .second, vj j7, .second, vr b8, vj j20, .second, vj (j21 + (1 : Int64)), .second] [(.long j1.toInt64), (.long j7)])) _
              refine XS.ladd X23.here hx rfl (hb hby at_226) rfl ?_
              show Steps _ _ _ (T23.setTop (mkF m 227 #[vi p1, vi p2, vi p3, vi p4, vi p5, vi p6, vi j1, vi j2, vi j3, vj j4, .second, vj j5, .second, vj j6, .second, vj j7, .second, vr b8, vj j20, .second, vj (j21 + (1 : Int64)), .second] [(.long (j7 + j1.toInt64))])) _
              refine XS.lstore X23.here hx rfl (hb hby at_227) rfl (l' := #[.val (.int p1), .val (.int p2), .val (.int p3), .val (.int p4), .val (.int p5), .val (.int p6), .val (.int j1), .val (.int j2), .val (.int j3), .val (.long j4), .second, .val (.long j5), .second, .val (.long j6), .second, .val (.long j7), .second, .val (.ref b8), .val (.long (j7 + j1.toInt64)), .second, .val (.long (j21 + (1 : Int64))), .second]) rfl ?_
              exact k
          refine own_go st26 ?_
          refine cs_aload cG X23 hx (hb hby at_229) rfl rfl ?_
          refine cs_iload cG X23 hx (hb hby at_231) rfl ?_
          have hhnz20_233 : ¬ (j1.toInt64 = (0 : Int64)) := own_at_hhnz20_233_tttt p1 p3 p4 p5 p6 j1 j3 j4 j5 j6 j7 A11 A15 A19 hj1 hj3 hj4 hj5 hj6 hj7 hA11 hA15 hA19 hnz14 hc88_1 hhk_95 hc124_3 hhk_131 hc160_5 hhk_167 hc196_7 hhk_203
          refine cs_V cG X23 hx hZ hown (wd 53 _ rfl) (wd 54 _ rfl) (wd 56 _ rfl) (wd 55 _ rfl) (wd 3 _ rfl) (wd 57 _ rfl) (by decide) (rm8 l Z a0 hw [] b8 j2 (A23.1) j1 T23.heap n0 Z0 F_b8_turns F_b8_length hhnz20_233) (by decide) (by decide) (by decide) (by decide) rfl E_b8 (by rw [hml]; rfl) (argsL := [(.int j2)]) (S := []) (lenOf pd_5 rfl) rfl (W := 0) (Nat.le_of_eq rfl) (hb hby at_233) rfl ?_
          intro v27 T27 L27 X27 hQ27
          obtain ⟨rfl, N27q, e27⟩ := hQ27
          have NN := Fr.app NN N27q
          show own_Go _ _ _ _ T27 (mkF m 236 #[vi p1, vi p2, vi p3, vi p4, vi p5, vi p6, vi j1, vi j2, vi j3, vj j4, .second, vj j5, .second, vj j6, .second, vj j7, .second, vr b8, vj j24, .second, vj j25, .second] [(.long (r_8 j2 (A23.1) j1))])
          refine cs_lload cG X27 hx (hb hby at_236) rfl ?_
          refine cs_lcmp cG X27 hx (hb hby at_238) ?_
          show own_Go _ _ _ _ T27 (mkF m 239 #[vi p1, vi p2, vi p3, vi p4, vi p5, vi p6, vi j1, vi j2, vi j3, vj j4, .second, vj j5, .second, vj j6, .second, vj j7, .second, vr b8, vj j24, .second, vj j25, .second] [(.int (lcmpW (r_8 j2 (A23.1) j1) j25))])
          obtain ⟨j28, hj28, st29⟩ : ∃ (j28 : Int32), j28 = (if (r_8 j2 (A23.1) j1) = j25 then (1 : Int32) else (0 : Int32)) ∧ ∀ t, Steps p.tables e below (T27.setTop (mkF m 247 #[vi p1, vi p2, vi p3, vi p4, vi p5, vi p6, vi j1, vi j2, vi j3, vj j4, .second, vj j5, .second, vj j6, .second, vj j7, .second, vr b8, vj j24, .second, vj j25, .second] [(.int j28)])) t → Steps p.tables e below (T27.setTop (mkF m 239 #[vi p1, vi p2, vi p3, vi p4, vi p5, vi p6, vi j1, vi j2, vi j3, vj j4, .second, vj j5, .second, vj j6, .second, vj j7, .second, vr b8, vj j24, .second, vj j25, .second] [(.int (lcmpW (r_8 j2 (A23.1) j1) j25))])) t := by
            by_cases hc239_9 : (r_8 j2 (A23.1) j1) = j25
            · skip
              refine ⟨(1 : Int32), (by simp only [if_pos hc239_9]), fun t k => ?_⟩
              show Steps _ _ _ (T27.setTop (mkF m 239 #[vi p1, vi p2, vi p3, vi p4, vi p5, vi p6, vi j1, vi j2, vi j3, vj j4, .second, vj j5, .second, vj j6, .second, vj j7, .second, vr b8, vj j24, .second, vj j25, .second] [(.int (lcmpW (r_8 j2 (A23.1) j1) j25))])) _
              refine XS.ifNo X27.here hx rfl (hb hby at_239) rfl ((if0 _ _).trans (teq ((lw_eq (r_8 j2 (A23.1) j1) j25).mpr hc239_9)).2) ?_
              show Steps _ _ _ (T27.setTop (mkF m 242 #[vi p1, vi p2, vi p3, vi p4, vi p5, vi p6, vi j1, vi j2, vi j3, vj j4, .second, vj j5, .second, vj j6, .second, vj j7, .second, vr b8, vj j24, .second, vj j25, .second] [])) _
              refine XS.iconst X27.here hx rfl (hb hby at_242) ?_
              show Steps _ _ _ (T27.setTop (mkF m 243 #[vi p1, vi p2, vi p3, vi p4, vi p5, vi p6, vi j1, vi j2, vi j3, vj j4, .second, vj j5, .second, vj j6, .second, vj j7, .second, vr b8, vj j24, .second, vj j25, .second] [(.int (1 : Int32))])) _
              refine XS.goto X27.here hx rfl (pc0 := 243) (pc' := 247) rfl (hb hby at_243) (by decide) (by decide) ?_
              exact k
            · skip
              refine ⟨(0 : Int32), (by simp only [if_neg hc239_9]), fun t k => ?_⟩
              show Steps _ _ _ (T27.setTop (mkF m 239 #[vi p1, vi p2, vi p3, vi p4, vi p5, vi p6, vi j1, vi j2, vi j3, vj j4, .second, vj j5, .second, vj j6, .second, vj j7, .second, vr b8, vj j24, .second, vj j25, .second] [(.int (lcmpW (r_8 j2 (A23.1) j1) j25))])) _
              refine XS.ifYes X27.here hx rfl (pc0 := 239) (pc' := 246) rfl (hb hby at_239) rfl ((if0 _ _).trans (feq (fun q => hc239_9 ((lw_eq (r_8 j2 (A23.1) j1) j25).mp q))).2) (by decide) (by decide) ?_
              show Steps _ _ _ (T27.setTop (mkF m 246 #[vi p1, vi p2, vi p3, vi p4, vi p5, vi p6, vi j1, vi j2, vi j3, vj j4, .second, vj j5, .second, vj j6, .second, vj j7, .second, vr b8, vj j24, .second, vj j25, .second] [])) _
              refine XS.iconst X27.here hx rfl (hb hby at_246) ?_
              exact k
          refine own_go st29 ?_
          show own_Go _ _ _ _ T27 (mkF m 247 #[vi p1, vi p2, vi p3, vi p4, vi p5, vi p6, vi j1, vi j2, vi j3, vj j4, .second, vj j5, .second, vj j6, .second, vj j7, .second, vr b8, vj j24, .second, vj j25, .second] [(.int j28)])
          have hv1 : (nar .boolean j28) = 1 := own_yes_tttt p1 p2 p3 p4 p5 p6 j1 j2 j3 j4 j5 j6 j7 j10 A11 j12 j13 A15 j16 j17 A19 j20 j21 A23 j25 j28 hj1 hj2 hj3 hj4 hj5 hj6 hj7 hj10 hA11 hj12 hj13 hA15 hj16 hj17 hA19 hj20 hj21 hA23 hj25 hj28 hnz14 hc88_1 hhk_95 hc124_3 hhk_131 hc160_5 hhk_167 hc196_7 hhk_203 hhnz20_233
          obtain ⟨fs, hr, hrun, hended, hW, hsame⟩ := X27.leave (v := some (.int (nar .boolean j28))) (fun h => by rw [Bd.returns] at h; cases h)
          refine ⟨_, _, ?_, hrun, hended, _, _, rfl, ?_, ⟨_, rfl⟩, hW, hsame.mono (by decide) (by decide)⟩
          · exact retN X27 hx (t := .boolean) Bd.returns (by simp) (hb hby at_247) hr
          · show Q0 Z p1 p2 p3 p4 p5 p6 h0 n0 _ _ _
            exact ⟨by rw [hv1], NN⟩
        · as_aux_lemma =>
          refine cs_icmpYes cG X19 hx (pc' := 229) (hb hby at_196) (flt hc196_7).2.2.2 (by decide) (by decide) ?_
          refine cs_aload cG X19 hx (hb hby at_229) rfl rfl ?_
          refine cs_iload cG X19 hx (hb hby at_231) rfl ?_
          have hhnz20_233 : ¬ (j1.toInt64 = (0 : Int64)) := own_at_hhnz20_233_tttf p1 p3 p4 p5 j1 j3 j4 j5 j6 A11 A15 hj1 hj3 hj4 hj5 hj6 hA11 hA15 hnz14 hc88_1 hhk_95 hc124_3 hhk_131 hc160_5 hhk_167 hc196_7
          refine cs_V cG X19 hx hZ hown (wd 53 _ rfl) (wd 54 _ rfl) (wd 56 _ rfl) (wd 55 _ rfl) (wd 3 _ rfl) (wd 57 _ rfl) (by decide) (rm8 l Z a0 hw [] b8 j2 (A19.1) j1 T19.heap n0 Z0 F_b8_turns F_b8_length hhnz20_233) (by decide) (by decide) (by decide) (by decide) rfl E_b8 (by rw [hml]; rfl) (argsL := [(.int j2)]) (S := []) (lenOf pd_5 rfl) rfl (W := 0) (Nat.le_of_eq rfl) (hb hby at_233) rfl ?_
          intro v30 T30 L30 X30 hQ30
          obtain ⟨rfl, N30q, e30⟩ := hQ30
          have NN := Fr.app NN N30q
          show own_Go _ _ _ _ T30 (mkF m 236 #[vi p1, vi p2, vi p3, vi p4, vi p5, vi p6, vi j1, vi j2, vi j3, vj j4, .second, vj j5, .second, vj j6, .second, vj j7, .second, vr b8, vj j20, .second, vj j21, .second] [(.long (r_8 j2 (A19.1) j1))])
          refine cs_lload cG X30 hx (hb hby at_236) rfl ?_
          refine cs_lcmp cG X30 hx (hb hby at_238) ?_
          show own_Go _ _ _ _ T30 (mkF m 239 #[vi p1, vi p2, vi p3, vi p4, vi p5, vi p6, vi j1, vi j2, vi j3, vj j4, .second, vj j5, .second, vj j6, .second, vj j7, .second, vr b8, vj j20, .second, vj j21, .second] [(.int (lcmpW (r_8 j2 (A19.1) j1) j21))])
          obtain ⟨j31, hj31, st32⟩ : ∃ (j31 : Int32), j31 = (if (r_8 j2 (A19.1) j1) = j21 then (1 : Int32) else (0 : Int32)) ∧ ∀ t, Steps p.tables e below (T30.setTop (mkF m 247 #[vi p1, vi p2, vi p3, vi p4, vi p5, vi p6, vi j1, vi j2, vi j3, vj j4, .second, vj j5, .second, vj j6, .second, vj j7, .second, vr b8, vj j20, .second, vj j21, .second] [(.int j31)])) t → Steps p.tables e below (T30.setTop (mkF m 239 #[vi p1, vi p2, vi p3, vi p4, vi p5, vi p6, vi j1, vi j2, vi j3, vj j4, .second, vj j5, .second, vj j6, .second, vj j7, .second, vr b8, vj j20, .second, vj j21, .second] [(.int (lcmpW (r_8 j2 (A19.1) j1) j21))])) t := by
            by_cases hc239_10 : (r_8 j2 (A19.1) j1) = j21
            · skip
              refine ⟨(1 : Int32), (by simp only [if_pos hc239_10]), fun t k => ?_⟩
              show Steps _ _ _ (T30.setTop (mkF m 239 #[vi p1, vi p2, vi p3, vi p4, vi p5, vi p6, vi j1, vi j2, vi j3, vj j4, .second, vj j5, .second, vj j6, .second, vj j7, .second, vr b8, vj j20, .second, vj j21, .second] [(.int (lcmpW (r_8 j2 (A19.1) j1) j21))])) _
              refine XS.ifNo X30.here hx rfl (hb hby at_239) rfl ((if0 _ _).trans (teq ((lw_eq (r_8 j2 (A19.1) j1) j21).mpr hc239_10)).2) ?_
              show Steps _ _ _ (T30.setTop (mkF m 242 #[vi p1, vi p2, vi p3, vi p4, vi p5, vi p6, vi j1, vi j2, vi j3, vj j4, .second, vj j5, .second, vj j6, .second, vj j7, .second, vr b8, vj j20, .second, vj j21, .second] [])) _
              refine XS.iconst X30.here hx rfl (hb hby at_242) ?_
              show Steps _ _ _ (T30.setTop (mkF m 243 #[vi p1, vi p2, vi p3, vi p4, vi p5, vi p6, vi j1, vi j2, vi j3, vj j4, .second, vj j5, .second, vj j6, .second, vj j7, .second, vr b8, vj j20, .second, vj j21, .second] [(.int (1 : Int32))])) _
              refine XS.goto X30.here hx rfl (pc0 := 243) (pc' := 247) rfl (hb hby at_243) (by decide) (by decide) ?_
              exact k
            · skip
              refine ⟨(0 : Int32), (by simp only [if_neg hc239_10]), fun t k => ?_⟩
              show Steps _ _ _ (T30.setTop (mkF m 239 #[vi p1, vi p2, vi p3, vi p4, vi p5, vi p6, vi j1, vi j2, vi j3, vj j4, .second, vj j5, .second, vj j6, .second, vj j7, .second, vr b8, vj j20, .second, vj j21, .second] [(.int (lcmpW (r_8 j2 (A19.1) j1) j21))])) _
              refine XS.ifYes X30.here hx rfl (pc0 := 239) (pc' := 246) rfl (hb hby at_239) rfl ((if0 _ _).trans (feq (fun q => hc239_10 ((lw_eq (r_8 j2 (A19.1) j1) j21).mp q))).2) (by decide) (by decide) ?_
              show Steps _ _ _ (T30.setTop (mkF m 246 #[vi p1, vi p2, vi p3, vi p4, vi p5, vi p6, vi j1, vi j2, vi j3, vj j4, .second, vj j5, .second, vj j6, .second, vj j7, .second, vr b8, vj j20, .second, vj j21, .second] [])) _
              refine XS.iconst X30.here hx rfl (hb hby at_246) ?_
              exact k
          refine own_go st32 ?_
          show own_Go _ _ _ _ T30 (mkF m 247 #[vi p1, vi p2, vi p3, vi p4, vi p5, vi p6, vi j1, vi j2, vi j3, vj j4, .second, vj j5, .second, vj j6, .second, vj j7, .second, vr b8, vj j20, .second, vj j21, .second] [(.int j31)])
          have hv1 : (nar .boolean j31) = 1 := own_yes_tttf p1 p2 p3 p4 p5 j1 j2 j3 j4 j5 j6 j10 A11 j12 j13 A15 j16 j17 A19 j21 j31 hj1 hj2 hj3 hj4 hj5 hj6 hj10 hA11 hj12 hj13 hA15 hj16 hj17 hA19 hj21 hj31 hnz14 hc88_1 hhk_95 hc124_3 hhk_131 hc160_5 hhk_167 hc196_7 hhnz20_233
          obtain ⟨fs, hr, hrun, hended, hW, hsame⟩ := X30.leave (v := some (.int (nar .boolean j31))) (fun h => by rw [Bd.returns] at h; cases h)
          refine ⟨_, _, ?_, hrun, hended, _, _, rfl, ?_, ⟨_, rfl⟩, hW, hsame.mono (by decide) (by decide)⟩
          · exact retN X30 hx (t := .boolean) Bd.returns (by simp) (hb hby at_247) hr
          · show Q0 Z p1 p2 p3 p4 p5 p6 h0 n0 _ _ _
            exact ⟨by rw [hv1], NN⟩
      · as_aux_lemma =>
        refine cs_icmpYes cG X15 hx (pc' := 193) (hb hby at_160) (flt hc160_5).2.2.2 (by decide) (by decide) ?_
        refine cs_iload cG X15 hx (hb hby at_193) rfl ?_
        refine cs_iconst cG X15 hx (hb hby at_195) (z := (3 : Int32)) rfl ?_
        have hs196 : ¬ ((3 : Int32) < j3) := own_at_hs196_ttf p1 p3 p4 p5 j1 j3 j4 j5 A11 hj1 hj3 hj4 hj5 hA11 hnz14 hc88_1 hhk_95 hc124_3 hhk_131 hc160_5
        refine cs_icmpYes cG X15 hx (pc' := 229) (hb hby at_196) (flt hs196).2.2.2 (by decide) (by decide) ?_
        refine cs_aload cG X15 hx (hb hby at_229) rfl rfl ?_
        refine cs_iload cG X15 hx (hb hby at_231) rfl ?_
        have hhnz20_233 : ¬ (j1.toInt64 = (0 : Int64)) := own_at_hhnz20_233_ttf p1 p3 p4 p5 j1 j3 j4 j5 A11 hj1 hj3 hj4 hj5 hA11 hnz14 hc88_1 hhk_95 hc124_3 hhk_131 hc160_5 hs196
        refine cs_V cG X15 hx hZ hown (wd 53 _ rfl) (wd 54 _ rfl) (wd 56 _ rfl) (wd 55 _ rfl) (wd 3 _ rfl) (wd 57 _ rfl) (by decide) (rm8 l Z a0 hw [] b8 j2 (A15.1) j1 T15.heap n0 Z0 F_b8_turns F_b8_length hhnz20_233) (by decide) (by decide) (by decide) (by decide) rfl E_b8 (by rw [hml]; rfl) (argsL := [(.int j2)]) (S := []) (lenOf pd_5 rfl) rfl (W := 0) (Nat.le_of_eq rfl) (hb hby at_233) rfl ?_
        intro v33 T33 L33 X33 hQ33
        obtain ⟨rfl, N33q, e33⟩ := hQ33
        have NN := Fr.app NN N33q
        show own_Go _ _ _ _ T33 (mkF m 236 #[vi p1, vi p2, vi p3, vi p4, vi p5, vi p6, vi j1, vi j2, vi j3, vj j4, .second, vj j5, .second, vj j6, .second, vj j7, .second, vr b8, vj j16, .second, vj j17, .second] [(.long (r_8 j2 (A15.1) j1))])
        refine cs_lload cG X33 hx (hb hby at_236) rfl ?_
        refine cs_lcmp cG X33 hx (hb hby at_238) ?_
        show own_Go _ _ _ _ T33 (mkF m 239 #[vi p1, vi p2, vi p3, vi p4, vi p5, vi p6, vi j1, vi j2, vi j3, vj j4, .second, vj j5, .second, vj j6, .second, vj j7, .second, vr b8, vj j16, .second, vj j17, .second] [(.int (lcmpW (r_8 j2 (A15.1) j1) j17))])
        obtain ⟨j34, hj34, st35⟩ : ∃ (j34 : Int32), j34 = (if (r_8 j2 (A15.1) j1) = j17 then (1 : Int32) else (0 : Int32)) ∧ ∀ t, Steps p.tables e below (T33.setTop (mkF m 247 #[vi p1, vi p2, vi p3, vi p4, vi p5, vi p6, vi j1, vi j2, vi j3, vj j4, .second, vj j5, .second, vj j6, .second, vj j7, .second, vr b8, vj j16, .second, vj j17, .second] [(.int j34)])) t → Steps p.tables e below (T33.setTop (mkF m 239 #[vi p1, vi p2, vi p3, vi p4, vi p5, vi p6, vi j1, vi j2, vi j3, vj j4, .second, vj j5, .second, vj j6, .second, vj j7, .second, vr b8, vj j16, .second, vj j17, .second] [(.int (lcmpW (r_8 j2 (A15.1) j1) j17))])) t := by
          by_cases hc239_11 : (r_8 j2 (A15.1) j1) = j17
          · skip
            refine ⟨(1 : Int32), (by simp only [if_pos hc239_11]), fun t k => ?_⟩
            show Steps _ _ _ (T33.setTop (mkF m 239 #[vi p1, vi p2, vi p3, vi p4, vi p5, vi p6, vi j1, vi j2, vi j3, vj j4, .second, vj j5, .second, vj j6, .second, vj j7, .second, vr b8, vj j16, .second, vj j17, .second] [(.int (lcmpW (r_8 j2 (A15.1) j1) j17))])) _
            refine XS.ifNo X33.here hx rfl (hb hby at_239) rfl ((if0 _ _).trans (teq ((lw_eq (r_8 j2 (A15.1) j1) j17).mpr hc239_11)).2) ?_
            show Steps _ _ _ (T33.setTop (mkF m 242 #[vi p1, vi p2, vi p3, vi p4, vi p5, vi p6, vi j1, vi j2, vi j3, vj j4, .second, vj j5, .second, vj j6, .second, vj j7, .second, vr b8, vj j16, .second, vj j17, .second] [])) _
            refine XS.iconst X33.here hx rfl (hb hby at_242) ?_
            show Steps _ _ _ (T33.setTop (mkF m 243 #[vi p1, vi p2, vi p3, vi p4, vi p5, vi p6, vi j1, vi j2, vi j3, vj j4, .second, vj j5, .second, vj j6, .second, vj j7, .second, vr b8, vj j16, .second, vj j17, .second] [(.int (1 : Int32))])) _
            refine XS.goto X33.here hx rfl (pc0 := 243) (pc' := 247) rfl (hb hby at_243) (by decide) (by decide) ?_
            exact k
          · skip
            refine ⟨(0 : Int32), (by simp only [if_neg hc239_11]), fun t k => ?_⟩
            show Steps _ _ _ (T33.setTop (mkF m 239 #[vi p1, vi p2, vi p3, vi p4, vi p5, vi p6, vi j1, vi j2, vi j3, vj j4, .second, vj j5, .second, vj j6, .second, vj j7, .second, vr b8, vj j16, .second, vj j17, .second] [(.int (lcmpW (r_8 j2 (A15.1) j1) j17))])) _
            refine XS.ifYes X33.here hx rfl (pc0 := 239) (pc' := 246) rfl (hb hby at_239) rfl ((if0 _ _).trans (feq (fun q => hc239_11 ((lw_eq (r_8 j2 (A15.1) j1) j17).mp q))).2) (by decide) (by decide) ?_
            show Steps _ _ _ (T33.setTop (mkF m 246 #[vi p1, vi p2, vi p3, vi p4, vi p5, vi p6, vi j1, vi j2, vi j3, vj j4, .second, vj j5, .second, vj j6, .second, vj j7, .second, vr b8, vj j16, .second, vj j17, .second] [])) _
            refine XS.iconst X33.here hx rfl (hb hby at_246) ?_
            exact k
        refine own_go st35 ?_
        show own_Go _ _ _ _ T33 (mkF m 247 #[vi p1, vi p2, vi p3, vi p4, vi p5, vi p6, vi j1, vi j2, vi j3, vj j4, .second, vj j5, .second, vj j6, .second, vj j7, .second, vr b8, vj j16, .second, vj j17, .second] [(.int j34)])
        have hv1 : (nar .boolean j34) = 1 := own_yes_ttf p1 p2 p3 p4 p5 j1 j2 j3 j4 j5 j10 A11 j12 j13 A15 j17 j34 hj1 hj2 hj3 hj4 hj5 hj10 hA11 hj12 hj13 hA15 hj17 hj34 hnz14 hc88_1 hhk_95 hc124_3 hhk_131 hc160_5 hs196 hhnz20_233
        obtain ⟨fs, hr, hrun, hended, hW, hsame⟩ := X33.leave (v := some (.int (nar .boolean j34))) (fun h => by rw [Bd.returns] at h; cases h)
        refine ⟨_, _, ?_, hrun, hended, _, _, rfl, ?_, ⟨_, rfl⟩, hW, hsame.mono (by decide) (by decide)⟩
        · exact retN X33 hx (t := .boolean) Bd.returns (by simp) (hb hby at_247) hr
        · show Q0 Z p1 p2 p3 p4 p5 p6 h0 n0 _ _ _
          exact ⟨by rw [hv1], NN⟩
    · as_aux_lemma =>
      refine cs_icmpYes cG X11 hx (pc' := 157) (hb hby at_124) (flt hc124_3).2.2.2 (by decide) (by decide) ?_
      refine cs_iload cG X11 hx (hb hby at_157) rfl ?_
      refine cs_iconst cG X11 hx (hb hby at_159) (z := (2 : Int32)) rfl ?_
      have hs160 : ¬ ((2 : Int32) < j3) := own_at_hs160_tf p1 p3 p4 j1 j3 j4 hj1 hj3 hj4 hnz14 hc88_1 hhk_95 hc124_3
      refine cs_icmpYes cG X11 hx (pc' := 193) (hb hby at_160) (flt hs160).2.2.2 (by decide) (by decide) ?_
      refine cs_iload cG X11 hx (hb hby at_193) rfl ?_
      refine cs_iconst cG X11 hx (hb hby at_195) (z := (3 : Int32)) rfl ?_
      have hs196 : ¬ ((3 : Int32) < j3) := own_at_hs196_tf p1 p3 p4 j1 j3 j4 hj1 hj3 hj4 hnz14 hc88_1 hhk_95 hc124_3 hs160
      refine cs_icmpYes cG X11 hx (pc' := 229) (hb hby at_196) (flt hs196).2.2.2 (by decide) (by decide) ?_
      refine cs_aload cG X11 hx (hb hby at_229) rfl rfl ?_
      refine cs_iload cG X11 hx (hb hby at_231) rfl ?_
      have hhnz20_233 : ¬ (j1.toInt64 = (0 : Int64)) := own_at_hhnz20_233_tf p1 p3 p4 j1 j3 j4 hj1 hj3 hj4 hnz14 hc88_1 hhk_95 hc124_3 hs160 hs196
      refine cs_V cG X11 hx hZ hown (wd 53 _ rfl) (wd 54 _ rfl) (wd 56 _ rfl) (wd 55 _ rfl) (wd 3 _ rfl) (wd 57 _ rfl) (by decide) (rm8 l Z a0 hw [] b8 j2 (A11.1) j1 T11.heap n0 Z0 F_b8_turns F_b8_length hhnz20_233) (by decide) (by decide) (by decide) (by decide) rfl E_b8 (by rw [hml]; rfl) (argsL := [(.int j2)]) (S := []) (lenOf pd_5 rfl) rfl (W := 0) (Nat.le_of_eq rfl) (hb hby at_233) rfl ?_
      intro v36 T36 L36 X36 hQ36
      obtain ⟨rfl, N36q, e36⟩ := hQ36
      have NN := Fr.app NN N36q
      show own_Go _ _ _ _ T36 (mkF m 236 #[vi p1, vi p2, vi p3, vi p4, vi p5, vi p6, vi j1, vi j2, vi j3, vj j4, .second, vj j5, .second, vj j6, .second, vj j7, .second, vr b8, vj j12, .second, vj j13, .second] [(.long (r_8 j2 (A11.1) j1))])
      refine cs_lload cG X36 hx (hb hby at_236) rfl ?_
      refine cs_lcmp cG X36 hx (hb hby at_238) ?_
      show own_Go _ _ _ _ T36 (mkF m 239 #[vi p1, vi p2, vi p3, vi p4, vi p5, vi p6, vi j1, vi j2, vi j3, vj j4, .second, vj j5, .second, vj j6, .second, vj j7, .second, vr b8, vj j12, .second, vj j13, .second] [(.int (lcmpW (r_8 j2 (A11.1) j1) j13))])
      obtain ⟨j37, hj37, st38⟩ : ∃ (j37 : Int32), j37 = (if (r_8 j2 (A11.1) j1) = j13 then (1 : Int32) else (0 : Int32)) ∧ ∀ t, Steps p.tables e below (T36.setTop (mkF m 247 #[vi p1, vi p2, vi p3, vi p4, vi p5, vi p6, vi j1, vi j2, vi j3, vj j4, .second, vj j5, .second, vj j6, .second, vj j7, .second, vr b8, vj j12, .second, vj j13, .second] [(.int j37)])) t → Steps p.tables e below (T36.setTop (mkF m 239 #[vi p1, vi p2, vi p3, vi p4, vi p5, vi p6, vi j1, vi j2, vi j3, vj j4, .second, vj j5, .second, vj j6, .second, vj j7, .second, vr b8, vj j12, .second, vj j13, .second] [(.int (lcmpW (r_8 j2 (A11.1) j1) j13))])) t := by
        by_cases hc239_12 : (r_8 j2 (A11.1) j1) = j13
        · skip
          refine ⟨(1 : Int32), (by simp only [if_pos hc239_12]), fun t k => ?_⟩
          show Steps _ _ _ (T36.setTop (mkF m 239 #[vi p1, vi p2, vi p3, vi p4, vi p5, vi p6, vi j1, vi j2, vi j3, vj j4, .second, vj j5, .second, vj j6, .second, vj j7, .second, vr b8, vj j12, .second, vj j13, .second] [(.int (lcmpW (r_8 j2 (A11.1) j1) j13))])) _
          refine XS.ifNo X36.here hx rfl (hb hby at_239) rfl ((if0 _ _).trans (teq ((lw_eq (r_8 j2 (A11.1) j1) j13).mpr hc239_12)).2) ?_
          show Steps _ _ _ (T36.setTop (mkF m 242 #[vi p1, vi p2, vi p3, vi p4, vi p5, vi p6, vi j1, vi j2, vi j3, vj j4, .second, vj j5, .second, vj j6, .second, vj j7, .second, vr b8, vj j12, .second, vj j13, .second] [])) _
          refine XS.iconst X36.here hx rfl (hb hby at_242) ?_
          show Steps _ _ _ (T36.setTop (mkF m 243 #[vi p1, vi p2, vi p3, vi p4, vi p5, vi p6, vi j1, vi j2, vi j3, vj j4, .second, vj j5, .second, vj j6, .second, vj j7, .second, vr b8, vj j12, .second, vj j13, .second] [(.int (1 : Int32))])) _
          refine XS.goto X36.here hx rfl (pc0 := 243) (pc' := 247) rfl (hb hby at_243) (by decide) (by decide) ?_
          exact k
        · skip
          refine ⟨(0 : Int32), (by simp only [if_neg hc239_12]), fun t k => ?_⟩
          show Steps _ _ _ (T36.setTop (mkF m 239 #[vi p1, vi p2, vi p3, vi p4, vi p5, vi p6, vi j1, vi j2, vi j3, vj j4, .second, vj j5, .second, vj j6, .second, vj j7, .second, vr b8, vj j12, .second, vj j13, .second] [(.int (lcmpW (r_8 j2 (A11.1) j1) j13))])) _
          refine XS.ifYes X36.here hx rfl (pc0 := 239) (pc' := 246) rfl (hb hby at_239) rfl ((if0 _ _).trans (feq (fun q => hc239_12 ((lw_eq (r_8 j2 (A11.1) j1) j13).mp q))).2) (by decide) (by decide) ?_
          show Steps _ _ _ (T36.setTop (mkF m 246 #[vi p1, vi p2, vi p3, vi p4, vi p5, vi p6, vi j1, vi j2, vi j3, vj j4, .second, vj j5, .second, vj j6, .second, vj j7, .second, vr b8, vj j12, .second, vj j13, .second] [])) _
          refine XS.iconst X36.here hx rfl (hb hby at_246) ?_
          exact k
      refine own_go st38 ?_
      show own_Go _ _ _ _ T36 (mkF m 247 #[vi p1, vi p2, vi p3, vi p4, vi p5, vi p6, vi j1, vi j2, vi j3, vj j4, .second, vj j5, .second, vj j6, .second, vj j7, .second, vr b8, vj j12, .second, vj j13, .second] [(.int j37)])
      have hv1 : (nar .boolean j37) = 1 := own_yes_tf p1 p2 p3 p4 j1 j2 j3 j4 j10 A11 j13 j37 hj1 hj2 hj3 hj4 hj10 hA11 hj13 hj37 hnz14 hc88_1 hhk_95 hc124_3 hs160 hs196 hhnz20_233
      obtain ⟨fs, hr, hrun, hended, hW, hsame⟩ := X36.leave (v := some (.int (nar .boolean j37))) (fun h => by rw [Bd.returns] at h; cases h)
      refine ⟨_, _, ?_, hrun, hended, _, _, rfl, ?_, ⟨_, rfl⟩, hW, hsame.mono (by decide) (by decide)⟩
      · exact retN X36 hx (t := .boolean) Bd.returns (by simp) (hb hby at_247) hr
      · show Q0 Z p1 p2 p3 p4 p5 p6 h0 n0 _ _ _
        exact ⟨by rw [hv1], NN⟩
  · as_aux_lemma =>
    refine cs_ifYes cG X9 hx (pc' := 121) (hb hby at_88) ((if0 _ _).trans (flt hc88_1).2.2.2) (by decide) (by decide) ?_
    refine cs_iload cG X9 hx (hb hby at_121) rfl ?_
    refine cs_iconst cG X9 hx (hb hby at_123) (z := (1 : Int32)) rfl ?_
    have hs124 : ¬ ((1 : Int32) < j3) := own_at_hs124_f p1 p3 j1 j3 hj1 hj3 hnz14 hc88_1
    refine cs_icmpYes cG X9 hx (pc' := 157) (hb hby at_124) (flt hs124).2.2.2 (by decide) (by decide) ?_
    refine cs_iload cG X9 hx (hb hby at_157) rfl ?_
    refine cs_iconst cG X9 hx (hb hby at_159) (z := (2 : Int32)) rfl ?_
    have hs160 : ¬ ((2 : Int32) < j3) := own_at_hs160_f p1 p3 j1 j3 hj1 hj3 hnz14 hc88_1 hs124
    refine cs_icmpYes cG X9 hx (pc' := 193) (hb hby at_160) (flt hs160).2.2.2 (by decide) (by decide) ?_
    refine cs_iload cG X9 hx (hb hby at_193) rfl ?_
    refine cs_iconst cG X9 hx (hb hby at_195) (z := (3 : Int32)) rfl ?_
    have hs196 : ¬ ((3 : Int32) < j3) := own_at_hs196_f p1 p3 j1 j3 hj1 hj3 hnz14 hc88_1 hs124 hs160
    refine cs_icmpYes cG X9 hx (pc' := 229) (hb hby at_196) (flt hs196).2.2.2 (by decide) (by decide) ?_
    refine cs_aload cG X9 hx (hb hby at_229) rfl rfl ?_
    refine cs_iload cG X9 hx (hb hby at_231) rfl ?_
    have hhnz20_233 : ¬ (j1.toInt64 = (0 : Int64)) := own_at_hhnz20_233_f p1 p3 j1 j3 hj1 hj3 hnz14 hc88_1 hs124 hs160 hs196
    refine cs_V cG X9 hx hZ hown (wd 53 _ rfl) (wd 54 _ rfl) (wd 56 _ rfl) (wd 55 _ rfl) (wd 3 _ rfl) (wd 57 _ rfl) (by decide) (rm8 l Z a0 hw [] b8 j2 (0 : Int64) j1 T9.heap n0 Z0 F_b8_turns F_b8_length hhnz20_233) (by decide) (by decide) (by decide) (by decide) rfl E_b8 (by rw [hml]; rfl) (argsL := [(.int j2)]) (S := []) (lenOf pd_5 rfl) rfl (W := 0) (Nat.le_of_eq rfl) (hb hby at_233) rfl ?_
    intro v39 T39 L39 X39 hQ39
    obtain ⟨rfl, N39q, e39⟩ := hQ39
    have NN := Fr.app NN N39q
    show own_Go _ _ _ _ T39 (mkF m 236 #[vi p1, vi p2, vi p3, vi p4, vi p5, vi p6, vi j1, vi j2, vi j3, vj j4, .second, vj j5, .second, vj j6, .second, vj j7, .second, vr b8, vj j10, .second, vj (0 : Int64), .second] [(.long (r_8 j2 (0 : Int64) j1))])
    refine cs_lload cG X39 hx (hb hby at_236) rfl ?_
    refine cs_lcmp cG X39 hx (hb hby at_238) ?_
    show own_Go _ _ _ _ T39 (mkF m 239 #[vi p1, vi p2, vi p3, vi p4, vi p5, vi p6, vi j1, vi j2, vi j3, vj j4, .second, vj j5, .second, vj j6, .second, vj j7, .second, vr b8, vj j10, .second, vj (0 : Int64), .second] [(.int (lcmpW (r_8 j2 (0 : Int64) j1) (0 : Int64)))])
    obtain ⟨j40, hj40, st41⟩ : ∃ (j40 : Int32), j40 = (if (r_8 j2 (0 : Int64) j1) = (0 : Int64) then (1 : Int32) else (0 : Int32)) ∧ ∀ t, Steps p.tables e below (T39.setTop (mkF m 247 #[vi p1, vi p2, vi p3, vi p4, vi p5, vi p6, vi j1, vi j2, vi j3, vj j4, .second, vj j5, .second, vj j6, .second, vj j7, .second, vr b8, vj j10, .second, vj (0 : Int64), .second] [(.int j40)])) t → Steps p.tables e below (T39.setTop (mkF m 239 #[vi p1, vi p2, vi p3, vi p4, vi p5, vi p6, vi j1, vi j2, vi j3, vj j4, .second, vj j5, .second, vj j6, .second, vj j7, .second, vr b8, vj j10, .second, vj (0 : Int64), .second] [(.int (lcmpW (r_8 j2 (0 : Int64) j1) (0 : Int64)))])) t := by
      by_cases hc239_13 : (r_8 j2 (0 : Int64) j1) = (0 : Int64)
      · skip
        refine ⟨(1 : Int32), (by simp only [if_pos hc239_13]), fun t k => ?_⟩
        show Steps _ _ _ (T39.setTop (mkF m 239 #[vi p1, vi p2, vi p3, vi p4, vi p5, vi p6, vi j1, vi j2, vi j3, vj j4, .second, vj j5, .second, vj j6, .second, vj j7, .second, vr b8, vj j10, .second, vj (0 : Int64), .second] [(.int (lcmpW (r_8 j2 (0 : Int64) j1) (0 : Int64)))])) _
        refine XS.ifNo X39.here hx rfl (hb hby at_239) rfl ((if0 _ _).trans (teq ((lw_eq (r_8 j2 (0 : Int64) j1) (0 : Int64)).mpr hc239_13)).2) ?_
        show Steps _ _ _ (T39.setTop (mkF m 242 #[vi p1, vi p2, vi p3, vi p4, vi p5, vi p6, vi j1, vi j2, vi j3, vj j4, .second, vj j5, .second, vj j6, .second, vj j7, .second, vr b8, vj j10, .second, vj (0 : Int64), .second] [])) _
        refine XS.iconst X39.here hx rfl (hb hby at_242) ?_
        show Steps _ _ _ (T39.setTop (mkF m 243 #[vi p1, vi p2, vi p3, vi p4, vi p5, vi p6, vi j1, vi j2, vi j3, vj j4, .second, vj j5, .second, vj j6, .second, vj j7, .second, vr b8, vj j10, .second, vj (0 : Int64), .second] [(.int (1 : Int32))])) _
        refine XS.goto X39.here hx rfl (pc0 := 243) (pc' := 247) rfl (hb hby at_243) (by decide) (by decide) ?_
        exact k
      · skip
        refine ⟨(0 : Int32), (by simp only [if_neg hc239_13]), fun t k => ?_⟩
        show Steps _ _ _ (T39.setTop (mkF m 239 #[vi p1, vi p2, vi p3, vi p4, vi p5, vi p6, vi j1, vi j2, vi j3, vj j4, .second, vj j5, .second, vj j6, .second, vj j7, .second, vr b8, vj j10, .second, vj (0 : Int64), .second] [(.int (lcmpW (r_8 j2 (0 : Int64) j1) (0 : Int64)))])) _
        refine XS.ifYes X39.here hx rfl (pc0 := 239) (pc' := 246) rfl (hb hby at_239) rfl ((if0 _ _).trans (feq (fun q => hc239_13 ((lw_eq (r_8 j2 (0 : Int64) j1) (0 : Int64)).mp q))).2) (by decide) (by decide) ?_
        show Steps _ _ _ (T39.setTop (mkF m 246 #[vi p1, vi p2, vi p3, vi p4, vi p5, vi p6, vi j1, vi j2, vi j3, vj j4, .second, vj j5, .second, vj j6, .second, vj j7, .second, vr b8, vj j10, .second, vj (0 : Int64), .second] [])) _
        refine XS.iconst X39.here hx rfl (hb hby at_246) ?_
        exact k
    refine own_go st41 ?_
    show own_Go _ _ _ _ T39 (mkF m 247 #[vi p1, vi p2, vi p3, vi p4, vi p5, vi p6, vi j1, vi j2, vi j3, vj j4, .second, vj j5, .second, vj j6, .second, vj j7, .second, vr b8, vj j10, .second, vj (0 : Int64), .second] [(.int j40)])
    have hv1 : (nar .boolean j40) = 1 := own_yes_f p1 p2 p3 j1 j2 j3 j40 hj1 hj2 hj3 hj40 hnz14 hc88_1 hs124 hs160 hs196 hhnz20_233
    obtain ⟨fs, hr, hrun, hended, hW, hsame⟩ := X39.leave (v := some (.int (nar .boolean j40))) (fun h => by rw [Bd.returns] at h; cases h)
    refine ⟨_, _, ?_, hrun, hended, _, _, rfl, ?_, ⟨_, rfl⟩, hW, hsame.mono (by decide) (by decide)⟩
    · exact retN X39 hx (t := .boolean) Bd.returns (by simp) (hb hby at_247) hr
    · show Q0 Z p1 p2 p3 p4 p5 p6 h0 n0 _ _ _
      exact ⟨by rw [hv1], NN⟩
set_option maxRecDepth 65536 in
set_option maxHeartbeats 40000000 in
theorem comes_1 {Post : Tables → Env → Array Value → State → Outcome → State → Prop} (hpost : ∀ tb e args s v u, (limb_1_1.after args s (.returned v) u = true ∧ limb_1_2.after args s (.returned v) u = true ∧ True) → FrameEnd s (.returned v) u (Jvm.fieldLocs frame_1_writes args s ++ Jvm.arrayLocs frame_1_arrays args s ++ Jvm.staticLocs frame_1_statics s) 24 192 → Post tb e args s (.returned v) u) :
    ArmFor flags0 classFile x code maxLocals ret World_1 tables_1 room_1 Calls_1 rest_1 Pre_1 Post := by
  intro l hfl _ _ p e ha hc hk s m args below hf hA hF happ hP
  obtain ⟨hcalls, hrest, hpre⟩ := hP
  obtain ⟨-, -, -, hnamed, -, -, -, hat⟩ := (Spec.applies_iff hf).mp happ
  obtain ⟨hg, hn⟩ := and_e (Cond.before_iff.mp (show (Jvm.Cond.and given_1 narrow_1).before args s = true from hpre))
  obtain ⟨hcount, hg0⟩ := and_e hg
  obtain ⟨ha0, hg1⟩ := and_e hg0
  obtain ⟨ha1, hg2⟩ := and_e hg1
  obtain ⟨ha2, hg3⟩ := and_e hg2
  obtain ⟨ha3, hg4⟩ := and_e hg3
  obtain ⟨ha4, hg5⟩ := and_e hg4
  have ha5 := hg5
  obtain ⟨w0, w1, w2, w3, w4, w5, rfl⟩ : ∃ w0 w1 w2 w3 w4 w5 : Value, args = #[w0, w1, w2, w3, w4, w5] := by
    have hs : args.size = 6 := by simpa [Cond.value, given_1] using hcount
    obtain ⟨L⟩ := args
    match L, hs with
    | [w0, w1, w2, w3, w4, w5], _ => exact ⟨w0, w1, w2, w3, w4, w5, rfl⟩
  have hw := fun d (hd : d ∈ tables_1) => atoms_spec (ws := Jvm.Cond.code x code maxLocals ret :: tables_1) hat d (List.mem_cons_of_mem _ hd)
  obtain ⟨i0, ei0⟩ := is_v ha0
  obtain rfl : w0 = (.int i0) := Option.some.inj ei0
  obtain ⟨i1, ei1⟩ := is_v ha1
  obtain rfl : w1 = (.int i1) := Option.some.inj ei1
  obtain ⟨i2, ei2⟩ := is_v ha2
  obtain rfl : w2 = (.int i2) := Option.some.inj ei2
  obtain ⟨i3, ei3⟩ := is_v ha3
  obtain rfl : w3 = (.int i3) := Option.some.inj ei3
  obtain ⟨i4, ei4⟩ := is_v ha4
  obtain rfl : w4 = (.int i4) := Option.some.inj ei4
  obtain ⟨i5, ei5⟩ := is_v ha5
  obtain rfl : w5 = (.int i5) := Option.some.inj ei5
  obtain ⟨n, o, h1, h2, h3, _, L, rfl, ⟨rfl, N⟩, hq⟩ := rm0 l s _ hw tables_1 i0 i1 i2 i3 i4 i5 s.heap s.heap.size (Nat.le_refl _) p e ha hc hk s m _ below hf ((Spec.applies_iff_loose hf).mp happ).1 ⟨rfl, State.Warmed39.refl s, rfl⟩ trivial
  refine ⟨n, _, h1, h2, h3, hpost _ _ _ _ _ _ ⟨Cond.after_iff.mpr rfl, Cond.after_iff.mpr (eq_i res_at (Term.int_eval (1)) rfl), trivial⟩ ⟨hq.1, hq.2.1, (hq.2.2.sift fun y hy => Or.inr (N y hy)).mono (by decide) (by decide)⟩⟩
theorem main_1_1 : Claimed_1_1 := comes_1 fun _ _ _ _ _ _ h hF => ⟨h.1, hF⟩
theorem main_1_2 : Claimed_1_2 := comes_1 fun _ _ _ _ _ _ h hF => ⟨h.2.1, hF⟩
end Jvm.Pilot.@@N@@
namespace Jvm.Pilot.@@N@@
open Jvm Jvm.ClassFile Sem Op Lib Jvm.Free Jvm.Stand Jvm.Pilot.@@N@@.Jvm.D
/-! MADE BY PROGRAM (witnessworld.py) out of the Statement's table words and the real class files: 20 classes; the members and pool entries that the words name. The judged class is class 1, her method 1. -/
namespace start1
open Jvm.ClassFile
def u (s : String) : CpInfo := .utf8 (stringToUtf16 s)
/-- a pool by its gaps: so many unusable entries, then the entry; so many at the end -/
def gap : Nat → List CpInfo → List CpInfo
  | 0, r => r
  | n + 1, r => .unusable :: gap n r
def poolList (es : List (Nat × CpInfo)) (last : Nat) : List CpInfo := es.foldr (fun e r => gap e.1 (e.2 :: r)) (gap last [])
def pool (es : List (Nat × CpInfo)) (last : Nat) : Array CpInfo := ⟨poolList es last⟩
def fileOf (pool : Array CpInfo) (this : Nat) (attrs : Array Attribute := #[]) (ms : Array MethodInfo := #[]) (fl : Nat := 33) (sup : Nat := 0) (ifs : Array Nat := #[]) (fds : Array FieldInfo := #[]) : ClassFile where
  minorVersion := 0
  majorVersion := 65
  constantPool := pool
  accessFlags := fl
  thisClass := this
  superClass := sup
  interfaces := ifs
  fields := fds
  methods := ms
  attributes := attrs
def plain (name : String) (sup : Option ClassId) : Class where
  name := name
  kind := .ordinary
  loader := none
  accessFlags := 33
  super := sup
  interfaces := #[]
  cf := none
  fields := #[]
  methods := #[]
  instanceTypes := #[]
  staticTypes := #[]
  resolved := #[]
  callSites := []
  init := .initialized
  statics := none
  mirror := none

def pool0 : Array CpInfo := pool [(5, u "<init>"), (0, u "()V"), (1, .class_ 10), (1, u "java/lang/Object")] 113

def k0c0 : Code := { maxStack := 0, maxLocals := 1, code := object_method_1_code, exceptionTable := #[], attributes := #[] }
def k0m0 : Method := { name := "<init>", desc := "()V", sig := { parameters := [], returnType := none }, accessFlags := 1, code := some k0c0 }
/-- java/lang/Object -/
def k0 : Class := { plain "java/lang/Object" none with
  accessFlags := 33
  interfaces := #[]
  cf := some (fileOf pool0 8 #[] #[{ accessFlags := 1, nameIndex := 5, descriptorIndex := 6, attributes := #[] }] 33 0 #[] #[])
  fields := #[]
  methods := #[k0m0]
  instanceTypes := #[]
  staticTypes := #[]
  resolved := Array.replicate 124 none
  statics := none }

def pool1 : Array CpInfo := pool [(2, .class_ 4), (1, u "java/lang/Object"), (0, u "<init>"), (0, u "()V"), (0, .integer 2147483647), (0, .class_ 9), (0, u "com/example/caliper2/caliper2/NonOverlappingCount"), (0, .methodref 8 11), (0, .nameAndType 5 12), (0, u "(I)V"), (0, .methodref 8 14), (0, .nameAndType 15 16), (0, u "onOccurrence"), (0, u "(J)Z"), (0, .methodref 8 18), (0, .nameAndType 19 20), (0, u "count"), (0, u "(I)J"), (0, .class_ 22), (0, u "com/example/caliper2/caliper2/NonOverlappingCountCountPinLaw"), (2, u "law"), (0, u "(IIIIII)Z")] 3

def k1m0 : Method := { name := "<init>", desc := "()V", sig := { parameters := [], returnType := none }, accessFlags := 1, code := none }
def k1c1 : Code := { maxStack := 4, maxLocals := 22, code := code, exceptionTable := #[], attributes := #[] }
def k1m1 : Method := { name := "law", desc := "(IIIIII)Z", sig := { parameters := [.int, .int, .int, .int, .int, .int], returnType := some .boolean }, accessFlags := 9, code := some k1c1 }
/-- com/example/caliper2/caliper2/NonOverlappingCountCountPinLaw -/
def k1 : Class := { plain "com/example/caliper2/caliper2/NonOverlappingCountCountPinLaw" (some 0) with
  accessFlags := 49
  interfaces := #[]
  cf := some (fileOf pool1 21 #[] #[{ accessFlags := 1, nameIndex := 5, descriptorIndex := 6, attributes := #[] }, { accessFlags := 9, nameIndex := 25, descriptorIndex := 26, attributes := #[] }] 49 2 #[] #[])
  fields := #[]
  methods := #[k1m0, k1m1]
  instanceTypes := #[]
  staticTypes := #[]
  resolved := Array.replicate 30 none
  statics := none }

def pool2 : Array CpInfo := pool [(1, .class_ 2), (0, u "com/example/caliper2/caliper2/OccurrenceListener"), (0, .class_ 4), (0, u "java/lang/Object")] 6

/-- com/example/caliper2/caliper2/OccurrenceListener -/
def k2 : Class := { plain "com/example/caliper2/caliper2/OccurrenceListener" (some 0) with
  accessFlags := 1537
  interfaces := #[]
  cf := some (fileOf pool2 1 #[] #[] 1537 3 #[] #[])
  fields := #[]
  methods := #[]
  instanceTypes := #[]
  staticTypes := #[]
  resolved := Array.replicate 11 none
  statics := none }

def pool3 : Array CpInfo := pool [(1, .methodref 2 3), (0, .class_ 4), (0, .nameAndType 5 6), (0, u "java/lang/Object"), (0, u "<init>"), (0, u "()V"), (0, .class_ 8), (0, u "java/util/ArrayDeque"), (0, .methodref 7 3), (0, .fieldref 11 12), (0, .class_ 13), (0, .nameAndType 14 15), (0, u "com/example/caliper2/caliper2/NonOverlappingCount"), (0, u "chains"), (0, u "Ljava/util/ArrayDeque;"), (0, .fieldref 11 17), (0, .nameAndType 18 19), (0, u "length"), (0, u "I"), (0, .fieldref 11 21), (0, .nameAndType 22 23), (0, u "alike"), (0, u "J"), (0, .fieldref 11 25), (0, .nameAndType 26 23), (0, u "turns"), (0, .methodref 11 28), (0, .nameAndType 29 30), (0, u "takeApart"), (0, u "(J)V"), (0, .methodref 7 32), (0, .nameAndType 33 34), (0, u "isEmpty"), (0, u "()Z"), (0, .fieldref 11 36), (0, .nameAndType 37 19), (0, u "idle"), (0, .methodref 11 39), (0, .nameAndType 40 41), (0, u "nextInTurn"), (0, u "()I"), (0, .methodref 43 44), (0, .class_ 45), (0, .nameAndType 46 47), (0, u "java/lang/Math"), (0, u "floorMod"), (0, u "(II)I"), (14, u "()Ljava/lang/Object;"), (0, .class_ 64), (0, u "com/example/caliper2/caliper2/NonOverlappingCount$Progression"), (0, .fieldref 63 66), (0, .nameAndType 67 19), (0, u "from"), (0, .fieldref 63 69), (0, .nameAndType 70 23), (0, u "size"), (3, .methodref 43 75), (0, .nameAndType 76 77), (0, u "min"), (0, u "(JJ)J"), (0, .fieldref 63 79), (0, .nameAndType 80 23), (0, u "resume"), (0, .fieldref 63 82), (0, .nameAndType 83 23), (0, u "resumeStep"), (2, .long 9223372036854775807), (1, .methodref 7 89), (0, .nameAndType 90 62), (0, u "getFirst"), (0, .methodref 63 92), (0, .nameAndType 93 94), (0, u "drop"), (0, u "(JI)V"), (0, .methodref 7 96), (0, .nameAndType 97 62), (0, u "removeFirst"), (0, .methodref 11 99), (0, .nameAndType 100 101), (0, u "append"), (0, u "(IJ)V"), (0, .methodref 7 103), (0, .nameAndType 70 41), (0, .methodref 7 105), (0, .nameAndType 106 62), (0, u "peekLast"), (0, .methodref 63 108), (0, .nameAndType 109 110), (0, u "extendsTo"), (0, u "(IJI)Z"), (0, .methodref 63 112), (0, .nameAndType 5 101), (0, .methodref 7 114), (0, .nameAndType 115 116), (0, u "addLast"), (0, u "(Ljava/lang/Object;)V"), (0, .class_ 118), (0, u "com/example/caliper2/caliper2/OccurrenceListener"), (2, u "(I)V"), (2, u "onOccurrence"), (0, u "(J)Z"), (1, u "count"), (0, u "(I)J")] 5

def k3c0 : Code := { maxStack := 3, maxLocals := 2, code := prog_29_method_1_code, exceptionTable := #[], attributes := #[] }
def k3m0 : Method := { name := "<init>", desc := "(I)V", sig := { parameters := [.int], returnType := none }, accessFlags := 0, code := some k3c0 }
def k3c1 : Code := { maxStack := 5, maxLocals := 3, code := prog_29_method_2_code, exceptionTable := #[], attributes := #[] }
def k3m1 : Method := { name := "onOccurrence", desc := "(J)Z", sig := { parameters := [.long], returnType := some .boolean }, accessFlags := 1, code := some k3c1 }
def k3c2 : Code := { maxStack := 4, maxLocals := 2, code := prog_29_method_3_code, exceptionTable := #[], attributes := #[] }
def k3m2 : Method := { name := "count", desc := "(I)J", sig := { parameters := [.int], returnType := some .long }, accessFlags := 0, code := some k3c2 }
def k3c3 : Code := { maxStack := 6, maxLocals := 8, code := prog_29_method_5_code, exceptionTable := #[], attributes := #[] }
def k3m3 : Method := { name := "takeApart", desc := "(J)V", sig := { parameters := [.long], returnType := none }, accessFlags := 2, code := some k3c3 }
def k3c4 : Code := { maxStack := 2, maxLocals := 1, code := prog_29_method_6_code, exceptionTable := #[], attributes := #[] }
def k3m4 : Method := { name := "nextInTurn", desc := "()I", sig := { parameters := [], returnType := some .int }, accessFlags := 2, code := some k3c4 }
def k3c5 : Code := { maxStack := 6, maxLocals := 5, code := prog_29_method_7_code, exceptionTable := #[], attributes := #[] }
def k3m5 : Method := { name := "append", desc := "(IJ)V", sig := { parameters := [.int, .long], returnType := none }, accessFlags := 2, code := some k3c5 }
/-- com/example/caliper2/caliper2/NonOverlappingCount -/
def k3 : Class := { plain "com/example/caliper2/caliper2/NonOverlappingCount" (some 0) with
  accessFlags := 48
  interfaces := #[2]
  cf := some (fileOf pool3 11 #[.nestMembers #[63]] #[{ accessFlags := 0, nameIndex := 5, descriptorIndex := 121, attributes := #[] }, { accessFlags := 1, nameIndex := 124, descriptorIndex := 125, attributes := #[] }, { accessFlags := 0, nameIndex := 127, descriptorIndex := 128, attributes := #[] }, { accessFlags := 2, nameIndex := 29, descriptorIndex := 30, attributes := #[] }, { accessFlags := 2, nameIndex := 40, descriptorIndex := 41, attributes := #[] }, { accessFlags := 2, nameIndex := 100, descriptorIndex := 101, attributes := #[] }] 48 2 #[117] #[{ accessFlags := 18, nameIndex := 18, descriptorIndex := 19, attributes := #[] }, { accessFlags := 2, nameIndex := 26, descriptorIndex := 23, attributes := #[] }, { accessFlags := 2, nameIndex := 22, descriptorIndex := 23, attributes := #[] }, { accessFlags := 2, nameIndex := 37, descriptorIndex := 19, attributes := #[] }, { accessFlags := 18, nameIndex := 14, descriptorIndex := 15, attributes := #[] }])
  fields := #[{ name := "length", type := .int, accessFlags := 18, slot := 0, constantValue := 0 }, { name := "turns", type := .long, accessFlags := 2, slot := 1, constantValue := 0 }, { name := "alike", type := .long, accessFlags := 2, slot := 2, constantValue := 0 }, { name := "idle", type := .int, accessFlags := 2, slot := 3, constantValue := 0 }, { name := "chains", type := (.object "java/util/ArrayDeque"), accessFlags := 18, slot := 4, constantValue := 0 }]
  methods := #[k3m0, k3m1, k3m2, k3m3, k3m4, k3m5]
  instanceTypes := #[.int, .long, .long, .int, (.object "java/util/ArrayDeque")]
  staticTypes := #[]
  resolved := #[none, none, none, none, none, none, none, none, none, none, none, none, none, none, none, none, none, none, none, none, none, none, none, none, none, none, none, none, none, none, none, none, none, none, none, none, none, none, none, none, none, none, none, none, none, none, none, none, none, none, none, none, none, none, none, none, none, none, none, none, none, none, none, none, none, some (.field 14 0), none, none, some (.field 14 2), none, none, none, none, none, none, none, none, none, some (.field 14 1), none, none, some (.field 14 4), none, none, none, none, none, none, none, none, none, none, none, none, none, none, none, none, none, none, none, none, none, none, none, none, none, none, none, none, none, none, none, none, none, none, none, none, none, none, none, none, none, none, none, none, none, none, none, none, none, none, none, none]
  statics := none }

def pool4 : Array CpInfo := pool [(8, .class_ 10), (1, u "java/lang/Iterable"), (24, .class_ 36), (0, u "java/lang/Object")] 25

/-- java/lang/Iterable -/
def k4 : Class := { plain "java/lang/Iterable" (some 0) with
  accessFlags := 1537
  interfaces := #[]
  cf := some (fileOf pool4 8 #[] #[] 1537 35 #[] #[])
  fields := #[]
  methods := #[]
  instanceTypes := #[]
  staticTypes := #[]
  resolved := Array.replicate 62 none
  statics := none }

def pool5 : Array CpInfo := pool [(10, .class_ 12), (1, u "java/util/Collection"), (47, .class_ 61), (0, u "java/lang/Object"), (0, .class_ 63), (0, u "java/lang/Iterable")] 51

/-- java/util/Collection -/
def k5 : Class := { plain "java/util/Collection" (some 0) with
  accessFlags := 1537
  interfaces := #[4]
  cf := some (fileOf pool5 10 #[] #[] 1537 60 #[62] #[])
  fields := #[]
  methods := #[]
  instanceTypes := #[]
  staticTypes := #[]
  resolved := Array.replicate 115 none
  statics := none }

def pool6 : Array CpInfo := pool [(1, .methodref 2 3), (0, .class_ 4), (0, .nameAndType 5 6), (0, u "java/lang/Object"), (0, u "<init>"), (0, u "()V"), (1, .class_ 10), (1, u "java/util/AbstractCollection"), (66, .class_ 78), (0, u "java/util/Collection")] 81

def k6c0 : Code := { maxStack := 1, maxLocals := 1, code := jdk_22_method_1_code, exceptionTable := #[], attributes := #[] }
def k6m0 : Method := { name := "<init>", desc := "()V", sig := { parameters := [], returnType := none }, accessFlags := 4, code := some k6c0 }
/-- java/util/AbstractCollection -/
def k6 : Class := { plain "java/util/AbstractCollection" (some 0) with
  accessFlags := 1057
  interfaces := #[5]
  cf := some (fileOf pool6 8 #[] #[{ accessFlags := 4, nameIndex := 5, descriptorIndex := 6, attributes := #[] }] 1057 2 #[77] #[])
  fields := #[]
  methods := #[k6m0]
  instanceTypes := #[]
  staticTypes := #[]
  resolved := Array.replicate 160 none
  statics := none }

def pool7 : Array CpInfo := pool [(1, .class_ 2), (0, u "java/util/Queue"), (0, .class_ 4), (0, u "java/lang/Object"), (0, .class_ 6), (0, u "java/util/Collection")] 14

/-- java/util/Queue -/
def k7 : Class := { plain "java/util/Queue" (some 0) with
  accessFlags := 1537
  interfaces := #[5]
  cf := some (fileOf pool7 1 #[] #[] 1537 3 #[5] #[])
  fields := #[]
  methods := #[]
  instanceTypes := #[]
  staticTypes := #[]
  resolved := Array.replicate 21 none
  statics := none }

def pool8 : Array CpInfo := pool [(8, .class_ 10), (1, u "java/util/SequencedCollection"), (15, .class_ 27), (0, u "java/lang/Object"), (0, .class_ 29), (0, u "java/util/Collection")] 27

/-- java/util/SequencedCollection -/
def k8 : Class := { plain "java/util/SequencedCollection" (some 0) with
  accessFlags := 1537
  interfaces := #[5]
  cf := some (fileOf pool8 8 #[] #[] 1537 26 #[28] #[])
  fields := #[]
  methods := #[]
  instanceTypes := #[]
  staticTypes := #[]
  resolved := Array.replicate 57 none
  statics := none }

def pool9 : Array CpInfo := pool [(8, .class_ 10), (1, u "java/util/Deque"), (2, .class_ 14), (0, u "java/lang/Object"), (0, .class_ 16), (0, u "java/util/Queue"), (0, .class_ 18), (0, u "java/util/SequencedCollection")] 51

/-- java/util/Deque -/
def k9 : Class := { plain "java/util/Deque" (some 0) with
  accessFlags := 1537
  interfaces := #[7, 8]
  cf := some (fileOf pool9 8 #[] #[] 1537 13 #[15, 17] #[])
  fields := #[]
  methods := #[]
  instanceTypes := #[]
  staticTypes := #[]
  resolved := Array.replicate 70 none
  statics := none }

def pool10 : Array CpInfo := pool [(1, .class_ 2), (0, u "java/lang/Cloneable"), (0, .class_ 4), (0, u "java/lang/Object")] 2

/-- java/lang/Cloneable -/
def k10 : Class := { plain "java/lang/Cloneable" (some 0) with
  accessFlags := 1537
  interfaces := #[]
  cf := some (fileOf pool10 1 #[] #[] 1537 3 #[] #[])
  fields := #[]
  methods := #[]
  instanceTypes := #[]
  staticTypes := #[]
  resolved := Array.replicate 7 none
  statics := none }

def pool11 : Array CpInfo := pool [(1, .class_ 2), (0, u "java/io/Serializable"), (0, .class_ 4), (0, u "java/lang/Object")] 2

/-- java/io/Serializable -/
def k11 : Class := { plain "java/io/Serializable" (some 0) with
  accessFlags := 1537
  interfaces := #[]
  cf := some (fileOf pool11 1 #[] #[] 1537 3 #[] #[])
  fields := #[]
  methods := #[]
  instanceTypes := #[]
  staticTypes := #[]
  resolved := Array.replicate 7 none
  statics := none }

def pool12 : Array CpInfo := pool [(3, .fieldref 4 5), (0, .class_ 6), (0, .nameAndType 7 8), (0, u "java/util/ArrayDeque"), (0, u "elements"), (0, u "[Ljava/lang/Object;"), (4, u "(II)I"), (6, .fieldref 4 21), (0, .nameAndType 22 23), (0, u "tail"), (0, u "I"), (0, .fieldref 4 25), (0, .nameAndType 26 23), (0, u "head"), (12, u "<init>"), (2, .methodref 43 44), (0, .class_ 45), (0, .nameAndType 39 46), (0, u "java/util/AbstractCollection"), (0, u "()V"), (0, .class_ 48), (0, u "java/lang/Object"), (4, u "size"), (0, u "()I"), (13, .methodref 4 69), (0, .nameAndType 70 13), (0, u "dec"), (3, .methodref 4 75), (0, .nameAndType 76 13), (0, u "inc"), (12, u "(Ljava/lang/Object;)V"), (2, u "addLast"), (0, .methodref 4 94), (0, .nameAndType 95 96), (0, u "pollFirst"), (0, u "()Ljava/lang/Object;"), (6, .methodref 4 104), (0, .nameAndType 105 106), (0, u "elementAt"), (0, u "([Ljava/lang/Object;I)Ljava/lang/Object;"), (13, u "removeFirst"), (2, u "getFirst"), (3, .methodref 4 128), (0, .nameAndType 129 130), (0, u "sub"), (0, u "(III)I"), (0, .class_ 132), (0, u "java/util/ArrayDeque$DeqIterator"), (3, .class_ 137), (0, u "java/util/ArrayDeque$DescendingIterator"), (1, .class_ 140), (0, u "java/util/ArrayDeque$DeqSpliterator"), (137, .class_ 279), (0, u "java/util/Deque"), (0, .class_ 281), (0, u "java/lang/Cloneable"), (0, .class_ 283), (0, u "java/io/Serializable"), (0, u "MAX_ARRAY_SIZE"), (1, u "serialVersionUID"), (0, u "J"), (44, u "peekLast"), (14, u "isEmpty"), (0, u "()Z")] 89

def k12c0 : Code := { maxStack := 2, maxLocals := 1, code := jdk_21_method_3_code, exceptionTable := #[], attributes := #[] }
def k12m0 : Method := { name := "<init>", desc := "()V", sig := { parameters := [], returnType := none }, accessFlags := 1, code := some k12c0 }
def k12c1 : Code := { maxStack := 2, maxLocals := 2, code := jdk_21_method_6_code, exceptionTable := #[], attributes := #[] }
def k12m1 : Method := { name := "inc", desc := "(II)I", sig := { parameters := [.int, .int], returnType := some .int }, accessFlags := 24, code := some k12c1 }
def k12c2 : Code := { maxStack := 2, maxLocals := 2, code := jdk_21_method_7_code, exceptionTable := #[], attributes := #[] }
def k12m2 : Method := { name := "dec", desc := "(II)I", sig := { parameters := [.int, .int], returnType := some .int }, accessFlags := 24, code := some k12c2 }
def k12c3 : Code := { maxStack := 2, maxLocals := 3, code := jdk_21_method_9_code, exceptionTable := #[], attributes := #[] }
def k12m3 : Method := { name := "sub", desc := "(III)I", sig := { parameters := [.int, .int, .int], returnType := some .int }, accessFlags := 24, code := some k12c3 }
def k12c4 : Code := { maxStack := 2, maxLocals := 2, code := jdk_21_method_10_code, exceptionTable := #[], attributes := #[] }
def k12m4 : Method := { name := "elementAt", desc := "([Ljava/lang/Object;I)Ljava/lang/Object;", sig := { parameters := [(.array (.object "java/lang/Object")), .int], returnType := some (.object "java/lang/Object") }, accessFlags := 24, code := some k12c4 }
def k12c5 : Code := { maxStack := 4, maxLocals := 3, code := jdk_21_method_13_code, exceptionTable := #[], attributes := #[] }
def k12m5 : Method := { name := "addLast", desc := "(Ljava/lang/Object;)V", sig := { parameters := [(.object "java/lang/Object")], returnType := none }, accessFlags := 1, code := some k12c5 }
def k12c6 : Code := { maxStack := 2, maxLocals := 2, code := jdk_21_method_18_code, exceptionTable := #[], attributes := #[] }
def k12m6 : Method := { name := "removeFirst", desc := "()Ljava/lang/Object;", sig := { parameters := [], returnType := some (.object "java/lang/Object") }, accessFlags := 1, code := some k12c6 }
def k12c7 : Code := { maxStack := 3, maxLocals := 4, code := jdk_21_method_20_code, exceptionTable := #[], attributes := #[] }
def k12m7 : Method := { name := "pollFirst", desc := "()Ljava/lang/Object;", sig := { parameters := [], returnType := some (.object "java/lang/Object") }, accessFlags := 1, code := some k12c7 }
def k12c8 : Code := { maxStack := 2, maxLocals := 2, code := jdk_21_method_22_code, exceptionTable := #[], attributes := #[] }
def k12m8 : Method := { name := "getFirst", desc := "()Ljava/lang/Object;", sig := { parameters := [], returnType := some (.object "java/lang/Object") }, accessFlags := 1, code := some k12c8 }
def k12c9 : Code := { maxStack := 3, maxLocals := 2, code := jdk_21_method_25_code, exceptionTable := #[], attributes := #[] }
def k12m9 : Method := { name := "peekLast", desc := "()Ljava/lang/Object;", sig := { parameters := [], returnType := some (.object "java/lang/Object") }, accessFlags := 1, code := some k12c9 }
def k12c10 : Code := { maxStack := 3, maxLocals := 1, code := jdk_21_method_37_code, exceptionTable := #[], attributes := #[] }
def k12m10 : Method := { name := "size", desc := "()I", sig := { parameters := [], returnType := some .int }, accessFlags := 1, code := some k12c10 }
def k12c11 : Code := { maxStack := 2, maxLocals := 1, code := jdk_21_method_38_code, exceptionTable := #[], attributes := #[] }
def k12m11 : Method := { name := "isEmpty", desc := "()Z", sig := { parameters := [], returnType := some .boolean }, accessFlags := 1, code := some k12c11 }
/-- java/util/ArrayDeque -/
def k12 : Class := { plain "java/util/ArrayDeque" (some 6) with
  accessFlags := 33
  interfaces := #[9, 10, 11]
  cf := some (fileOf pool12 4 #[.nestMembers #[139, 136, 131]] #[{ accessFlags := 1, nameIndex := 39, descriptorIndex := 46, attributes := #[] }, { accessFlags := 24, nameIndex := 76, descriptorIndex := 13, attributes := #[] }, { accessFlags := 24, nameIndex := 70, descriptorIndex := 13, attributes := #[] }, { accessFlags := 24, nameIndex := 129, descriptorIndex := 130, attributes := #[] }, { accessFlags := 24, nameIndex := 105, descriptorIndex := 106, attributes := #[] }, { accessFlags := 1, nameIndex := 92, descriptorIndex := 89, attributes := #[] }, { accessFlags := 1, nameIndex := 120, descriptorIndex := 96, attributes := #[] }, { accessFlags := 1, nameIndex := 95, descriptorIndex := 96, attributes := #[] }, { accessFlags := 1, nameIndex := 123, descriptorIndex := 96, attributes := #[] }, { accessFlags := 1, nameIndex := 332, descriptorIndex := 96, attributes := #[] }, { accessFlags := 1, nameIndex := 53, descriptorIndex := 54, attributes := #[] }, { accessFlags := 1, nameIndex := 347, descriptorIndex := 348, attributes := #[] }] 33 43 #[278, 280, 282] #[{ accessFlags := 128, nameIndex := 7, descriptorIndex := 8, attributes := #[] }, { accessFlags := 128, nameIndex := 26, descriptorIndex := 23, attributes := #[] }, { accessFlags := 128, nameIndex := 22, descriptorIndex := 23, attributes := #[] }, { accessFlags := 26, nameIndex := 284, descriptorIndex := 23, attributes := #[] }, { accessFlags := 26, nameIndex := 286, descriptorIndex := 287, attributes := #[] }])
  fields := #[{ name := "elements", type := (.array (.object "java/lang/Object")), accessFlags := 128, slot := 0, constantValue := 0 }, { name := "head", type := .int, accessFlags := 128, slot := 1, constantValue := 0 }, { name := "tail", type := .int, accessFlags := 128, slot := 2, constantValue := 0 }, { name := "MAX_ARRAY_SIZE", type := .int, accessFlags := 26, slot := 0, constantValue := 0 }, { name := "serialVersionUID", type := .long, accessFlags := 26, slot := 1, constantValue := 0 }]
  methods := #[k12m0, k12m1, k12m2, k12m3, k12m4, k12m5, k12m6, k12m7, k12m8, k12m9, k12m10, k12m11]
  instanceTypes := #[(.array (.object "java/lang/Object")), .int, .int]
  staticTypes := #[.int, .long]
  resolved := Array.replicate 438 none
  statics := none }

def pool13 : Array CpInfo := pool [(1, .class_ 2), (0, u "java/lang/Math"), (1, .class_ 6), (1, u "java/lang/Object"), (0, u "<init>"), (0, u "()V"), (89, .class_ 100), (1, u "java/lang/Math$RandomNumberGeneratorHolder"), (20, u "(JJ)J"), (26, u "floorMod"), (23, u "negativeZeroFloatBits"), (0, u "J"), (2, u "negativeZeroDoubleBits"), (24, u "min"), (43, u "$assertionsDisabled"), (0, u "Z"), (88, u "(II)I"), (2, u "twoToTheDoubleScaleDown"), (0, u "D"), (4, u "twoToTheDoubleScaleUp"), (9, u "E"), (3, u "PI"), (2, u "TAU"), (2, u "DEGREES_TO_RADIANS"), (0, u "RADIANS_TO_DEGREES")] 94

def k13m0 : Method := { name := "<init>", desc := "()V", sig := { parameters := [], returnType := none }, accessFlags := 2, code := none }
def k13c1 : Code := { maxStack := 2, maxLocals := 3, code := jdk_29_method_50_code, exceptionTable := #[], attributes := #[] }
def k13m1 : Method := { name := "floorMod", desc := "(II)I", sig := { parameters := [.int, .int], returnType := some .int }, accessFlags := 9, code := some k13c1 }
def k13c2 : Code := { maxStack := 4, maxLocals := 4, code := jdk_29_method_70_code, exceptionTable := #[], attributes := #[] }
def k13m2 : Method := { name := "min", desc := "(JJ)J", sig := { parameters := [.long, .long], returnType := some .long }, accessFlags := 9, code := some k13c2 }
/-- java/lang/Math -/
def k13 : Class := { plain "java/lang/Math" (some 0) with
  accessFlags := 49
  interfaces := #[]
  cf := some (fileOf pool13 1 #[.nestMembers #[98]] #[{ accessFlags := 2, nameIndex := 7, descriptorIndex := 8, attributes := #[] }, { accessFlags := 9, nameIndex := 148, descriptorIndex := 335, attributes := #[] }, { accessFlags := 9, nameIndex := 201, descriptorIndex := 121, attributes := #[] }] 49 4 #[] #[{ accessFlags := 25, nameIndex := 354, descriptorIndex := 339, attributes := #[] }, { accessFlags := 25, nameIndex := 358, descriptorIndex := 339, attributes := #[] }, { accessFlags := 25, nameIndex := 361, descriptorIndex := 339, attributes := #[] }, { accessFlags := 26, nameIndex := 364, descriptorIndex := 339, attributes := #[] }, { accessFlags := 26, nameIndex := 365, descriptorIndex := 339, attributes := #[] }, { accessFlags := 26, nameIndex := 172, descriptorIndex := 173, attributes := #[] }, { accessFlags := 26, nameIndex := 176, descriptorIndex := 173, attributes := #[] }, { accessFlags := 8, nameIndex := 344, descriptorIndex := 339, attributes := #[] }, { accessFlags := 8, nameIndex := 338, descriptorIndex := 339, attributes := #[] }, { accessFlags := 4120, nameIndex := 245, descriptorIndex := 246, attributes := #[] }])
  fields := #[{ name := "E", type := .double, accessFlags := 25, slot := 0, constantValue := 0 }, { name := "PI", type := .double, accessFlags := 25, slot := 1, constantValue := 0 }, { name := "TAU", type := .double, accessFlags := 25, slot := 2, constantValue := 0 }, { name := "DEGREES_TO_RADIANS", type := .double, accessFlags := 26, slot := 3, constantValue := 0 }, { name := "RADIANS_TO_DEGREES", type := .double, accessFlags := 26, slot := 4, constantValue := 0 }, { name := "negativeZeroFloatBits", type := .long, accessFlags := 26, slot := 5, constantValue := 0 }, { name := "negativeZeroDoubleBits", type := .long, accessFlags := 26, slot := 6, constantValue := 0 }, { name := "twoToTheDoubleScaleUp", type := .double, accessFlags := 8, slot := 7, constantValue := 0 }, { name := "twoToTheDoubleScaleDown", type := .double, accessFlags := 8, slot := 8, constantValue := 0 }, { name := "$assertionsDisabled", type := .boolean, accessFlags := 4120, slot := 9, constantValue := 0 }]
  methods := #[k13m0, k13m1, k13m2]
  instanceTypes := #[]
  staticTypes := #[.double, .double, .double, .double, .double, .long, .long, .double, .double, .boolean]
  resolved := Array.replicate 460 none
  statics := none }

def pool14 : Array CpInfo := pool [(1, .methodref 2 3), (0, .class_ 4), (0, .nameAndType 5 6), (0, u "java/lang/Object"), (0, u "<init>"), (0, u "()V"), (0, .fieldref 8 9), (0, .class_ 10), (0, .nameAndType 11 12), (0, u "com/example/caliper2/caliper2/NonOverlappingCount$Progression"), (0, u "size"), (0, u "J"), (0, .fieldref 8 14), (0, .nameAndType 15 12), (0, u "resumeStep"), (0, .fieldref 8 17), (0, .nameAndType 18 19), (0, u "from"), (0, u "I"), (0, .fieldref 8 21), (0, .nameAndType 22 12), (0, u "resume"), (0, .fieldref 8 24), (0, .nameAndType 25 19), (0, u "fromStep"), (0, .methodref 27 28), (0, .class_ 29), (0, .nameAndType 30 31), (0, u "java/lang/Math"), (0, u "floorMod"), (0, u "(II)I"), (0, u "(IJ)V"), (2, u "drop"), (0, u "(JI)V"), (0, u "extendsTo"), (0, u "(IJI)Z"), (4, .class_ 44), (0, u "com/example/caliper2/caliper2/NonOverlappingCount")] 2

def k14c0 : Code := { maxStack := 3, maxLocals := 4, code := prog_30_method_1_code, exceptionTable := #[], attributes := #[] }
def k14m0 : Method := { name := "<init>", desc := "(IJ)V", sig := { parameters := [.int, .long], returnType := none }, accessFlags := 0, code := some k14c0 }
def k14c1 : Code := { maxStack := 7, maxLocals := 4, code := prog_30_method_2_code, exceptionTable := #[], attributes := #[] }
def k14m1 : Method := { name := "drop", desc := "(JI)V", sig := { parameters := [.long, .int], returnType := none }, accessFlags := 0, code := some k14c1 }
def k14c2 : Code := { maxStack := 8, maxLocals := 10, code := prog_30_method_3_code, exceptionTable := #[], attributes := #[] }
def k14m2 : Method := { name := "extendsTo", desc := "(IJI)Z", sig := { parameters := [.int, .long, .int], returnType := some .boolean }, accessFlags := 0, code := some k14c2 }
/-- com/example/caliper2/caliper2/NonOverlappingCount$Progression -/
def k14 : Class := { plain "com/example/caliper2/caliper2/NonOverlappingCount$Progression" (some 0) with
  accessFlags := 48
  interfaces := #[]
  cf := some (fileOf pool14 8 #[.nestHost 43] #[{ accessFlags := 0, nameIndex := 5, descriptorIndex := 32, attributes := #[] }, { accessFlags := 0, nameIndex := 35, descriptorIndex := 36, attributes := #[] }, { accessFlags := 0, nameIndex := 37, descriptorIndex := 38, attributes := #[] }] 48 2 #[] #[{ accessFlags := 2, nameIndex := 18, descriptorIndex := 19, attributes := #[] }, { accessFlags := 2, nameIndex := 22, descriptorIndex := 12, attributes := #[] }, { accessFlags := 2, nameIndex := 11, descriptorIndex := 12, attributes := #[] }, { accessFlags := 2, nameIndex := 25, descriptorIndex := 19, attributes := #[] }, { accessFlags := 2, nameIndex := 15, descriptorIndex := 12, attributes := #[] }])
  fields := #[{ name := "from", type := .int, accessFlags := 2, slot := 0, constantValue := 0 }, { name := "resume", type := .long, accessFlags := 2, slot := 1, constantValue := 0 }, { name := "size", type := .long, accessFlags := 2, slot := 2, constantValue := 0 }, { name := "fromStep", type := .int, accessFlags := 2, slot := 3, constantValue := 0 }, { name := "resumeStep", type := .long, accessFlags := 2, slot := 4, constantValue := 0 }]
  methods := #[k14m0, k14m1, k14m2]
  instanceTypes := #[.int, .long, .long, .int, .long]
  staticTypes := #[]
  resolved := Array.replicate 47 none
  statics := none }

/-- the primitive byte -/
def k15 : Class := { plain "byte" none with kind := .primitive 'B', accessFlags := 0x411 }
/-- [B -/
def k16 : Class := { plain "[B" (some 0) with kind := .array 15 .byte, interfaces := #[10, 11], accessFlags := 1041 }

/-- the primitive int -/
def k17 : Class := { plain "int" none with kind := .primitive 'I', accessFlags := 0x411 }
/-- [I -/
def k18 : Class := { plain "[I" (some 0) with kind := .array 17 .int, interfaces := #[10, 11], accessFlags := 1041 }

/-- [Ljava/lang/Object; -/
def k19 : Class := { plain "[Ljava/lang/Object;" (some 0) with kind := .array 0 (.object "java/lang/Object"), interfaces := #[10, 11], accessFlags := 1041 }

def heap : Heap := #[]
def classes : Array Class := #[k0, k1, k2, k3, k4, k5, k6, k7, k8, k9, k10, k11, k12, k13, k14, k15, k16, k17, k18, k19]
def interned : List (Array UInt16 × Addr) := []
def slotsUsed : Nat := 0
def theMethod : MethodId := ⟨1, 1⟩
def args0 : Array Value := #[.int 5, .int 6, .int 7, .int 8, .int 9, .int 10]
def aboutOver (below : List Frame) : State where
  vm := { classes := classes, interned := interned.toArray }
  heap := heap
  slotsUsed := slotsUsed
  threads := #[{ frames := .invoking theMethod args0 :: below }]
def below0 : List Frame := [.native { method := ⟨0, 0⟩, args := #[] }]
def about1 : State := aboutOver below0
def p0 : Program := .bare "" "" ""
def e0 : Env := launch0.env 0 0 0
theorem w_frames : about1.frames = Frame.invoking theMethod args0 :: below0 := rfl
set_option maxRecDepth 65536 in
theorem w_args : argsFit about1.vm theMethod args0 = true := by decide +kernel
set_option maxRecDepth 65536 in
theorem w_heap : heapFits about1 = true := by decide +kernel
set_option maxRecDepth 65536 in
theorem w_runnable : about1.curStatus? = some .runnable := by decide +kernel
set_option maxRecDepth 65536 in
theorem w_alone : about1.alone = true := by decide +kernel
set_option maxRecDepth 65536 in
theorem w_named : about1.methodNamed? x = some theMethod := by decide +kernel
set_option maxRecDepth 65536 in
theorem w_hears : about1.hears theMethod below0 = true := by decide +kernel
set_option maxRecDepth 65536 in
theorem w_ripe : about1.ripe theMethod args0 below0 = true := by decide +kernel
theorem w_running : about1.status = .running := rfl
set_option maxRecDepth 65536 in
theorem w_room : about1.hasRoom e0.platform room_1 = true :=
  launch0.hasRoom_least _ room_1 (by decide +kernel) (by decide +kernel) (by decide +kernel) (by decide +kernel) (by decide +kernel) (by decide +kernel)
theorem allAtoms_all (ts : List Jvm.Cond) (a : Array Jvm.Value) (st : Jvm.State) : (allAtoms ts).before a st = ts.all (fun c => c.before a st) := by
  induction ts with
  | nil => rfl
  | cons c t ih =>
    show (Jvm.Cond.and c (allAtoms t)).before a st = _
    rw [Jvm.Cond.before_and, ih, List.all_cons]
def words1 : List Jvm.Cond := Jvm.Cond.code x code maxLocals ret :: tables_1
/-- a 'code' word, met by the world's own term for the bytes: nothing is compared byte by byte -/
theorem code_word {y : MethodName} {bytes : ByteArray} {mx : Nat} {rt : Option FieldType} {a : Array Value} {s : State} {m : MethodId} {meth : Method} {c : Code} (h1 : s.methodNamed? y = some m) (h2 : s.vm.method? m = some meth) (h3 : meth.code = some c) (h4 : c.code = bytes)
    (h5 : (c.maxLocals == mx && c.exceptionTable.isEmpty && decide (c.maxStack ≤ mostOperands) && decide (meth.sig.returnType = rt) && !meth.locks && decide (parseMethodDescriptor y.desc = some meth.sig)) = true) : (Jvm.Cond.code y bytes mx rt).before a s = true := by
  simp only [Bool.and_eq_true, beq_iff_eq, Bool.not_eq_true', decide_eq_true_eq] at h5
  obtain ⟨⟨⟨⟨⟨g1, g2⟩, g3⟩, g4⟩, g5⟩, g6⟩ := h5
  simp [Cond.before, Cond.holds, Cond.value, h1, h2, h3, h4, g1, g2, g3, g4, g5, g6]
def isCode : Jvm.Cond → Bool
  | .code _ _ _ _ => true
  | _ => false
theorem all_split {L : List Jvm.Cond} {P : Jvm.Cond → Bool} (h1 : L.all (fun c => isCode c || P c) = true) (h2 : ∀ c ∈ L.filter isCode, P c = true) : L.all P = true := by
  refine List.all_eq_true.mpr fun c hc => ?_
  have h := List.all_eq_true.mp h1 c hc
  rcases Bool.eq_false_or_eq_true (isCode c) with hi | hi
  · exact h2 c (List.mem_filter.mpr ⟨hc, hi⟩)
  · simpa [hi] using h
set_option maxRecDepth 65536 in
theorem w_c0 : (Jvm.Cond.code x code maxLocals ret).before args0 about1 = true := code_word (m := ⟨1, 1⟩) (meth := k1m1) (c := k1c1) (by decide +kernel) rfl rfl rfl (by decide +kernel)
set_option maxRecDepth 65536 in
theorem w_c1 : (Jvm.Cond.code ({ cls := "com/example/caliper2/caliper2/NonOverlappingCount", name := "<init>", desc := "(I)V" } : Jvm.MethodName) prog_29_method_1_code (2 : Nat) (Option.none : Option Jvm.ClassFile.FieldType)).before args0 about1 = true := code_word (m := ⟨3, 0⟩) (meth := k3m0) (c := k3c0) (by decide +kernel) rfl rfl rfl (by decide +kernel)
set_option maxRecDepth 65536 in
theorem w_c2 : (Jvm.Cond.code ({ cls := "java/lang/Object", name := "<init>", desc := "()V" } : Jvm.MethodName) object_method_1_code (1 : Nat) (Option.none : Option Jvm.ClassFile.FieldType)).before args0 about1 = true := code_word (m := ⟨0, 0⟩) (meth := k0m0) (c := k0c0) (by decide +kernel) rfl rfl rfl (by decide +kernel)
set_option maxRecDepth 65536 in
theorem w_c3 : (Jvm.Cond.code ({ cls := "java/util/ArrayDeque", name := "<init>", desc := "()V" } : Jvm.MethodName) jdk_21_method_3_code (1 : Nat) (Option.none : Option Jvm.ClassFile.FieldType)).before args0 about1 = true := code_word (m := ⟨12, 0⟩) (meth := k12m0) (c := k12c0) (by decide +kernel) rfl rfl rfl (by decide +kernel)
set_option maxRecDepth 65536 in
theorem w_c4 : (Jvm.Cond.code ({ cls := "java/util/AbstractCollection", name := "<init>", desc := "()V" } : Jvm.MethodName) jdk_22_method_1_code (1 : Nat) (Option.none : Option Jvm.ClassFile.FieldType)).before args0 about1 = true := code_word (m := ⟨6, 0⟩) (meth := k6m0) (c := k6c0) (by decide +kernel) rfl rfl rfl (by decide +kernel)
set_option maxRecDepth 65536 in
theorem w_c5 : (Jvm.Cond.code ({ cls := "com/example/caliper2/caliper2/NonOverlappingCount", name := "onOccurrence", desc := "(J)Z" } : Jvm.MethodName) prog_29_method_2_code (3 : Nat) (Option.some Jvm.ClassFile.FieldType.boolean)).before args0 about1 = true := code_word (m := ⟨3, 1⟩) (meth := k3m1) (c := k3c1) (by decide +kernel) rfl rfl rfl (by decide +kernel)
set_option maxRecDepth 65536 in
theorem w_c6 : (Jvm.Cond.code ({ cls := "com/example/caliper2/caliper2/NonOverlappingCount", name := "takeApart", desc := "(J)V" } : Jvm.MethodName) prog_29_method_5_code (8 : Nat) (Option.none : Option Jvm.ClassFile.FieldType)).before args0 about1 = true := code_word (m := ⟨3, 3⟩) (meth := k3m3) (c := k3c3) (by decide +kernel) rfl rfl rfl (by decide +kernel)
set_option maxRecDepth 65536 in
theorem w_c7 : (Jvm.Cond.code ({ cls := "java/util/ArrayDeque", name := "isEmpty", desc := "()Z" } : Jvm.MethodName) jdk_21_method_38_code (1 : Nat) (Option.some Jvm.ClassFile.FieldType.boolean)).before args0 about1 = true := code_word (m := ⟨12, 11⟩) (meth := k12m11) (c := k12c11) (by decide +kernel) rfl rfl rfl (by decide +kernel)
set_option maxRecDepth 65536 in
theorem w_c8 : (Jvm.Cond.code ({ cls := "com/example/caliper2/caliper2/NonOverlappingCount", name := "count", desc := "(I)J" } : Jvm.MethodName) prog_29_method_3_code (2 : Nat) (Option.some Jvm.ClassFile.FieldType.long)).before args0 about1 = true := code_word (m := ⟨3, 2⟩) (meth := k3m2) (c := k3c2) (by decide +kernel) rfl rfl rfl (by decide +kernel)
set_option maxRecDepth 65536 in
theorem w_c9 : (Jvm.Cond.code ({ cls := "com/example/caliper2/caliper2/NonOverlappingCount", name := "nextInTurn", desc := "()I" } : Jvm.MethodName) prog_29_method_6_code (1 : Nat) (Option.some Jvm.ClassFile.FieldType.int)).before args0 about1 = true := code_word (m := ⟨3, 4⟩) (meth := k3m4) (c := k3c4) (by decide +kernel) rfl rfl rfl (by decide +kernel)
set_option maxRecDepth 65536 in
theorem w_c10 : (Jvm.Cond.code ({ cls := "java/lang/Math", name := "min", desc := "(JJ)J" } : Jvm.MethodName) jdk_29_method_70_code (4 : Nat) (Option.some Jvm.ClassFile.FieldType.long)).before args0 about1 = true := code_word (m := ⟨13, 2⟩) (meth := k13m2) (c := k13c2) (by decide +kernel) rfl rfl rfl (by decide +kernel)
set_option maxRecDepth 65536 in
theorem w_c11 : (Jvm.Cond.code ({ cls := "com/example/caliper2/caliper2/NonOverlappingCount", name := "append", desc := "(IJ)V" } : Jvm.MethodName) prog_29_method_7_code (5 : Nat) (Option.none : Option Jvm.ClassFile.FieldType)).before args0 about1 = true := code_word (m := ⟨3, 5⟩) (meth := k3m5) (c := k3c5) (by decide +kernel) rfl rfl rfl (by decide +kernel)
set_option maxRecDepth 65536 in
theorem w_c12 : (Jvm.Cond.code ({ cls := "java/util/ArrayDeque", name := "peekLast", desc := "()Ljava/lang/Object;" } : Jvm.MethodName) jdk_21_method_25_code (2 : Nat) (Option.some (Jvm.ClassFile.FieldType.object "java/lang/Object"))).before args0 about1 = true := code_word (m := ⟨12, 9⟩) (meth := k12m9) (c := k12c9) (by decide +kernel) rfl rfl rfl (by decide +kernel)
set_option maxRecDepth 65536 in
theorem w_c13 : (Jvm.Cond.code ({ cls := "java/util/ArrayDeque", name := "dec", desc := "(II)I" } : Jvm.MethodName) jdk_21_method_7_code (2 : Nat) (Option.some Jvm.ClassFile.FieldType.int)).before args0 about1 = true := code_word (m := ⟨12, 2⟩) (meth := k12m2) (c := k12c2) (by decide +kernel) rfl rfl rfl (by decide +kernel)
set_option maxRecDepth 65536 in
theorem w_c14 : (Jvm.Cond.code ({ cls := "java/util/ArrayDeque", name := "elementAt", desc := "([Ljava/lang/Object;I)Ljava/lang/Object;" } : Jvm.MethodName) jdk_21_method_10_code (2 : Nat) (Option.some (Jvm.ClassFile.FieldType.object "java/lang/Object"))).before args0 about1 = true := code_word (m := ⟨12, 4⟩) (meth := k12m4) (c := k12c4) (by decide +kernel) rfl rfl rfl (by decide +kernel)
set_option maxRecDepth 65536 in
theorem w_c15 : (Jvm.Cond.code ({ cls := "com/example/caliper2/caliper2/NonOverlappingCount$Progression", name := "<init>", desc := "(IJ)V" } : Jvm.MethodName) prog_30_method_1_code (4 : Nat) (Option.none : Option Jvm.ClassFile.FieldType)).before args0 about1 = true := code_word (m := ⟨14, 0⟩) (meth := k14m0) (c := k14c0) (by decide +kernel) rfl rfl rfl (by decide +kernel)
set_option maxRecDepth 65536 in
theorem w_c16 : (Jvm.Cond.code ({ cls := "java/util/ArrayDeque", name := "addLast", desc := "(Ljava/lang/Object;)V" } : Jvm.MethodName) jdk_21_method_13_code (3 : Nat) (Option.none : Option Jvm.ClassFile.FieldType)).before args0 about1 = true := code_word (m := ⟨12, 5⟩) (meth := k12m5) (c := k12c5) (by decide +kernel) rfl rfl rfl (by decide +kernel)
set_option maxRecDepth 65536 in
theorem w_c17 : (Jvm.Cond.code ({ cls := "java/util/ArrayDeque", name := "inc", desc := "(II)I" } : Jvm.MethodName) jdk_21_method_6_code (2 : Nat) (Option.some Jvm.ClassFile.FieldType.int)).before args0 about1 = true := code_word (m := ⟨12, 1⟩) (meth := k12m1) (c := k12c1) (by decide +kernel) rfl rfl rfl (by decide +kernel)
set_option maxRecDepth 65536 in
theorem w_c18 : (Jvm.Cond.code ({ cls := "java/lang/Math", name := "floorMod", desc := "(II)I" } : Jvm.MethodName) jdk_29_method_50_code (3 : Nat) (Option.some Jvm.ClassFile.FieldType.int)).before args0 about1 = true := code_word (m := ⟨13, 1⟩) (meth := k13m1) (c := k13c1) (by decide +kernel) rfl rfl rfl (by decide +kernel)
set_option maxRecDepth 65536 in
theorem w_c19 : (Jvm.Cond.code ({ cls := "java/util/ArrayDeque", name := "getFirst", desc := "()Ljava/lang/Object;" } : Jvm.MethodName) jdk_21_method_22_code (2 : Nat) (Option.some (Jvm.ClassFile.FieldType.object "java/lang/Object"))).before args0 about1 = true := code_word (m := ⟨12, 8⟩) (meth := k12m8) (c := k12c8) (by decide +kernel) rfl rfl rfl (by decide +kernel)
set_option maxRecDepth 65536 in
theorem w_c20 : (Jvm.Cond.code ({ cls := "com/example/caliper2/caliper2/NonOverlappingCount$Progression", name := "extendsTo", desc := "(IJI)Z" } : Jvm.MethodName) prog_30_method_3_code (10 : Nat) (Option.some Jvm.ClassFile.FieldType.boolean)).before args0 about1 = true := code_word (m := ⟨14, 2⟩) (meth := k14m2) (c := k14c2) (by decide +kernel) rfl rfl rfl (by decide +kernel)
set_option maxRecDepth 65536 in
theorem w_c21 : (Jvm.Cond.code ({ cls := "java/util/ArrayDeque", name := "size", desc := "()I" } : Jvm.MethodName) jdk_21_method_37_code (1 : Nat) (Option.some Jvm.ClassFile.FieldType.int)).before args0 about1 = true := code_word (m := ⟨12, 10⟩) (meth := k12m10) (c := k12c10) (by decide +kernel) rfl rfl rfl (by decide +kernel)
set_option maxRecDepth 65536 in
theorem w_c22 : (Jvm.Cond.code ({ cls := "java/util/ArrayDeque", name := "sub", desc := "(III)I" } : Jvm.MethodName) jdk_21_method_9_code (3 : Nat) (Option.some Jvm.ClassFile.FieldType.int)).before args0 about1 = true := code_word (m := ⟨12, 3⟩) (meth := k12m3) (c := k12c3) (by decide +kernel) rfl rfl rfl (by decide +kernel)
set_option maxRecDepth 65536 in
theorem w_c23 : (Jvm.Cond.code ({ cls := "com/example/caliper2/caliper2/NonOverlappingCount$Progression", name := "drop", desc := "(JI)V" } : Jvm.MethodName) prog_30_method_2_code (4 : Nat) (Option.none : Option Jvm.ClassFile.FieldType)).before args0 about1 = true := code_word (m := ⟨14, 1⟩) (meth := k14m1) (c := k14c1) (by decide +kernel) rfl rfl rfl (by decide +kernel)
set_option maxRecDepth 65536 in
theorem w_c24 : (Jvm.Cond.code ({ cls := "java/util/ArrayDeque", name := "removeFirst", desc := "()Ljava/lang/Object;" } : Jvm.MethodName) jdk_21_method_18_code (2 : Nat) (Option.some (Jvm.ClassFile.FieldType.object "java/lang/Object"))).before args0 about1 = true := code_word (m := ⟨12, 6⟩) (meth := k12m6) (c := k12c6) (by decide +kernel) rfl rfl rfl (by decide +kernel)
set_option maxRecDepth 65536 in
theorem w_c25 : (Jvm.Cond.code ({ cls := "java/util/ArrayDeque", name := "pollFirst", desc := "()Ljava/lang/Object;" } : Jvm.MethodName) jdk_21_method_20_code (4 : Nat) (Option.some (Jvm.ClassFile.FieldType.object "java/lang/Object"))).before args0 about1 = true := code_word (m := ⟨12, 7⟩) (meth := k12m7) (c := k12c7) (by decide +kernel) rfl rfl rfl (by decide +kernel)
def codes1 : List Jvm.Cond := [Jvm.Cond.code x code maxLocals ret, Jvm.Cond.code ({ cls := "com/example/caliper2/caliper2/NonOverlappingCount", name := "<init>", desc := "(I)V" } : Jvm.MethodName) prog_29_method_1_code (2 : Nat) (Option.none : Option Jvm.ClassFile.FieldType), Jvm.Cond.code ({ cls := "java/lang/Object", name := "<init>", desc := "()V" } : Jvm.MethodName) object_method_1_code (1 : Nat) (Option.none : Option Jvm.ClassFile.FieldType), Jvm.Cond.code ({ cls := "java/util/ArrayDeque", name := "<init>", desc := "()V" } : Jvm.MethodName) jdk_21_method_3_code (1 : Nat) (Option.none : Option Jvm.ClassFile.FieldType), Jvm.Cond.code ({ cls := "java/util/AbstractCollection", name := "<init>", desc := "()V" } : Jvm.MethodName) jdk_22_method_1_code (1 : Nat) (Option.none : Option Jvm.ClassFile.FieldType), Jvm.Cond.code ({ cls := "com/example/caliper2/caliper2/NonOverlappingCount", name := "onOccurrence", desc := "(J)Z" } : Jvm.MethodName) prog_29_method_2_code (3 : Nat) (Option.some Jvm.ClassFile.FieldType.boolean), Jvm.Cond.code ({ cls := "com/example/caliper2/caliper2/NonOverlappingCount", name := "takeApart", desc := "(J)V" } : Jvm.MethodName) prog_29_method_5_code (8 : Nat) (Option.none : Option Jvm.ClassFile.FieldType), Jvm.Cond.code ({ cls := "java/util/ArrayDeque", name := "isEmpty", desc := "()Z" } : Jvm.MethodName) jdk_21_method_38_code (1 : Nat) (Option.some Jvm.ClassFile.FieldType.boolean), Jvm.Cond.code ({ cls := "com/example/caliper2/caliper2/NonOverlappingCount", name := "count", desc := "(I)J" } : Jvm.MethodName) prog_29_method_3_code (2 : Nat) (Option.some Jvm.ClassFile.FieldType.long), Jvm.Cond.code ({ cls := "com/example/caliper2/caliper2/NonOverlappingCount", name := "nextInTurn", desc := "()I" } : Jvm.MethodName) prog_29_method_6_code (1 : Nat) (Option.some Jvm.ClassFile.FieldType.int), Jvm.Cond.code ({ cls := "java/lang/Math", name := "min", desc := "(JJ)J" } : Jvm.MethodName) jdk_29_method_70_code (4 : Nat) (Option.some Jvm.ClassFile.FieldType.long), Jvm.Cond.code ({ cls := "com/example/caliper2/caliper2/NonOverlappingCount", name := "append", desc := "(IJ)V" } : Jvm.MethodName) prog_29_method_7_code (5 : Nat) (Option.none : Option Jvm.ClassFile.FieldType), Jvm.Cond.code ({ cls := "java/util/ArrayDeque", name := "peekLast", desc := "()Ljava/lang/Object;" } : Jvm.MethodName) jdk_21_method_25_code (2 : Nat) (Option.some (Jvm.ClassFile.FieldType.object "java/lang/Object")), Jvm.Cond.code ({ cls := "java/util/ArrayDeque", name := "dec", desc := "(II)I" } : Jvm.MethodName) jdk_21_method_7_code (2 : Nat) (Option.some Jvm.ClassFile.FieldType.int), Jvm.Cond.code ({ cls := "java/util/ArrayDeque", name := "elementAt", desc := "([Ljava/lang/Object;I)Ljava/lang/Object;" } : Jvm.MethodName) jdk_21_method_10_code (2 : Nat) (Option.some (Jvm.ClassFile.FieldType.object "java/lang/Object")), Jvm.Cond.code ({ cls := "com/example/caliper2/caliper2/NonOverlappingCount$Progression", name := "<init>", desc := "(IJ)V" } : Jvm.MethodName) prog_30_method_1_code (4 : Nat) (Option.none : Option Jvm.ClassFile.FieldType), Jvm.Cond.code ({ cls := "java/util/ArrayDeque", name := "addLast", desc := "(Ljava/lang/Object;)V" } : Jvm.MethodName) jdk_21_method_13_code (3 : Nat) (Option.none : Option Jvm.ClassFile.FieldType), Jvm.Cond.code ({ cls := "java/util/ArrayDeque", name := "inc", desc := "(II)I" } : Jvm.MethodName) jdk_21_method_6_code (2 : Nat) (Option.some Jvm.ClassFile.FieldType.int), Jvm.Cond.code ({ cls := "java/lang/Math", name := "floorMod", desc := "(II)I" } : Jvm.MethodName) jdk_29_method_50_code (3 : Nat) (Option.some Jvm.ClassFile.FieldType.int), Jvm.Cond.code ({ cls := "java/util/ArrayDeque", name := "getFirst", desc := "()Ljava/lang/Object;" } : Jvm.MethodName) jdk_21_method_22_code (2 : Nat) (Option.some (Jvm.ClassFile.FieldType.object "java/lang/Object")), Jvm.Cond.code ({ cls := "com/example/caliper2/caliper2/NonOverlappingCount$Progression", name := "extendsTo", desc := "(IJI)Z" } : Jvm.MethodName) prog_30_method_3_code (10 : Nat) (Option.some Jvm.ClassFile.FieldType.boolean), Jvm.Cond.code ({ cls := "java/util/ArrayDeque", name := "size", desc := "()I" } : Jvm.MethodName) jdk_21_method_37_code (1 : Nat) (Option.some Jvm.ClassFile.FieldType.int), Jvm.Cond.code ({ cls := "java/util/ArrayDeque", name := "sub", desc := "(III)I" } : Jvm.MethodName) jdk_21_method_9_code (3 : Nat) (Option.some Jvm.ClassFile.FieldType.int), Jvm.Cond.code ({ cls := "com/example/caliper2/caliper2/NonOverlappingCount$Progression", name := "drop", desc := "(JI)V" } : Jvm.MethodName) prog_30_method_2_code (4 : Nat) (Option.none : Option Jvm.ClassFile.FieldType), Jvm.Cond.code ({ cls := "java/util/ArrayDeque", name := "removeFirst", desc := "()Ljava/lang/Object;" } : Jvm.MethodName) jdk_21_method_18_code (2 : Nat) (Option.some (Jvm.ClassFile.FieldType.object "java/lang/Object")), Jvm.Cond.code ({ cls := "java/util/ArrayDeque", name := "pollFirst", desc := "()Ljava/lang/Object;" } : Jvm.MethodName) jdk_21_method_20_code (4 : Nat) (Option.some (Jvm.ClassFile.FieldType.object "java/lang/Object"))]
set_option maxRecDepth 65536 in
theorem codes_eq : words1.filter isCode = codes1 := rfl
theorem w_codes : ∀ c ∈ words1.filter isCode, c.before args0 about1 = true := by
  rw [codes_eq]
  intro c hc
  simp only [codes1, List.mem_cons, List.not_mem_nil, or_false] at hc
  rcases hc with rfl | rfl | rfl | rfl | rfl | rfl | rfl | rfl | rfl | rfl | rfl | rfl | rfl | rfl | rfl | rfl | rfl | rfl | rfl | rfl | rfl | rfl | rfl | rfl | rfl | rfl
  · exact w_c0
  · exact w_c1
  · exact w_c2
  · exact w_c3
  · exact w_c4
  · exact w_c5
  · exact w_c6
  · exact w_c7
  · exact w_c8
  · exact w_c9
  · exact w_c10
  · exact w_c11
  · exact w_c12
  · exact w_c13
  · exact w_c14
  · exact w_c15
  · exact w_c16
  · exact w_c17
  · exact w_c18
  · exact w_c19
  · exact w_c20
  · exact w_c21
  · exact w_c22
  · exact w_c23
  · exact w_c24
  · exact w_c25
set_option maxRecDepth 65536 in
theorem w_t1 : (words1.take 24).all (fun c => isCode c || c.before args0 about1) = true := by decide +kernel
set_option maxRecDepth 65536 in
theorem w_t2 : ((words1.drop 24).take 24).all (fun c => isCode c || c.before args0 about1) = true := by decide +kernel
set_option maxRecDepth 65536 in
theorem w_t3 : (((words1.drop 24).drop 24).take 24).all (fun c => isCode c || c.before args0 about1) = true := by decide +kernel
set_option maxRecDepth 65536 in
theorem w_t4 : ((((words1.drop 24).drop 24).drop 24).take 24).all (fun c => isCode c || c.before args0 about1) = true := by decide +kernel
set_option maxRecDepth 65536 in
theorem w_t5 : (((((words1.drop 24).drop 24).drop 24).drop 24).take 24).all (fun c => isCode c || c.before args0 about1) = true := by decide +kernel
set_option maxRecDepth 65536 in
theorem w_t6 : ((((((words1.drop 24).drop 24).drop 24).drop 24).drop 24).take 24).all (fun c => isCode c || c.before args0 about1) = true := by decide +kernel
set_option maxRecDepth 65536 in
theorem w_t7 : ((((((words1.drop 24).drop 24).drop 24).drop 24).drop 24).drop 24).all (fun c => isCode c || c.before args0 about1) = true := by decide +kernel
theorem w_tables : (allAtoms (Jvm.Cond.code x code maxLocals ret :: tables_1)).before args0 about1 = true := by
  rw [allAtoms_all]
  show words1.all (fun c => c.before args0 about1) = true
  refine all_split ?_ w_codes
  rw [← List.take_append_drop 24 words1, List.all_append, w_t1, ← List.take_append_drop 24 (words1.drop 24), List.all_append, w_t2, ← List.take_append_drop 24 ((words1.drop 24).drop 24), List.all_append, w_t3, ← List.take_append_drop 24 (((words1.drop 24).drop 24).drop 24), List.all_append, w_t4, ← List.take_append_drop 24 ((((words1.drop 24).drop 24).drop 24).drop 24), List.all_append, w_t5, ← List.take_append_drop 24 (((((words1.drop 24).drop 24).drop 24).drop 24).drop 24), List.all_append, w_t6, w_t7]
  rfl
set_option maxRecDepth 65536 in
theorem w_case : (Jvm.Cond.and given_1 narrow_1).before args0 about1 = true := by decide +kernel
theorem w_applies : (headSpec (Jvm.Cond.code x code maxLocals ret :: tables_1) room_1).applies x e0.platform about1 = true :=
  (Spec.applies_iff w_frames).mpr ⟨w_running, w_runnable, w_alone, w_named, w_hears, w_ripe, w_room, w_tables⟩
theorem atStart : AtStart classFile x code maxLocals ret World_1 tables_1 room_1 Calls_1 rest_1 Pre_1 launch0 p0 e0 about1 theMethod args0 below0 :=
  ⟨lists_1, trivial, launch0.admits_env _ _ _, launch0.least_env, fairChoices_fair.cas, fairChoices_fair.clock, w_frames, w_args, w_heap, w_applies, trivial, trivial, w_case⟩
end start1
theorem witness_1 : WitnessClaimed_1 := ⟨start1.p0, start1.e0, start1.about1, start1.theMethod, start1.args0, start1.below0, start1.atStart⟩
end Jvm.Pilot.@@N@@

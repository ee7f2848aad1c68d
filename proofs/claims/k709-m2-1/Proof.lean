import JvmDerived
import JvmDerived.Pilot.@@N@@Statement
import JvmDerived.Pilot.@@N@@Code
set_option linter.unusedVariables false
set_option linter.unusedSimpArgs false
namespace Jvm.RoadKit
open Sem ClassFile Op Lib Jvm.Stand Jvm.Free Jvm.LawKit
section New
variable {p : Program} {l : Launch} {e : Env} {R : Room} {s : State} {m : MethodId} {args : Array Value} {below : List Frame} {meth : Method} {c : Code} {T : State} {locs : List Loc} {cells slots : Nat}
theorem retI (X : Stand p l e R s m args below meth c T locs cells slots) (hx : p.tables.exec = Jvm.exec) {pc : Nat} {Ls : Array Slot} {z : Int32} {rest : List Value} (hret : meth.sig.returnType = some .int) (hd : decode c.code pc = .ok (.ireturn, 1)) {fs : List Frame}
    (hl : ∀ (f : JFrame) (acts : List Action), f.method = m → f.locked = none → f.entered = [] → (doReturn e (T.setTop f) acts (some (.int z))).1 = T.setFrames fs) : Steps p.tables e below (T.setTop (mkF m pc Ls (.int z :: rest))) (T.setFrames fs) :=
  retOut X hx hret rfl (Or.inl ⟨rfl, Or.inl rfl, z, rfl⟩) hd hl
theorem own_lremM {g : JFrame} {target : State} (X : Stand p l e R s m args below meth c T locs cells slots) (hx : p.tables.exec = Jvm.exec) (hg : g.method = m) {x y : Int64} {rest : List Value} (hd : decode c.code g.pc = .ok (.lrem, 1)) (hs : g.stack = .long y :: .long x :: rest) (hy : y ≠ 0)
    (hr : Steps p.tables e below (T.setTop { g with pc := g.pc + 1, stack := .long (x % y) :: rest }) target) : Steps p.tables e below (T.setTop g) target := by
  have q : x - x / y * y = x % y := lrem_mod x y
  exact XS.lrem X.here hx hg hd hs hy (by rw [q]; exact hr)
theorem own_evInt {Z : State} {args : Array Value} {t : Term} {k : Int32} (h : (Jvm.Cond.eq t (.int k)).value args Z none Z [] = some true) : t.eval args Z none [] Z = some (.int k) := by
  obtain ⟨x, y, h1, h2, -, -⟩ := cmp_v (Or.inl h)
  have hy : y = .int k := Option.some.inj (h2.symm.trans (Term.int_eval k))
  subst hy
  have hx : x = .int k := by
    cases x <;> simp [Cond.value, h1, h2] at h ⊢
    exact h
  rw [h1, hx]
theorem own_selPriv {y : MethodName} {kI : Nat} (hI : (Jvm.Cond.instantiable y.cls kI).before args s = true) (hpriv : s.PrivateAt y) (hinst : (Jvm.Cond.instanceMethod y).before args s = true) (hy : y.cls ≠ "java/lang/invoke/MethodHandle" ∧ y.cls ≠ "java/lang/invoke/VarHandle") : (Jvm.Cond.selects y.cls y y).before args s = true := by
  obtain ⟨c, k, h1, h2, -, h4, -⟩ := Cond.instantiable_spec hI
  exact selects_self_of_private h1 h2 (Bool.or_eq_false_iff.mp h4).1 hpriv hinst hy
theorem own_since0 (s : State) : s.Since s.vm 0 := (State.WarmedH.refl s).since _
theorem own_irr32 (x : Int32) : ¬ (x < x) := Int32.lt_irrefl
theorem own_irr64 (x : Int64) : ¬ (x < x) := Int64.lt_irrefl
theorem own_fldInt {Z : State} {args : Array Value} {t : Term} {a : Addr} {C n d : String} {k : Int32} (ev : t.eval args Z none [] Z = some (.ref a)) (h : (Jvm.Cond.eq (.field t C n d) (.int k)).value args Z none Z [] = some true) : Fld Z Z.heap a C n d (.int k) := by
  obtain ⟨x, y, h1, h2, -, -⟩ := cmp_v (Or.inl h)
  have hy : y = .int k := Option.some.inj (h2.symm.trans (Term.int_eval k))
  subst hy
  have hx : x = .int k := by
    cases x <;> simp [Cond.value, h1, h2] at h ⊢
    exact h
  rw [fld_at ev] at h1
  exact Fld.start (hx ▸ h1)
end New
end Jvm.RoadKit
namespace Jvm.Pilot.@@N@@
open Jvm Jvm.ClassFile Sem Op Lib Jvm.Free Jvm.Stand Jvm.LawKit Jvm.RoadKit Bundle Jvm.Pilot.@@N@@.Jvm.D
theorem wd0 {a0 : Array Value} {Z : State} (hw : ∀ d ∈ tables_1, d.before a0 Z = true) : (Jvm.Cond.fieldLink "com/example/querymemo/querymemo/cache/StripesNewCellsPinLaw" (7 : Nat) "com/example/querymemo/querymemo/cache/Stripes" "COUNT" "I").before a0 Z = true := hw _ (List.mem_of_getElem? (i := 0) rfl)
theorem wd1 {a0 : Array Value} {Z : State} (hw : ∀ d ∈ tables_1, d.before a0 Z = true) : (Jvm.Cond.initialized "com/example/querymemo/querymemo/cache/Stripes").before a0 Z = true := hw _ (List.mem_of_getElem? (i := 1) rfl)
theorem wd2 {a0 : Array Value} {Z : State} (hw : ∀ d ∈ tables_1, d.before a0 Z = true) : (Jvm.Cond.laysStatic "com/example/querymemo/querymemo/cache/Stripes" "COUNT" "I").before a0 Z = true := hw _ (List.mem_of_getElem? (i := 2) rfl)
theorem wd3 {a0 : Array Value} {Z : State} (hw : ∀ d ∈ tables_1, d.before a0 Z = true) : (Jvm.Cond.constant "com/example/querymemo/querymemo/cache/StripesNewCellsPinLaw" (13 : Nat) (2147483647 : Int32)).before a0 Z = true := hw _ (List.mem_of_getElem? (i := 3) rfl)
theorem wd4 {a0 : Array Value} {Z : State} (hw : ∀ d ∈ tables_1, d.before a0 Z = true) : (Jvm.Cond.methodLink "com/example/querymemo/querymemo/cache/StripesNewCellsPinLaw" (14 : Nat) ({ cls := "com/example/querymemo/querymemo/cache/Stripes", name := "newCells", desc := "()[J" } : Jvm.MethodName)).before a0 Z = true := hw _ (List.mem_of_getElem? (i := 4) rfl)
theorem wd5 {a0 : Array Value} {Z : State} (hw : ∀ d ∈ tables_1, d.before a0 Z = true) : (Jvm.Cond.static ({ cls := "com/example/querymemo/querymemo/cache/Stripes", name := "newCells", desc := "()[J" } : Jvm.MethodName)).before a0 Z = true := hw _ (List.mem_of_getElem? (i := 5) rfl)
theorem wd6 {a0 : Array Value} {Z : State} (hw : ∀ d ∈ tables_1, d.before a0 Z = true) : (Jvm.Cond.code ({ cls := "com/example/querymemo/querymemo/cache/Stripes", name := "newCells", desc := "()[J" } : Jvm.MethodName) prog_22_method_3_code (0 : Nat) (Option.some (Jvm.ClassFile.FieldType.array Jvm.ClassFile.FieldType.long))).before a0 Z = true := hw _ (List.mem_of_getElem? (i := 6) rfl)
theorem wd7 {a0 : Array Value} {Z : State} (hw : ∀ d ∈ tables_1, d.before a0 Z = true) : (Jvm.Cond.fieldLink "com/example/querymemo/querymemo/cache/Stripes" (17 : Nat) "com/example/querymemo/querymemo/cache/Stripes" "COUNT" "I").before a0 Z = true := hw _ (List.mem_of_getElem? (i := 7) rfl)
theorem wd8 {a0 : Array Value} {Z : State} (hw : ∀ d ∈ tables_1, d.before a0 Z = true) : (Jvm.Cond.arrayClass Jvm.ClassFile.FieldType.long).before a0 Z = true := hw _ (List.mem_of_getElem? (i := 8) rfl)
theorem wd9 {a0 : Array Value} {Z : State} (hw : ∀ d ∈ tables_1, d.before a0 Z = true) : (Jvm.Cond.methodLink "com/example/querymemo/querymemo/cache/StripesNewCellsPinLaw" (18 : Nat) ({ cls := "com/example/querymemo/querymemo/cache/Stripes", name := "cell", desc := "(I)I" } : Jvm.MethodName)).before a0 Z = true := hw _ (List.mem_of_getElem? (i := 9) rfl)
theorem wd10 {a0 : Array Value} {Z : State} (hw : ∀ d ∈ tables_1, d.before a0 Z = true) : (Jvm.Cond.static ({ cls := "com/example/querymemo/querymemo/cache/Stripes", name := "cell", desc := "(I)I" } : Jvm.MethodName)).before a0 Z = true := hw _ (List.mem_of_getElem? (i := 10) rfl)
theorem wd11 {a0 : Array Value} {Z : State} (hw : ∀ d ∈ tables_1, d.before a0 Z = true) : (Jvm.Cond.code ({ cls := "com/example/querymemo/querymemo/cache/Stripes", name := "cell", desc := "(I)I" } : Jvm.MethodName) prog_22_method_4_code (1 : Nat) (Option.some Jvm.ClassFile.FieldType.int)).before a0 Z = true := hw _ (List.mem_of_getElem? (i := 11) rfl)
theorem own_staKeep {Z : State} {h h' : Heap} {C n d : String} {v : Value} (F : Sta Z h C n d v) (K : Keep h h' []) : Sta Z h' C n d v := by
  obtain ⟨cf, i, k, f, st, cell, h1, h2, h3, h4, h5, h6, h7⟩ := F
  exact ⟨cf, i, k, f, st, cell, h1, h2, h3, h4, K.2.1 _ _ h5 nin0, h6, h7⟩
theorem ef_New (m : MethodId)  : entryFrame m #[] 0 = mkF m 0 #[] [] := by first | (simp [entryFrame, mkF, argsToLocals, Value.category]; done) | rfl
theorem pn_com_example_querymemo_querymemo_cache_Stripes : plainName "com/example/querymemo/querymemo/cache/Stripes" = true := by first | (simp [plainName, overriddenIn]; done) | decide +kernel
theorem dd_prog_22_method_3_code_0 : decode prog_22_method_3_code 0 = .ok (.bipush 8, 2) := by decide +kernel
theorem dd_prog_22_method_3_code_2 : decode prog_22_method_3_code 2 = .ok (.getstatic 17, 3) := by decide +kernel
theorem dd_prog_22_method_3_code_5 : decode prog_22_method_3_code 5 = .ok (.iconst 1, 1) := by decide +kernel
theorem dd_prog_22_method_3_code_6 : decode prog_22_method_3_code 6 = .ok (.iadd, 1) := by decide +kernel
theorem dd_prog_22_method_3_code_7 : decode prog_22_method_3_code 7 = .ok (.imul, 1) := by decide +kernel
theorem dd_prog_22_method_3_code_8 : decode prog_22_method_3_code 8 = .ok (.iconst 1, 1) := by decide +kernel
theorem dd_prog_22_method_3_code_9 : decode prog_22_method_3_code 9 = .ok (.iadd, 1) := by decide +kernel
theorem dd_prog_22_method_3_code_10 : decode prog_22_method_3_code 10 = .ok (.newarray .long, 2) := by decide +kernel
theorem dd_prog_22_method_3_code_12 : decode prog_22_method_3_code 12 = .ok (.areturn, 1) := by decide +kernel
def QNew (Z : State)  (h0 : Heap) (n0 : Nat) (v : Option Value) (h : Heap) (L : List Loc) : Prop := ∃ (b : Addr) (kk : ClassId), v = some (.ref b) ∧ Fr n0 L ∧ Keep h0 h [] ∧ h0.size ≤ b ∧ Arv Z h b kk .long (73 : Int32) [] (.long (0 : Int64))
set_option maxRecDepth 65536 in
set_option maxHeartbeats 40000000 in
theorem rmNew (l : Launch) (Z : State) (a0 : Array Value) (hw : ∀ d ∈ tables_1, d.before a0 Z = true) (ws : List Jvm.Cond)  (h0 : Heap) (n0 : Nat) (Z0 : n0 ≤ h0.size) (S_C : Sta Z h0 "com/example/querymemo/querymemo/cache/Stripes" "COUNT" "I" (.int (8 : Int32))) :
    MetFree l (⟨"com/example/querymemo/querymemo/cache/Stripes", "newCells", "()[J"⟩ : MethodName) (head1 (Jvm.Cond.code (⟨"com/example/querymemo/querymemo/cache/Stripes", "newCells", "()[J"⟩ : MethodName) prog_22_method_3_code 0 (some (.array .long)) :: ws) ({ frames := 0, cells := 1, slots := 73, locals := 0 } : Room)) (fun a U => a = #[] ∧ Z.Warmed39 U.vm ∧ U.heap = h0) (fun _ _ _ _ _ => True) (fun _ U oc_ U' => ∃ v L, oc_ = .returned v ∧ QNew Z  h0 n0 v U'.heap L ∧ FrameEnd U oc_ U' L ({ frames := 0, cells := 1, slots := 73, locals := 0 } : Room).cells ({ frames := 0, cells := 1, slots := 73, locals := 0 } : Room).slots) := by
  refine MetFree.of_bodySF (plainFor_of_name pn_com_example_querymemo_querymemo_cache_Stripes) hisR ?_
  intro p e s m args below meth c s₁ Bd hml0 hP hK
  obtain ⟨rfl, hZ, hh⟩ := hP
  have hx := Bd.exec
  have hby := Bd.bytes
  have hml : c.maxLocals = 0 := hml0
  have hown : s.vm.findClass "com/example/querymemo/querymemo/cache/Stripes" = some m.cls := findClass_of_methodNamed Bd.named
  have hnm := (name_of_methodNamed Bd.named Bd.method).1
  have X0 : Stand p l e ({ frames := 0, cells := 1, slots := 73, locals := 0 } : Room) s m #[] below meth c s₁ [] 0 0 := Stand.of_body Bd
  have e0 : s₁.heap = h0 := by rw [← hh, Bd.state]; rfl
  have N0 := Fr.nil n0
  have pre0 : ∀ t, Steps p.tables e below (s₁.setTop (mkF m 0 #[] [])) t → Steps p.tables e below (s₁.setTop (entryFrame m #[] 0)) t := fun t k => castTop (ef_New m ) k
  obtain ⟨T1, X1, e1, st1⟩ := getS2 X0 hx hZ hown (host := "") (Or.inl (wd7 hw)) Via.refl e0 S_C (g := (mkF m 2 #[] [(.int (8 : Int32))])) rfl (hb hby dd_prog_22_method_3_code_2)
  have k2 : ∀ t, Steps p.tables e below (T1.setTop (mkF m 10 #[] [(.int (((8 : Int32) * ((8 : Int32) + (1 : Int32))) + (1 : Int32)))])) t → Steps p.tables e below (s₁.setTop (entryFrame m #[] 0)) t := by
    intro t kt
    refine pre0 t ?_
    show Steps p.tables e below (s₁.setTop (mkF m 0 #[] [])) _
    refine XS.bipush X0.here hx rfl (hb hby dd_prog_22_method_3_code_0) ?_
    show Steps p.tables e below (s₁.setTop (mkF m 2 #[] [(.int (8 : Int32))])) _
    refine st1 _ ?_
    show Steps p.tables e below (T1.setTop (mkF m 5 #[] [(.int (8 : Int32)), (.int (8 : Int32))])) _
    refine XS.iconst X1.here hx rfl (hb hby dd_prog_22_method_3_code_5) ?_
    show Steps p.tables e below (T1.setTop (mkF m 6 #[] [(.int (1 : Int32)), (.int (8 : Int32)), (.int (8 : Int32))])) _
    refine XS.iadd X1.here hx rfl (hb hby dd_prog_22_method_3_code_6) rfl ?_
    show Steps p.tables e below (T1.setTop (mkF m 7 #[] [(.int ((8 : Int32) + (1 : Int32))), (.int (8 : Int32))])) _
    refine XS.imul X1.here hx rfl (hb hby dd_prog_22_method_3_code_7) rfl ?_
    show Steps p.tables e below (T1.setTop (mkF m 8 #[] [(.int ((8 : Int32) * ((8 : Int32) + (1 : Int32))))])) _
    refine XS.iconst X1.here hx rfl (hb hby dd_prog_22_method_3_code_8) ?_
    show Steps p.tables e below (T1.setTop (mkF m 9 #[] [(.int (1 : Int32)), (.int ((8 : Int32) * ((8 : Int32) + (1 : Int32))))])) _
    refine XS.iadd X1.here hx rfl (hb hby dd_prog_22_method_3_code_9) rfl ?_
    exact kt
  rw [(by decide : (((8 : Int32) * ((8 : Int32) + (1 : Int32))) + (1 : Int32)) = (73 : Int32))] at k2
  obtain ⟨T3, h3, kk3, X3, e3, E3, A3, st3⟩ := newP X1 hx hZ (aty := .long) (wd8 hw) e1 (g := (mkF m 10 #[] [(.int (73 : Int32))])) rfl (hb hby dd_prog_22_method_3_code_10) rfl (by decide) (cap := 73) (by decide) (by decide) (by decide) (by decide)
  obtain ⟨b3, g3⟩ : ∃ z, z = h0.size := ⟨_, rfl⟩
  rw [← g3] at A3 st3
  have ge_b3 : n0 ≤ b3 := Nat.le_trans Z0 (Nat.le_of_eq g3.symm)
  have sz_b3 : h0.size ≤ b3 := Nat.le_trans (Nat.le_refl _) (Nat.le_of_eq g3.symm)
  have Z3 : n0 ≤ h3.size := Nat.le_trans Z0 E3.1
  have K3 : Keep h0 h3 [] := ((Keep.refl h0 []).ext E3)
  have V3 := Arv.new A3 (by decide)
  obtain ⟨lfs, lhr, lhrun, lhended, lhW, lhsame⟩ := X3.leave (v := some (.ref b3)) (fun h => by rw [Bd.returns] at h; cases h)
  refine ⟨_, _, k2 _ ?_, lhrun, lhended, _, _, rfl, ?_, ⟨_, rfl⟩, lhW, lhsame.mono (by decide) (by decide)⟩
  · skip
    show Steps p.tables e below (T1.setTop (mkF m 10 #[] [(.int (73 : Int32))])) _
    refine st3 _ ?_
    show Steps p.tables e below (T3.setTop (mkF m 12 #[] [(.ref b3)])) _
    exact retOut X3 hx Bd.returns rfl (Or.inr (Or.inr (Or.inr (Or.inr ⟨rfl, rfl, rfl⟩)))) (hb hby dd_prog_22_method_3_code_12) lhr
  · skip
    show QNew Z  h0 n0 _ T3.heap _
    rw [e3]
    exact ⟨b3, _, rfl, N0, K3, sz_b3, V3⟩
theorem ef_Cell (m : MethodId) (x0 : Int32) : entryFrame m #[(.int x0)] 1 = mkF m 0 #[.val (.int x0)] [] := by first | (simp [entryFrame, mkF, argsToLocals, Value.category]; done) | rfl
theorem dd_prog_22_method_4_code_0 : decode prog_22_method_4_code 0 = .ok (.bipush 8, 2) := by decide +kernel
theorem dd_prog_22_method_4_code_2 : decode prog_22_method_4_code 2 = .ok (.iload_n 0, 1) := by decide +kernel
theorem dd_prog_22_method_4_code_3 : decode prog_22_method_4_code 3 = .ok (.iconst 1, 1) := by decide +kernel
theorem dd_prog_22_method_4_code_4 : decode prog_22_method_4_code 4 = .ok (.iadd, 1) := by decide +kernel
theorem dd_prog_22_method_4_code_5 : decode prog_22_method_4_code 5 = .ok (.imul, 1) := by decide +kernel
theorem dd_prog_22_method_4_code_6 : decode prog_22_method_4_code 6 = .ok (.ireturn, 1) := by decide +kernel
def QCell (Z : State) (x0 : Int32) (h0 : Heap) (n0 : Nat) (v : Option Value) (h : Heap) (L : List Loc) : Prop := v = some (.int ((8 : Int32) * (x0 + (1 : Int32)))) ∧ Fr n0 L ∧ h = h0
set_option maxRecDepth 65536 in
set_option maxHeartbeats 40000000 in
theorem rmCell (l : Launch) (Z : State) (a0 : Array Value) (hw : ∀ d ∈ tables_1, d.before a0 Z = true) (ws : List Jvm.Cond) (x0 : Int32) (h0 : Heap) (n0 : Nat) (Z0 : n0 ≤ h0.size) :
    MetFree l (⟨"com/example/querymemo/querymemo/cache/Stripes", "cell", "(I)I"⟩ : MethodName) (head1 (Jvm.Cond.code (⟨"com/example/querymemo/querymemo/cache/Stripes", "cell", "(I)I"⟩ : MethodName) prog_22_method_4_code 1 (some .int) :: ws) ({ frames := 0, cells := 0, slots := 0, locals := 0 } : Room)) (fun a U => a = #[(.int x0)] ∧ Z.Warmed39 U.vm ∧ U.heap = h0) (fun _ _ _ _ _ => True) (fun _ U oc_ U' => ∃ v L, oc_ = .returned v ∧ QCell Z x0 h0 n0 v U'.heap L ∧ FrameEnd U oc_ U' L ({ frames := 0, cells := 0, slots := 0, locals := 0 } : Room).cells ({ frames := 0, cells := 0, slots := 0, locals := 0 } : Room).slots) := by
  refine MetFree.of_bodySF (plainFor_of_name pn_com_example_querymemo_querymemo_cache_Stripes) hisR ?_
  intro p e s m args below meth c s₁ Bd hml0 hP hK
  obtain ⟨rfl, hZ, hh⟩ := hP
  have hx := Bd.exec
  have hby := Bd.bytes
  have hml : c.maxLocals = 1 := hml0
  have hown : s.vm.findClass "com/example/querymemo/querymemo/cache/Stripes" = some m.cls := findClass_of_methodNamed Bd.named
  have hnm := (name_of_methodNamed Bd.named Bd.method).1
  have X0 : Stand p l e ({ frames := 0, cells := 0, slots := 0, locals := 0 } : Room) s m #[(.int x0)] below meth c s₁ [] 0 0 := Stand.of_body Bd
  have e0 : s₁.heap = h0 := by rw [← hh, Bd.state]; rfl
  have N0 := Fr.nil n0
  have pre0 : ∀ t, Steps p.tables e below (s₁.setTop (mkF m 0 #[.val (.int x0)] [])) t → Steps p.tables e below (s₁.setTop (entryFrame m #[(.int x0)] 1)) t := fun t k => castTop (ef_Cell m x0) k
  obtain ⟨lfs, lhr, lhrun, lhended, lhW, lhsame⟩ := X0.leave (v := some (.int ((8 : Int32) * (x0 + (1 : Int32))))) (fun h => by rw [Bd.returns] at h; cases h)
  refine ⟨_, _, pre0 _ ?_, lhrun, lhended, _, _, rfl, ?_, ⟨_, rfl⟩, lhW, lhsame.mono (by decide) (by decide)⟩
  · skip
    show Steps p.tables e below (s₁.setTop (mkF m 0 #[.val (.int x0)] [])) _
    refine XS.bipush X0.here hx rfl (hb hby dd_prog_22_method_4_code_0) ?_
    show Steps p.tables e below (s₁.setTop (mkF m 2 #[.val (.int x0)] [(.int (8 : Int32))])) _
    refine XS.iloadN X0.here hx rfl (hb hby dd_prog_22_method_4_code_2) rfl ?_
    show Steps p.tables e below (s₁.setTop (mkF m 3 #[.val (.int x0)] [(.int x0), (.int (8 : Int32))])) _
    refine XS.iconst X0.here hx rfl (hb hby dd_prog_22_method_4_code_3) ?_
    show Steps p.tables e below (s₁.setTop (mkF m 4 #[.val (.int x0)] [(.int (1 : Int32)), (.int x0), (.int (8 : Int32))])) _
    refine XS.iadd X0.here hx rfl (hb hby dd_prog_22_method_4_code_4) rfl ?_
    show Steps p.tables e below (s₁.setTop (mkF m 5 #[.val (.int x0)] [(.int (x0 + (1 : Int32))), (.int (8 : Int32))])) _
    refine XS.imul X0.here hx rfl (hb hby dd_prog_22_method_4_code_5) rfl ?_
    show Steps p.tables e below (s₁.setTop (mkF m 6 #[.val (.int x0)] [(.int ((8 : Int32) * (x0 + (1 : Int32))))])) _
    exact retI X0 hx Bd.returns (hb hby dd_prog_22_method_4_code_6) lhr
  · skip
    show QCell Z x0 h0 n0 _ s₁.heap _
    rw [e0]
    exact ⟨rfl, N0, rfl⟩
theorem ef_0 (m : MethodId) (x0 : Int32) (x1 : Int64) : entryFrame m #[(.int x0), (.long x1)] maxLocals = mkF m 0 #[.val (.int x0), .val (.long x1), .second, .unset, .unset, .unset, .unset, .unset, .unset, .unset] [] := by first | (simp [entryFrame, mkF, argsToLocals, Value.category, maxLocals]; done) | rfl
theorem pn_com_example_querymemo_querymemo_cache_StripesNewCellsPinLaw : plainName "com/example/querymemo/querymemo/cache/StripesNewCellsPinLaw" = true := by first | (simp [plainName, overriddenIn]; done) | decide +kernel
theorem pd____J : parseMethodDescriptor "()[J" = some ⟨[], some (.array .long)⟩ := by decide +kernel
theorem pd__I_I : parseMethodDescriptor "(I)I" = some ⟨[.int], some .int⟩ := by decide +kernel
def Q0 (Z : State) (x0 : Int32) (y1 : Int64) (h0 : Heap) (n0 : Nat) (v : Option Value) (h : Heap) (L : List Loc) : Prop := v = some (.int 1) ∧ Fr n0 L
set_option maxRecDepth 65536 in
set_option maxHeartbeats 40000000 in
theorem rm0 (l : Launch) (Z : State) (a0 : Array Value) (hw : ∀ d ∈ tables_1, d.before a0 Z = true) (ws : List Jvm.Cond) (x0 : Int32) (y1 : Int64) (h0 : Heap) (n0 : Nat) (Z0 : n0 ≤ h0.size) (S_C : Sta Z h0 "com/example/querymemo/querymemo/cache/Stripes" "COUNT" "I" (.int (8 : Int32))) :
    MetFree l x (head1 (Jvm.Cond.code x code maxLocals ret :: ws) room_1) (fun a U => a = #[(.int x0), (.long y1)] ∧ Z.Warmed39 U.vm ∧ U.heap = h0) (fun _ _ _ _ _ => True) (fun _ U oc_ U' => ∃ v L, oc_ = .returned v ∧ Q0 Z x0 y1 h0 n0 v U'.heap L ∧ FrameEnd U oc_ U' L 16 384) := by
  refine MetFree.of_bodySF (plainFor_of_name pn_com_example_querymemo_querymemo_cache_StripesNewCellsPinLaw) hisR ?_
  intro p e s m args below meth c s₁ Bd hml0 hP hK
  obtain ⟨rfl, hZ, hh⟩ := hP
  have hx := Bd.exec
  have hby := Bd.bytes
  have hml : c.maxLocals = 10 := hml0
  have hown : s.vm.findClass "com/example/querymemo/querymemo/cache/StripesNewCellsPinLaw" = some m.cls := findClass_of_methodNamed Bd.named
  have hnm := (name_of_methodNamed Bd.named Bd.method).1
  have X0 : Stand p l e room_1 s m #[(.int x0), (.long y1)] below meth c s₁ [] 0 0 := Stand.of_body Bd
  have e0 : s₁.heap = h0 := by rw [← hh, Bd.state]; rfl
  have N0 := Fr.nil n0
  have pre0 : ∀ t, Steps p.tables e below (s₁.setTop (mkF m 0 #[.val (.int x0), .val (.long y1), .second, .unset, .unset, .unset, .unset, .unset, .unset, .unset] [])) t → Steps p.tables e below (s₁.setTop (entryFrame m #[(.int x0), (.long y1)] maxLocals)) t := fun t k => castTop (ef_0 m x0 y1) k
  obtain ⟨T1, X1, e1, st1⟩ := getS2 X0 hx hZ hown (host := "") (Or.inl (wd0 hw)) Via.refl e0 S_C (g := (mkF m 0 #[.val (.int x0), .val (.long y1), .second, .unset, .unset, .unset, .unset, .unset, .unset, .unset] [])) rfl (hb hby at_0)
  have k2 : ∀ t, Steps p.tables e below (T1.setTop (mkF m 22 #[.val (.int x0), .val (.long y1), .second, .val (.int (8 : Int32)), .val (.int (8 : Int32)), .val (.int ((x0 &&& (2147483647 : Int32)) % (8 : Int32))), .unset, .unset, .unset, .unset] [])) t → Steps p.tables e below (s₁.setTop (entryFrame m #[(.int x0), (.long y1)] maxLocals)) t := by
    intro t kt
    refine pre0 t ?_
    show Steps p.tables e below (s₁.setTop (mkF m 0 #[.val (.int x0), .val (.long y1), .second, .unset, .unset, .unset, .unset, .unset, .unset, .unset] [])) _
    refine st1 _ ?_
    show Steps p.tables e below (T1.setTop (mkF m 3 #[.val (.int x0), .val (.long y1), .second, .unset, .unset, .unset, .unset, .unset, .unset, .unset] [(.int (8 : Int32))])) _
    refine XS.istoreN X1.here hx rfl (hb hby at_3) rfl (l' := #[.val (.int x0), .val (.long y1), .second, .val (.int (8 : Int32)), .unset, .unset, .unset, .unset, .unset, .unset]) rfl ?_
    show Steps p.tables e below (T1.setTop (mkF m 4 #[.val (.int x0), .val (.long y1), .second, .val (.int (8 : Int32)), .unset, .unset, .unset, .unset, .unset, .unset] [])) _
    refine XS.iloadN X1.here hx rfl (hb hby at_4) rfl ?_
    show Steps p.tables e below (T1.setTop (mkF m 5 #[.val (.int x0), .val (.long y1), .second, .val (.int (8 : Int32)), .unset, .unset, .unset, .unset, .unset, .unset] [(.int (8 : Int32))])) _
    refine XS.ifYes X1.here hx rfl (pc0 := 5) (pc' := 10) rfl (hb hby at_5) rfl ((if0 _ _).trans (tlt (by decide : (0 : Int32) < (8 : Int32))).2.2.1) (by decide) (by decide) ?_
    show Steps p.tables e below (T1.setTop (mkF m 10 #[.val (.int x0), .val (.long y1), .second, .val (.int (8 : Int32)), .unset, .unset, .unset, .unset, .unset, .unset] [])) _
    refine XS.bipush X1.here hx rfl (hb hby at_10) ?_
    show Steps p.tables e below (T1.setTop (mkF m 12 #[.val (.int x0), .val (.long y1), .second, .val (.int (8 : Int32)), .unset, .unset, .unset, .unset, .unset, .unset] [(.int (8 : Int32))])) _
    refine XS.istore X1.here hx rfl (hb hby at_12) rfl (l' := #[.val (.int x0), .val (.long y1), .second, .val (.int (8 : Int32)), .val (.int (8 : Int32)), .unset, .unset, .unset, .unset, .unset]) rfl ?_
    show Steps p.tables e below (T1.setTop (mkF m 14 #[.val (.int x0), .val (.long y1), .second, .val (.int (8 : Int32)), .val (.int (8 : Int32)), .unset, .unset, .unset, .unset, .unset] [])) _
    refine XS.iloadN X1.here hx rfl (hb hby at_14) rfl ?_
    show Steps p.tables e below (T1.setTop (mkF m 15 #[.val (.int x0), .val (.long y1), .second, .val (.int (8 : Int32)), .val (.int (8 : Int32)), .unset, .unset, .unset, .unset, .unset] [(.int x0)])) _
    refine X1.ldcInt hx hown (mvT hZ (wd3 hw)) (g := (mkF m 15 #[.val (.int x0), .val (.long y1), .second, .val (.int (8 : Int32)), .val (.int (8 : Int32)), .unset, .unset, .unset, .unset, .unset] [(.int x0)])) rfl (hb hby at_15) _ ?_
    show Steps p.tables e below (T1.setTop (mkF m 17 #[.val (.int x0), .val (.long y1), .second, .val (.int (8 : Int32)), .val (.int (8 : Int32)), .unset, .unset, .unset, .unset, .unset] [(.int (2147483647 : Int32)), (.int x0)])) _
    refine XS.iand X1.here hx rfl (hb hby at_17) rfl ?_
    show Steps p.tables e below (T1.setTop (mkF m 18 #[.val (.int x0), .val (.long y1), .second, .val (.int (8 : Int32)), .val (.int (8 : Int32)), .unset, .unset, .unset, .unset, .unset] [(.int (x0 &&& (2147483647 : Int32)))])) _
    refine XS.iloadN X1.here hx rfl (hb hby at_18) rfl ?_
    show Steps p.tables e below (T1.setTop (mkF m 19 #[.val (.int x0), .val (.long y1), .second, .val (.int (8 : Int32)), .val (.int (8 : Int32)), .unset, .unset, .unset, .unset, .unset] [(.int (8 : Int32)), (.int (x0 &&& (2147483647 : Int32)))])) _
    refine iremM X1 hx rfl (hb hby at_19) rfl (by decide) ?_
    show Steps p.tables e below (T1.setTop (mkF m 20 #[.val (.int x0), .val (.long y1), .second, .val (.int (8 : Int32)), .val (.int (8 : Int32)), .unset, .unset, .unset, .unset, .unset] [(.int ((x0 &&& (2147483647 : Int32)) % (8 : Int32)))])) _
    refine XS.istore X1.here hx rfl (hb hby at_20) rfl (l' := #[.val (.int x0), .val (.long y1), .second, .val (.int (8 : Int32)), .val (.int (8 : Int32)), .val (.int ((x0 &&& (2147483647 : Int32)) % (8 : Int32))), .unset, .unset, .unset, .unset]) rfl ?_
    exact kt
  obtain ⟨sv, h_sv⟩ : ∃ z : Int32, z = ((x0 &&& (2147483647 : Int32)) % (8 : Int32)) := ⟨_, rfl⟩
  rw [← h_sv] at k2
  have hsv : 0 ≤ sv.toInt ∧ sv.toInt < 8 := by
    have q1 := c_mask x0 2147483647 31 (by decide) (by decide)
    have q2 := c_irem (x0 &&& 2147483647) 8 8 rfl
    rw [h_sv]; omega
  obtain ⟨_, _, ⟨T3, L3, kc3, ks3⟩, -, X3, ⟨Lc3, hQ3, l3, y3, z3⟩, st3⟩ := Jvm.LawKit.callS X1 hx (y := (⟨"com/example/querymemo/querymemo/cache/Stripes", "newCells", "()[J"⟩ : MethodName)) hown (mvT hZ (wd4 hw)) (mvT hZ (wd5 hw)) (mvT hZ (wd1 hw)) (mvT hZ (wd6 hw)) (by decide) (backOf (W := 0) (rmNew l Z a0 hw [] h0 n0 Z0 S_C) hZ (wd6 hw) (wd1 hw) (by decide) (by decide)) (g := (mkF m 22 #[.val (.int x0), .val (.long y1), .second, .val (.int (8 : Int32)), .val (.int (8 : Int32)), .val (.int sv), .unset, .unset, .unset, .unset] [])) rfl (by rw [hml]; rfl) (argsL := []) (rest := []) (lenOf pd____J rfl) rfl (by show 2 * 0 + _ ≤ _; exact Nat.le_of_eq rfl) (hb hby at_22) (fun _ _ => ⟨rfl, e1, (by decide : 0 + 1 ≤ _), (by decide : 0 + 73 ≤ _)⟩)
  dsimp only [Pt.U, Pt.locs, Pt.cells, Pt.slots] at X3 l3 y3 z3 st3 hQ3
  subst l3 y3 z3
  obtain ⟨b3, kk3, rfl, Nq3, Kq3, szb3, Vb3⟩ := hQ3
  have N3 := Fr.app N0 Nq3
  have Z3 : n0 ≤ T3.heap.size := Nat.le_trans Z0 Kq3.1
  have K3 : Keep h0 T3.heap [] := Keep.trans (Keep.refl h0 []) Kq3 all0
  have ge_b3 : n0 ≤ b3 := Nat.le_trans Z0 szb3
  have sz_b3 : h0.size ≤ b3 := Nat.le_trans (Nat.le_refl _) szb3
  have f4 := (own_staKeep S_C Kq3)
  obtain ⟨_, _, ⟨T5, L5, kc5, ks5⟩, -, X5, ⟨Lc5, hQ5, l5, y5, z5⟩, st5⟩ := Jvm.LawKit.callS X3 hx (y := (⟨"com/example/querymemo/querymemo/cache/Stripes", "newCells", "()[J"⟩ : MethodName)) hown (mvT hZ (wd4 hw)) (mvT hZ (wd5 hw)) (mvT hZ (wd1 hw)) (mvT hZ (wd6 hw)) (by decide) (backOf (W := 0) (rmNew l Z a0 hw [] T3.heap n0 Z3 f4) hZ (wd6 hw) (wd1 hw) (by decide) (by decide)) (g := (mkF m 27 #[.val (.int x0), .val (.long y1), .second, .val (.int (8 : Int32)), .val (.int (8 : Int32)), .val (.int sv), .val (.ref b3), .unset, .unset, .unset] [])) rfl (by rw [hml]; rfl) (argsL := []) (rest := []) (lenOf pd____J rfl) rfl (by show 2 * 0 + _ ≤ _; exact Nat.le_of_eq rfl) (hb hby at_27) (fun _ _ => ⟨rfl, rfl, (by decide : 1 + 1 ≤ _), (by decide : 73 + 73 ≤ _)⟩)
  dsimp only [Pt.U, Pt.locs, Pt.cells, Pt.slots] at X5 l5 y5 z5 st5 hQ5
  subst l5 y5 z5
  obtain ⟨b5, kk5, rfl, Nq5, Kq5, szb5, Vb5⟩ := hQ5
  have N5 := Fr.app N3 Nq5
  have Z5 : n0 ≤ T5.heap.size := Nat.le_trans Z3 Kq5.1
  have K5 : Keep h0 T5.heap [] := Keep.trans K3 Kq5 all0
  have ne_b3_b5 : b3 ≠ b5 := Nat.ne_of_lt (Nat.lt_of_lt_of_le Vb3.lt szb5)
  have ge_b5 : n0 ≤ b5 := Nat.le_trans Z3 szb5
  have sz_b5 : h0.size ≤ b5 := Nat.le_trans K3.1 szb5
  have f6 := (Vb3.keep Kq5 nin0)
  obtain ⟨cl7, Ar7, -, S7, M7, -, -⟩ := id f6
  obtain ⟨cl8, Ar8, -, S8, M8, -, -⟩ := id Vb5
  obtain ⟨_, _, ⟨T9, L9, kc9, ks9⟩, -, X9, ⟨Lc9, hQ9, l9, y9, z9⟩, st9⟩ := Jvm.LawKit.callS X5 hx (y := (⟨"com/example/querymemo/querymemo/cache/Stripes", "cell", "(I)I"⟩ : MethodName)) hown (mvT hZ (wd9 hw)) (mvT hZ (wd10 hw)) (mvT hZ (wd1 hw)) (mvT hZ (wd11 hw)) (by decide) (backOf (W := 0) (rmCell l Z a0 hw [] sv T5.heap n0 Z5) hZ (wd11 hw) (wd1 hw) (by decide) (by decide)) (g := (mkF m 54 #[.val (.int x0), .val (.long y1), .second, .val (.int (8 : Int32)), .val (.int (8 : Int32)), .val (.int sv), .val (.ref b3), .val (.ref b5), .unset, .unset] [(.int sv)])) rfl (by rw [hml]; rfl) (argsL := [(.int sv)]) (rest := []) (lenOf pd__I_I rfl) rfl (by show 2 * 0 + _ ≤ _; exact Nat.le_of_eq rfl) (hb hby at_54) (fun _ _ => ⟨rfl, rfl, (by decide : 2 + 0 ≤ _), (by decide : 146 + 0 ≤ _)⟩)
  dsimp only [Pt.U, Pt.locs, Pt.cells, Pt.slots] at X9 l9 y9 z9 st9 hQ9
  subst l9 y9 z9
  obtain ⟨rfl, Nq9, eq9⟩ := hQ9
  have N9 := Fr.app N5 Nq9
  have k10 : ∀ t, Steps p.tables e below (T9.setTop (mkF m 57 #[.val (.int x0), .val (.long y1), .second, .val (.int (8 : Int32)), .val (.int (8 : Int32)), .val (.int sv), .val (.ref b3), .val (.ref b5), .unset, .unset] [(.int ((8 : Int32) * (sv + (1 : Int32))))])) t → Steps p.tables e below (s₁.setTop (entryFrame m #[(.int x0), (.long y1)] maxLocals)) t := by
    intro t kt
    refine k2 t ?_
    show Steps p.tables e below (T1.setTop (mkF m 22 #[.val (.int x0), .val (.long y1), .second, .val (.int (8 : Int32)), .val (.int (8 : Int32)), .val (.int sv), .unset, .unset, .unset, .unset] [])) _
    refine st3 _ ?_
    show Steps p.tables e below (T3.setTop (mkF m 25 #[.val (.int x0), .val (.long y1), .second, .val (.int (8 : Int32)), .val (.int (8 : Int32)), .val (.int sv), .unset, .unset, .unset, .unset] [(.ref b3)])) _
    refine XS.astore X3.here hx rfl (hb hby at_25) rfl rfl (l' := #[.val (.int x0), .val (.long y1), .second, .val (.int (8 : Int32)), .val (.int (8 : Int32)), .val (.int sv), .val (.ref b3), .unset, .unset, .unset]) rfl ?_
    show Steps p.tables e below (T3.setTop (mkF m 27 #[.val (.int x0), .val (.long y1), .second, .val (.int (8 : Int32)), .val (.int (8 : Int32)), .val (.int sv), .val (.ref b3), .unset, .unset, .unset] [])) _
    refine st5 _ ?_
    show Steps p.tables e below (T5.setTop (mkF m 30 #[.val (.int x0), .val (.long y1), .second, .val (.int (8 : Int32)), .val (.int (8 : Int32)), .val (.int sv), .val (.ref b3), .unset, .unset, .unset] [(.ref b5)])) _
    refine XS.astore X5.here hx rfl (hb hby at_30) rfl rfl (l' := #[.val (.int x0), .val (.long y1), .second, .val (.int (8 : Int32)), .val (.int (8 : Int32)), .val (.int sv), .val (.ref b3), .val (.ref b5), .unset, .unset]) rfl ?_
    show Steps p.tables e below (T5.setTop (mkF m 32 #[.val (.int x0), .val (.long y1), .second, .val (.int (8 : Int32)), .val (.int (8 : Int32)), .val (.int sv), .val (.ref b3), .val (.ref b5), .unset, .unset] [])) _
    refine XS.aload X5.here hx rfl (hb hby at_32) rfl rfl ?_
    show Steps p.tables e below (T5.setTop (mkF m 34 #[.val (.int x0), .val (.long y1), .second, .val (.int (8 : Int32)), .val (.int (8 : Int32)), .val (.int sv), .val (.ref b3), .val (.ref b5), .unset, .unset] [(.ref b3)])) _
    refine XS.aload X5.here hx rfl (hb hby at_34) rfl rfl ?_
    show Steps p.tables e below (T5.setTop (mkF m 36 #[.val (.int x0), .val (.long y1), .second, .val (.int (8 : Int32)), .val (.int (8 : Int32)), .val (.int sv), .val (.ref b3), .val (.ref b5), .unset, .unset] [(.ref b5), (.ref b3)])) _
    refine Jvm.RoadKit.acmp (g := (mkF m 36 #[.val (.int x0), .val (.long y1), .second, .val (.int (8 : Int32)), .val (.int (8 : Int32)), .val (.int sv), .val (.ref b3), .val (.ref b5), .unset, .unset] [(.ref b5), (.ref b3)])) X5 hx rfl rfl rfl (pc0 := 36) (pc' := 41) (same := false) rfl (hb hby at_36) rfl (decide_eq_false fun q => ne_b3_b5 (Value.ref.inj q)) (by decide) (by decide) ?_
    show Steps p.tables e below (T5.setTop (mkF m 41 #[.val (.int x0), .val (.long y1), .second, .val (.int (8 : Int32)), .val (.int (8 : Int32)), .val (.int sv), .val (.ref b3), .val (.ref b5), .unset, .unset] [])) _
    refine XS.aload X5.here hx rfl (hb hby at_41) rfl rfl ?_
    show Steps p.tables e below (T5.setTop (mkF m 43 #[.val (.int x0), .val (.long y1), .second, .val (.int (8 : Int32)), .val (.int (8 : Int32)), .val (.int sv), .val (.ref b3), .val (.ref b5), .unset, .unset] [(.ref b3)])) _
    refine X5.arraylength hx (by (try rw [rfl]); exact Ar7.1) (State.isArrayOf_alike hZ.alike Ar7.2.1) (g := (mkF m 43 #[.val (.int x0), .val (.long y1), .second, .val (.int (8 : Int32)), .val (.int (8 : Int32)), .val (.int sv), .val (.ref b3), .val (.ref b5), .unset, .unset] [(.ref b3)])) rfl rfl (hb hby at_43) _ ?_
    rw [len_of S7 M7]
    show Steps p.tables e below (T5.setTop (mkF m 44 #[.val (.int x0), .val (.long y1), .second, .val (.int (8 : Int32)), .val (.int (8 : Int32)), .val (.int sv), .val (.ref b3), .val (.ref b5), .unset, .unset] [(.int (73 : Int32))])) _
    refine XS.aload X5.here hx rfl (hb hby at_44) rfl rfl ?_
    show Steps p.tables e below (T5.setTop (mkF m 46 #[.val (.int x0), .val (.long y1), .second, .val (.int (8 : Int32)), .val (.int (8 : Int32)), .val (.int sv), .val (.ref b3), .val (.ref b5), .unset, .unset] [(.ref b5), (.int (73 : Int32))])) _
    refine X5.arraylength hx (by (try rw [rfl]); exact Ar8.1) (State.isArrayOf_alike hZ.alike Ar8.2.1) (g := (mkF m 46 #[.val (.int x0), .val (.long y1), .second, .val (.int (8 : Int32)), .val (.int (8 : Int32)), .val (.int sv), .val (.ref b3), .val (.ref b5), .unset, .unset] [(.ref b5), (.int (73 : Int32))])) rfl rfl (hb hby at_46) _ ?_
    rw [len_of S8 M8]
    show Steps p.tables e below (T5.setTop (mkF m 47 #[.val (.int x0), .val (.long y1), .second, .val (.int (8 : Int32)), .val (.int (8 : Int32)), .val (.int sv), .val (.ref b3), .val (.ref b5), .unset, .unset] [(.int (73 : Int32)), (.int (73 : Int32))])) _
    refine XS.icmpYes X5.here hx rfl (pc0 := 47) (pc' := 52) rfl (hb hby at_47) rfl (teq (by decide : (73 : Int32) = (73 : Int32))).1 (by decide) (by decide) ?_
    show Steps p.tables e below (T5.setTop (mkF m 52 #[.val (.int x0), .val (.long y1), .second, .val (.int (8 : Int32)), .val (.int (8 : Int32)), .val (.int sv), .val (.ref b3), .val (.ref b5), .unset, .unset] [])) _
    refine XS.iload X5.here hx rfl (hb hby at_52) rfl ?_
    show Steps p.tables e below (T5.setTop (mkF m 54 #[.val (.int x0), .val (.long y1), .second, .val (.int (8 : Int32)), .val (.int (8 : Int32)), .val (.int sv), .val (.ref b3), .val (.ref b5), .unset, .unset] [(.int sv)])) _
    refine st9 _ ?_
    exact kt
  obtain ⟨cv, h_cv⟩ : ∃ z : Int32, z = ((8 : Int32) * (sv + (1 : Int32))) := ⟨_, rfl⟩
  rw [← h_cv] at k10
  have hcv : 8 ≤ cv.toInt ∧ cv.toInt ≤ 64 := by
    have q1 := c_iadd sv 1
    have q2 := c_imul 8 (sv + 1)
    have q3 := rng32 (sv + 1)
    have q4 := rng32 (8 * (sv + 1))
    have o1 : (1 : Int32).toInt = 1 := rfl
    have o8 : (8 : Int32).toInt = 8 := rfl
    rw [h_cv]; rw [o1] at q1; rw [o8] at q2; omega
  have cv0 : ¬ cv < 0 := fun q => by have := Int32.lt_iff_toInt_lt.mp q; have o0 : (0 : Int32).toInt = 0 := rfl; omega
  have cv8 : ¬ cv < 8 := fun q => by have := Int32.lt_iff_toInt_lt.mp q; have o0 : (8 : Int32).toInt = 8 := rfl; omega
  have cv73 : cv < 73 := Int32.lt_iff_toInt_lt.mpr (by have o0 : (73 : Int32).toInt = 73 := rfl; omega)
  have cvl : (cv + (8 : Int32)) < (73 : Int32) := Int32.lt_iff_toInt_lt.mpr (by have q := c_iadd cv 8; have o8 : (8 : Int32).toInt = 8 := rfl; have o0 : (73 : Int32).toInt = 73 := rfl; have q3 := rng32 (cv + 8); omega)
  obtain ⟨cl11, Ar11, -, S11, M11, -, -⟩ := id f6
  obtain ⟨_, _, ⟨T12, L12, kc12, ks12⟩, -, X12, ⟨Lc12, hQ12, l12, y12, z12⟩, st12⟩ := Jvm.LawKit.callS X9 hx (y := (⟨"com/example/querymemo/querymemo/cache/Stripes", "cell", "(I)I"⟩ : MethodName)) hown (mvT hZ (wd9 hw)) (mvT hZ (wd10 hw)) (mvT hZ (wd1 hw)) (mvT hZ (wd11 hw)) (by decide) (backOf (W := 0) (rmCell l Z a0 hw [] ((8 : Int32) - (1 : Int32)) T5.heap n0 Z5) hZ (wd11 hw) (wd1 hw) (by decide) (by decide)) (g := (mkF m 84 #[.val (.int x0), .val (.long y1), .second, .val (.int (8 : Int32)), .val (.int (8 : Int32)), .val (.int sv), .val (.ref b3), .val (.ref b5), .val (.int cv), .unset] [(.int ((8 : Int32) - (1 : Int32)))])) rfl (by rw [hml]; rfl) (argsL := [(.int ((8 : Int32) - (1 : Int32)))]) (rest := []) (lenOf pd__I_I rfl) rfl (by show 2 * 0 + _ ≤ _; exact Nat.le_of_eq rfl) (hb hby at_84) (fun _ _ => ⟨rfl, eq9, (by decide : 2 + 0 ≤ _), (by decide : 146 + 0 ≤ _)⟩)
  dsimp only [Pt.U, Pt.locs, Pt.cells, Pt.slots] at X12 l12 y12 z12 st12 hQ12
  subst l12 y12 z12
  obtain ⟨rfl, Nq12, eq12⟩ := hQ12
  have N12 := Fr.app N9 Nq12
  obtain ⟨cl13, Ar13, -, S13, M13, -, -⟩ := id f6
  obtain ⟨cl14, Ar14, q14, S14, M14, HH14, GG14⟩ := id f6
  have hin14 : ¬ ((0 : Int32) < 0 ∨ cl14.slots.size ≤ ((0 : Int32)).toNatClampNeg) := inb_of S14 ⟨by decide, by decide⟩
  have hat14 : cl14.slots[((0 : Int32)).toNatClampNeg]? = some (.long (0 : Int64)) := Has.at HH14 hin14 (by simp)
  obtain ⟨cl15, Ar15, q15, S15, M15, HH15, GG15⟩ := id f6
  have hin15 : ¬ (cv < 0 ∨ cl15.slots.size ≤ (cv).toNatClampNeg) := inb_of S15 ⟨cv0, cv73⟩
  have hat15 : cl15.slots[(cv).toNatClampNeg]? = some (.long (0 : Int64)) := Has.at HH15 hin15 (by simp)
  obtain ⟨cl16, Ar16, -, S16, M16, -, -⟩ := id f6
  obtain ⟨cl17, Ar17, q17, S17, M17, HH17, GG17⟩ := id f6
  have hin17 : ¬ (((73 : Int32) - (1 : Int32)) < 0 ∨ cl17.slots.size ≤ (((73 : Int32) - (1 : Int32))).toNatClampNeg) := inb_of S17 ⟨by decide, by decide⟩
  have hat17 : cl17.slots[(((73 : Int32) - (1 : Int32))).toNatClampNeg]? = some (.long (0 : Int64)) := Has.at HH17 hin17 (by simp)
  obtain ⟨cl18, Ar18, q18, S18, M18, HH18, GG18⟩ := id Vb5
  have hin18 : ¬ (cv < 0 ∨ cl18.slots.size ≤ (cv).toNatClampNeg) := inb_of S18 ⟨cv0, cv73⟩
  have hat18 : cl18.slots[(cv).toNatClampNeg]? = some (.long (0 : Int64)) := Has.at HH18 hin18 (by simp)
  obtain ⟨cl19, Ar19, q19, S19, M19, HH19, GG19⟩ := id f6
  have hin19 : ¬ (cv < 0 ∨ cl19.slots.size ≤ (cv).toNatClampNeg) := inb_of S19 ⟨cv0, cv73⟩
  obtain ⟨T20, h20, X20, e20, W20, st20⟩ := stJ X12 hx hZ eq12 Ar19 (j := cv) hin19 (g := (mkF m 155 #[.val (.int x0), .val (.long y1), .second, .val (.int (8 : Int32)), .val (.int (8 : Int32)), .val (.int sv), .val (.ref b3), .val (.ref b5), .val (.int cv), .val (.int ((8 : Int32) * (((8 : Int32) - (1 : Int32)) + (1 : Int32))))] [(.long y1), (.int cv), (.ref b3)])) rfl rfl (hb hby at_155)
  have N20 := Fr.snoc X20 N12 ge_b3
  have Z20 : n0 ≤ h20.size := by rw [W20.size]; exact Z5
  have K20 : Keep h0 h20 [] := (K5.wr W20 (Or.inr sz_b3))
  have V20 := Arh.push (hs := []) (vs := []) Ar19 q19 S19 M19 HH19 GG19 rfl W20 hin19
  obtain ⟨cl21, Ar21, q21, S21, M21, HH21, GG21⟩ := id V20
  have hin21 : ¬ (cv < 0 ∨ cl21.slots.size ≤ (cv).toNatClampNeg) := inb_of S21 ⟨cv0, cv73⟩
  have hat21 : cl21.slots[(cv).toNatClampNeg]? = some (.long y1) := atH HH21 hin21 (getH_hit cv0 rfl)
  have f22 := (Vb5.other W20 (Ne.symm ne_b3_b5))
  obtain ⟨cl23, Ar23, q23, S23, M23, HH23, GG23⟩ := id f22
  have hin23 : ¬ (cv < 0 ∨ cl23.slots.size ≤ (cv).toNatClampNeg) := inb_of S23 ⟨cv0, cv73⟩
  have hat23 : cl23.slots[(cv).toNatClampNeg]? = some (.long (0 : Int64)) := Has.at HH23 hin23 (by simp)
  obtain ⟨lfs, lhr, lhrun, lhended, lhW, lhsame⟩ := X20.leave (v := some (.int (1 : Int32))) (fun h => by rw [Bd.returns] at h; cases h)
  refine ⟨_, _, k10 _ ?_, lhrun, lhended, _, _, rfl, ?_, ⟨_, rfl⟩, lhW, lhsame.mono (by decide) (by decide)⟩
  · skip
    show Steps p.tables e below (T9.setTop (mkF m 57 #[.val (.int x0), .val (.long y1), .second, .val (.int (8 : Int32)), .val (.int (8 : Int32)), .val (.int sv), .val (.ref b3), .val (.ref b5), .unset, .unset] [(.int cv)])) _
    refine XS.istore X9.here hx rfl (hb hby at_57) rfl (l' := #[.val (.int x0), .val (.long y1), .second, .val (.int (8 : Int32)), .val (.int (8 : Int32)), .val (.int sv), .val (.ref b3), .val (.ref b5), .val (.int cv), .unset]) rfl ?_
    show Steps p.tables e below (T9.setTop (mkF m 59 #[.val (.int x0), .val (.long y1), .second, .val (.int (8 : Int32)), .val (.int (8 : Int32)), .val (.int sv), .val (.ref b3), .val (.ref b5), .val (.int cv), .unset] [])) _
    refine XS.iload X9.here hx rfl (hb hby at_59) rfl ?_
    show Steps p.tables e below (T9.setTop (mkF m 61 #[.val (.int x0), .val (.long y1), .second, .val (.int (8 : Int32)), .val (.int (8 : Int32)), .val (.int sv), .val (.ref b3), .val (.ref b5), .val (.int cv), .unset] [(.int cv)])) _
    refine XS.iload X9.here hx rfl (hb hby at_61) rfl ?_
    show Steps p.tables e below (T9.setTop (mkF m 63 #[.val (.int x0), .val (.long y1), .second, .val (.int (8 : Int32)), .val (.int (8 : Int32)), .val (.int sv), .val (.ref b3), .val (.ref b5), .val (.int cv), .unset] [(.int (8 : Int32)), (.int cv)])) _
    refine XS.icmpYes X9.here hx rfl (pc0 := 63) (pc' := 68) rfl (hb hby at_63) rfl (flt cv8).2.1 (by decide) (by decide) ?_
    show Steps p.tables e below (T9.setTop (mkF m 68 #[.val (.int x0), .val (.long y1), .second, .val (.int (8 : Int32)), .val (.int (8 : Int32)), .val (.int sv), .val (.ref b3), .val (.ref b5), .val (.int cv), .unset] [])) _
    refine XS.iload X9.here hx rfl (hb hby at_68) rfl ?_
    show Steps p.tables e below (T9.setTop (mkF m 70 #[.val (.int x0), .val (.long y1), .second, .val (.int (8 : Int32)), .val (.int (8 : Int32)), .val (.int sv), .val (.ref b3), .val (.ref b5), .val (.int cv), .unset] [(.int cv)])) _
    refine XS.iload X9.here hx rfl (hb hby at_70) rfl ?_
    show Steps p.tables e below (T9.setTop (mkF m 72 #[.val (.int x0), .val (.long y1), .second, .val (.int (8 : Int32)), .val (.int (8 : Int32)), .val (.int sv), .val (.ref b3), .val (.ref b5), .val (.int cv), .unset] [(.int (8 : Int32)), (.int cv)])) _
    refine XS.iadd X9.here hx rfl (hb hby at_72) rfl ?_
    show Steps p.tables e below (T9.setTop (mkF m 73 #[.val (.int x0), .val (.long y1), .second, .val (.int (8 : Int32)), .val (.int (8 : Int32)), .val (.int sv), .val (.ref b3), .val (.ref b5), .val (.int cv), .unset] [(.int (cv + (8 : Int32)))])) _
    refine XS.aload X9.here hx rfl (hb hby at_73) rfl rfl ?_
    show Steps p.tables e below (T9.setTop (mkF m 75 #[.val (.int x0), .val (.long y1), .second, .val (.int (8 : Int32)), .val (.int (8 : Int32)), .val (.int sv), .val (.ref b3), .val (.ref b5), .val (.int cv), .unset] [(.ref b3), (.int (cv + (8 : Int32)))])) _
    refine X9.arraylength hx (by (try rw [eq9]); exact Ar11.1) (State.isArrayOf_alike hZ.alike Ar11.2.1) (g := (mkF m 75 #[.val (.int x0), .val (.long y1), .second, .val (.int (8 : Int32)), .val (.int (8 : Int32)), .val (.int sv), .val (.ref b3), .val (.ref b5), .val (.int cv), .unset] [(.ref b3), (.int (cv + (8 : Int32)))])) rfl rfl (hb hby at_75) _ ?_
    rw [len_of S11 M11]
    show Steps p.tables e below (T9.setTop (mkF m 76 #[.val (.int x0), .val (.long y1), .second, .val (.int (8 : Int32)), .val (.int (8 : Int32)), .val (.int sv), .val (.ref b3), .val (.ref b5), .val (.int cv), .unset] [(.int (73 : Int32)), (.int (cv + (8 : Int32)))])) _
    refine XS.icmpYes X9.here hx rfl (pc0 := 76) (pc' := 81) rfl (hb hby at_76) rfl (tlt cvl).1 (by decide) (by decide) ?_
    show Steps p.tables e below (T9.setTop (mkF m 81 #[.val (.int x0), .val (.long y1), .second, .val (.int (8 : Int32)), .val (.int (8 : Int32)), .val (.int sv), .val (.ref b3), .val (.ref b5), .val (.int cv), .unset] [])) _
    refine XS.iloadN X9.here hx rfl (hb hby at_81) rfl ?_
    show Steps p.tables e below (T9.setTop (mkF m 82 #[.val (.int x0), .val (.long y1), .second, .val (.int (8 : Int32)), .val (.int (8 : Int32)), .val (.int sv), .val (.ref b3), .val (.ref b5), .val (.int cv), .unset] [(.int (8 : Int32))])) _
    refine XS.iconst X9.here hx rfl (hb hby at_82) ?_
    show Steps p.tables e below (T9.setTop (mkF m 83 #[.val (.int x0), .val (.long y1), .second, .val (.int (8 : Int32)), .val (.int (8 : Int32)), .val (.int sv), .val (.ref b3), .val (.ref b5), .val (.int cv), .unset] [(.int (1 : Int32)), (.int (8 : Int32))])) _
    refine XS.isub X9.here hx rfl (hb hby at_83) rfl ?_
    show Steps p.tables e below (T9.setTop (mkF m 84 #[.val (.int x0), .val (.long y1), .second, .val (.int (8 : Int32)), .val (.int (8 : Int32)), .val (.int sv), .val (.ref b3), .val (.ref b5), .val (.int cv), .unset] [(.int ((8 : Int32) - (1 : Int32)))])) _
    refine st12 _ ?_
    show Steps p.tables e below (T12.setTop (mkF m 87 #[.val (.int x0), .val (.long y1), .second, .val (.int (8 : Int32)), .val (.int (8 : Int32)), .val (.int sv), .val (.ref b3), .val (.ref b5), .val (.int cv), .unset] [(.int ((8 : Int32) * (((8 : Int32) - (1 : Int32)) + (1 : Int32))))])) _
    refine XS.istore X12.here hx rfl (hb hby at_87) rfl (l' := #[.val (.int x0), .val (.long y1), .second, .val (.int (8 : Int32)), .val (.int (8 : Int32)), .val (.int sv), .val (.ref b3), .val (.ref b5), .val (.int cv), .val (.int ((8 : Int32) * (((8 : Int32) - (1 : Int32)) + (1 : Int32))))]) rfl ?_
    show Steps p.tables e below (T12.setTop (mkF m 89 #[.val (.int x0), .val (.long y1), .second, .val (.int (8 : Int32)), .val (.int (8 : Int32)), .val (.int sv), .val (.ref b3), .val (.ref b5), .val (.int cv), .val (.int ((8 : Int32) * (((8 : Int32) - (1 : Int32)) + (1 : Int32))))] [])) _
    refine XS.iload X12.here hx rfl (hb hby at_89) rfl ?_
    show Steps p.tables e below (T12.setTop (mkF m 91 #[.val (.int x0), .val (.long y1), .second, .val (.int (8 : Int32)), .val (.int (8 : Int32)), .val (.int sv), .val (.ref b3), .val (.ref b5), .val (.int cv), .val (.int ((8 : Int32) * (((8 : Int32) - (1 : Int32)) + (1 : Int32))))] [(.int ((8 : Int32) * (((8 : Int32) - (1 : Int32)) + (1 : Int32))))])) _
    refine XS.iload X12.here hx rfl (hb hby at_91) rfl ?_
    show Steps p.tables e below (T12.setTop (mkF m 93 #[.val (.int x0), .val (.long y1), .second, .val (.int (8 : Int32)), .val (.int (8 : Int32)), .val (.int sv), .val (.ref b3), .val (.ref b5), .val (.int cv), .val (.int ((8 : Int32) * (((8 : Int32) - (1 : Int32)) + (1 : Int32))))] [(.int (8 : Int32)), (.int ((8 : Int32) * (((8 : Int32) - (1 : Int32)) + (1 : Int32))))])) _
    refine XS.iadd X12.here hx rfl (hb hby at_93) rfl ?_
    show Steps p.tables e below (T12.setTop (mkF m 94 #[.val (.int x0), .val (.long y1), .second, .val (.int (8 : Int32)), .val (.int (8 : Int32)), .val (.int sv), .val (.ref b3), .val (.ref b5), .val (.int cv), .val (.int ((8 : Int32) * (((8 : Int32) - (1 : Int32)) + (1 : Int32))))] [(.int (((8 : Int32) * (((8 : Int32) - (1 : Int32)) + (1 : Int32))) + (8 : Int32)))])) _
    refine XS.iconst X12.here hx rfl (hb hby at_94) ?_
    show Steps p.tables e below (T12.setTop (mkF m 95 #[.val (.int x0), .val (.long y1), .second, .val (.int (8 : Int32)), .val (.int (8 : Int32)), .val (.int sv), .val (.ref b3), .val (.ref b5), .val (.int cv), .val (.int ((8 : Int32) * (((8 : Int32) - (1 : Int32)) + (1 : Int32))))] [(.int (1 : Int32)), (.int (((8 : Int32) * (((8 : Int32) - (1 : Int32)) + (1 : Int32))) + (8 : Int32)))])) _
    refine XS.iadd X12.here hx rfl (hb hby at_95) rfl ?_
    show Steps p.tables e below (T12.setTop (mkF m 96 #[.val (.int x0), .val (.long y1), .second, .val (.int (8 : Int32)), .val (.int (8 : Int32)), .val (.int sv), .val (.ref b3), .val (.ref b5), .val (.int cv), .val (.int ((8 : Int32) * (((8 : Int32) - (1 : Int32)) + (1 : Int32))))] [(.int ((((8 : Int32) * (((8 : Int32) - (1 : Int32)) + (1 : Int32))) + (8 : Int32)) + (1 : Int32)))])) _
    refine XS.aload X12.here hx rfl (hb hby at_96) rfl rfl ?_
    show Steps p.tables e below (T12.setTop (mkF m 98 #[.val (.int x0), .val (.long y1), .second, .val (.int (8 : Int32)), .val (.int (8 : Int32)), .val (.int sv), .val (.ref b3), .val (.ref b5), .val (.int cv), .val (.int ((8 : Int32) * (((8 : Int32) - (1 : Int32)) + (1 : Int32))))] [(.ref b3), (.int ((((8 : Int32) * (((8 : Int32) - (1 : Int32)) + (1 : Int32))) + (8 : Int32)) + (1 : Int32)))])) _
    refine X12.arraylength hx (by (try rw [eq12]); exact Ar13.1) (State.isArrayOf_alike hZ.alike Ar13.2.1) (g := (mkF m 98 #[.val (.int x0), .val (.long y1), .second, .val (.int (8 : Int32)), .val (.int (8 : Int32)), .val (.int sv), .val (.ref b3), .val (.ref b5), .val (.int cv), .val (.int ((8 : Int32) * (((8 : Int32) - (1 : Int32)) + (1 : Int32))))] [(.ref b3), (.int ((((8 : Int32) * (((8 : Int32) - (1 : Int32)) + (1 : Int32))) + (8 : Int32)) + (1 : Int32)))])) rfl rfl (hb hby at_98) _ ?_
    rw [len_of S13 M13]
    show Steps p.tables e below (T12.setTop (mkF m 99 #[.val (.int x0), .val (.long y1), .second, .val (.int (8 : Int32)), .val (.int (8 : Int32)), .val (.int sv), .val (.ref b3), .val (.ref b5), .val (.int cv), .val (.int ((8 : Int32) * (((8 : Int32) - (1 : Int32)) + (1 : Int32))))] [(.int (73 : Int32)), (.int ((((8 : Int32) * (((8 : Int32) - (1 : Int32)) + (1 : Int32))) + (8 : Int32)) + (1 : Int32)))])) _
    refine XS.icmpYes X12.here hx rfl (pc0 := 99) (pc' := 104) rfl (hb hby at_99) rfl (teq (by decide)).1 (by decide) (by decide) ?_
    show Steps p.tables e below (T12.setTop (mkF m 104 #[.val (.int x0), .val (.long y1), .second, .val (.int (8 : Int32)), .val (.int (8 : Int32)), .val (.int sv), .val (.ref b3), .val (.ref b5), .val (.int cv), .val (.int ((8 : Int32) * (((8 : Int32) - (1 : Int32)) + (1 : Int32))))] [])) _
    refine XS.aload X12.here hx rfl (hb hby at_104) rfl rfl ?_
    show Steps p.tables e below (T12.setTop (mkF m 106 #[.val (.int x0), .val (.long y1), .second, .val (.int (8 : Int32)), .val (.int (8 : Int32)), .val (.int sv), .val (.ref b3), .val (.ref b5), .val (.int cv), .val (.int ((8 : Int32) * (((8 : Int32) - (1 : Int32)) + (1 : Int32))))] [(.ref b3)])) _
    refine XS.iconst X12.here hx rfl (hb hby at_106) ?_
    show Steps p.tables e below (T12.setTop (mkF m 107 #[.val (.int x0), .val (.long y1), .second, .val (.int (8 : Int32)), .val (.int (8 : Int32)), .val (.int sv), .val (.ref b3), .val (.ref b5), .val (.int cv), .val (.int ((8 : Int32) * (((8 : Int32) - (1 : Int32)) + (1 : Int32))))] [(.int (0 : Int32)), (.ref b3)])) _
    refine X12.laload hx (j := (0 : Int32)) (v := (.long (0 : Int64))) (by (try rw [eq12]); exact Ar14.1) (State.isArrayOf_alike hZ.alike Ar14.2.1) Ar14.2.2 hin14 hat14 (g := (mkF m 107 #[.val (.int x0), .val (.long y1), .second, .val (.int (8 : Int32)), .val (.int (8 : Int32)), .val (.int sv), .val (.ref b3), .val (.ref b5), .val (.int cv), .val (.int ((8 : Int32) * (((8 : Int32) - (1 : Int32)) + (1 : Int32))))] [(.int (0 : Int32)), (.ref b3)])) rfl rfl (hb hby at_107) _ ?_
    show Steps p.tables e below (T12.setTop (mkF m 108 #[.val (.int x0), .val (.long y1), .second, .val (.int (8 : Int32)), .val (.int (8 : Int32)), .val (.int sv), .val (.ref b3), .val (.ref b5), .val (.int cv), .val (.int ((8 : Int32) * (((8 : Int32) - (1 : Int32)) + (1 : Int32))))] [(.long (0 : Int64))])) _
    refine XS.lconst X12.here hx rfl (hb hby at_108) ?_
    show Steps p.tables e below (T12.setTop (mkF m 109 #[.val (.int x0), .val (.long y1), .second, .val (.int (8 : Int32)), .val (.int (8 : Int32)), .val (.int sv), .val (.ref b3), .val (.ref b5), .val (.int cv), .val (.int ((8 : Int32) * (((8 : Int32) - (1 : Int32)) + (1 : Int32))))] [(.long (0 : Int64)), (.long (0 : Int64))])) _
    refine XS.lcmp X12.here hx rfl (hb hby at_109) rfl ?_
    show Steps p.tables e below (T12.setTop (mkF m 110 #[.val (.int x0), .val (.long y1), .second, .val (.int (8 : Int32)), .val (.int (8 : Int32)), .val (.int sv), .val (.ref b3), .val (.ref b5), .val (.int cv), .val (.int ((8 : Int32) * (((8 : Int32) - (1 : Int32)) + (1 : Int32))))] [(.int (lcmpW (0 : Int64) (0 : Int64)))])) _
    refine XS.ifNo X12.here hx rfl (hb hby at_110) rfl ((if0 _ _).trans (teq ((lw_eq (0 : Int64) (0 : Int64)).mpr (by decide : (0 : Int64) = (0 : Int64)))).2) ?_
    show Steps p.tables e below (T12.setTop (mkF m 113 #[.val (.int x0), .val (.long y1), .second, .val (.int (8 : Int32)), .val (.int (8 : Int32)), .val (.int sv), .val (.ref b3), .val (.ref b5), .val (.int cv), .val (.int ((8 : Int32) * (((8 : Int32) - (1 : Int32)) + (1 : Int32))))] [])) _
    refine XS.aload X12.here hx rfl (hb hby at_113) rfl rfl ?_
    show Steps p.tables e below (T12.setTop (mkF m 115 #[.val (.int x0), .val (.long y1), .second, .val (.int (8 : Int32)), .val (.int (8 : Int32)), .val (.int sv), .val (.ref b3), .val (.ref b5), .val (.int cv), .val (.int ((8 : Int32) * (((8 : Int32) - (1 : Int32)) + (1 : Int32))))] [(.ref b3)])) _
    refine XS.iload X12.here hx rfl (hb hby at_115) rfl ?_
    show Steps p.tables e below (T12.setTop (mkF m 117 #[.val (.int x0), .val (.long y1), .second, .val (.int (8 : Int32)), .val (.int (8 : Int32)), .val (.int sv), .val (.ref b3), .val (.ref b5), .val (.int cv), .val (.int ((8 : Int32) * (((8 : Int32) - (1 : Int32)) + (1 : Int32))))] [(.int cv), (.ref b3)])) _
    refine X12.laload hx (j := cv) (v := (.long (0 : Int64))) (by (try rw [eq12]); exact Ar15.1) (State.isArrayOf_alike hZ.alike Ar15.2.1) Ar15.2.2 hin15 hat15 (g := (mkF m 117 #[.val (.int x0), .val (.long y1), .second, .val (.int (8 : Int32)), .val (.int (8 : Int32)), .val (.int sv), .val (.ref b3), .val (.ref b5), .val (.int cv), .val (.int ((8 : Int32) * (((8 : Int32) - (1 : Int32)) + (1 : Int32))))] [(.int cv), (.ref b3)])) rfl rfl (hb hby at_117) _ ?_
    show Steps p.tables e below (T12.setTop (mkF m 118 #[.val (.int x0), .val (.long y1), .second, .val (.int (8 : Int32)), .val (.int (8 : Int32)), .val (.int sv), .val (.ref b3), .val (.ref b5), .val (.int cv), .val (.int ((8 : Int32) * (((8 : Int32) - (1 : Int32)) + (1 : Int32))))] [(.long (0 : Int64))])) _
    refine XS.lconst X12.here hx rfl (hb hby at_118) ?_
    show Steps p.tables e below (T12.setTop (mkF m 119 #[.val (.int x0), .val (.long y1), .second, .val (.int (8 : Int32)), .val (.int (8 : Int32)), .val (.int sv), .val (.ref b3), .val (.ref b5), .val (.int cv), .val (.int ((8 : Int32) * (((8 : Int32) - (1 : Int32)) + (1 : Int32))))] [(.long (0 : Int64)), (.long (0 : Int64))])) _
    refine XS.lcmp X12.here hx rfl (hb hby at_119) rfl ?_
    show Steps p.tables e below (T12.setTop (mkF m 120 #[.val (.int x0), .val (.long y1), .second, .val (.int (8 : Int32)), .val (.int (8 : Int32)), .val (.int sv), .val (.ref b3), .val (.ref b5), .val (.int cv), .val (.int ((8 : Int32) * (((8 : Int32) - (1 : Int32)) + (1 : Int32))))] [(.int (lcmpW (0 : Int64) (0 : Int64)))])) _
    refine XS.ifNo X12.here hx rfl (hb hby at_120) rfl ((if0 _ _).trans (teq ((lw_eq (0 : Int64) (0 : Int64)).mpr (by decide : (0 : Int64) = (0 : Int64)))).2) ?_
    show Steps p.tables e below (T12.setTop (mkF m 123 #[.val (.int x0), .val (.long y1), .second, .val (.int (8 : Int32)), .val (.int (8 : Int32)), .val (.int sv), .val (.ref b3), .val (.ref b5), .val (.int cv), .val (.int ((8 : Int32) * (((8 : Int32) - (1 : Int32)) + (1 : Int32))))] [])) _
    refine XS.aload X12.here hx rfl (hb hby at_123) rfl rfl ?_
    show Steps p.tables e below (T12.setTop (mkF m 125 #[.val (.int x0), .val (.long y1), .second, .val (.int (8 : Int32)), .val (.int (8 : Int32)), .val (.int sv), .val (.ref b3), .val (.ref b5), .val (.int cv), .val (.int ((8 : Int32) * (((8 : Int32) - (1 : Int32)) + (1 : Int32))))] [(.ref b3)])) _
    refine XS.aload X12.here hx rfl (hb hby at_125) rfl rfl ?_
    show Steps p.tables e below (T12.setTop (mkF m 127 #[.val (.int x0), .val (.long y1), .second, .val (.int (8 : Int32)), .val (.int (8 : Int32)), .val (.int sv), .val (.ref b3), .val (.ref b5), .val (.int cv), .val (.int ((8 : Int32) * (((8 : Int32) - (1 : Int32)) + (1 : Int32))))] [(.ref b3), (.ref b3)])) _
    refine X12.arraylength hx (by (try rw [eq12]); exact Ar16.1) (State.isArrayOf_alike hZ.alike Ar16.2.1) (g := (mkF m 127 #[.val (.int x0), .val (.long y1), .second, .val (.int (8 : Int32)), .val (.int (8 : Int32)), .val (.int sv), .val (.ref b3), .val (.ref b5), .val (.int cv), .val (.int ((8 : Int32) * (((8 : Int32) - (1 : Int32)) + (1 : Int32))))] [(.ref b3), (.ref b3)])) rfl rfl (hb hby at_127) _ ?_
    rw [len_of S16 M16]
    show Steps p.tables e below (T12.setTop (mkF m 128 #[.val (.int x0), .val (.long y1), .second, .val (.int (8 : Int32)), .val (.int (8 : Int32)), .val (.int sv), .val (.ref b3), .val (.ref b5), .val (.int cv), .val (.int ((8 : Int32) * (((8 : Int32) - (1 : Int32)) + (1 : Int32))))] [(.int (73 : Int32)), (.ref b3)])) _
    refine XS.iconst X12.here hx rfl (hb hby at_128) ?_
    show Steps p.tables e below (T12.setTop (mkF m 129 #[.val (.int x0), .val (.long y1), .second, .val (.int (8 : Int32)), .val (.int (8 : Int32)), .val (.int sv), .val (.ref b3), .val (.ref b5), .val (.int cv), .val (.int ((8 : Int32) * (((8 : Int32) - (1 : Int32)) + (1 : Int32))))] [(.int (1 : Int32)), (.int (73 : Int32)), (.ref b3)])) _
    refine XS.isub X12.here hx rfl (hb hby at_129) rfl ?_
    show Steps p.tables e below (T12.setTop (mkF m 130 #[.val (.int x0), .val (.long y1), .second, .val (.int (8 : Int32)), .val (.int (8 : Int32)), .val (.int sv), .val (.ref b3), .val (.ref b5), .val (.int cv), .val (.int ((8 : Int32) * (((8 : Int32) - (1 : Int32)) + (1 : Int32))))] [(.int ((73 : Int32) - (1 : Int32))), (.ref b3)])) _
    refine X12.laload hx (j := ((73 : Int32) - (1 : Int32))) (v := (.long (0 : Int64))) (by (try rw [eq12]); exact Ar17.1) (State.isArrayOf_alike hZ.alike Ar17.2.1) Ar17.2.2 hin17 hat17 (g := (mkF m 130 #[.val (.int x0), .val (.long y1), .second, .val (.int (8 : Int32)), .val (.int (8 : Int32)), .val (.int sv), .val (.ref b3), .val (.ref b5), .val (.int cv), .val (.int ((8 : Int32) * (((8 : Int32) - (1 : Int32)) + (1 : Int32))))] [(.int ((73 : Int32) - (1 : Int32))), (.ref b3)])) rfl rfl (hb hby at_130) _ ?_
    show Steps p.tables e below (T12.setTop (mkF m 131 #[.val (.int x0), .val (.long y1), .second, .val (.int (8 : Int32)), .val (.int (8 : Int32)), .val (.int sv), .val (.ref b3), .val (.ref b5), .val (.int cv), .val (.int ((8 : Int32) * (((8 : Int32) - (1 : Int32)) + (1 : Int32))))] [(.long (0 : Int64))])) _
    refine XS.lconst X12.here hx rfl (hb hby at_131) ?_
    show Steps p.tables e below (T12.setTop (mkF m 132 #[.val (.int x0), .val (.long y1), .second, .val (.int (8 : Int32)), .val (.int (8 : Int32)), .val (.int sv), .val (.ref b3), .val (.ref b5), .val (.int cv), .val (.int ((8 : Int32) * (((8 : Int32) - (1 : Int32)) + (1 : Int32))))] [(.long (0 : Int64)), (.long (0 : Int64))])) _
    refine XS.lcmp X12.here hx rfl (hb hby at_132) rfl ?_
    show Steps p.tables e below (T12.setTop (mkF m 133 #[.val (.int x0), .val (.long y1), .second, .val (.int (8 : Int32)), .val (.int (8 : Int32)), .val (.int sv), .val (.ref b3), .val (.ref b5), .val (.int cv), .val (.int ((8 : Int32) * (((8 : Int32) - (1 : Int32)) + (1 : Int32))))] [(.int (lcmpW (0 : Int64) (0 : Int64)))])) _
    refine XS.ifYes X12.here hx rfl (pc0 := 133) (pc' := 138) rfl (hb hby at_133) rfl ((if0 _ _).trans (teq ((lw_eq (0 : Int64) (0 : Int64)).mpr (by decide : (0 : Int64) = (0 : Int64)))).1) (by decide) (by decide) ?_
    show Steps p.tables e below (T12.setTop (mkF m 138 #[.val (.int x0), .val (.long y1), .second, .val (.int (8 : Int32)), .val (.int (8 : Int32)), .val (.int sv), .val (.ref b3), .val (.ref b5), .val (.int cv), .val (.int ((8 : Int32) * (((8 : Int32) - (1 : Int32)) + (1 : Int32))))] [])) _
    refine XS.aload X12.here hx rfl (hb hby at_138) rfl rfl ?_
    show Steps p.tables e below (T12.setTop (mkF m 140 #[.val (.int x0), .val (.long y1), .second, .val (.int (8 : Int32)), .val (.int (8 : Int32)), .val (.int sv), .val (.ref b3), .val (.ref b5), .val (.int cv), .val (.int ((8 : Int32) * (((8 : Int32) - (1 : Int32)) + (1 : Int32))))] [(.ref b5)])) _
    refine XS.iload X12.here hx rfl (hb hby at_140) rfl ?_
    show Steps p.tables e below (T12.setTop (mkF m 142 #[.val (.int x0), .val (.long y1), .second, .val (.int (8 : Int32)), .val (.int (8 : Int32)), .val (.int sv), .val (.ref b3), .val (.ref b5), .val (.int cv), .val (.int ((8 : Int32) * (((8 : Int32) - (1 : Int32)) + (1 : Int32))))] [(.int cv), (.ref b5)])) _
    refine X12.laload hx (j := cv) (v := (.long (0 : Int64))) (by (try rw [eq12]); exact Ar18.1) (State.isArrayOf_alike hZ.alike Ar18.2.1) Ar18.2.2 hin18 hat18 (g := (mkF m 142 #[.val (.int x0), .val (.long y1), .second, .val (.int (8 : Int32)), .val (.int (8 : Int32)), .val (.int sv), .val (.ref b3), .val (.ref b5), .val (.int cv), .val (.int ((8 : Int32) * (((8 : Int32) - (1 : Int32)) + (1 : Int32))))] [(.int cv), (.ref b5)])) rfl rfl (hb hby at_142) _ ?_
    show Steps p.tables e below (T12.setTop (mkF m 143 #[.val (.int x0), .val (.long y1), .second, .val (.int (8 : Int32)), .val (.int (8 : Int32)), .val (.int sv), .val (.ref b3), .val (.ref b5), .val (.int cv), .val (.int ((8 : Int32) * (((8 : Int32) - (1 : Int32)) + (1 : Int32))))] [(.long (0 : Int64))])) _
    refine XS.lconst X12.here hx rfl (hb hby at_143) ?_
    show Steps p.tables e below (T12.setTop (mkF m 144 #[.val (.int x0), .val (.long y1), .second, .val (.int (8 : Int32)), .val (.int (8 : Int32)), .val (.int sv), .val (.ref b3), .val (.ref b5), .val (.int cv), .val (.int ((8 : Int32) * (((8 : Int32) - (1 : Int32)) + (1 : Int32))))] [(.long (0 : Int64)), (.long (0 : Int64))])) _
    refine XS.lcmp X12.here hx rfl (hb hby at_144) rfl ?_
    show Steps p.tables e below (T12.setTop (mkF m 145 #[.val (.int x0), .val (.long y1), .second, .val (.int (8 : Int32)), .val (.int (8 : Int32)), .val (.int sv), .val (.ref b3), .val (.ref b5), .val (.int cv), .val (.int ((8 : Int32) * (((8 : Int32) - (1 : Int32)) + (1 : Int32))))] [(.int (lcmpW (0 : Int64) (0 : Int64)))])) _
    refine XS.ifYes X12.here hx rfl (pc0 := 145) (pc' := 150) rfl (hb hby at_145) rfl ((if0 _ _).trans (teq ((lw_eq (0 : Int64) (0 : Int64)).mpr (by decide : (0 : Int64) = (0 : Int64)))).1) (by decide) (by decide) ?_
    show Steps p.tables e below (T12.setTop (mkF m 150 #[.val (.int x0), .val (.long y1), .second, .val (.int (8 : Int32)), .val (.int (8 : Int32)), .val (.int sv), .val (.ref b3), .val (.ref b5), .val (.int cv), .val (.int ((8 : Int32) * (((8 : Int32) - (1 : Int32)) + (1 : Int32))))] [])) _
    refine XS.aload X12.here hx rfl (hb hby at_150) rfl rfl ?_
    show Steps p.tables e below (T12.setTop (mkF m 152 #[.val (.int x0), .val (.long y1), .second, .val (.int (8 : Int32)), .val (.int (8 : Int32)), .val (.int sv), .val (.ref b3), .val (.ref b5), .val (.int cv), .val (.int ((8 : Int32) * (((8 : Int32) - (1 : Int32)) + (1 : Int32))))] [(.ref b3)])) _
    refine XS.iload X12.here hx rfl (hb hby at_152) rfl ?_
    show Steps p.tables e below (T12.setTop (mkF m 154 #[.val (.int x0), .val (.long y1), .second, .val (.int (8 : Int32)), .val (.int (8 : Int32)), .val (.int sv), .val (.ref b3), .val (.ref b5), .val (.int cv), .val (.int ((8 : Int32) * (((8 : Int32) - (1 : Int32)) + (1 : Int32))))] [(.int cv), (.ref b3)])) _
    refine XS.lloadN X12.here hx rfl (hb hby at_154) rfl ?_
    show Steps p.tables e below (T12.setTop (mkF m 155 #[.val (.int x0), .val (.long y1), .second, .val (.int (8 : Int32)), .val (.int (8 : Int32)), .val (.int sv), .val (.ref b3), .val (.ref b5), .val (.int cv), .val (.int ((8 : Int32) * (((8 : Int32) - (1 : Int32)) + (1 : Int32))))] [(.long y1), (.int cv), (.ref b3)])) _
    refine st20 _ ?_
    show Steps p.tables e below (T20.setTop (mkF m 156 #[.val (.int x0), .val (.long y1), .second, .val (.int (8 : Int32)), .val (.int (8 : Int32)), .val (.int sv), .val (.ref b3), .val (.ref b5), .val (.int cv), .val (.int ((8 : Int32) * (((8 : Int32) - (1 : Int32)) + (1 : Int32))))] [])) _
    refine XS.aload X20.here hx rfl (hb hby at_156) rfl rfl ?_
    show Steps p.tables e below (T20.setTop (mkF m 158 #[.val (.int x0), .val (.long y1), .second, .val (.int (8 : Int32)), .val (.int (8 : Int32)), .val (.int sv), .val (.ref b3), .val (.ref b5), .val (.int cv), .val (.int ((8 : Int32) * (((8 : Int32) - (1 : Int32)) + (1 : Int32))))] [(.ref b3)])) _
    refine XS.iload X20.here hx rfl (hb hby at_158) rfl ?_
    show Steps p.tables e below (T20.setTop (mkF m 160 #[.val (.int x0), .val (.long y1), .second, .val (.int (8 : Int32)), .val (.int (8 : Int32)), .val (.int sv), .val (.ref b3), .val (.ref b5), .val (.int cv), .val (.int ((8 : Int32) * (((8 : Int32) - (1 : Int32)) + (1 : Int32))))] [(.int cv), (.ref b3)])) _
    refine X20.laload hx (j := cv) (v := (.long y1)) (by (try rw [e20]); exact Ar21.1) (State.isArrayOf_alike hZ.alike Ar21.2.1) Ar21.2.2 hin21 hat21 (g := (mkF m 160 #[.val (.int x0), .val (.long y1), .second, .val (.int (8 : Int32)), .val (.int (8 : Int32)), .val (.int sv), .val (.ref b3), .val (.ref b5), .val (.int cv), .val (.int ((8 : Int32) * (((8 : Int32) - (1 : Int32)) + (1 : Int32))))] [(.int cv), (.ref b3)])) rfl rfl (hb hby at_160) _ ?_
    show Steps p.tables e below (T20.setTop (mkF m 161 #[.val (.int x0), .val (.long y1), .second, .val (.int (8 : Int32)), .val (.int (8 : Int32)), .val (.int sv), .val (.ref b3), .val (.ref b5), .val (.int cv), .val (.int ((8 : Int32) * (((8 : Int32) - (1 : Int32)) + (1 : Int32))))] [(.long y1)])) _
    refine XS.lloadN X20.here hx rfl (hb hby at_161) rfl ?_
    show Steps p.tables e below (T20.setTop (mkF m 162 #[.val (.int x0), .val (.long y1), .second, .val (.int (8 : Int32)), .val (.int (8 : Int32)), .val (.int sv), .val (.ref b3), .val (.ref b5), .val (.int cv), .val (.int ((8 : Int32) * (((8 : Int32) - (1 : Int32)) + (1 : Int32))))] [(.long y1), (.long y1)])) _
    refine XS.lcmp X20.here hx rfl (hb hby at_162) rfl ?_
    show Steps p.tables e below (T20.setTop (mkF m 163 #[.val (.int x0), .val (.long y1), .second, .val (.int (8 : Int32)), .val (.int (8 : Int32)), .val (.int sv), .val (.ref b3), .val (.ref b5), .val (.int cv), .val (.int ((8 : Int32) * (((8 : Int32) - (1 : Int32)) + (1 : Int32))))] [(.int (lcmpW y1 y1))])) _
    refine XS.ifNo X20.here hx rfl (hb hby at_163) rfl ((if0 _ _).trans (teq ((lw_eq y1 y1).mpr (rfl : y1 = y1))).2) ?_
    show Steps p.tables e below (T20.setTop (mkF m 166 #[.val (.int x0), .val (.long y1), .second, .val (.int (8 : Int32)), .val (.int (8 : Int32)), .val (.int sv), .val (.ref b3), .val (.ref b5), .val (.int cv), .val (.int ((8 : Int32) * (((8 : Int32) - (1 : Int32)) + (1 : Int32))))] [])) _
    refine XS.aload X20.here hx rfl (hb hby at_166) rfl rfl ?_
    show Steps p.tables e below (T20.setTop (mkF m 168 #[.val (.int x0), .val (.long y1), .second, .val (.int (8 : Int32)), .val (.int (8 : Int32)), .val (.int sv), .val (.ref b3), .val (.ref b5), .val (.int cv), .val (.int ((8 : Int32) * (((8 : Int32) - (1 : Int32)) + (1 : Int32))))] [(.ref b5)])) _
    refine XS.iload X20.here hx rfl (hb hby at_168) rfl ?_
    show Steps p.tables e below (T20.setTop (mkF m 170 #[.val (.int x0), .val (.long y1), .second, .val (.int (8 : Int32)), .val (.int (8 : Int32)), .val (.int sv), .val (.ref b3), .val (.ref b5), .val (.int cv), .val (.int ((8 : Int32) * (((8 : Int32) - (1 : Int32)) + (1 : Int32))))] [(.int cv), (.ref b5)])) _
    refine X20.laload hx (j := cv) (v := (.long (0 : Int64))) (by (try rw [e20]); exact Ar23.1) (State.isArrayOf_alike hZ.alike Ar23.2.1) Ar23.2.2 hin23 hat23 (g := (mkF m 170 #[.val (.int x0), .val (.long y1), .second, .val (.int (8 : Int32)), .val (.int (8 : Int32)), .val (.int sv), .val (.ref b3), .val (.ref b5), .val (.int cv), .val (.int ((8 : Int32) * (((8 : Int32) - (1 : Int32)) + (1 : Int32))))] [(.int cv), (.ref b5)])) rfl rfl (hb hby at_170) _ ?_
    show Steps p.tables e below (T20.setTop (mkF m 171 #[.val (.int x0), .val (.long y1), .second, .val (.int (8 : Int32)), .val (.int (8 : Int32)), .val (.int sv), .val (.ref b3), .val (.ref b5), .val (.int cv), .val (.int ((8 : Int32) * (((8 : Int32) - (1 : Int32)) + (1 : Int32))))] [(.long (0 : Int64))])) _
    refine XS.lconst X20.here hx rfl (hb hby at_171) ?_
    show Steps p.tables e below (T20.setTop (mkF m 172 #[.val (.int x0), .val (.long y1), .second, .val (.int (8 : Int32)), .val (.int (8 : Int32)), .val (.int sv), .val (.ref b3), .val (.ref b5), .val (.int cv), .val (.int ((8 : Int32) * (((8 : Int32) - (1 : Int32)) + (1 : Int32))))] [(.long (0 : Int64)), (.long (0 : Int64))])) _
    refine XS.lcmp X20.here hx rfl (hb hby at_172) rfl ?_
    show Steps p.tables e below (T20.setTop (mkF m 173 #[.val (.int x0), .val (.long y1), .second, .val (.int (8 : Int32)), .val (.int (8 : Int32)), .val (.int sv), .val (.ref b3), .val (.ref b5), .val (.int cv), .val (.int ((8 : Int32) * (((8 : Int32) - (1 : Int32)) + (1 : Int32))))] [(.int (lcmpW (0 : Int64) (0 : Int64)))])) _
    refine XS.ifNo X20.here hx rfl (hb hby at_173) rfl ((if0 _ _).trans (teq ((lw_eq (0 : Int64) (0 : Int64)).mpr (by decide : (0 : Int64) = (0 : Int64)))).2) ?_
    show Steps p.tables e below (T20.setTop (mkF m 176 #[.val (.int x0), .val (.long y1), .second, .val (.int (8 : Int32)), .val (.int (8 : Int32)), .val (.int sv), .val (.ref b3), .val (.ref b5), .val (.int cv), .val (.int ((8 : Int32) * (((8 : Int32) - (1 : Int32)) + (1 : Int32))))] [])) _
    refine XS.iconst X20.here hx rfl (hb hby at_176) ?_
    show Steps p.tables e below (T20.setTop (mkF m 177 #[.val (.int x0), .val (.long y1), .second, .val (.int (8 : Int32)), .val (.int (8 : Int32)), .val (.int sv), .val (.ref b3), .val (.ref b5), .val (.int cv), .val (.int ((8 : Int32) * (((8 : Int32) - (1 : Int32)) + (1 : Int32))))] [(.int (1 : Int32))])) _
    refine XS.goto X20.here hx rfl (pc0 := 177) (pc' := 181) rfl (hb hby at_177) (by decide) (by decide) ?_
    show Steps p.tables e below (T20.setTop (mkF m 181 #[.val (.int x0), .val (.long y1), .second, .val (.int (8 : Int32)), .val (.int (8 : Int32)), .val (.int sv), .val (.ref b3), .val (.ref b5), .val (.int cv), .val (.int ((8 : Int32) * (((8 : Int32) - (1 : Int32)) + (1 : Int32))))] [(.int (1 : Int32))])) _
    exact retN X20 hx (t := .boolean) Bd.returns (by simp) (hb hby at_181) lhr
  · skip
    show Q0 Z x0 y1 h0 n0 _ T20.heap _
    rw [e20]
    exact ⟨rfl, N20⟩
set_option maxRecDepth 65536 in
set_option maxHeartbeats 40000000 in
theorem comes_1 {Post : Tables → Env → Array Value → State → Outcome → State → Prop} (hpost : ∀ tb e args s v u, (limb_1_1.after args s (.returned v) u = true ∧ limb_1_2.after args s (.returned v) u = true ∧ True) → FrameEnd s (.returned v) u (Jvm.fieldLocs frame_1_writes args s ++ Jvm.arrayLocs frame_1_arrays args s ++ Jvm.staticLocs frame_1_statics s) 16 384 → Post tb e args s (.returned v) u) :
    ArmFor flags0 classFile x code maxLocals ret World_1 tables_1 room_1 Calls_1 rest_1 Pre_1 Post := by
  intro l hfl _ _ p e ha hc hk s m args below hf hA hF happ hP
  obtain ⟨hcalls, hrest, hpre⟩ := hP
  obtain ⟨-, -, -, hnamed, -, -, -, hat⟩ := (Spec.applies_iff hf).mp happ
  obtain ⟨hg, hn⟩ := and_e (Cond.before_iff.mp (show (Jvm.Cond.and given_1 narrow_1).before args s = true from hpre))
  obtain ⟨g1a, g1b⟩ := and_e hg
  obtain ⟨g2a, g2b⟩ := and_e g1b
  obtain ⟨w0, w1, rfl⟩ : ∃ w0 w1 : Value, args = #[w0, w1] := by
    have hs : args.size = 2 := by simpa [Cond.value, given_1] using g1a
    obtain ⟨L⟩ := args
    match L, hs with
    | [w0, w1], _ => exact ⟨w0, w1, rfl⟩
  have hw := fun d (hd : d ∈ tables_1) => atoms_spec (ws := Jvm.Cond.code x code maxLocals ret :: tables_1) hat d (List.mem_cons_of_mem _ hd)
  have hfit : Fit s := fun {y c} hc i hi => by
    obtain ⟨ha, rfl⟩ := Array.getElem?_eq_some_iff.mp hc
    have q := List.all_eq_true.mp ((Array.all_eq_true_iff_forall_mem.mp hF) _ (Array.getElem_mem ha)) i (List.mem_range.mpr hi)
    simpa [Array.getElem?_eq_getElem hi] using q
  obtain ⟨i0, ei0⟩ := is_v g2a
  obtain rfl : w0 = (.int i0) := Option.some.inj ei0
  obtain ⟨i1, ei1⟩ := isL_v g2b
  obtain rfl : w1 = (.long i1) := Option.some.inj ei1
  have ev := own_evInt hn
  have S_C := Sta.start ev (Or.inr ⟨(wd1 hw), (wd2 hw)⟩)
  obtain ⟨n, o, h1, h2, h3, _, L, rfl, ⟨rfl, N⟩, hq⟩ := rm0 l s _ hw tables_1 i0 i1 s.heap s.heap.size (Nat.le_refl _) S_C p e ha hc hk s m _ below hf ((Spec.applies_iff_loose hf).mp happ).1 ⟨rfl, State.Warmed39.refl s, rfl⟩ trivial
  refine ⟨n, _, h1, h2, h3, hpost _ _ _ _ _ _ ⟨Cond.after_iff.mpr rfl, Cond.after_iff.mpr (eq_i res_at (Term.int_eval (1)) rfl), trivial⟩ ⟨hq.1, hq.2.1, (hq.2.2.sift fun y hy => Or.inr (N y hy)).mono (by decide) (by decide)⟩⟩
theorem main_1_1 : Claimed_1_1 := comes_1 fun _ _ _ _ _ _ h hF => ⟨h.1, hF⟩
theorem main_1_2 : Claimed_1_2 := comes_1 fun _ _ _ _ _ _ h hF => ⟨h.2.1, hF⟩
end Jvm.Pilot.@@N@@
namespace Jvm.Pilot.@@N@@
open Jvm Jvm.ClassFile Sem Op Lib Jvm.Free Jvm.Stand Jvm.Pilot.@@N@@.Jvm.D
/-! MADE BY PROGRAM (witnessworld.py) out of the Statement's table words and the real class files: 11 classes; the members and pool entries that the words name. The judged class is class 1, her method 1. -/
namespace start1
open Jvm.ClassFile
def u (s : String) : CpInfo := .utf8 (stringToUtf16 s)
/-- a pool by its gaps: so many unusable entries, then the entry; so many at the end -/
def gap : Nat → List CpInfo → List CpInfo
  | 0, r => r
  | n + 1, r => .unusable :: gap n r
def poolList (es : List (Nat × CpInfo)) (last : Nat) : List CpInfo := es.foldr (fun e r => gap e.1 (e.2 :: r)) (gap last [])
def pool (es : List (Nat × CpInfo)) (last : Nat) : Array CpInfo := ⟨poolList es last⟩
def fileOf (pool : Array CpInfo) (this : Nat) (attrs : Array Attribute := #[]) (ms : Array MethodInfo := #[]) (fl : Nat := 33) (sup : Nat := 0) (ifs : Array Nat := #[]) (fds : Array FieldInfo := #[]) : ClassFile where
  minorVersion := 0
  majorVersion := 65
  constantPool := pool
  accessFlags := fl
  thisClass := this
  superClass := sup
  interfaces := ifs
  fields := fds
  methods := ms
  attributes := attrs
def plain (name : String) (sup : Option ClassId) : Class where
  name := name
  kind := .ordinary
  loader := none
  accessFlags := 33
  super := sup
  interfaces := #[]
  cf := none
  fields := #[]
  methods := #[]
  instanceTypes := #[]
  staticTypes := #[]
  resolved := #[]
  callSites := []
  init := .initialized
  statics := none
  mirror := none

def pool0 : Array CpInfo := pool [(5, u "<init>"), (0, u "()V"), (1, .class_ 10), (1, u "java/lang/Object")] 113

def k0m0 : Method := { name := "<init>", desc := "()V", sig := { parameters := [], returnType := none }, accessFlags := 1, code := none }
/-- java/lang/Object -/
def k0 : Class := { plain "java/lang/Object" none with
  accessFlags := 33
  interfaces := #[]
  cf := some (fileOf pool0 8 #[] #[{ accessFlags := 1, nameIndex := 5, descriptorIndex := 6, attributes := #[] }] 33 0 #[] #[])
  fields := #[]
  methods := #[k0m0]
  instanceTypes := #[]
  staticTypes := #[]
  resolved := Array.replicate 124 none
  statics := none }

def pool1 : Array CpInfo := pool [(2, .class_ 4), (1, u "java/lang/Object"), (0, u "<init>"), (0, u "()V"), (0, .fieldref 8 9), (0, .class_ 10), (0, .nameAndType 11 12), (0, u "com/example/querymemo/querymemo/cache/Stripes"), (0, u "COUNT"), (0, u "I"), (0, .integer 2147483647), (0, .methodref 8 15), (0, .nameAndType 16 17), (0, u "newCells"), (0, u "()[J"), (0, .methodref 8 19), (0, .nameAndType 20 21), (0, u "cell"), (0, u "(I)I"), (0, .class_ 23), (0, u "com/example/querymemo/querymemo/cache/StripesNewCellsPinLaw"), (2, u "law"), (0, u "(IJ)Z")] 5

def k1m0 : Method := { name := "<init>", desc := "()V", sig := { parameters := [], returnType := none }, accessFlags := 2, code := none }
def k1c1 : Code := { maxStack := 4, maxLocals := 10, code := code, exceptionTable := #[], attributes := #[] }
def k1m1 : Method := { name := "law", desc := "(IJ)Z", sig := { parameters := [.int, .long], returnType := some .boolean }, accessFlags := 9, code := some k1c1 }
/-- com/example/querymemo/querymemo/cache/StripesNewCellsPinLaw -/
def k1 : Class := { plain "com/example/querymemo/querymemo/cache/StripesNewCellsPinLaw" (some 0) with
  accessFlags := 49
  interfaces := #[]
  cf := some (fileOf pool1 22 #[] #[{ accessFlags := 2, nameIndex := 5, descriptorIndex := 6, attributes := #[] }, { accessFlags := 9, nameIndex := 26, descriptorIndex := 27, attributes := #[] }] 49 2 #[] #[])
  fields := #[]
  methods := #[k1m0, k1m1]
  instanceTypes := #[]
  staticTypes := #[]
  resolved := Array.replicate 33 none
  statics := none }

def pool2 : Array CpInfo := pool [(2, .class_ 4), (1, u "java/lang/Object"), (0, u "<init>"), (0, u "()V"), (10, .fieldref 18 19), (0, .class_ 20), (0, .nameAndType 21 22), (0, u "com/example/querymemo/querymemo/cache/Stripes"), (0, u "COUNT"), (0, u "I"), (15, u "(I)I"), (6, u "LINE"), (5, u "newCells"), (0, u "()[J"), (0, u "cell")] 3

def k2m0 : Method := { name := "<init>", desc := "()V", sig := { parameters := [], returnType := none }, accessFlags := 2, code := none }
def k2c1 : Code := { maxStack := 3, maxLocals := 0, code := prog_22_method_3_code, exceptionTable := #[], attributes := #[] }
def k2m1 : Method := { name := "newCells", desc := "()[J", sig := { parameters := [], returnType := some (.array .long) }, accessFlags := 8, code := some k2c1 }
def k2c2 : Code := { maxStack := 3, maxLocals := 1, code := prog_22_method_4_code, exceptionTable := #[], attributes := #[] }
def k2m2 : Method := { name := "cell", desc := "(I)I", sig := { parameters := [.int], returnType := some .int }, accessFlags := 8, code := some k2c2 }
/-- com/example/querymemo/querymemo/cache/Stripes -/
def k2 : Class := { plain "com/example/querymemo/querymemo/cache/Stripes" (some 0) with
  accessFlags := 48
  interfaces := #[]
  cf := some (fileOf pool2 18 #[] #[{ accessFlags := 2, nameIndex := 5, descriptorIndex := 6, attributes := #[] }, { accessFlags := 8, nameIndex := 51, descriptorIndex := 52, attributes := #[] }, { accessFlags := 8, nameIndex := 53, descriptorIndex := 38, attributes := #[] }] 48 2 #[] #[{ accessFlags := 24, nameIndex := 21, descriptorIndex := 22, attributes := #[] }, { accessFlags := 24, nameIndex := 45, descriptorIndex := 22, attributes := #[] }])
  fields := #[{ name := "COUNT", type := .int, accessFlags := 24, slot := 0, constantValue := 0 }, { name := "LINE", type := .int, accessFlags := 24, slot := 1, constantValue := 0 }]
  methods := #[k2m0, k2m1, k2m2]
  instanceTypes := #[]
  staticTypes := #[.int, .int]
  resolved := Array.replicate 57 none
  statics := some 0 }

def pool3 : Array CpInfo := pool [(1, u "java/lang/Cloneable"), (0, .class_ 1), (0, u "java/lang/Object"), (0, .class_ 3)] 3

/-- java/lang/Cloneable -/
def k3 : Class := { plain "java/lang/Cloneable" (some 0) with
  accessFlags := 1537
  interfaces := #[]
  cf := some (fileOf pool3 2 #[] #[] 1537 4 #[] #[])
  fields := #[]
  methods := #[]
  instanceTypes := #[]
  staticTypes := #[]
  resolved := Array.replicate 8 none
  statics := none }

def pool4 : Array CpInfo := pool [(1, u "java/io/Serializable"), (0, .class_ 1), (0, u "java/lang/Object"), (0, .class_ 3)] 3

/-- java/io/Serializable -/
def k4 : Class := { plain "java/io/Serializable" (some 0) with
  accessFlags := 1537
  interfaces := #[]
  cf := some (fileOf pool4 2 #[] #[] 1537 4 #[] #[])
  fields := #[]
  methods := #[]
  instanceTypes := #[]
  staticTypes := #[]
  resolved := Array.replicate 8 none
  statics := none }

/-- the primitive byte -/
def k5 : Class := { plain "byte" none with kind := .primitive 'B', accessFlags := 0x411 }
/-- [B -/
def k6 : Class := { plain "[B" (some 0) with kind := .array 5 .byte, interfaces := #[3, 4], accessFlags := 1041 }

/-- the primitive int -/
def k7 : Class := { plain "int" none with kind := .primitive 'I', accessFlags := 0x411 }
/-- [I -/
def k8 : Class := { plain "[I" (some 0) with kind := .array 7 .int, interfaces := #[3, 4], accessFlags := 1041 }

/-- the primitive long -/
def k9 : Class := { plain "long" none with kind := .primitive 'J', accessFlags := 0x411 }
/-- [J -/
def k10 : Class := { plain "[J" (some 0) with kind := .array 9 .long, interfaces := #[3, 4], accessFlags := 1041 }

def heap : Heap := #[{ cls := 2, slots := #[.int 8, .int 0], vm := .statics 2 }]
def classes : Array Class := #[k0, k1, k2, k3, k4, k5, k6, k7, k8, k9, k10]
def interned : List (Array UInt16 × Addr) := []
def slotsUsed : Nat := 2
def theMethod : MethodId := ⟨1, 1⟩
def args0 : Array Value := #[.int 5, .long 7]
def aboutOver (below : List Frame) : State where
  vm := { classes := classes, interned := interned.toArray }
  heap := heap
  slotsUsed := slotsUsed
  threads := #[{ frames := .invoking theMethod args0 :: below }]
def below0 : List Frame := [.native { method := ⟨0, 0⟩, args := #[] }]
def about1 : State := aboutOver below0
def p0 : Program := .bare "" "" ""
def e0 : Env := launch0.env 0 0 0
theorem w_frames : about1.frames = Frame.invoking theMethod args0 :: below0 := rfl
set_option maxRecDepth 65536 in
theorem w_args : argsFit about1.vm theMethod args0 = true := by decide +kernel
set_option maxRecDepth 65536 in
theorem w_heap : heapFits about1 = true := by decide +kernel
set_option maxRecDepth 65536 in
theorem w_runnable : about1.curStatus? = some .runnable := by decide +kernel
set_option maxRecDepth 65536 in
theorem w_alone : about1.alone = true := by decide +kernel
set_option maxRecDepth 65536 in
theorem w_named : about1.methodNamed? x = some theMethod := by decide +kernel
set_option maxRecDepth 65536 in
theorem w_hears : about1.hears theMethod below0 = true := by decide +kernel
set_option maxRecDepth 65536 in
theorem w_ripe : about1.ripe theMethod args0 below0 = true := by decide +kernel
theorem w_running : about1.status = .running := rfl
set_option maxRecDepth 65536 in
theorem w_room : about1.hasRoom e0.platform room_1 = true :=
  launch0.hasRoom_least _ room_1 (by decide +kernel) (by decide +kernel) (by decide +kernel) (by decide +kernel) (by decide +kernel) (by decide +kernel)
theorem allAtoms_all (ts : List Jvm.Cond) (a : Array Jvm.Value) (st : Jvm.State) : (allAtoms ts).before a st = ts.all (fun c => c.before a st) := by
  induction ts with
  | nil => rfl
  | cons c t ih =>
    show (Jvm.Cond.and c (allAtoms t)).before a st = _
    rw [Jvm.Cond.before_and, ih, List.all_cons]
def words1 : List Jvm.Cond := Jvm.Cond.code x code maxLocals ret :: tables_1
/-- a 'code' word, met by the world's own term for the bytes: nothing is compared byte by byte -/
theorem code_word {y : MethodName} {bytes : ByteArray} {mx : Nat} {rt : Option FieldType} {a : Array Value} {s : State} {m : MethodId} {meth : Method} {c : Code} (h1 : s.methodNamed? y = some m) (h2 : s.vm.method? m = some meth) (h3 : meth.code = some c) (h4 : c.code = bytes)
    (h5 : (c.maxLocals == mx && c.exceptionTable.isEmpty && decide (c.maxStack ≤ mostOperands) && decide (meth.sig.returnType = rt) && !meth.locks && decide (parseMethodDescriptor y.desc = some meth.sig)) = true) : (Jvm.Cond.code y bytes mx rt).before a s = true := by
  simp only [Bool.and_eq_true, beq_iff_eq, Bool.not_eq_true', decide_eq_true_eq] at h5
  obtain ⟨⟨⟨⟨⟨g1, g2⟩, g3⟩, g4⟩, g5⟩, g6⟩ := h5
  simp [Cond.before, Cond.holds, Cond.value, h1, h2, h3, h4, g1, g2, g3, g4, g5, g6]
def isCode : Jvm.Cond → Bool
  | .code _ _ _ _ => true
  | _ => false
theorem all_split {L : List Jvm.Cond} {P : Jvm.Cond → Bool} (h1 : L.all (fun c => isCode c || P c) = true) (h2 : ∀ c ∈ L.filter isCode, P c = true) : L.all P = true := by
  refine List.all_eq_true.mpr fun c hc => ?_
  have h := List.all_eq_true.mp h1 c hc
  rcases Bool.eq_false_or_eq_true (isCode c) with hi | hi
  · exact h2 c (List.mem_filter.mpr ⟨hc, hi⟩)
  · simpa [hi] using h
set_option maxRecDepth 65536 in
theorem w_c0 : (Jvm.Cond.code x code maxLocals ret).before args0 about1 = true := code_word (m := ⟨1, 1⟩) (meth := k1m1) (c := k1c1) (by decide +kernel) rfl rfl rfl (by decide +kernel)
set_option maxRecDepth 65536 in
theorem w_c1 : (Jvm.Cond.code ({ cls := "com/example/querymemo/querymemo/cache/Stripes", name := "newCells", desc := "()[J" } : Jvm.MethodName) prog_22_method_3_code (0 : Nat) (Option.some (Jvm.ClassFile.FieldType.array Jvm.ClassFile.FieldType.long))).before args0 about1 = true := code_word (m := ⟨2, 1⟩) (meth := k2m1) (c := k2c1) (by decide +kernel) rfl rfl rfl (by decide +kernel)
set_option maxRecDepth 65536 in
theorem w_c2 : (Jvm.Cond.code ({ cls := "com/example/querymemo/querymemo/cache/Stripes", name := "cell", desc := "(I)I" } : Jvm.MethodName) prog_22_method_4_code (1 : Nat) (Option.some Jvm.ClassFile.FieldType.int)).before args0 about1 = true := code_word (m := ⟨2, 2⟩) (meth := k2m2) (c := k2c2) (by decide +kernel) rfl rfl rfl (by decide +kernel)
def codes1 : List Jvm.Cond := [Jvm.Cond.code x code maxLocals ret, Jvm.Cond.code ({ cls := "com/example/querymemo/querymemo/cache/Stripes", name := "newCells", desc := "()[J" } : Jvm.MethodName) prog_22_method_3_code (0 : Nat) (Option.some (Jvm.ClassFile.FieldType.array Jvm.ClassFile.FieldType.long)), Jvm.Cond.code ({ cls := "com/example/querymemo/querymemo/cache/Stripes", name := "cell", desc := "(I)I" } : Jvm.MethodName) prog_22_method_4_code (1 : Nat) (Option.some Jvm.ClassFile.FieldType.int)]
set_option maxRecDepth 65536 in
theorem codes_eq : words1.filter isCode = codes1 := rfl
theorem w_codes : ∀ c ∈ words1.filter isCode, c.before args0 about1 = true := by
  rw [codes_eq]
  intro c hc
  simp only [codes1, List.mem_cons, List.not_mem_nil, or_false] at hc
  rcases hc with rfl | rfl | rfl
  · exact w_c0
  · exact w_c1
  · exact w_c2
set_option maxRecDepth 65536 in
theorem w_t1 : words1.all (fun c => isCode c || c.before args0 about1) = true := by decide +kernel
theorem w_tables : (allAtoms (Jvm.Cond.code x code maxLocals ret :: tables_1)).before args0 about1 = true := by
  rw [allAtoms_all]
  show words1.all (fun c => c.before args0 about1) = true
  refine all_split ?_ w_codes
  rw [w_t1]
set_option maxRecDepth 65536 in
theorem w_case : (Jvm.Cond.and given_1 narrow_1).before args0 about1 = true := by decide +kernel
theorem w_applies : (headSpec (Jvm.Cond.code x code maxLocals ret :: tables_1) room_1).applies x e0.platform about1 = true :=
  (Spec.applies_iff w_frames).mpr ⟨w_running, w_runnable, w_alone, w_named, w_hears, w_ripe, w_room, w_tables⟩
theorem atStart : AtStart classFile x code maxLocals ret World_1 tables_1 room_1 Calls_1 rest_1 Pre_1 launch0 p0 e0 about1 theMethod args0 below0 :=
  ⟨lists_1, trivial, launch0.admits_env _ _ _, launch0.least_env, fairChoices_fair.cas, fairChoices_fair.clock, w_frames, w_args, w_heap, w_applies, trivial, trivial, w_case⟩
end start1
theorem witness_1 : WitnessClaimed_1 := ⟨start1.p0, start1.e0, start1.about1, start1.theMethod, start1.args0, start1.below0, start1.atStart⟩
end Jvm.Pilot.@@N@@

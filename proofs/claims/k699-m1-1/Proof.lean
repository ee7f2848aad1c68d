import JvmDerived
import JvmDerived.Pilot.@@N@@Statement
import JvmDerived.Pilot.@@N@@Code
set_option linter.unusedVariables false
set_option linter.unusedSimpArgs false
namespace Jvm.RoadKit
open Sem ClassFile Op Lib Jvm.Stand Jvm.Free Jvm.LawKit
section New
variable {p : Program} {l : Launch} {e : Env} {R : Room} {s : State} {m : MethodId} {args : Array Value} {below : List Frame} {meth : Method} {c : Code} {T : State} {locs : List Loc} {cells slots : Nat}
theorem retI (X : Stand p l e R s m args below meth c T locs cells slots) (hx : p.tables.exec = Jvm.exec) {pc : Nat} {Ls : Array Slot} {z : Int32} {rest : List Value} (hret : meth.sig.returnType = some .int) (hd : decode c.code pc = .ok (.ireturn, 1)) {fs : List Frame}
    (hl : ∀ (f : JFrame) (acts : List Action), f.method = m → f.locked = none → f.entered = [] → (doReturn e (T.setTop f) acts (some (.int z))).1 = T.setFrames fs) : Steps p.tables e below (T.setTop (mkF m pc Ls (.int z :: rest))) (T.setFrames fs) :=
  retOut X hx hret rfl (Or.inl ⟨rfl, Or.inl rfl, z, rfl⟩) hd hl
theorem own_lremM {g : JFrame} {target : State} (X : Stand p l e R s m args below meth c T locs cells slots) (hx : p.tables.exec = Jvm.exec) (hg : g.method = m) {x y : Int64} {rest : List Value} (hd : decode c.code g.pc = .ok (.lrem, 1)) (hs : g.stack = .long y :: .long x :: rest) (hy : y ≠ 0)
    (hr : Steps p.tables e below (T.setTop { g with pc := g.pc + 1, stack := .long (x % y) :: rest }) target) : Steps p.tables e below (T.setTop g) target := by
  have q : x - x / y * y = x % y := lrem_mod x y
  exact XS.lrem X.here hx hg hd hs hy (by rw [q]; exact hr)
theorem own_evInt {Z : State} {args : Array Value} {t : Term} {k : Int32} (h : (Jvm.Cond.eq t (.int k)).value args Z none Z [] = some true) : t.eval args Z none [] Z = some (.int k) := by
  obtain ⟨x, y, h1, h2, -, -⟩ := cmp_v (Or.inl h)
  have hy : y = .int k := Option.some.inj (h2.symm.trans (Term.int_eval k))
  subst hy
  have hx : x = .int k := by
    cases x <;> simp [Cond.value, h1, h2] at h ⊢
    exact h
  rw [h1, hx]
theorem own_selPriv {y : MethodName} {kI : Nat} (hI : (Jvm.Cond.instantiable y.cls kI).before args s = true) (hpriv : s.PrivateAt y) (hinst : (Jvm.Cond.instanceMethod y).before args s = true) (hy : y.cls ≠ "java/lang/invoke/MethodHandle" ∧ y.cls ≠ "java/lang/invoke/VarHandle") : (Jvm.Cond.selects y.cls y y).before args s = true := by
  obtain ⟨c, k, h1, h2, -, h4, -⟩ := Cond.instantiable_spec hI
  exact selects_self_of_private h1 h2 (Bool.or_eq_false_iff.mp h4).1 hpriv hinst hy
theorem own_since0 (s : State) : s.Since s.vm 0 := (State.WarmedH.refl s).since _
theorem own_irr32 (x : Int32) : ¬ (x < x) := Int32.lt_irrefl
theorem own_irr64 (x : Int64) : ¬ (x < x) := Int64.lt_irrefl
theorem own_fldInt {Z : State} {args : Array Value} {t : Term} {a : Addr} {C n d : String} {k : Int32} (ev : t.eval args Z none [] Z = some (.ref a)) (h : (Jvm.Cond.eq (.field t C n d) (.int k)).value args Z none Z [] = some true) : Fld Z Z.heap a C n d (.int k) := by
  obtain ⟨x, y, h1, h2, -, -⟩ := cmp_v (Or.inl h)
  have hy : y = .int k := Option.some.inj (h2.symm.trans (Term.int_eval k))
  subst hy
  have hx : x = .int k := by
    cases x <;> simp [Cond.value, h1, h2] at h ⊢
    exact h
  rw [fld_at ev] at h1
  exact Fld.start (hx ▸ h1)
end New
end Jvm.RoadKit
namespace Jvm.Pilot.@@N@@
open Jvm Jvm.ClassFile Sem Op Lib Jvm.Free Jvm.Stand Jvm.LawKit Jvm.RoadKit Bundle Jvm.Pilot.@@N@@.Jvm.D
theorem wd0 {a0 : Array Value} {Z : State} (hw : ∀ d ∈ tables_1, d.before a0 Z = true) : (Jvm.Cond.methodLink "com/example/typed_api_errors/typedapierrors/error/StatusClassOfPinLaw" (20 : Nat) ({ cls := "com/example/typed_api_errors/typedapierrors/error/StatusClass", name := "of", desc := "(I)Lcom/example/typed_api_errors/typedapierrors/error/StatusClass;" } : Jvm.MethodName)).before a0 Z = true := hw _ (List.mem_of_getElem? (i := 0) rfl)
theorem wd1 {a0 : Array Value} {Z : State} (hw : ∀ d ∈ tables_1, d.before a0 Z = true) : (Jvm.Cond.static ({ cls := "com/example/typed_api_errors/typedapierrors/error/StatusClass", name := "of", desc := "(I)Lcom/example/typed_api_errors/typedapierrors/error/StatusClass;" } : Jvm.MethodName)).before a0 Z = true := hw _ (List.mem_of_getElem? (i := 1) rfl)
theorem wd2 {a0 : Array Value} {Z : State} (hw : ∀ d ∈ tables_1, d.before a0 Z = true) : (Jvm.Cond.initialized "com/example/typed_api_errors/typedapierrors/error/StatusClass").before a0 Z = true := hw _ (List.mem_of_getElem? (i := 2) rfl)
theorem wd3 {a0 : Array Value} {Z : State} (hw : ∀ d ∈ tables_1, d.before a0 Z = true) : (Jvm.Cond.code ({ cls := "com/example/typed_api_errors/typedapierrors/error/StatusClass", name := "of", desc := "(I)Lcom/example/typed_api_errors/typedapierrors/error/StatusClass;" } : Jvm.MethodName) prog_11_method_4_code (2 : Nat) (Option.some (Jvm.ClassFile.FieldType.object "com/example/typed_api_errors/typedapierrors/error/StatusClass"))).before a0 Z = true := hw _ (List.mem_of_getElem? (i := 3) rfl)
theorem wd4 {a0 : Array Value} {Z : State} (hw : ∀ d ∈ tables_1, d.before a0 Z = true) : (Jvm.Cond.fieldLink "com/example/typed_api_errors/typedapierrors/error/StatusClass" (10 : Nat) "com/example/typed_api_errors/typedapierrors/error/StatusClass" "OTHER" "Lcom/example/typed_api_errors/typedapierrors/error/StatusClass;").before a0 Z = true := hw _ (List.mem_of_getElem? (i := 4) rfl)
theorem wd5 {a0 : Array Value} {Z : State} (hw : ∀ d ∈ tables_1, d.before a0 Z = true) : (Jvm.Cond.laysStatic "com/example/typed_api_errors/typedapierrors/error/StatusClass" "OTHER" "Lcom/example/typed_api_errors/typedapierrors/error/StatusClass;").before a0 Z = true := hw _ (List.mem_of_getElem? (i := 5) rfl)
theorem wd6 {a0 : Array Value} {Z : State} (hw : ∀ d ∈ tables_1, d.before a0 Z = true) : (Jvm.Cond.methodLink "com/example/typed_api_errors/typedapierrors/error/StatusClassOfPinLaw" (24 : Nat) ({ cls := "com/example/typed_api_errors/typedapierrors/error/StatusClassOfPinLaw", name := "expected", desc := "(I)Lcom/example/typed_api_errors/typedapierrors/error/StatusClass;" } : Jvm.MethodName)).before a0 Z = true := hw _ (List.mem_of_getElem? (i := 6) rfl)
theorem wd7 {a0 : Array Value} {Z : State} (hw : ∀ d ∈ tables_1, d.before a0 Z = true) : (Jvm.Cond.static ({ cls := "com/example/typed_api_errors/typedapierrors/error/StatusClassOfPinLaw", name := "expected", desc := "(I)Lcom/example/typed_api_errors/typedapierrors/error/StatusClass;" } : Jvm.MethodName)).before a0 Z = true := hw _ (List.mem_of_getElem? (i := 7) rfl)
theorem wd8 {a0 : Array Value} {Z : State} (hw : ∀ d ∈ tables_1, d.before a0 Z = true) : (Jvm.Cond.initialized "com/example/typed_api_errors/typedapierrors/error/StatusClassOfPinLaw").before a0 Z = true := hw _ (List.mem_of_getElem? (i := 8) rfl)
theorem wd9 {a0 : Array Value} {Z : State} (hw : ∀ d ∈ tables_1, d.before a0 Z = true) : (Jvm.Cond.code ({ cls := "com/example/typed_api_errors/typedapierrors/error/StatusClassOfPinLaw", name := "expected", desc := "(I)Lcom/example/typed_api_errors/typedapierrors/error/StatusClass;" } : Jvm.MethodName) method_2_code (2 : Nat) (Option.some (Jvm.ClassFile.FieldType.object "com/example/typed_api_errors/typedapierrors/error/StatusClass"))).before a0 Z = true := hw _ (List.mem_of_getElem? (i := 9) rfl)
theorem wd10 {a0 : Array Value} {Z : State} (hw : ∀ d ∈ tables_1, d.before a0 Z = true) : (Jvm.Cond.fieldLink "com/example/typed_api_errors/typedapierrors/error/StatusClassOfPinLaw" (16 : Nat) "com/example/typed_api_errors/typedapierrors/error/StatusClass" "OTHER" "Lcom/example/typed_api_errors/typedapierrors/error/StatusClass;").before a0 Z = true := hw _ (List.mem_of_getElem? (i := 10) rfl)
theorem wd11 {a0 : Array Value} {Z : State} (hw : ∀ d ∈ tables_1, d.before a0 Z = true) : (Jvm.Cond.fieldLink "com/example/typed_api_errors/typedapierrors/error/StatusClass" (3 : Nat) "com/example/typed_api_errors/typedapierrors/error/StatusClass" "CLIENT_ERROR" "Lcom/example/typed_api_errors/typedapierrors/error/StatusClass;").before a0 Z = true := hw _ (List.mem_of_getElem? (i := 11) rfl)
theorem wd12 {a0 : Array Value} {Z : State} (hw : ∀ d ∈ tables_1, d.before a0 Z = true) : (Jvm.Cond.laysStatic "com/example/typed_api_errors/typedapierrors/error/StatusClass" "CLIENT_ERROR" "Lcom/example/typed_api_errors/typedapierrors/error/StatusClass;").before a0 Z = true := hw _ (List.mem_of_getElem? (i := 12) rfl)
theorem wd13 {a0 : Array Value} {Z : State} (hw : ∀ d ∈ tables_1, d.before a0 Z = true) : (Jvm.Cond.fieldLink "com/example/typed_api_errors/typedapierrors/error/StatusClassOfPinLaw" (7 : Nat) "com/example/typed_api_errors/typedapierrors/error/StatusClass" "CLIENT_ERROR" "Lcom/example/typed_api_errors/typedapierrors/error/StatusClass;").before a0 Z = true := hw _ (List.mem_of_getElem? (i := 13) rfl)
theorem wd14 {a0 : Array Value} {Z : State} (hw : ∀ d ∈ tables_1, d.before a0 Z = true) : (Jvm.Cond.constant "com/example/typed_api_errors/typedapierrors/error/StatusClassOfPinLaw" (19 : Nat) (2147483647 : Int32)).before a0 Z = true := hw _ (List.mem_of_getElem? (i := 14) rfl)
theorem wd15 {a0 : Array Value} {Z : State} (hw : ∀ d ∈ tables_1, d.before a0 Z = true) : (Jvm.Cond.fieldLink "com/example/typed_api_errors/typedapierrors/error/StatusClass" (7 : Nat) "com/example/typed_api_errors/typedapierrors/error/StatusClass" "SERVER_ERROR" "Lcom/example/typed_api_errors/typedapierrors/error/StatusClass;").before a0 Z = true := hw _ (List.mem_of_getElem? (i := 15) rfl)
theorem wd16 {a0 : Array Value} {Z : State} (hw : ∀ d ∈ tables_1, d.before a0 Z = true) : (Jvm.Cond.laysStatic "com/example/typed_api_errors/typedapierrors/error/StatusClass" "SERVER_ERROR" "Lcom/example/typed_api_errors/typedapierrors/error/StatusClass;").before a0 Z = true := hw _ (List.mem_of_getElem? (i := 16) rfl)
theorem wd17 {a0 : Array Value} {Z : State} (hw : ∀ d ∈ tables_1, d.before a0 Z = true) : (Jvm.Cond.fieldLink "com/example/typed_api_errors/typedapierrors/error/StatusClassOfPinLaw" (13 : Nat) "com/example/typed_api_errors/typedapierrors/error/StatusClass" "SERVER_ERROR" "Lcom/example/typed_api_errors/typedapierrors/error/StatusClass;").before a0 Z = true := hw _ (List.mem_of_getElem? (i := 17) rfl)
def own_cls (x : Int32) (wc wv wo : Addr) : Addr := if 400 ≤ x.toInt ∧ x.toInt ≤ 499 then wc else if 500 ≤ x.toInt ∧ x.toInt ≤ 599 then wv else wo
theorem ef_Of (m : MethodId) (x0 : Int32) : entryFrame m #[(.int x0)] 2 = mkF m 0 #[.val (.int x0), .unset] [] := by first | (simp [entryFrame, mkF, argsToLocals, Value.category]; done) | rfl
theorem pn_com_example_typed_api_errors_typedapierrors_error_StatusClass : plainName "com/example/typed_api_errors/typedapierrors/error/StatusClass" = true := by first | (simp [plainName, overriddenIn]; done) | decide +kernel
theorem dd_prog_11_method_4_code_0 : decode prog_11_method_4_code 0 = .ok (.iload_n 0, 1) := by decide +kernel
theorem dd_prog_11_method_4_code_1 : decode prog_11_method_4_code 1 = .ok (.sipush 400, 3) := by decide +kernel
theorem dd_prog_11_method_4_code_4 : decode prog_11_method_4_code 4 = .ok (.if_icmp .lt 17, 3) := by decide +kernel
theorem dd_prog_11_method_4_code_21 : decode prog_11_method_4_code 21 = .ok (.iload_n 0, 1) := by decide +kernel
theorem dd_prog_11_method_4_code_22 : decode prog_11_method_4_code 22 = .ok (.sipush 500, 3) := by decide +kernel
theorem dd_prog_11_method_4_code_25 : decode prog_11_method_4_code 25 = .ok (.if_icmp .lt 17, 3) := by decide +kernel
theorem dd_prog_11_method_4_code_42 : decode prog_11_method_4_code 42 = .ok (.getstatic 10, 3) := by decide +kernel
theorem dd_prog_11_method_4_code_45 : decode prog_11_method_4_code 45 = .ok (.astore_n 1, 1) := by decide +kernel
theorem dd_prog_11_method_4_code_46 : decode prog_11_method_4_code 46 = .ok (.aload_n 1, 1) := by decide +kernel
theorem dd_prog_11_method_4_code_47 : decode prog_11_method_4_code 47 = .ok (.areturn, 1) := by decide +kernel
theorem dd_prog_11_method_4_code_28 : decode prog_11_method_4_code 28 = .ok (.iload_n 0, 1) := by decide +kernel
theorem dd_prog_11_method_4_code_29 : decode prog_11_method_4_code 29 = .ok (.sipush 599, 3) := by decide +kernel
theorem dd_prog_11_method_4_code_32 : decode prog_11_method_4_code 32 = .ok (.if_icmp .gt 10, 3) := by decide +kernel
theorem dd_prog_11_method_4_code_35 : decode prog_11_method_4_code 35 = .ok (.getstatic 7, 3) := by decide +kernel
theorem dd_prog_11_method_4_code_38 : decode prog_11_method_4_code 38 = .ok (.astore_n 1, 1) := by decide +kernel
theorem dd_prog_11_method_4_code_39 : decode prog_11_method_4_code 39 = .ok (.goto 7, 3) := by decide +kernel
theorem dd_prog_11_method_4_code_7 : decode prog_11_method_4_code 7 = .ok (.iload_n 0, 1) := by decide +kernel
theorem dd_prog_11_method_4_code_8 : decode prog_11_method_4_code 8 = .ok (.sipush 499, 3) := by decide +kernel
theorem dd_prog_11_method_4_code_11 : decode prog_11_method_4_code 11 = .ok (.if_icmp .gt 10, 3) := by decide +kernel
theorem dd_prog_11_method_4_code_14 : decode prog_11_method_4_code 14 = .ok (.getstatic 3, 3) := by decide +kernel
theorem dd_prog_11_method_4_code_17 : decode prog_11_method_4_code 17 = .ok (.astore_n 1, 1) := by decide +kernel
theorem dd_prog_11_method_4_code_18 : decode prog_11_method_4_code 18 = .ok (.goto 28, 3) := by decide +kernel
def QOf (Z : State) (x0 : Int32) (wc : Addr) (wv : Addr) (wo : Addr) (h0 : Heap) (n0 : Nat) (v : Option Value) (h : Heap) (L : List Loc) : Prop := v = some (.ref (own_cls x0 wc wv wo)) ∧ Fr n0 L ∧ h = h0
set_option maxRecDepth 65536 in
set_option maxHeartbeats 40000000 in
theorem rmOf (l : Launch) (Z : State) (a0 : Array Value) (hw : ∀ d ∈ tables_1, d.before a0 Z = true) (ws : List Jvm.Cond) (x0 : Int32) (wc : Addr) (wv : Addr) (wo : Addr) (h0 : Heap) (n0 : Nat) (Z0 : n0 ≤ h0.size) (S_wc : Sta Z h0 "com/example/typed_api_errors/typedapierrors/error/StatusClass" "CLIENT_ERROR" "Lcom/example/typed_api_errors/typedapierrors/error/StatusClass;" (.ref wc)) (S_wv : Sta Z h0 "com/example/typed_api_errors/typedapierrors/error/StatusClass" "SERVER_ERROR" "Lcom/example/typed_api_errors/typedapierrors/error/StatusClass;" (.ref wv)) (S_wo : Sta Z h0 "com/example/typed_api_errors/typedapierrors/error/StatusClass" "OTHER" "Lcom/example/typed_api_errors/typedapierrors/error/StatusClass;" (.ref wo)) :
    MetFree l (⟨"com/example/typed_api_errors/typedapierrors/error/StatusClass", "of", "(I)Lcom/example/typed_api_errors/typedapierrors/error/StatusClass;"⟩ : MethodName) (head1 (Jvm.Cond.code (⟨"com/example/typed_api_errors/typedapierrors/error/StatusClass", "of", "(I)Lcom/example/typed_api_errors/typedapierrors/error/StatusClass;"⟩ : MethodName) prog_11_method_4_code 2 (some (.object "com/example/typed_api_errors/typedapierrors/error/StatusClass")) :: ws) ({ frames := 0, cells := 0, slots := 0, locals := 0 } : Room)) (fun a U => a = #[(.int x0)] ∧ Z.Warmed39 U.vm ∧ U.heap = h0) (fun _ _ _ _ _ => True) (fun _ U o U' => ∃ v L, o = .returned v ∧ QOf Z x0 wc wv wo h0 n0 v U'.heap L ∧ FrameEnd U o U' L ({ frames := 0, cells := 0, slots := 0, locals := 0 } : Room).cells ({ frames := 0, cells := 0, slots := 0, locals := 0 } : Room).slots) := by
  refine MetFree.of_bodySF (plainFor_of_name pn_com_example_typed_api_errors_typedapierrors_error_StatusClass) hisR ?_
  intro p e s m args below meth c s₁ Bd hml0 hP hK
  obtain ⟨rfl, hZ, hh⟩ := hP
  have hx := Bd.exec
  have hby := Bd.bytes
  have hml : c.maxLocals = 2 := hml0
  have hown : s.vm.findClass "com/example/typed_api_errors/typedapierrors/error/StatusClass" = some m.cls := findClass_of_methodNamed Bd.named
  have hnm := (name_of_methodNamed Bd.named Bd.method).1
  have X0 : Stand p l e ({ frames := 0, cells := 0, slots := 0, locals := 0 } : Room) s m #[(.int x0)] below meth c s₁ [] 0 0 := Stand.of_body Bd
  have e0 : s₁.heap = h0 := by rw [← hh, Bd.state]; rfl
  have N0 := Fr.nil n0
  have pre0 : ∀ t, Steps p.tables e below (s₁.setTop (mkF m 0 #[.val (.int x0), .unset] [])) t → Steps p.tables e below (s₁.setTop (entryFrame m #[(.int x0)] 2)) t := fun t k => castTop (ef_Of m x0) k
  have k1 : ∀ t, Steps p.tables e below (s₁.setTop (mkF m 4 #[.val (.int x0), .unset] [(.int (400 : Int32)), (.int x0)])) t → Steps p.tables e below (s₁.setTop (entryFrame m #[(.int x0)] 2)) t := by
    intro t kt
    refine pre0 t ?_
    show Steps p.tables e below (s₁.setTop (mkF m 0 #[.val (.int x0), .unset] [])) _
    refine XS.iloadN X0.here hx rfl (hb hby dd_prog_11_method_4_code_0) rfl ?_
    show Steps p.tables e below (s₁.setTop (mkF m 1 #[.val (.int x0), .unset] [(.int x0)])) _
    refine XS.sipush X0.here hx rfl (hb hby dd_prog_11_method_4_code_1) ?_
    exact kt
  by_cases hc2 : x0 < (400 : Int32)
  · skip
    have k3 : ∀ t, Steps p.tables e below (s₁.setTop (mkF m 25 #[.val (.int x0), .unset] [(.int (500 : Int32)), (.int x0)])) t → Steps p.tables e below (s₁.setTop (entryFrame m #[(.int x0)] 2)) t := by
      intro t kt
      refine k1 t ?_
      show Steps p.tables e below (s₁.setTop (mkF m 4 #[.val (.int x0), .unset] [(.int (400 : Int32)), (.int x0)])) _
      refine XS.icmpYes X0.here hx rfl (pc0 := 4) (pc' := 21) rfl (hb hby dd_prog_11_method_4_code_4) rfl (tlt hc2).1 (by decide) (by decide) ?_
      show Steps p.tables e below (s₁.setTop (mkF m 21 #[.val (.int x0), .unset] [])) _
      refine XS.iloadN X0.here hx rfl (hb hby dd_prog_11_method_4_code_21) rfl ?_
      show Steps p.tables e below (s₁.setTop (mkF m 22 #[.val (.int x0), .unset] [(.int x0)])) _
      refine XS.sipush X0.here hx rfl (hb hby dd_prog_11_method_4_code_22) ?_
      exact kt
    by_cases hc4 : x0 < (500 : Int32)
    · skip
      obtain ⟨T5, X5, e5, st5⟩ := getS2 X0 hx hZ hown (host := "") (Or.inl (wd4 hw)) Via.refl e0 S_wo (g := (mkF m 42 #[.val (.int x0), .unset] [])) rfl (hb hby dd_prog_11_method_4_code_42)
      obtain ⟨lfs, lhr, lhrun, lhended, lhW, lhsame⟩ := X5.leave (v := some (.ref wo)) (fun h => by rw [Bd.returns] at h; cases h)
      refine ⟨_, _, k3 _ ?_, lhrun, lhended, _, _, rfl, ?_, ⟨_, rfl⟩, lhW, lhsame.mono (by decide) (by decide)⟩
      · skip
        show Steps p.tables e below (s₁.setTop (mkF m 25 #[.val (.int x0), .unset] [(.int (500 : Int32)), (.int x0)])) _
        refine XS.icmpYes X0.here hx rfl (pc0 := 25) (pc' := 42) rfl (hb hby dd_prog_11_method_4_code_25) rfl (tlt hc4).1 (by decide) (by decide) ?_
        show Steps p.tables e below (s₁.setTop (mkF m 42 #[.val (.int x0), .unset] [])) _
        refine st5 _ ?_
        show Steps p.tables e below (T5.setTop (mkF m 45 #[.val (.int x0), .unset] [(.ref wo)])) _
        refine XS.astoreN X5.here hx rfl (hb hby dd_prog_11_method_4_code_45) rfl rfl (l' := #[.val (.int x0), .val (.ref wo)]) rfl ?_
        show Steps p.tables e below (T5.setTop (mkF m 46 #[.val (.int x0), .val (.ref wo)] [])) _
        refine XS.aloadN X5.here hx rfl (hb hby dd_prog_11_method_4_code_46) rfl rfl ?_
        show Steps p.tables e below (T5.setTop (mkF m 47 #[.val (.int x0), .val (.ref wo)] [(.ref wo)])) _
        exact retOut X5 hx Bd.returns rfl (Or.inr (Or.inr (Or.inr (Or.inr ⟨rfl, rfl, rfl⟩)))) (hb hby dd_prog_11_method_4_code_47) lhr
      · skip
        show QOf Z x0 wc wv wo h0 n0 _ T5.heap _
        rw [e5]
        refine ⟨?_, N0, rfl⟩
        have ar0 : x0.toInt < (400 : Int) := Int32.lt_iff_toInt_lt.mp hc2
        have ar1 : x0.toInt < (500 : Int) := Int32.lt_iff_toInt_lt.mp hc4
        have q : own_cls x0 wc wv wo = wo := by
          unfold own_cls
          (repeat' split) <;> first | rfl | omega
        rw [q]
    · skip
      have k6 : ∀ t, Steps p.tables e below (s₁.setTop (mkF m 32 #[.val (.int x0), .unset] [(.int (599 : Int32)), (.int x0)])) t → Steps p.tables e below (s₁.setTop (entryFrame m #[(.int x0)] 2)) t := by
        intro t kt
        refine k3 t ?_
        show Steps p.tables e below (s₁.setTop (mkF m 25 #[.val (.int x0), .unset] [(.int (500 : Int32)), (.int x0)])) _
        refine XS.icmpNo X0.here hx rfl (hb hby dd_prog_11_method_4_code_25) rfl (flt hc4).1 ?_
        show Steps p.tables e below (s₁.setTop (mkF m 28 #[.val (.int x0), .unset] [])) _
        refine XS.iloadN X0.here hx rfl (hb hby dd_prog_11_method_4_code_28) rfl ?_
        show Steps p.tables e below (s₁.setTop (mkF m 29 #[.val (.int x0), .unset] [(.int x0)])) _
        refine XS.sipush X0.here hx rfl (hb hby dd_prog_11_method_4_code_29) ?_
        exact kt
      by_cases hc7 : (599 : Int32) < x0
      · skip
        obtain ⟨T8, X8, e8, st8⟩ := getS2 X0 hx hZ hown (host := "") (Or.inl (wd4 hw)) Via.refl e0 S_wo (g := (mkF m 42 #[.val (.int x0), .unset] [])) rfl (hb hby dd_prog_11_method_4_code_42)
        obtain ⟨lfs, lhr, lhrun, lhended, lhW, lhsame⟩ := X8.leave (v := some (.ref wo)) (fun h => by rw [Bd.returns] at h; cases h)
        refine ⟨_, _, k6 _ ?_, lhrun, lhended, _, _, rfl, ?_, ⟨_, rfl⟩, lhW, lhsame.mono (by decide) (by decide)⟩
        · skip
          show Steps p.tables e below (s₁.setTop (mkF m 32 #[.val (.int x0), .unset] [(.int (599 : Int32)), (.int x0)])) _
          refine XS.icmpYes X0.here hx rfl (pc0 := 32) (pc' := 42) rfl (hb hby dd_prog_11_method_4_code_32) rfl (tlt hc7).2.2.1 (by decide) (by decide) ?_
          show Steps p.tables e below (s₁.setTop (mkF m 42 #[.val (.int x0), .unset] [])) _
          refine st8 _ ?_
          show Steps p.tables e below (T8.setTop (mkF m 45 #[.val (.int x0), .unset] [(.ref wo)])) _
          refine XS.astoreN X8.here hx rfl (hb hby dd_prog_11_method_4_code_45) rfl rfl (l' := #[.val (.int x0), .val (.ref wo)]) rfl ?_
          show Steps p.tables e below (T8.setTop (mkF m 46 #[.val (.int x0), .val (.ref wo)] [])) _
          refine XS.aloadN X8.here hx rfl (hb hby dd_prog_11_method_4_code_46) rfl rfl ?_
          show Steps p.tables e below (T8.setTop (mkF m 47 #[.val (.int x0), .val (.ref wo)] [(.ref wo)])) _
          exact retOut X8 hx Bd.returns rfl (Or.inr (Or.inr (Or.inr (Or.inr ⟨rfl, rfl, rfl⟩)))) (hb hby dd_prog_11_method_4_code_47) lhr
        · skip
          show QOf Z x0 wc wv wo h0 n0 _ T8.heap _
          rw [e8]
          refine ⟨?_, N0, rfl⟩
          have ar0 : x0.toInt < (400 : Int) := Int32.lt_iff_toInt_lt.mp hc2
          have ar1 : ¬ (x0.toInt < (500 : Int)) := fun q => hc4 (Int32.lt_iff_toInt_lt.mpr q)
          have ar2 : (599 : Int) < x0.toInt := Int32.lt_iff_toInt_lt.mp hc7
          have q : own_cls x0 wc wv wo = wo := by
            unfold own_cls
            (repeat' split) <;> first | rfl | omega
          rw [q]
      · skip
        obtain ⟨T9, X9, e9, st9⟩ := getS2 X0 hx hZ hown (host := "") (Or.inl (wd15 hw)) Via.refl e0 S_wv (g := (mkF m 35 #[.val (.int x0), .unset] [])) rfl (hb hby dd_prog_11_method_4_code_35)
        obtain ⟨lfs, lhr, lhrun, lhended, lhW, lhsame⟩ := X9.leave (v := some (.ref wv)) (fun h => by rw [Bd.returns] at h; cases h)
        refine ⟨_, _, k6 _ ?_, lhrun, lhended, _, _, rfl, ?_, ⟨_, rfl⟩, lhW, lhsame.mono (by decide) (by decide)⟩
        · skip
          show Steps p.tables e below (s₁.setTop (mkF m 32 #[.val (.int x0), .unset] [(.int (599 : Int32)), (.int x0)])) _
          refine XS.icmpNo X0.here hx rfl (hb hby dd_prog_11_method_4_code_32) rfl (flt hc7).2.2.1 ?_
          show Steps p.tables e below (s₁.setTop (mkF m 35 #[.val (.int x0), .unset] [])) _
          refine st9 _ ?_
          show Steps p.tables e below (T9.setTop (mkF m 38 #[.val (.int x0), .unset] [(.ref wv)])) _
          refine XS.astoreN X9.here hx rfl (hb hby dd_prog_11_method_4_code_38) rfl rfl (l' := #[.val (.int x0), .val (.ref wv)]) rfl ?_
          show Steps p.tables e below (T9.setTop (mkF m 39 #[.val (.int x0), .val (.ref wv)] [])) _
          refine XS.goto X9.here hx rfl (pc0 := 39) (pc' := 46) rfl (hb hby dd_prog_11_method_4_code_39) (by decide) (by decide) ?_
          show Steps p.tables e below (T9.setTop (mkF m 46 #[.val (.int x0), .val (.ref wv)] [])) _
          refine XS.aloadN X9.here hx rfl (hb hby dd_prog_11_method_4_code_46) rfl rfl ?_
          show Steps p.tables e below (T9.setTop (mkF m 47 #[.val (.int x0), .val (.ref wv)] [(.ref wv)])) _
          exact retOut X9 hx Bd.returns rfl (Or.inr (Or.inr (Or.inr (Or.inr ⟨rfl, rfl, rfl⟩)))) (hb hby dd_prog_11_method_4_code_47) lhr
        · skip
          show QOf Z x0 wc wv wo h0 n0 _ T9.heap _
          rw [e9]
          refine ⟨?_, N0, rfl⟩
          have ar0 : x0.toInt < (400 : Int) := Int32.lt_iff_toInt_lt.mp hc2
          have ar1 : ¬ (x0.toInt < (500 : Int)) := fun q => hc4 (Int32.lt_iff_toInt_lt.mpr q)
          have ar2 : ¬ ((599 : Int) < x0.toInt) := fun q => hc7 (Int32.lt_iff_toInt_lt.mpr q)
          have q : own_cls x0 wc wv wo = wv := by
            unfold own_cls
            (repeat' split) <;> first | rfl | omega
          rw [q]
  · skip
    have k10 : ∀ t, Steps p.tables e below (s₁.setTop (mkF m 11 #[.val (.int x0), .unset] [(.int (499 : Int32)), (.int x0)])) t → Steps p.tables e below (s₁.setTop (entryFrame m #[(.int x0)] 2)) t := by
      intro t kt
      refine k1 t ?_
      show Steps p.tables e below (s₁.setTop (mkF m 4 #[.val (.int x0), .unset] [(.int (400 : Int32)), (.int x0)])) _
      refine XS.icmpNo X0.here hx rfl (hb hby dd_prog_11_method_4_code_4) rfl (flt hc2).1 ?_
      show Steps p.tables e below (s₁.setTop (mkF m 7 #[.val (.int x0), .unset] [])) _
      refine XS.iloadN X0.here hx rfl (hb hby dd_prog_11_method_4_code_7) rfl ?_
      show Steps p.tables e below (s₁.setTop (mkF m 8 #[.val (.int x0), .unset] [(.int x0)])) _
      refine XS.sipush X0.here hx rfl (hb hby dd_prog_11_method_4_code_8) ?_
      exact kt
    by_cases hc11 : (499 : Int32) < x0
    · skip
      have k12 : ∀ t, Steps p.tables e below (s₁.setTop (mkF m 25 #[.val (.int x0), .unset] [(.int (500 : Int32)), (.int x0)])) t → Steps p.tables e below (s₁.setTop (entryFrame m #[(.int x0)] 2)) t := by
        intro t kt
        refine k10 t ?_
        show Steps p.tables e below (s₁.setTop (mkF m 11 #[.val (.int x0), .unset] [(.int (499 : Int32)), (.int x0)])) _
        refine XS.icmpYes X0.here hx rfl (pc0 := 11) (pc' := 21) rfl (hb hby dd_prog_11_method_4_code_11) rfl (tlt hc11).2.2.1 (by decide) (by decide) ?_
        show Steps p.tables e below (s₁.setTop (mkF m 21 #[.val (.int x0), .unset] [])) _
        refine XS.iloadN X0.here hx rfl (hb hby dd_prog_11_method_4_code_21) rfl ?_
        show Steps p.tables e below (s₁.setTop (mkF m 22 #[.val (.int x0), .unset] [(.int x0)])) _
        refine XS.sipush X0.here hx rfl (hb hby dd_prog_11_method_4_code_22) ?_
        exact kt
      by_cases hc13 : x0 < (500 : Int32)
      · skip
        obtain ⟨T14, X14, e14, st14⟩ := getS2 X0 hx hZ hown (host := "") (Or.inl (wd4 hw)) Via.refl e0 S_wo (g := (mkF m 42 #[.val (.int x0), .unset] [])) rfl (hb hby dd_prog_11_method_4_code_42)
        obtain ⟨lfs, lhr, lhrun, lhended, lhW, lhsame⟩ := X14.leave (v := some (.ref wo)) (fun h => by rw [Bd.returns] at h; cases h)
        refine ⟨_, _, k12 _ ?_, lhrun, lhended, _, _, rfl, ?_, ⟨_, rfl⟩, lhW, lhsame.mono (by decide) (by decide)⟩
        · skip
          show Steps p.tables e below (s₁.setTop (mkF m 25 #[.val (.int x0), .unset] [(.int (500 : Int32)), (.int x0)])) _
          refine XS.icmpYes X0.here hx rfl (pc0 := 25) (pc' := 42) rfl (hb hby dd_prog_11_method_4_code_25) rfl (tlt hc13).1 (by decide) (by decide) ?_
          show Steps p.tables e below (s₁.setTop (mkF m 42 #[.val (.int x0), .unset] [])) _
          refine st14 _ ?_
          show Steps p.tables e below (T14.setTop (mkF m 45 #[.val (.int x0), .unset] [(.ref wo)])) _
          refine XS.astoreN X14.here hx rfl (hb hby dd_prog_11_method_4_code_45) rfl rfl (l' := #[.val (.int x0), .val (.ref wo)]) rfl ?_
          show Steps p.tables e below (T14.setTop (mkF m 46 #[.val (.int x0), .val (.ref wo)] [])) _
          refine XS.aloadN X14.here hx rfl (hb hby dd_prog_11_method_4_code_46) rfl rfl ?_
          show Steps p.tables e below (T14.setTop (mkF m 47 #[.val (.int x0), .val (.ref wo)] [(.ref wo)])) _
          exact retOut X14 hx Bd.returns rfl (Or.inr (Or.inr (Or.inr (Or.inr ⟨rfl, rfl, rfl⟩)))) (hb hby dd_prog_11_method_4_code_47) lhr
        · skip
          show QOf Z x0 wc wv wo h0 n0 _ T14.heap _
          rw [e14]
          refine ⟨?_, N0, rfl⟩
          have ar0 : ¬ (x0.toInt < (400 : Int)) := fun q => hc2 (Int32.lt_iff_toInt_lt.mpr q)
          have ar1 : (499 : Int) < x0.toInt := Int32.lt_iff_toInt_lt.mp hc11
          have ar2 : x0.toInt < (500 : Int) := Int32.lt_iff_toInt_lt.mp hc13
          have q : own_cls x0 wc wv wo = wo := by
            unfold own_cls
            (repeat' split) <;> first | rfl | omega
          rw [q]
      · skip
        have k15 : ∀ t, Steps p.tables e below (s₁.setTop (mkF m 32 #[.val (.int x0), .unset] [(.int (599 : Int32)), (.int x0)])) t → Steps p.tables e below (s₁.setTop (entryFrame m #[(.int x0)] 2)) t := by
          intro t kt
          refine k12 t ?_
          show Steps p.tables e below (s₁.setTop (mkF m 25 #[.val (.int x0), .unset] [(.int (500 : Int32)), (.int x0)])) _
          refine XS.icmpNo X0.here hx rfl (hb hby dd_prog_11_method_4_code_25) rfl (flt hc13).1 ?_
          show Steps p.tables e below (s₁.setTop (mkF m 28 #[.val (.int x0), .unset] [])) _
          refine XS.iloadN X0.here hx rfl (hb hby dd_prog_11_method_4_code_28) rfl ?_
          show Steps p.tables e below (s₁.setTop (mkF m 29 #[.val (.int x0), .unset] [(.int x0)])) _
          refine XS.sipush X0.here hx rfl (hb hby dd_prog_11_method_4_code_29) ?_
          exact kt
        by_cases hc16 : (599 : Int32) < x0
        · skip
          obtain ⟨T17, X17, e17, st17⟩ := getS2 X0 hx hZ hown (host := "") (Or.inl (wd4 hw)) Via.refl e0 S_wo (g := (mkF m 42 #[.val (.int x0), .unset] [])) rfl (hb hby dd_prog_11_method_4_code_42)
          obtain ⟨lfs, lhr, lhrun, lhended, lhW, lhsame⟩ := X17.leave (v := some (.ref wo)) (fun h => by rw [Bd.returns] at h; cases h)
          refine ⟨_, _, k15 _ ?_, lhrun, lhended, _, _, rfl, ?_, ⟨_, rfl⟩, lhW, lhsame.mono (by decide) (by decide)⟩
          · skip
            show Steps p.tables e below (s₁.setTop (mkF m 32 #[.val (.int x0), .unset] [(.int (599 : Int32)), (.int x0)])) _
            refine XS.icmpYes X0.here hx rfl (pc0 := 32) (pc' := 42) rfl (hb hby dd_prog_11_method_4_code_32) rfl (tlt hc16).2.2.1 (by decide) (by decide) ?_
            show Steps p.tables e below (s₁.setTop (mkF m 42 #[.val (.int x0), .unset] [])) _
            refine st17 _ ?_
            show Steps p.tables e below (T17.setTop (mkF m 45 #[.val (.int x0), .unset] [(.ref wo)])) _
            refine XS.astoreN X17.here hx rfl (hb hby dd_prog_11_method_4_code_45) rfl rfl (l' := #[.val (.int x0), .val (.ref wo)]) rfl ?_
            show Steps p.tables e below (T17.setTop (mkF m 46 #[.val (.int x0), .val (.ref wo)] [])) _
            refine XS.aloadN X17.here hx rfl (hb hby dd_prog_11_method_4_code_46) rfl rfl ?_
            show Steps p.tables e below (T17.setTop (mkF m 47 #[.val (.int x0), .val (.ref wo)] [(.ref wo)])) _
            exact retOut X17 hx Bd.returns rfl (Or.inr (Or.inr (Or.inr (Or.inr ⟨rfl, rfl, rfl⟩)))) (hb hby dd_prog_11_method_4_code_47) lhr
          · skip
            show QOf Z x0 wc wv wo h0 n0 _ T17.heap _
            rw [e17]
            refine ⟨?_, N0, rfl⟩
            have ar0 : ¬ (x0.toInt < (400 : Int)) := fun q => hc2 (Int32.lt_iff_toInt_lt.mpr q)
            have ar1 : (499 : Int) < x0.toInt := Int32.lt_iff_toInt_lt.mp hc11
            have ar2 : ¬ (x0.toInt < (500 : Int)) := fun q => hc13 (Int32.lt_iff_toInt_lt.mpr q)
            have ar3 : (599 : Int) < x0.toInt := Int32.lt_iff_toInt_lt.mp hc16
            have q : own_cls x0 wc wv wo = wo := by
              unfold own_cls
              (repeat' split) <;> first | rfl | omega
            rw [q]
        · skip
          obtain ⟨T18, X18, e18, st18⟩ := getS2 X0 hx hZ hown (host := "") (Or.inl (wd15 hw)) Via.refl e0 S_wv (g := (mkF m 35 #[.val (.int x0), .unset] [])) rfl (hb hby dd_prog_11_method_4_code_35)
          obtain ⟨lfs, lhr, lhrun, lhended, lhW, lhsame⟩ := X18.leave (v := some (.ref wv)) (fun h => by rw [Bd.returns] at h; cases h)
          refine ⟨_, _, k15 _ ?_, lhrun, lhended, _, _, rfl, ?_, ⟨_, rfl⟩, lhW, lhsame.mono (by decide) (by decide)⟩
          · skip
            show Steps p.tables e below (s₁.setTop (mkF m 32 #[.val (.int x0), .unset] [(.int (599 : Int32)), (.int x0)])) _
            refine XS.icmpNo X0.here hx rfl (hb hby dd_prog_11_method_4_code_32) rfl (flt hc16).2.2.1 ?_
            show Steps p.tables e below (s₁.setTop (mkF m 35 #[.val (.int x0), .unset] [])) _
            refine st18 _ ?_
            show Steps p.tables e below (T18.setTop (mkF m 38 #[.val (.int x0), .unset] [(.ref wv)])) _
            refine XS.astoreN X18.here hx rfl (hb hby dd_prog_11_method_4_code_38) rfl rfl (l' := #[.val (.int x0), .val (.ref wv)]) rfl ?_
            show Steps p.tables e below (T18.setTop (mkF m 39 #[.val (.int x0), .val (.ref wv)] [])) _
            refine XS.goto X18.here hx rfl (pc0 := 39) (pc' := 46) rfl (hb hby dd_prog_11_method_4_code_39) (by decide) (by decide) ?_
            show Steps p.tables e below (T18.setTop (mkF m 46 #[.val (.int x0), .val (.ref wv)] [])) _
            refine XS.aloadN X18.here hx rfl (hb hby dd_prog_11_method_4_code_46) rfl rfl ?_
            show Steps p.tables e below (T18.setTop (mkF m 47 #[.val (.int x0), .val (.ref wv)] [(.ref wv)])) _
            exact retOut X18 hx Bd.returns rfl (Or.inr (Or.inr (Or.inr (Or.inr ⟨rfl, rfl, rfl⟩)))) (hb hby dd_prog_11_method_4_code_47) lhr
          · skip
            show QOf Z x0 wc wv wo h0 n0 _ T18.heap _
            rw [e18]
            refine ⟨?_, N0, rfl⟩
            have ar0 : ¬ (x0.toInt < (400 : Int)) := fun q => hc2 (Int32.lt_iff_toInt_lt.mpr q)
            have ar1 : (499 : Int) < x0.toInt := Int32.lt_iff_toInt_lt.mp hc11
            have ar2 : ¬ (x0.toInt < (500 : Int)) := fun q => hc13 (Int32.lt_iff_toInt_lt.mpr q)
            have ar3 : ¬ ((599 : Int) < x0.toInt) := fun q => hc16 (Int32.lt_iff_toInt_lt.mpr q)
            have q : own_cls x0 wc wv wo = wv := by
              unfold own_cls
              (repeat' split) <;> first | rfl | omega
            rw [q]
    · skip
      obtain ⟨T19, X19, e19, st19⟩ := getS2 X0 hx hZ hown (host := "") (Or.inl (wd11 hw)) Via.refl e0 S_wc (g := (mkF m 14 #[.val (.int x0), .unset] [])) rfl (hb hby dd_prog_11_method_4_code_14)
      obtain ⟨lfs, lhr, lhrun, lhended, lhW, lhsame⟩ := X19.leave (v := some (.ref wc)) (fun h => by rw [Bd.returns] at h; cases h)
      refine ⟨_, _, k10 _ ?_, lhrun, lhended, _, _, rfl, ?_, ⟨_, rfl⟩, lhW, lhsame.mono (by decide) (by decide)⟩
      · skip
        show Steps p.tables e below (s₁.setTop (mkF m 11 #[.val (.int x0), .unset] [(.int (499 : Int32)), (.int x0)])) _
        refine XS.icmpNo X0.here hx rfl (hb hby dd_prog_11_method_4_code_11) rfl (flt hc11).2.2.1 ?_
        show Steps p.tables e below (s₁.setTop (mkF m 14 #[.val (.int x0), .unset] [])) _
        refine st19 _ ?_
        show Steps p.tables e below (T19.setTop (mkF m 17 #[.val (.int x0), .unset] [(.ref wc)])) _
        refine XS.astoreN X19.here hx rfl (hb hby dd_prog_11_method_4_code_17) rfl rfl (l' := #[.val (.int x0), .val (.ref wc)]) rfl ?_
        show Steps p.tables e below (T19.setTop (mkF m 18 #[.val (.int x0), .val (.ref wc)] [])) _
        refine XS.goto X19.here hx rfl (pc0 := 18) (pc' := 46) rfl (hb hby dd_prog_11_method_4_code_18) (by decide) (by decide) ?_
        show Steps p.tables e below (T19.setTop (mkF m 46 #[.val (.int x0), .val (.ref wc)] [])) _
        refine XS.aloadN X19.here hx rfl (hb hby dd_prog_11_method_4_code_46) rfl rfl ?_
        show Steps p.tables e below (T19.setTop (mkF m 47 #[.val (.int x0), .val (.ref wc)] [(.ref wc)])) _
        exact retOut X19 hx Bd.returns rfl (Or.inr (Or.inr (Or.inr (Or.inr ⟨rfl, rfl, rfl⟩)))) (hb hby dd_prog_11_method_4_code_47) lhr
      · skip
        show QOf Z x0 wc wv wo h0 n0 _ T19.heap _
        rw [e19]
        refine ⟨?_, N0, rfl⟩
        have ar0 : ¬ (x0.toInt < (400 : Int)) := fun q => hc2 (Int32.lt_iff_toInt_lt.mpr q)
        have ar1 : ¬ ((499 : Int) < x0.toInt) := fun q => hc11 (Int32.lt_iff_toInt_lt.mpr q)
        have q : own_cls x0 wc wv wo = wc := by
          unfold own_cls
          (repeat' split) <;> first | rfl | omega
        rw [q]
theorem ef_Ex (m : MethodId) (x0 : Int32) : entryFrame m #[(.int x0)] 2 = mkF m 0 #[.val (.int x0), .unset] [] := by first | (simp [entryFrame, mkF, argsToLocals, Value.category]; done) | rfl
theorem pn_com_example_typed_api_errors_typedapierrors_error_StatusClassOfPinLaw : plainName "com/example/typed_api_errors/typedapierrors/error/StatusClassOfPinLaw" = true := by first | (simp [plainName, overriddenIn]; done) | decide +kernel
theorem dd_method_2_code_0 : decode method_2_code 0 = .ok (.iload_n 0, 1) := by decide +kernel
theorem dd_method_2_code_1 : decode method_2_code 1 = .ok (.ifCond .lt 10, 3) := by decide +kernel
theorem dd_method_2_code_11 : decode method_2_code 11 = .ok (.iconst (-1), 1) := by decide +kernel
theorem dd_method_2_code_12 : decode method_2_code 12 = .ok (.istore_n 1, 1) := by decide +kernel
theorem dd_method_2_code_13 : decode method_2_code 13 = .ok (.iload_n 1, 1) := by decide +kernel
theorem dd_method_2_code_14 : decode method_2_code 14 = .ok (.iconst 4, 1) := by decide +kernel
theorem dd_method_2_code_15 : decode method_2_code 15 = .ok (.if_icmp .ne 7, 3) := by decide +kernel
theorem dd_method_2_code_22 : decode method_2_code 22 = .ok (.iload_n 1, 1) := by decide +kernel
theorem dd_method_2_code_23 : decode method_2_code 23 = .ok (.iconst 5, 1) := by decide +kernel
theorem dd_method_2_code_24 : decode method_2_code 24 = .ok (.if_icmp .ne 7, 3) := by decide +kernel
theorem dd_method_2_code_31 : decode method_2_code 31 = .ok (.getstatic 16, 3) := by decide +kernel
theorem dd_method_2_code_34 : decode method_2_code 34 = .ok (.areturn, 1) := by decide +kernel
theorem dd_method_2_code_4 : decode method_2_code 4 = .ok (.iload_n 0, 1) := by decide +kernel
theorem dd_method_2_code_5 : decode method_2_code 5 = .ok (.bipush 100, 2) := by decide +kernel
theorem dd_method_2_code_7 : decode method_2_code 7 = .ok (.idiv, 1) := by decide +kernel
theorem dd_method_2_code_8 : decode method_2_code 8 = .ok (.goto 4, 3) := by decide +kernel
theorem dd_method_2_code_18 : decode method_2_code 18 = .ok (.getstatic 7, 3) := by decide +kernel
theorem dd_method_2_code_21 : decode method_2_code 21 = .ok (.areturn, 1) := by decide +kernel
theorem dd_method_2_code_27 : decode method_2_code 27 = .ok (.getstatic 13, 3) := by decide +kernel
theorem dd_method_2_code_30 : decode method_2_code 30 = .ok (.areturn, 1) := by decide +kernel
def QEx (Z : State) (x0 : Int32) (wc : Addr) (wv : Addr) (wo : Addr) (h0 : Heap) (n0 : Nat) (v : Option Value) (h : Heap) (L : List Loc) : Prop := v = some (.ref (own_cls x0 wc wv wo)) ∧ Fr n0 L ∧ h = h0
set_option maxRecDepth 65536 in
set_option maxHeartbeats 40000000 in
theorem rmEx (l : Launch) (Z : State) (a0 : Array Value) (hw : ∀ d ∈ tables_1, d.before a0 Z = true) (ws : List Jvm.Cond) (x0 : Int32) (wc : Addr) (wv : Addr) (wo : Addr) (h0 : Heap) (n0 : Nat) (Z0 : n0 ≤ h0.size) (S_wc : Sta Z h0 "com/example/typed_api_errors/typedapierrors/error/StatusClass" "CLIENT_ERROR" "Lcom/example/typed_api_errors/typedapierrors/error/StatusClass;" (.ref wc)) (S_wv : Sta Z h0 "com/example/typed_api_errors/typedapierrors/error/StatusClass" "SERVER_ERROR" "Lcom/example/typed_api_errors/typedapierrors/error/StatusClass;" (.ref wv)) (S_wo : Sta Z h0 "com/example/typed_api_errors/typedapierrors/error/StatusClass" "OTHER" "Lcom/example/typed_api_errors/typedapierrors/error/StatusClass;" (.ref wo)) :
    MetFree l (⟨"com/example/typed_api_errors/typedapierrors/error/StatusClassOfPinLaw", "expected", "(I)Lcom/example/typed_api_errors/typedapierrors/error/StatusClass;"⟩ : MethodName) (head1 (Jvm.Cond.code (⟨"com/example/typed_api_errors/typedapierrors/error/StatusClassOfPinLaw", "expected", "(I)Lcom/example/typed_api_errors/typedapierrors/error/StatusClass;"⟩ : MethodName) method_2_code 2 (some (.object "com/example/typed_api_errors/typedapierrors/error/StatusClass")) :: ws) ({ frames := 0, cells := 0, slots := 0, locals := 0 } : Room)) (fun a U => a = #[(.int x0)] ∧ Z.Warmed39 U.vm ∧ U.heap = h0) (fun _ _ _ _ _ => True) (fun _ U o U' => ∃ v L, o = .returned v ∧ QEx Z x0 wc wv wo h0 n0 v U'.heap L ∧ FrameEnd U o U' L ({ frames := 0, cells := 0, slots := 0, locals := 0 } : Room).cells ({ frames := 0, cells := 0, slots := 0, locals := 0 } : Room).slots) := by
  refine MetFree.of_bodySF (plainFor_of_name pn_com_example_typed_api_errors_typedapierrors_error_StatusClassOfPinLaw) hisR ?_
  intro p e s m args below meth c s₁ Bd hml0 hP hK
  obtain ⟨rfl, hZ, hh⟩ := hP
  have hx := Bd.exec
  have hby := Bd.bytes
  have hml : c.maxLocals = 2 := hml0
  have hown : s.vm.findClass "com/example/typed_api_errors/typedapierrors/error/StatusClassOfPinLaw" = some m.cls := findClass_of_methodNamed Bd.named
  have hnm := (name_of_methodNamed Bd.named Bd.method).1
  have X0 : Stand p l e ({ frames := 0, cells := 0, slots := 0, locals := 0 } : Room) s m #[(.int x0)] below meth c s₁ [] 0 0 := Stand.of_body Bd
  have e0 : s₁.heap = h0 := by rw [← hh, Bd.state]; rfl
  have N0 := Fr.nil n0
  have pre0 : ∀ t, Steps p.tables e below (s₁.setTop (mkF m 0 #[.val (.int x0), .unset] [])) t → Steps p.tables e below (s₁.setTop (entryFrame m #[(.int x0)] 2)) t := fun t k => castTop (ef_Ex m x0) k
  have k1 : ∀ t, Steps p.tables e below (s₁.setTop (mkF m 1 #[.val (.int x0), .unset] [(.int x0)])) t → Steps p.tables e below (s₁.setTop (entryFrame m #[(.int x0)] 2)) t := by
    intro t kt
    refine pre0 t ?_
    show Steps p.tables e below (s₁.setTop (mkF m 0 #[.val (.int x0), .unset] [])) _
    refine XS.iloadN X0.here hx rfl (hb hby dd_method_2_code_0) rfl ?_
    exact kt
  by_cases hc2 : x0 < (0 : Int32)
  · skip
    obtain ⟨T3, X3, e3, st3⟩ := getS2 X0 hx hZ hown (host := "") (Or.inl (wd10 hw)) Via.refl e0 S_wo (g := (mkF m 31 #[.val (.int x0), .val (.int (-1 : Int32))] [])) rfl (hb hby dd_method_2_code_31)
    obtain ⟨lfs, lhr, lhrun, lhended, lhW, lhsame⟩ := X3.leave (v := some (.ref wo)) (fun h => by rw [Bd.returns] at h; cases h)
    refine ⟨_, _, k1 _ ?_, lhrun, lhended, _, _, rfl, ?_, ⟨_, rfl⟩, lhW, lhsame.mono (by decide) (by decide)⟩
    · skip
      show Steps p.tables e below (s₁.setTop (mkF m 1 #[.val (.int x0), .unset] [(.int x0)])) _
      refine XS.ifYes X0.here hx rfl (pc0 := 1) (pc' := 11) rfl (hb hby dd_method_2_code_1) rfl ((if0 _ _).trans (tlt hc2).1) (by decide) (by decide) ?_
      show Steps p.tables e below (s₁.setTop (mkF m 11 #[.val (.int x0), .unset] [])) _
      refine XS.iconst X0.here hx rfl (hb hby dd_method_2_code_11) ?_
      show Steps p.tables e below (s₁.setTop (mkF m 12 #[.val (.int x0), .unset] [(.int (-1 : Int32))])) _
      refine XS.istoreN X0.here hx rfl (hb hby dd_method_2_code_12) rfl (l' := #[.val (.int x0), .val (.int (-1 : Int32))]) rfl ?_
      show Steps p.tables e below (s₁.setTop (mkF m 13 #[.val (.int x0), .val (.int (-1 : Int32))] [])) _
      refine XS.iloadN X0.here hx rfl (hb hby dd_method_2_code_13) rfl ?_
      show Steps p.tables e below (s₁.setTop (mkF m 14 #[.val (.int x0), .val (.int (-1 : Int32))] [(.int (-1 : Int32))])) _
      refine XS.iconst X0.here hx rfl (hb hby dd_method_2_code_14) ?_
      show Steps p.tables e below (s₁.setTop (mkF m 15 #[.val (.int x0), .val (.int (-1 : Int32))] [(.int (4 : Int32)), (.int (-1 : Int32))])) _
      refine XS.icmpYes X0.here hx rfl (pc0 := 15) (pc' := 22) rfl (hb hby dd_method_2_code_15) rfl (feq (by decide : ¬ ((-1 : Int32) = (4 : Int32)))).2 (by decide) (by decide) ?_
      show Steps p.tables e below (s₁.setTop (mkF m 22 #[.val (.int x0), .val (.int (-1 : Int32))] [])) _
      refine XS.iloadN X0.here hx rfl (hb hby dd_method_2_code_22) rfl ?_
      show Steps p.tables e below (s₁.setTop (mkF m 23 #[.val (.int x0), .val (.int (-1 : Int32))] [(.int (-1 : Int32))])) _
      refine XS.iconst X0.here hx rfl (hb hby dd_method_2_code_23) ?_
      show Steps p.tables e below (s₁.setTop (mkF m 24 #[.val (.int x0), .val (.int (-1 : Int32))] [(.int (5 : Int32)), (.int (-1 : Int32))])) _
      refine XS.icmpYes X0.here hx rfl (pc0 := 24) (pc' := 31) rfl (hb hby dd_method_2_code_24) rfl (feq (by decide : ¬ ((-1 : Int32) = (5 : Int32)))).2 (by decide) (by decide) ?_
      show Steps p.tables e below (s₁.setTop (mkF m 31 #[.val (.int x0), .val (.int (-1 : Int32))] [])) _
      refine st3 _ ?_
      show Steps p.tables e below (T3.setTop (mkF m 34 #[.val (.int x0), .val (.int (-1 : Int32))] [(.ref wo)])) _
      exact retOut X3 hx Bd.returns rfl (Or.inr (Or.inr (Or.inr (Or.inr ⟨rfl, rfl, rfl⟩)))) (hb hby dd_method_2_code_34) lhr
    · skip
      show QEx Z x0 wc wv wo h0 n0 _ T3.heap _
      rw [e3]
      refine ⟨?_, N0, rfl⟩
      have ar0 : x0.toInt < (0 : Int) := Int32.lt_iff_toInt_lt.mp hc2
      have cd := c_idiv x0 100 100 rfl (by decide)
      have q : own_cls x0 wc wv wo = wo := by
        unfold own_cls
        (repeat' split) <;> first | rfl | omega
      rw [q]
  · skip
    have k4 : ∀ t, Steps p.tables e below (s₁.setTop (mkF m 15 #[.val (.int x0), .val (.int (x0 / (100 : Int32)))] [(.int (4 : Int32)), (.int (x0 / (100 : Int32)))])) t → Steps p.tables e below (s₁.setTop (entryFrame m #[(.int x0)] 2)) t := by
      intro t kt
      refine k1 t ?_
      show Steps p.tables e below (s₁.setTop (mkF m 1 #[.val (.int x0), .unset] [(.int x0)])) _
      refine XS.ifNo X0.here hx rfl (hb hby dd_method_2_code_1) rfl ((if0 _ _).trans (flt hc2).1) ?_
      show Steps p.tables e below (s₁.setTop (mkF m 4 #[.val (.int x0), .unset] [])) _
      refine XS.iloadN X0.here hx rfl (hb hby dd_method_2_code_4) rfl ?_
      show Steps p.tables e below (s₁.setTop (mkF m 5 #[.val (.int x0), .unset] [(.int x0)])) _
      refine XS.bipush X0.here hx rfl (hb hby dd_method_2_code_5) ?_
      show Steps p.tables e below (s₁.setTop (mkF m 7 #[.val (.int x0), .unset] [(.int (100 : Int32)), (.int x0)])) _
      refine XS.idiv X0.here hx rfl (hb hby dd_method_2_code_7) rfl (by decide) ?_
      show Steps p.tables e below (s₁.setTop (mkF m 8 #[.val (.int x0), .unset] [(.int (x0 / (100 : Int32)))])) _
      refine XS.goto X0.here hx rfl (pc0 := 8) (pc' := 12) rfl (hb hby dd_method_2_code_8) (by decide) (by decide) ?_
      show Steps p.tables e below (s₁.setTop (mkF m 12 #[.val (.int x0), .unset] [(.int (x0 / (100 : Int32)))])) _
      refine XS.istoreN X0.here hx rfl (hb hby dd_method_2_code_12) rfl (l' := #[.val (.int x0), .val (.int (x0 / (100 : Int32)))]) rfl ?_
      show Steps p.tables e below (s₁.setTop (mkF m 13 #[.val (.int x0), .val (.int (x0 / (100 : Int32)))] [])) _
      refine XS.iloadN X0.here hx rfl (hb hby dd_method_2_code_13) rfl ?_
      show Steps p.tables e below (s₁.setTop (mkF m 14 #[.val (.int x0), .val (.int (x0 / (100 : Int32)))] [(.int (x0 / (100 : Int32)))])) _
      refine XS.iconst X0.here hx rfl (hb hby dd_method_2_code_14) ?_
      exact kt
    by_cases hc5 : (x0 / (100 : Int32)) = (4 : Int32)
    · skip
      obtain ⟨T6, X6, e6, st6⟩ := getS2 X0 hx hZ hown (host := "") (Or.inl (wd13 hw)) Via.refl e0 S_wc (g := (mkF m 18 #[.val (.int x0), .val (.int (x0 / (100 : Int32)))] [])) rfl (hb hby dd_method_2_code_18)
      obtain ⟨lfs, lhr, lhrun, lhended, lhW, lhsame⟩ := X6.leave (v := some (.ref wc)) (fun h => by rw [Bd.returns] at h; cases h)
      refine ⟨_, _, k4 _ ?_, lhrun, lhended, _, _, rfl, ?_, ⟨_, rfl⟩, lhW, lhsame.mono (by decide) (by decide)⟩
      · skip
        show Steps p.tables e below (s₁.setTop (mkF m 15 #[.val (.int x0), .val (.int (x0 / (100 : Int32)))] [(.int (4 : Int32)), (.int (x0 / (100 : Int32)))])) _
        refine XS.icmpNo X0.here hx rfl (hb hby dd_method_2_code_15) rfl (teq hc5).2 ?_
        show Steps p.tables e below (s₁.setTop (mkF m 18 #[.val (.int x0), .val (.int (x0 / (100 : Int32)))] [])) _
        refine st6 _ ?_
        show Steps p.tables e below (T6.setTop (mkF m 21 #[.val (.int x0), .val (.int (x0 / (100 : Int32)))] [(.ref wc)])) _
        exact retOut X6 hx Bd.returns rfl (Or.inr (Or.inr (Or.inr (Or.inr ⟨rfl, rfl, rfl⟩)))) (hb hby dd_method_2_code_21) lhr
      · skip
        show QEx Z x0 wc wv wo h0 n0 _ T6.heap _
        rw [e6]
        refine ⟨?_, N0, rfl⟩
        have ar0 : ¬ (x0.toInt < (0 : Int)) := fun q => hc2 (Int32.lt_iff_toInt_lt.mpr q)
        have ar1 : (x0 / (100 : Int32)).toInt = (4 : Int) := congrArg Int32.toInt hc5
        have cd := c_idiv x0 100 100 rfl (by decide)
        have q : own_cls x0 wc wv wo = wc := by
          unfold own_cls
          (repeat' split) <;> first | rfl | omega
        rw [q]
    · skip
      have k7 : ∀ t, Steps p.tables e below (s₁.setTop (mkF m 24 #[.val (.int x0), .val (.int (x0 / (100 : Int32)))] [(.int (5 : Int32)), (.int (x0 / (100 : Int32)))])) t → Steps p.tables e below (s₁.setTop (entryFrame m #[(.int x0)] 2)) t := by
        intro t kt
        refine k4 t ?_
        show Steps p.tables e below (s₁.setTop (mkF m 15 #[.val (.int x0), .val (.int (x0 / (100 : Int32)))] [(.int (4 : Int32)), (.int (x0 / (100 : Int32)))])) _
        refine XS.icmpYes X0.here hx rfl (pc0 := 15) (pc' := 22) rfl (hb hby dd_method_2_code_15) rfl (feq hc5).2 (by decide) (by decide) ?_
        show Steps p.tables e below (s₁.setTop (mkF m 22 #[.val (.int x0), .val (.int (x0 / (100 : Int32)))] [])) _
        refine XS.iloadN X0.here hx rfl (hb hby dd_method_2_code_22) rfl ?_
        show Steps p.tables e below (s₁.setTop (mkF m 23 #[.val (.int x0), .val (.int (x0 / (100 : Int32)))] [(.int (x0 / (100 : Int32)))])) _
        refine XS.iconst X0.here hx rfl (hb hby dd_method_2_code_23) ?_
        exact kt
      by_cases hc8 : (x0 / (100 : Int32)) = (5 : Int32)
      · skip
        obtain ⟨T9, X9, e9, st9⟩ := getS2 X0 hx hZ hown (host := "") (Or.inl (wd17 hw)) Via.refl e0 S_wv (g := (mkF m 27 #[.val (.int x0), .val (.int (x0 / (100 : Int32)))] [])) rfl (hb hby dd_method_2_code_27)
        obtain ⟨lfs, lhr, lhrun, lhended, lhW, lhsame⟩ := X9.leave (v := some (.ref wv)) (fun h => by rw [Bd.returns] at h; cases h)
        refine ⟨_, _, k7 _ ?_, lhrun, lhended, _, _, rfl, ?_, ⟨_, rfl⟩, lhW, lhsame.mono (by decide) (by decide)⟩
        · skip
          show Steps p.tables e below (s₁.setTop (mkF m 24 #[.val (.int x0), .val (.int (x0 / (100 : Int32)))] [(.int (5 : Int32)), (.int (x0 / (100 : Int32)))])) _
          refine XS.icmpNo X0.here hx rfl (hb hby dd_method_2_code_24) rfl (teq hc8).2 ?_
          show Steps p.tables e below (s₁.setTop (mkF m 27 #[.val (.int x0), .val (.int (x0 / (100 : Int32)))] [])) _
          refine st9 _ ?_
          show Steps p.tables e below (T9.setTop (mkF m 30 #[.val (.int x0), .val (.int (x0 / (100 : Int32)))] [(.ref wv)])) _
          exact retOut X9 hx Bd.returns rfl (Or.inr (Or.inr (Or.inr (Or.inr ⟨rfl, rfl, rfl⟩)))) (hb hby dd_method_2_code_30) lhr
        · skip
          show QEx Z x0 wc wv wo h0 n0 _ T9.heap _
          rw [e9]
          refine ⟨?_, N0, rfl⟩
          have ar0 : ¬ (x0.toInt < (0 : Int)) := fun q => hc2 (Int32.lt_iff_toInt_lt.mpr q)
          have ar1 : ¬ ((x0 / (100 : Int32)).toInt = (4 : Int)) := fun q => hc5 (Int32.toInt_inj.mp q)
          have ar2 : (x0 / (100 : Int32)).toInt = (5 : Int) := congrArg Int32.toInt hc8
          have cd := c_idiv x0 100 100 rfl (by decide)
          have q : own_cls x0 wc wv wo = wv := by
            unfold own_cls
            (repeat' split) <;> first | rfl | omega
          rw [q]
      · skip
        obtain ⟨T10, X10, e10, st10⟩ := getS2 X0 hx hZ hown (host := "") (Or.inl (wd10 hw)) Via.refl e0 S_wo (g := (mkF m 31 #[.val (.int x0), .val (.int (x0 / (100 : Int32)))] [])) rfl (hb hby dd_method_2_code_31)
        obtain ⟨lfs, lhr, lhrun, lhended, lhW, lhsame⟩ := X10.leave (v := some (.ref wo)) (fun h => by rw [Bd.returns] at h; cases h)
        refine ⟨_, _, k7 _ ?_, lhrun, lhended, _, _, rfl, ?_, ⟨_, rfl⟩, lhW, lhsame.mono (by decide) (by decide)⟩
        · skip
          show Steps p.tables e below (s₁.setTop (mkF m 24 #[.val (.int x0), .val (.int (x0 / (100 : Int32)))] [(.int (5 : Int32)), (.int (x0 / (100 : Int32)))])) _
          refine XS.icmpYes X0.here hx rfl (pc0 := 24) (pc' := 31) rfl (hb hby dd_method_2_code_24) rfl (feq hc8).2 (by decide) (by decide) ?_
          show Steps p.tables e below (s₁.setTop (mkF m 31 #[.val (.int x0), .val (.int (x0 / (100 : Int32)))] [])) _
          refine st10 _ ?_
          show Steps p.tables e below (T10.setTop (mkF m 34 #[.val (.int x0), .val (.int (x0 / (100 : Int32)))] [(.ref wo)])) _
          exact retOut X10 hx Bd.returns rfl (Or.inr (Or.inr (Or.inr (Or.inr ⟨rfl, rfl, rfl⟩)))) (hb hby dd_method_2_code_34) lhr
        · skip
          show QEx Z x0 wc wv wo h0 n0 _ T10.heap _
          rw [e10]
          refine ⟨?_, N0, rfl⟩
          have ar0 : ¬ (x0.toInt < (0 : Int)) := fun q => hc2 (Int32.lt_iff_toInt_lt.mpr q)
          have ar1 : ¬ ((x0 / (100 : Int32)).toInt = (4 : Int)) := fun q => hc5 (Int32.toInt_inj.mp q)
          have ar2 : ¬ ((x0 / (100 : Int32)).toInt = (5 : Int)) := fun q => hc8 (Int32.toInt_inj.mp q)
          have cd := c_idiv x0 100 100 rfl (by decide)
          have q : own_cls x0 wc wv wo = wo := by
            unfold own_cls
            (repeat' split) <;> first | rfl | omega
          rw [q]
theorem ef_0 (m : MethodId) (x0 : Int32) (x1 : Int32) : entryFrame m #[(.int x0), (.int x1)] maxLocals = mkF m 0 #[.val (.int x0), .val (.int x1), .unset, .unset] [] := by first | (simp [entryFrame, mkF, argsToLocals, Value.category, maxLocals]; done) | rfl
theorem pd__I_Lcom_example_typed_api_errors_typedapierrors_error_StatusClass_ : parseMethodDescriptor "(I)Lcom/example/typed_api_errors/typedapierrors/error/StatusClass;" = some ⟨[.int], some (.object "com/example/typed_api_errors/typedapierrors/error/StatusClass")⟩ := by decide +kernel
def Q0 (Z : State) (x0 : Int32) (x1 : Int32) (wc : Addr) (wv : Addr) (wo : Addr) (h0 : Heap) (n0 : Nat) (v : Option Value) (h : Heap) (L : List Loc) : Prop := v = some (.int 1) ∧ Fr n0 L
set_option maxRecDepth 65536 in
set_option maxHeartbeats 40000000 in
theorem rm0 (l : Launch) (Z : State) (a0 : Array Value) (hw : ∀ d ∈ tables_1, d.before a0 Z = true) (ws : List Jvm.Cond) (x0 : Int32) (x1 : Int32) (wc : Addr) (wv : Addr) (wo : Addr) (h0 : Heap) (n0 : Nat) (Z0 : n0 ≤ h0.size) (S_wc : Sta Z h0 "com/example/typed_api_errors/typedapierrors/error/StatusClass" "CLIENT_ERROR" "Lcom/example/typed_api_errors/typedapierrors/error/StatusClass;" (.ref wc)) (S_wv : Sta Z h0 "com/example/typed_api_errors/typedapierrors/error/StatusClass" "SERVER_ERROR" "Lcom/example/typed_api_errors/typedapierrors/error/StatusClass;" (.ref wv)) (S_wo : Sta Z h0 "com/example/typed_api_errors/typedapierrors/error/StatusClass" "OTHER" "Lcom/example/typed_api_errors/typedapierrors/error/StatusClass;" (.ref wo)) :
    MetFree l x (head1 (Jvm.Cond.code x code maxLocals ret :: ws) room_1) (fun a U => a = #[(.int x0), (.int x1)] ∧ Z.Warmed39 U.vm ∧ U.heap = h0) (fun _ _ _ _ _ => True) (fun _ U o U' => ∃ v L, o = .returned v ∧ Q0 Z x0 x1 wc wv wo h0 n0 v U'.heap L ∧ FrameEnd U o U' L 0 0) := by
  refine MetFree.of_bodySF (plainFor_of_name pn_com_example_typed_api_errors_typedapierrors_error_StatusClassOfPinLaw) hisR ?_
  intro p e s m args below meth c s₁ Bd hml0 hP hK
  obtain ⟨rfl, hZ, hh⟩ := hP
  have hx := Bd.exec
  have hby := Bd.bytes
  have hml : c.maxLocals = 4 := hml0
  have hown : s.vm.findClass "com/example/typed_api_errors/typedapierrors/error/StatusClassOfPinLaw" = some m.cls := findClass_of_methodNamed Bd.named
  have hnm := (name_of_methodNamed Bd.named Bd.method).1
  have X0 : Stand p l e room_1 s m #[(.int x0), (.int x1)] below meth c s₁ [] 0 0 := Stand.of_body Bd
  have e0 : s₁.heap = h0 := by rw [← hh, Bd.state]; rfl
  have N0 := Fr.nil n0
  have pre0 : ∀ t, Steps p.tables e below (s₁.setTop (mkF m 0 #[.val (.int x0), .val (.int x1), .unset, .unset] [])) t → Steps p.tables e below (s₁.setTop (entryFrame m #[(.int x0), (.int x1)] maxLocals)) t := fun t k => castTop (ef_0 m x0 x1) k
  have k1 : ∀ t, Steps p.tables e below (s₁.setTop (mkF m 5 #[.val (.int x0), .val (.int x1), .val (.int (x1 &&& (3 : Int32))), .unset] [(.int (x1 &&& (3 : Int32)))])) t → Steps p.tables e below (s₁.setTop (entryFrame m #[(.int x0), (.int x1)] maxLocals)) t := by
    intro t kt
    refine pre0 t ?_
    show Steps p.tables e below (s₁.setTop (mkF m 0 #[.val (.int x0), .val (.int x1), .unset, .unset] [])) _
    refine XS.iloadN X0.here hx rfl (hb hby at_0) rfl ?_
    show Steps p.tables e below (s₁.setTop (mkF m 1 #[.val (.int x0), .val (.int x1), .unset, .unset] [(.int x1)])) _
    refine XS.iconst X0.here hx rfl (hb hby at_1) ?_
    show Steps p.tables e below (s₁.setTop (mkF m 2 #[.val (.int x0), .val (.int x1), .unset, .unset] [(.int (3 : Int32)), (.int x1)])) _
    refine XS.iand X0.here hx rfl (hb hby at_2) rfl ?_
    show Steps p.tables e below (s₁.setTop (mkF m 3 #[.val (.int x0), .val (.int x1), .unset, .unset] [(.int (x1 &&& (3 : Int32)))])) _
    refine XS.istoreN X0.here hx rfl (hb hby at_3) rfl (l' := #[.val (.int x0), .val (.int x1), .val (.int (x1 &&& (3 : Int32))), .unset]) rfl ?_
    show Steps p.tables e below (s₁.setTop (mkF m 4 #[.val (.int x0), .val (.int x1), .val (.int (x1 &&& (3 : Int32))), .unset] [])) _
    refine XS.iloadN X0.here hx rfl (hb hby at_4) rfl ?_
    exact kt
  by_cases hc2 : (x1 &&& (3 : Int32)) = (0 : Int32)
  · skip
    obtain ⟨_, _, ⟨T3, L3, kc3, ks3⟩, -, X3, ⟨Lc3, hQ3, l3, y3, z3⟩, st3⟩ := Jvm.LawKit.callS X0 hx (y := (⟨"com/example/typed_api_errors/typedapierrors/error/StatusClass", "of", "(I)Lcom/example/typed_api_errors/typedapierrors/error/StatusClass;"⟩ : MethodName)) hown (mvT hZ (wd0 hw)) (mvT hZ (wd1 hw)) (mvT hZ (wd2 hw)) (mvT hZ (wd3 hw)) (by decide) (backOf (W := 0) (rmOf l Z a0 hw [] x0 wc wv wo h0 n0 Z0 S_wc S_wv S_wo) hZ (wd3 hw) (wd2 hw) (by decide) (by decide)) (g := (mkF m 50 #[.val (.int x0), .val (.int x1), .val (.int (x1 &&& (3 : Int32))), .val (.int x0)] [(.int x0)])) rfl (by rw [hml]; rfl) (argsL := [(.int x0)]) (rest := []) (lenOf pd__I_Lcom_example_typed_api_errors_typedapierrors_error_StatusClass_ rfl) rfl (by show 2 * 0 + _ ≤ _; exact Nat.le_of_eq rfl) (hb hby at_50) (fun _ _ => ⟨rfl, e0, (by decide : 0 + 0 ≤ _), (by decide : 0 + 0 ≤ _)⟩)
    dsimp only [Pt.U, Pt.locs, Pt.cells, Pt.slots] at X3 l3 y3 z3 st3 hQ3
    subst l3 y3 z3
    obtain ⟨rfl, Nq3, eq3⟩ := hQ3
    have N3 := Fr.app N0 Nq3
    obtain ⟨_, _, ⟨T4, L4, kc4, ks4⟩, -, X4, ⟨Lc4, hQ4, l4, y4, z4⟩, st4⟩ := Jvm.LawKit.callS X3 hx (y := (⟨"com/example/typed_api_errors/typedapierrors/error/StatusClassOfPinLaw", "expected", "(I)Lcom/example/typed_api_errors/typedapierrors/error/StatusClass;"⟩ : MethodName)) hown (mvT hZ (wd6 hw)) (mvT hZ (wd7 hw)) (mvT hZ (wd8 hw)) (mvT hZ (wd9 hw)) (by decide) (backOf (W := 1) (rmEx l Z a0 hw [] x0 wc wv wo h0 n0 Z0 S_wc S_wv S_wo) hZ (wd9 hw) (wd8 hw) (by decide) (by decide)) (g := (mkF m 54 #[.val (.int x0), .val (.int x1), .val (.int (x1 &&& (3 : Int32))), .val (.int x0)] [(.int x0), (.ref (own_cls x0 wc wv wo))])) rfl (by rw [hml]; rfl) (argsL := [(.int x0)]) (rest := [(.ref (own_cls x0 wc wv wo))]) (lenOf pd__I_Lcom_example_typed_api_errors_typedapierrors_error_StatusClass_ rfl) rfl (by show 2 * 0 + _ ≤ _; exact Nat.le_of_eq rfl) (hb hby at_54) (fun _ _ => ⟨rfl, eq3, (by decide : 0 + 0 ≤ _), (by decide : 0 + 0 ≤ _)⟩)
    dsimp only [Pt.U, Pt.locs, Pt.cells, Pt.slots] at X4 l4 y4 z4 st4 hQ4
    subst l4 y4 z4
    obtain ⟨rfl, Nq4, eq4⟩ := hQ4
    have N4 := Fr.app N3 Nq4
    obtain ⟨lfs, lhr, lhrun, lhended, lhW, lhsame⟩ := X4.leave (v := some (.int (1 : Int32))) (fun h => by rw [Bd.returns] at h; cases h)
    refine ⟨_, _, k1 _ ?_, lhrun, lhended, _, _, rfl, ?_, ⟨_, rfl⟩, lhW, lhsame.mono (by decide) (by decide)⟩
    · skip
      show Steps p.tables e below (s₁.setTop (mkF m 5 #[.val (.int x0), .val (.int x1), .val (.int (x1 &&& (3 : Int32))), .unset] [(.int (x1 &&& (3 : Int32)))])) _
      refine XS.ifYes X0.here hx rfl (pc0 := 5) (pc' := 13) rfl (hb hby at_5) rfl ((if0 _ _).trans (teq hc2).1) (by decide) (by decide) ?_
      show Steps p.tables e below (s₁.setTop (mkF m 13 #[.val (.int x0), .val (.int x1), .val (.int (x1 &&& (3 : Int32))), .unset] [])) _
      refine XS.iloadN X0.here hx rfl (hb hby at_13) rfl ?_
      show Steps p.tables e below (s₁.setTop (mkF m 14 #[.val (.int x0), .val (.int x1), .val (.int (x1 &&& (3 : Int32))), .unset] [(.int x0)])) _
      refine XS.istoreN X0.here hx rfl (hb hby at_14) rfl (l' := #[.val (.int x0), .val (.int x1), .val (.int (x1 &&& (3 : Int32))), .val (.int x0)]) rfl ?_
      show Steps p.tables e below (s₁.setTop (mkF m 15 #[.val (.int x0), .val (.int x1), .val (.int (x1 &&& (3 : Int32))), .val (.int x0)] [])) _
      refine XS.goto X0.here hx rfl (pc0 := 15) (pc' := 49) rfl (hb hby at_15) (by decide) (by decide) ?_
      show Steps p.tables e below (s₁.setTop (mkF m 49 #[.val (.int x0), .val (.int x1), .val (.int (x1 &&& (3 : Int32))), .val (.int x0)] [])) _
      refine XS.iloadN X0.here hx rfl (hb hby at_49) rfl ?_
      show Steps p.tables e below (s₁.setTop (mkF m 50 #[.val (.int x0), .val (.int x1), .val (.int (x1 &&& (3 : Int32))), .val (.int x0)] [(.int x0)])) _
      refine st3 _ ?_
      show Steps p.tables e below (T3.setTop (mkF m 53 #[.val (.int x0), .val (.int x1), .val (.int (x1 &&& (3 : Int32))), .val (.int x0)] [(.ref (own_cls x0 wc wv wo))])) _
      refine XS.iloadN X3.here hx rfl (hb hby at_53) rfl ?_
      show Steps p.tables e below (T3.setTop (mkF m 54 #[.val (.int x0), .val (.int x1), .val (.int (x1 &&& (3 : Int32))), .val (.int x0)] [(.int x0), (.ref (own_cls x0 wc wv wo))])) _
      refine st4 _ ?_
      show Steps p.tables e below (T4.setTop (mkF m 57 #[.val (.int x0), .val (.int x1), .val (.int (x1 &&& (3 : Int32))), .val (.int x0)] [(.ref (own_cls x0 wc wv wo)), (.ref (own_cls x0 wc wv wo))])) _
      refine Jvm.RoadKit.acmp (g := (mkF m 57 #[.val (.int x0), .val (.int x1), .val (.int (x1 &&& (3 : Int32))), .val (.int x0)] [(.ref (own_cls x0 wc wv wo)), (.ref (own_cls x0 wc wv wo))])) X4 hx rfl rfl rfl (pc0 := 57) (pc' := 60) (same := true) rfl (hb hby at_57) rfl (decide_eq_true rfl) (by decide) (by decide) ?_
      show Steps p.tables e below (T4.setTop (mkF m 60 #[.val (.int x0), .val (.int x1), .val (.int (x1 &&& (3 : Int32))), .val (.int x0)] [])) _
      refine XS.iconst X4.here hx rfl (hb hby at_60) ?_
      show Steps p.tables e below (T4.setTop (mkF m 61 #[.val (.int x0), .val (.int x1), .val (.int (x1 &&& (3 : Int32))), .val (.int x0)] [(.int (1 : Int32))])) _
      refine XS.goto X4.here hx rfl (pc0 := 61) (pc' := 65) rfl (hb hby at_61) (by decide) (by decide) ?_
      show Steps p.tables e below (T4.setTop (mkF m 65 #[.val (.int x0), .val (.int x1), .val (.int (x1 &&& (3 : Int32))), .val (.int x0)] [(.int (1 : Int32))])) _
      exact retN X4 hx (t := .boolean) Bd.returns (by simp) (hb hby at_65) lhr
    · skip
      show Q0 Z x0 x1 wc wv wo h0 n0 _ T4.heap _
      rw [eq4]
      exact ⟨rfl, N4⟩
  · skip
    have k5 : ∀ t, Steps p.tables e below (s₁.setTop (mkF m 10 #[.val (.int x0), .val (.int x1), .val (.int (x1 &&& (3 : Int32))), .unset] [(.int (3 : Int32)), (.int (x1 &&& (3 : Int32)))])) t → Steps p.tables e below (s₁.setTop (entryFrame m #[(.int x0), (.int x1)] maxLocals)) t := by
      intro t kt
      refine k1 t ?_
      show Steps p.tables e below (s₁.setTop (mkF m 5 #[.val (.int x0), .val (.int x1), .val (.int (x1 &&& (3 : Int32))), .unset] [(.int (x1 &&& (3 : Int32)))])) _
      refine XS.ifNo X0.here hx rfl (hb hby at_5) rfl ((if0 _ _).trans (feq hc2).1) ?_
      show Steps p.tables e below (s₁.setTop (mkF m 8 #[.val (.int x0), .val (.int x1), .val (.int (x1 &&& (3 : Int32))), .unset] [])) _
      refine XS.iloadN X0.here hx rfl (hb hby at_8) rfl ?_
      show Steps p.tables e below (s₁.setTop (mkF m 9 #[.val (.int x0), .val (.int x1), .val (.int (x1 &&& (3 : Int32))), .unset] [(.int (x1 &&& (3 : Int32)))])) _
      refine XS.iconst X0.here hx rfl (hb hby at_9) ?_
      exact kt
    by_cases hc6 : (x1 &&& (3 : Int32)) = (3 : Int32)
    · skip
      obtain ⟨_, _, ⟨T7, L7, kc7, ks7⟩, -, X7, ⟨Lc7, hQ7, l7, y7, z7⟩, st7⟩ := Jvm.LawKit.callS X0 hx (y := (⟨"com/example/typed_api_errors/typedapierrors/error/StatusClass", "of", "(I)Lcom/example/typed_api_errors/typedapierrors/error/StatusClass;"⟩ : MethodName)) hown (mvT hZ (wd0 hw)) (mvT hZ (wd1 hw)) (mvT hZ (wd2 hw)) (mvT hZ (wd3 hw)) (by decide) (backOf (W := 0) (rmOf l Z a0 hw [] x0 wc wv wo h0 n0 Z0 S_wc S_wv S_wo) hZ (wd3 hw) (wd2 hw) (by decide) (by decide)) (g := (mkF m 50 #[.val (.int x0), .val (.int x1), .val (.int (x1 &&& (3 : Int32))), .val (.int x0)] [(.int x0)])) rfl (by rw [hml]; rfl) (argsL := [(.int x0)]) (rest := []) (lenOf pd__I_Lcom_example_typed_api_errors_typedapierrors_error_StatusClass_ rfl) rfl (by show 2 * 0 + _ ≤ _; exact Nat.le_of_eq rfl) (hb hby at_50) (fun _ _ => ⟨rfl, e0, (by decide : 0 + 0 ≤ _), (by decide : 0 + 0 ≤ _)⟩)
      dsimp only [Pt.U, Pt.locs, Pt.cells, Pt.slots] at X7 l7 y7 z7 st7 hQ7
      subst l7 y7 z7
      obtain ⟨rfl, Nq7, eq7⟩ := hQ7
      have N7 := Fr.app N0 Nq7
      obtain ⟨_, _, ⟨T8, L8, kc8, ks8⟩, -, X8, ⟨Lc8, hQ8, l8, y8, z8⟩, st8⟩ := Jvm.LawKit.callS X7 hx (y := (⟨"com/example/typed_api_errors/typedapierrors/error/StatusClassOfPinLaw", "expected", "(I)Lcom/example/typed_api_errors/typedapierrors/error/StatusClass;"⟩ : MethodName)) hown (mvT hZ (wd6 hw)) (mvT hZ (wd7 hw)) (mvT hZ (wd8 hw)) (mvT hZ (wd9 hw)) (by decide) (backOf (W := 1) (rmEx l Z a0 hw [] x0 wc wv wo h0 n0 Z0 S_wc S_wv S_wo) hZ (wd9 hw) (wd8 hw) (by decide) (by decide)) (g := (mkF m 54 #[.val (.int x0), .val (.int x1), .val (.int (x1 &&& (3 : Int32))), .val (.int x0)] [(.int x0), (.ref (own_cls x0 wc wv wo))])) rfl (by rw [hml]; rfl) (argsL := [(.int x0)]) (rest := [(.ref (own_cls x0 wc wv wo))]) (lenOf pd__I_Lcom_example_typed_api_errors_typedapierrors_error_StatusClass_ rfl) rfl (by show 2 * 0 + _ ≤ _; exact Nat.le_of_eq rfl) (hb hby at_54) (fun _ _ => ⟨rfl, eq7, (by decide : 0 + 0 ≤ _), (by decide : 0 + 0 ≤ _)⟩)
      dsimp only [Pt.U, Pt.locs, Pt.cells, Pt.slots] at X8 l8 y8 z8 st8 hQ8
      subst l8 y8 z8
      obtain ⟨rfl, Nq8, eq8⟩ := hQ8
      have N8 := Fr.app N7 Nq8
      obtain ⟨lfs, lhr, lhrun, lhended, lhW, lhsame⟩ := X8.leave (v := some (.int (1 : Int32))) (fun h => by rw [Bd.returns] at h; cases h)
      refine ⟨_, _, k5 _ ?_, lhrun, lhended, _, _, rfl, ?_, ⟨_, rfl⟩, lhW, lhsame.mono (by decide) (by decide)⟩
      · skip
        show Steps p.tables e below (s₁.setTop (mkF m 10 #[.val (.int x0), .val (.int x1), .val (.int (x1 &&& (3 : Int32))), .unset] [(.int (3 : Int32)), (.int (x1 &&& (3 : Int32)))])) _
        refine XS.icmpNo X0.here hx rfl (hb hby at_10) rfl (teq hc6).2 ?_
        show Steps p.tables e below (s₁.setTop (mkF m 13 #[.val (.int x0), .val (.int x1), .val (.int (x1 &&& (3 : Int32))), .unset] [])) _
        refine XS.iloadN X0.here hx rfl (hb hby at_13) rfl ?_
        show Steps p.tables e below (s₁.setTop (mkF m 14 #[.val (.int x0), .val (.int x1), .val (.int (x1 &&& (3 : Int32))), .unset] [(.int x0)])) _
        refine XS.istoreN X0.here hx rfl (hb hby at_14) rfl (l' := #[.val (.int x0), .val (.int x1), .val (.int (x1 &&& (3 : Int32))), .val (.int x0)]) rfl ?_
        show Steps p.tables e below (s₁.setTop (mkF m 15 #[.val (.int x0), .val (.int x1), .val (.int (x1 &&& (3 : Int32))), .val (.int x0)] [])) _
        refine XS.goto X0.here hx rfl (pc0 := 15) (pc' := 49) rfl (hb hby at_15) (by decide) (by decide) ?_
        show Steps p.tables e below (s₁.setTop (mkF m 49 #[.val (.int x0), .val (.int x1), .val (.int (x1 &&& (3 : Int32))), .val (.int x0)] [])) _
        refine XS.iloadN X0.here hx rfl (hb hby at_49) rfl ?_
        show Steps p.tables e below (s₁.setTop (mkF m 50 #[.val (.int x0), .val (.int x1), .val (.int (x1 &&& (3 : Int32))), .val (.int x0)] [(.int x0)])) _
        refine st7 _ ?_
        show Steps p.tables e below (T7.setTop (mkF m 53 #[.val (.int x0), .val (.int x1), .val (.int (x1 &&& (3 : Int32))), .val (.int x0)] [(.ref (own_cls x0 wc wv wo))])) _
        refine XS.iloadN X7.here hx rfl (hb hby at_53) rfl ?_
        show Steps p.tables e below (T7.setTop (mkF m 54 #[.val (.int x0), .val (.int x1), .val (.int (x1 &&& (3 : Int32))), .val (.int x0)] [(.int x0), (.ref (own_cls x0 wc wv wo))])) _
        refine st8 _ ?_
        show Steps p.tables e below (T8.setTop (mkF m 57 #[.val (.int x0), .val (.int x1), .val (.int (x1 &&& (3 : Int32))), .val (.int x0)] [(.ref (own_cls x0 wc wv wo)), (.ref (own_cls x0 wc wv wo))])) _
        refine Jvm.RoadKit.acmp (g := (mkF m 57 #[.val (.int x0), .val (.int x1), .val (.int (x1 &&& (3 : Int32))), .val (.int x0)] [(.ref (own_cls x0 wc wv wo)), (.ref (own_cls x0 wc wv wo))])) X8 hx rfl rfl rfl (pc0 := 57) (pc' := 60) (same := true) rfl (hb hby at_57) rfl (decide_eq_true rfl) (by decide) (by decide) ?_
        show Steps p.tables e below (T8.setTop (mkF m 60 #[.val (.int x0), .val (.int x1), .val (.int (x1 &&& (3 : Int32))), .val (.int x0)] [])) _
        refine XS.iconst X8.here hx rfl (hb hby at_60) ?_
        show Steps p.tables e below (T8.setTop (mkF m 61 #[.val (.int x0), .val (.int x1), .val (.int (x1 &&& (3 : Int32))), .val (.int x0)] [(.int (1 : Int32))])) _
        refine XS.goto X8.here hx rfl (pc0 := 61) (pc' := 65) rfl (hb hby at_61) (by decide) (by decide) ?_
        show Steps p.tables e below (T8.setTop (mkF m 65 #[.val (.int x0), .val (.int x1), .val (.int (x1 &&& (3 : Int32))), .val (.int x0)] [(.int (1 : Int32))])) _
        exact retN X8 hx (t := .boolean) Bd.returns (by simp) (hb hby at_65) lhr
      · skip
        show Q0 Z x0 x1 wc wv wo h0 n0 _ T8.heap _
        rw [eq8]
        exact ⟨rfl, N8⟩
    · skip
      have k9 : ∀ t, Steps p.tables e below (s₁.setTop (mkF m 20 #[.val (.int x0), .val (.int x1), .val (.int (x1 &&& (3 : Int32))), .unset] [(.int (1 : Int32)), (.int (x1 &&& (3 : Int32)))])) t → Steps p.tables e below (s₁.setTop (entryFrame m #[(.int x0), (.int x1)] maxLocals)) t := by
        intro t kt
        refine k5 t ?_
        show Steps p.tables e below (s₁.setTop (mkF m 10 #[.val (.int x0), .val (.int x1), .val (.int (x1 &&& (3 : Int32))), .unset] [(.int (3 : Int32)), (.int (x1 &&& (3 : Int32)))])) _
        refine XS.icmpYes X0.here hx rfl (pc0 := 10) (pc' := 18) rfl (hb hby at_10) rfl (feq hc6).2 (by decide) (by decide) ?_
        show Steps p.tables e below (s₁.setTop (mkF m 18 #[.val (.int x0), .val (.int x1), .val (.int (x1 &&& (3 : Int32))), .unset] [])) _
        refine XS.iloadN X0.here hx rfl (hb hby at_18) rfl ?_
        show Steps p.tables e below (s₁.setTop (mkF m 19 #[.val (.int x0), .val (.int x1), .val (.int (x1 &&& (3 : Int32))), .unset] [(.int (x1 &&& (3 : Int32)))])) _
        refine XS.iconst X0.here hx rfl (hb hby at_19) ?_
        exact kt
      by_cases hc10 : (x1 &&& (3 : Int32)) = (1 : Int32)
      · skip
        obtain ⟨_, _, ⟨T11, L11, kc11, ks11⟩, -, X11, ⟨Lc11, hQ11, l11, y11, z11⟩, st11⟩ := Jvm.LawKit.callS X0 hx (y := (⟨"com/example/typed_api_errors/typedapierrors/error/StatusClass", "of", "(I)Lcom/example/typed_api_errors/typedapierrors/error/StatusClass;"⟩ : MethodName)) hown (mvT hZ (wd0 hw)) (mvT hZ (wd1 hw)) (mvT hZ (wd2 hw)) (mvT hZ (wd3 hw)) (by decide) (backOf (W := 0) (rmOf l Z a0 hw [] ((450 : Int32) + (x0 % (300 : Int32))) wc wv wo h0 n0 Z0 S_wc S_wv S_wo) hZ (wd3 hw) (wd2 hw) (by decide) (by decide)) (g := (mkF m 50 #[.val (.int x0), .val (.int x1), .val (.int (x1 &&& (3 : Int32))), .val (.int ((450 : Int32) + (x0 % (300 : Int32))))] [(.int ((450 : Int32) + (x0 % (300 : Int32))))])) rfl (by rw [hml]; rfl) (argsL := [(.int ((450 : Int32) + (x0 % (300 : Int32))))]) (rest := []) (lenOf pd__I_Lcom_example_typed_api_errors_typedapierrors_error_StatusClass_ rfl) rfl (by show 2 * 0 + _ ≤ _; exact Nat.le_of_eq rfl) (hb hby at_50) (fun _ _ => ⟨rfl, e0, (by decide : 0 + 0 ≤ _), (by decide : 0 + 0 ≤ _)⟩)
        dsimp only [Pt.U, Pt.locs, Pt.cells, Pt.slots] at X11 l11 y11 z11 st11 hQ11
        subst l11 y11 z11
        obtain ⟨rfl, Nq11, eq11⟩ := hQ11
        have N11 := Fr.app N0 Nq11
        obtain ⟨_, _, ⟨T12, L12, kc12, ks12⟩, -, X12, ⟨Lc12, hQ12, l12, y12, z12⟩, st12⟩ := Jvm.LawKit.callS X11 hx (y := (⟨"com/example/typed_api_errors/typedapierrors/error/StatusClassOfPinLaw", "expected", "(I)Lcom/example/typed_api_errors/typedapierrors/error/StatusClass;"⟩ : MethodName)) hown (mvT hZ (wd6 hw)) (mvT hZ (wd7 hw)) (mvT hZ (wd8 hw)) (mvT hZ (wd9 hw)) (by decide) (backOf (W := 1) (rmEx l Z a0 hw [] ((450 : Int32) + (x0 % (300 : Int32))) wc wv wo h0 n0 Z0 S_wc S_wv S_wo) hZ (wd9 hw) (wd8 hw) (by decide) (by decide)) (g := (mkF m 54 #[.val (.int x0), .val (.int x1), .val (.int (x1 &&& (3 : Int32))), .val (.int ((450 : Int32) + (x0 % (300 : Int32))))] [(.int ((450 : Int32) + (x0 % (300 : Int32)))), (.ref (own_cls ((450 : Int32) + (x0 % (300 : Int32))) wc wv wo))])) rfl (by rw [hml]; rfl) (argsL := [(.int ((450 : Int32) + (x0 % (300 : Int32))))]) (rest := [(.ref (own_cls ((450 : Int32) + (x0 % (300 : Int32))) wc wv wo))]) (lenOf pd__I_Lcom_example_typed_api_errors_typedapierrors_error_StatusClass_ rfl) rfl (by show 2 * 0 + _ ≤ _; exact Nat.le_of_eq rfl) (hb hby at_54) (fun _ _ => ⟨rfl, eq11, (by decide : 0 + 0 ≤ _), (by decide : 0 + 0 ≤ _)⟩)
        dsimp only [Pt.U, Pt.locs, Pt.cells, Pt.slots] at X12 l12 y12 z12 st12 hQ12
        subst l12 y12 z12
        obtain ⟨rfl, Nq12, eq12⟩ := hQ12
        have N12 := Fr.app N11 Nq12
        obtain ⟨lfs, lhr, lhrun, lhended, lhW, lhsame⟩ := X12.leave (v := some (.int (1 : Int32))) (fun h => by rw [Bd.returns] at h; cases h)
        refine ⟨_, _, k9 _ ?_, lhrun, lhended, _, _, rfl, ?_, ⟨_, rfl⟩, lhW, lhsame.mono (by decide) (by decide)⟩
        · skip
          show Steps p.tables e below (s₁.setTop (mkF m 20 #[.val (.int x0), .val (.int x1), .val (.int (x1 &&& (3 : Int32))), .unset] [(.int (1 : Int32)), (.int (x1 &&& (3 : Int32)))])) _
          refine XS.icmpNo X0.here hx rfl (hb hby at_20) rfl (teq hc10).2 ?_
          show Steps p.tables e below (s₁.setTop (mkF m 23 #[.val (.int x0), .val (.int x1), .val (.int (x1 &&& (3 : Int32))), .unset] [])) _
          refine XS.sipush X0.here hx rfl (hb hby at_23) ?_
          show Steps p.tables e below (s₁.setTop (mkF m 26 #[.val (.int x0), .val (.int x1), .val (.int (x1 &&& (3 : Int32))), .unset] [(.int (450 : Int32))])) _
          refine XS.iloadN X0.here hx rfl (hb hby at_26) rfl ?_
          show Steps p.tables e below (s₁.setTop (mkF m 27 #[.val (.int x0), .val (.int x1), .val (.int (x1 &&& (3 : Int32))), .unset] [(.int x0), (.int (450 : Int32))])) _
          refine XS.sipush X0.here hx rfl (hb hby at_27) ?_
          show Steps p.tables e below (s₁.setTop (mkF m 30 #[.val (.int x0), .val (.int x1), .val (.int (x1 &&& (3 : Int32))), .unset] [(.int (300 : Int32)), (.int x0), (.int (450 : Int32))])) _
          refine iremM X0 hx rfl (hb hby at_30) rfl (by decide) ?_
          show Steps p.tables e below (s₁.setTop (mkF m 31 #[.val (.int x0), .val (.int x1), .val (.int (x1 &&& (3 : Int32))), .unset] [(.int (x0 % (300 : Int32))), (.int (450 : Int32))])) _
          refine XS.iadd X0.here hx rfl (hb hby at_31) rfl ?_
          show Steps p.tables e below (s₁.setTop (mkF m 32 #[.val (.int x0), .val (.int x1), .val (.int (x1 &&& (3 : Int32))), .unset] [(.int ((450 : Int32) + (x0 % (300 : Int32))))])) _
          refine XS.istoreN X0.here hx rfl (hb hby at_32) rfl (l' := #[.val (.int x0), .val (.int x1), .val (.int (x1 &&& (3 : Int32))), .val (.int ((450 : Int32) + (x0 % (300 : Int32))))]) rfl ?_
          show Steps p.tables e below (s₁.setTop (mkF m 33 #[.val (.int x0), .val (.int x1), .val (.int (x1 &&& (3 : Int32))), .val (.int ((450 : Int32) + (x0 % (300 : Int32))))] [])) _
          refine XS.goto X0.here hx rfl (pc0 := 33) (pc' := 49) rfl (hb hby at_33) (by decide) (by decide) ?_
          show Steps p.tables e below (s₁.setTop (mkF m 49 #[.val (.int x0), .val (.int x1), .val (.int (x1 &&& (3 : Int32))), .val (.int ((450 : Int32) + (x0 % (300 : Int32))))] [])) _
          refine XS.iloadN X0.here hx rfl (hb hby at_49) rfl ?_
          show Steps p.tables e below (s₁.setTop (mkF m 50 #[.val (.int x0), .val (.int x1), .val (.int (x1 &&& (3 : Int32))), .val (.int ((450 : Int32) + (x0 % (300 : Int32))))] [(.int ((450 : Int32) + (x0 % (300 : Int32))))])) _
          refine st11 _ ?_
          show Steps p.tables e below (T11.setTop (mkF m 53 #[.val (.int x0), .val (.int x1), .val (.int (x1 &&& (3 : Int32))), .val (.int ((450 : Int32) + (x0 % (300 : Int32))))] [(.ref (own_cls ((450 : Int32) + (x0 % (300 : Int32))) wc wv wo))])) _
          refine XS.iloadN X11.here hx rfl (hb hby at_53) rfl ?_
          show Steps p.tables e below (T11.setTop (mkF m 54 #[.val (.int x0), .val (.int x1), .val (.int (x1 &&& (3 : Int32))), .val (.int ((450 : Int32) + (x0 % (300 : Int32))))] [(.int ((450 : Int32) + (x0 % (300 : Int32)))), (.ref (own_cls ((450 : Int32) + (x0 % (300 : Int32))) wc wv wo))])) _
          refine st12 _ ?_
          show Steps p.tables e below (T12.setTop (mkF m 57 #[.val (.int x0), .val (.int x1), .val (.int (x1 &&& (3 : Int32))), .val (.int ((450 : Int32) + (x0 % (300 : Int32))))] [(.ref (own_cls ((450 : Int32) + (x0 % (300 : Int32))) wc wv wo)), (.ref (own_cls ((450 : Int32) + (x0 % (300 : Int32))) wc wv wo))])) _
          refine Jvm.RoadKit.acmp (g := (mkF m 57 #[.val (.int x0), .val (.int x1), .val (.int (x1 &&& (3 : Int32))), .val (.int ((450 : Int32) + (x0 % (300 : Int32))))] [(.ref (own_cls ((450 : Int32) + (x0 % (300 : Int32))) wc wv wo)), (.ref (own_cls ((450 : Int32) + (x0 % (300 : Int32))) wc wv wo))])) X12 hx rfl rfl rfl (pc0 := 57) (pc' := 60) (same := true) rfl (hb hby at_57) rfl (decide_eq_true rfl) (by decide) (by decide) ?_
          show Steps p.tables e below (T12.setTop (mkF m 60 #[.val (.int x0), .val (.int x1), .val (.int (x1 &&& (3 : Int32))), .val (.int ((450 : Int32) + (x0 % (300 : Int32))))] [])) _
          refine XS.iconst X12.here hx rfl (hb hby at_60) ?_
          show Steps p.tables e below (T12.setTop (mkF m 61 #[.val (.int x0), .val (.int x1), .val (.int (x1 &&& (3 : Int32))), .val (.int ((450 : Int32) + (x0 % (300 : Int32))))] [(.int (1 : Int32))])) _
          refine XS.goto X12.here hx rfl (pc0 := 61) (pc' := 65) rfl (hb hby at_61) (by decide) (by decide) ?_
          show Steps p.tables e below (T12.setTop (mkF m 65 #[.val (.int x0), .val (.int x1), .val (.int (x1 &&& (3 : Int32))), .val (.int ((450 : Int32) + (x0 % (300 : Int32))))] [(.int (1 : Int32))])) _
          exact retN X12 hx (t := .boolean) Bd.returns (by simp) (hb hby at_65) lhr
        · skip
          show Q0 Z x0 x1 wc wv wo h0 n0 _ T12.heap _
          rw [eq12]
          exact ⟨rfl, N12⟩
      · skip
        obtain ⟨_, _, ⟨T13, L13, kc13, ks13⟩, -, X13, ⟨Lc13, hQ13, l13, y13, z13⟩, st13⟩ := Jvm.LawKit.callS X0 hx (y := (⟨"com/example/typed_api_errors/typedapierrors/error/StatusClass", "of", "(I)Lcom/example/typed_api_errors/typedapierrors/error/StatusClass;"⟩ : MethodName)) hown (mvT hZ (wd0 hw)) (mvT hZ (wd1 hw)) (mvT hZ (wd2 hw)) (mvT hZ (wd3 hw)) (by decide) (backOf (W := 0) (rmOf l Z a0 hw [] ((350 : Int32) + ((x0 &&& (2147483647 : Int32)) % (300 : Int32))) wc wv wo h0 n0 Z0 S_wc S_wv S_wo) hZ (wd3 hw) (wd2 hw) (by decide) (by decide)) (g := (mkF m 50 #[.val (.int x0), .val (.int x1), .val (.int (x1 &&& (3 : Int32))), .val (.int ((350 : Int32) + ((x0 &&& (2147483647 : Int32)) % (300 : Int32))))] [(.int ((350 : Int32) + ((x0 &&& (2147483647 : Int32)) % (300 : Int32))))])) rfl (by rw [hml]; rfl) (argsL := [(.int ((350 : Int32) + ((x0 &&& (2147483647 : Int32)) % (300 : Int32))))]) (rest := []) (lenOf pd__I_Lcom_example_typed_api_errors_typedapierrors_error_StatusClass_ rfl) rfl (by show 2 * 0 + _ ≤ _; exact Nat.le_of_eq rfl) (hb hby at_50) (fun _ _ => ⟨rfl, e0, (by decide : 0 + 0 ≤ _), (by decide : 0 + 0 ≤ _)⟩)
        dsimp only [Pt.U, Pt.locs, Pt.cells, Pt.slots] at X13 l13 y13 z13 st13 hQ13
        subst l13 y13 z13
        obtain ⟨rfl, Nq13, eq13⟩ := hQ13
        have N13 := Fr.app N0 Nq13
        obtain ⟨_, _, ⟨T14, L14, kc14, ks14⟩, -, X14, ⟨Lc14, hQ14, l14, y14, z14⟩, st14⟩ := Jvm.LawKit.callS X13 hx (y := (⟨"com/example/typed_api_errors/typedapierrors/error/StatusClassOfPinLaw", "expected", "(I)Lcom/example/typed_api_errors/typedapierrors/error/StatusClass;"⟩ : MethodName)) hown (mvT hZ (wd6 hw)) (mvT hZ (wd7 hw)) (mvT hZ (wd8 hw)) (mvT hZ (wd9 hw)) (by decide) (backOf (W := 1) (rmEx l Z a0 hw [] ((350 : Int32) + ((x0 &&& (2147483647 : Int32)) % (300 : Int32))) wc wv wo h0 n0 Z0 S_wc S_wv S_wo) hZ (wd9 hw) (wd8 hw) (by decide) (by decide)) (g := (mkF m 54 #[.val (.int x0), .val (.int x1), .val (.int (x1 &&& (3 : Int32))), .val (.int ((350 : Int32) + ((x0 &&& (2147483647 : Int32)) % (300 : Int32))))] [(.int ((350 : Int32) + ((x0 &&& (2147483647 : Int32)) % (300 : Int32)))), (.ref (own_cls ((350 : Int32) + ((x0 &&& (2147483647 : Int32)) % (300 : Int32))) wc wv wo))])) rfl (by rw [hml]; rfl) (argsL := [(.int ((350 : Int32) + ((x0 &&& (2147483647 : Int32)) % (300 : Int32))))]) (rest := [(.ref (own_cls ((350 : Int32) + ((x0 &&& (2147483647 : Int32)) % (300 : Int32))) wc wv wo))]) (lenOf pd__I_Lcom_example_typed_api_errors_typedapierrors_error_StatusClass_ rfl) rfl (by show 2 * 0 + _ ≤ _; exact Nat.le_of_eq rfl) (hb hby at_54) (fun _ _ => ⟨rfl, eq13, (by decide : 0 + 0 ≤ _), (by decide : 0 + 0 ≤ _)⟩)
        dsimp only [Pt.U, Pt.locs, Pt.cells, Pt.slots] at X14 l14 y14 z14 st14 hQ14
        subst l14 y14 z14
        obtain ⟨rfl, Nq14, eq14⟩ := hQ14
        have N14 := Fr.app N13 Nq14
        obtain ⟨lfs, lhr, lhrun, lhended, lhW, lhsame⟩ := X14.leave (v := some (.int (1 : Int32))) (fun h => by rw [Bd.returns] at h; cases h)
        refine ⟨_, _, k9 _ ?_, lhrun, lhended, _, _, rfl, ?_, ⟨_, rfl⟩, lhW, lhsame.mono (by decide) (by decide)⟩
        · skip
          show Steps p.tables e below (s₁.setTop (mkF m 20 #[.val (.int x0), .val (.int x1), .val (.int (x1 &&& (3 : Int32))), .unset] [(.int (1 : Int32)), (.int (x1 &&& (3 : Int32)))])) _
          refine XS.icmpYes X0.here hx rfl (pc0 := 20) (pc' := 36) rfl (hb hby at_20) rfl (feq hc10).2 (by decide) (by decide) ?_
          show Steps p.tables e below (s₁.setTop (mkF m 36 #[.val (.int x0), .val (.int x1), .val (.int (x1 &&& (3 : Int32))), .unset] [])) _
          refine XS.sipush X0.here hx rfl (hb hby at_36) ?_
          show Steps p.tables e below (s₁.setTop (mkF m 39 #[.val (.int x0), .val (.int x1), .val (.int (x1 &&& (3 : Int32))), .unset] [(.int (350 : Int32))])) _
          refine XS.iloadN X0.here hx rfl (hb hby at_39) rfl ?_
          show Steps p.tables e below (s₁.setTop (mkF m 40 #[.val (.int x0), .val (.int x1), .val (.int (x1 &&& (3 : Int32))), .unset] [(.int x0), (.int (350 : Int32))])) _
          refine X0.ldcInt hx hown (mvT hZ (wd14 hw)) (g := (mkF m 40 #[.val (.int x0), .val (.int x1), .val (.int (x1 &&& (3 : Int32))), .unset] [(.int x0), (.int (350 : Int32))])) rfl (hb hby at_40) _ ?_
          show Steps p.tables e below (s₁.setTop (mkF m 42 #[.val (.int x0), .val (.int x1), .val (.int (x1 &&& (3 : Int32))), .unset] [(.int (2147483647 : Int32)), (.int x0), (.int (350 : Int32))])) _
          refine XS.iand X0.here hx rfl (hb hby at_42) rfl ?_
          show Steps p.tables e below (s₁.setTop (mkF m 43 #[.val (.int x0), .val (.int x1), .val (.int (x1 &&& (3 : Int32))), .unset] [(.int (x0 &&& (2147483647 : Int32))), (.int (350 : Int32))])) _
          refine XS.sipush X0.here hx rfl (hb hby at_43) ?_
          show Steps p.tables e below (s₁.setTop (mkF m 46 #[.val (.int x0), .val (.int x1), .val (.int (x1 &&& (3 : Int32))), .unset] [(.int (300 : Int32)), (.int (x0 &&& (2147483647 : Int32))), (.int (350 : Int32))])) _
          refine iremM X0 hx rfl (hb hby at_46) rfl (by decide) ?_
          show Steps p.tables e below (s₁.setTop (mkF m 47 #[.val (.int x0), .val (.int x1), .val (.int (x1 &&& (3 : Int32))), .unset] [(.int ((x0 &&& (2147483647 : Int32)) % (300 : Int32))), (.int (350 : Int32))])) _
          refine XS.iadd X0.here hx rfl (hb hby at_47) rfl ?_
          show Steps p.tables e below (s₁.setTop (mkF m 48 #[.val (.int x0), .val (.int x1), .val (.int (x1 &&& (3 : Int32))), .unset] [(.int ((350 : Int32) + ((x0 &&& (2147483647 : Int32)) % (300 : Int32))))])) _
          refine XS.istoreN X0.here hx rfl (hb hby at_48) rfl (l' := #[.val (.int x0), .val (.int x1), .val (.int (x1 &&& (3 : Int32))), .val (.int ((350 : Int32) + ((x0 &&& (2147483647 : Int32)) % (300 : Int32))))]) rfl ?_
          show Steps p.tables e below (s₁.setTop (mkF m 49 #[.val (.int x0), .val (.int x1), .val (.int (x1 &&& (3 : Int32))), .val (.int ((350 : Int32) + ((x0 &&& (2147483647 : Int32)) % (300 : Int32))))] [])) _
          refine XS.iloadN X0.here hx rfl (hb hby at_49) rfl ?_
          show Steps p.tables e below (s₁.setTop (mkF m 50 #[.val (.int x0), .val (.int x1), .val (.int (x1 &&& (3 : Int32))), .val (.int ((350 : Int32) + ((x0 &&& (2147483647 : Int32)) % (300 : Int32))))] [(.int ((350 : Int32) + ((x0 &&& (2147483647 : Int32)) % (300 : Int32))))])) _
          refine st13 _ ?_
          show Steps p.tables e below (T13.setTop (mkF m 53 #[.val (.int x0), .val (.int x1), .val (.int (x1 &&& (3 : Int32))), .val (.int ((350 : Int32) + ((x0 &&& (2147483647 : Int32)) % (300 : Int32))))] [(.ref (own_cls ((350 : Int32) + ((x0 &&& (2147483647 : Int32)) % (300 : Int32))) wc wv wo))])) _
          refine XS.iloadN X13.here hx rfl (hb hby at_53) rfl ?_
          show Steps p.tables e below (T13.setTop (mkF m 54 #[.val (.int x0), .val (.int x1), .val (.int (x1 &&& (3 : Int32))), .val (.int ((350 : Int32) + ((x0 &&& (2147483647 : Int32)) % (300 : Int32))))] [(.int ((350 : Int32) + ((x0 &&& (2147483647 : Int32)) % (300 : Int32)))), (.ref (own_cls ((350 : Int32) + ((x0 &&& (2147483647 : Int32)) % (300 : Int32))) wc wv wo))])) _
          refine st14 _ ?_
          show Steps p.tables e below (T14.setTop (mkF m 57 #[.val (.int x0), .val (.int x1), .val (.int (x1 &&& (3 : Int32))), .val (.int ((350 : Int32) + ((x0 &&& (2147483647 : Int32)) % (300 : Int32))))] [(.ref (own_cls ((350 : Int32) + ((x0 &&& (2147483647 : Int32)) % (300 : Int32))) wc wv wo)), (.ref (own_cls ((350 : Int32) + ((x0 &&& (2147483647 : Int32)) % (300 : Int32))) wc wv wo))])) _
          refine Jvm.RoadKit.acmp (g := (mkF m 57 #[.val (.int x0), .val (.int x1), .val (.int (x1 &&& (3 : Int32))), .val (.int ((350 : Int32) + ((x0 &&& (2147483647 : Int32)) % (300 : Int32))))] [(.ref (own_cls ((350 : Int32) + ((x0 &&& (2147483647 : Int32)) % (300 : Int32))) wc wv wo)), (.ref (own_cls ((350 : Int32) + ((x0 &&& (2147483647 : Int32)) % (300 : Int32))) wc wv wo))])) X14 hx rfl rfl rfl (pc0 := 57) (pc' := 60) (same := true) rfl (hb hby at_57) rfl (decide_eq_true rfl) (by decide) (by decide) ?_
          show Steps p.tables e below (T14.setTop (mkF m 60 #[.val (.int x0), .val (.int x1), .val (.int (x1 &&& (3 : Int32))), .val (.int ((350 : Int32) + ((x0 &&& (2147483647 : Int32)) % (300 : Int32))))] [])) _
          refine XS.iconst X14.here hx rfl (hb hby at_60) ?_
          show Steps p.tables e below (T14.setTop (mkF m 61 #[.val (.int x0), .val (.int x1), .val (.int (x1 &&& (3 : Int32))), .val (.int ((350 : Int32) + ((x0 &&& (2147483647 : Int32)) % (300 : Int32))))] [(.int (1 : Int32))])) _
          refine XS.goto X14.here hx rfl (pc0 := 61) (pc' := 65) rfl (hb hby at_61) (by decide) (by decide) ?_
          show Steps p.tables e below (T14.setTop (mkF m 65 #[.val (.int x0), .val (.int x1), .val (.int (x1 &&& (3 : Int32))), .val (.int ((350 : Int32) + ((x0 &&& (2147483647 : Int32)) % (300 : Int32))))] [(.int (1 : Int32))])) _
          exact retN X14 hx (t := .boolean) Bd.returns (by simp) (hb hby at_65) lhr
        · skip
          show Q0 Z x0 x1 wc wv wo h0 n0 _ T14.heap _
          rw [eq14]
          exact ⟨rfl, N14⟩
set_option maxRecDepth 65536 in
set_option maxHeartbeats 40000000 in
theorem comes_1 {Post : Tables → Env → Array Value → State → Outcome → State → Prop} (hpost : ∀ tb e args s v u, (limb_1_1.after args s (.returned v) u = true ∧ limb_1_2.after args s (.returned v) u = true ∧ True) → FrameEnd s (.returned v) u (Jvm.fieldLocs frame_1_writes args s ++ Jvm.arrayLocs frame_1_arrays args s ++ Jvm.staticLocs frame_1_statics s) 0 0 → Post tb e args s (.returned v) u) :
    ArmFor flags0 classFile x code maxLocals ret World_1 tables_1 room_1 Calls_1 rest_1 Pre_1 Post := by
  intro l hfl _ _ p e ha hc hk s m args below hf hA hF happ hP
  obtain ⟨hcalls, hrest, hpre⟩ := hP
  obtain ⟨-, -, -, hnamed, -, -, -, hat⟩ := (Spec.applies_iff hf).mp happ
  obtain ⟨hg, hn⟩ := and_e (Cond.before_iff.mp (show (Jvm.Cond.and given_1 narrow_1).before args s = true from hpre))
  obtain ⟨g1a, g1b⟩ := and_e hg
  obtain ⟨g2a, g2b⟩ := and_e g1b
  obtain ⟨u3a, u3b⟩ := and_e hn
  obtain ⟨u4a, u4b⟩ := and_e u3b
  obtain ⟨w0, w1, rfl⟩ : ∃ w0 w1 : Value, args = #[w0, w1] := by
    have hs : args.size = 2 := by simpa [Cond.value, given_1] using g1a
    obtain ⟨L⟩ := args
    match L, hs with
    | [w0, w1], _ => exact ⟨w0, w1, rfl⟩
  have hw := fun d (hd : d ∈ tables_1) => atoms_spec (ws := Jvm.Cond.code x code maxLocals ret :: tables_1) hat d (List.mem_cons_of_mem _ hd)
  have hfit : Fit s := fun {y c} hc i hi => by
    obtain ⟨ha, rfl⟩ := Array.getElem?_eq_some_iff.mp hc
    have q := List.all_eq_true.mp ((Array.all_eq_true_iff_forall_mem.mp hF) _ (Array.getElem_mem ha)) i (List.mem_range.mpr hi)
    simpa [Array.getElem?_eq_getElem hi] using q
  obtain ⟨i0, ei0⟩ := is_v g2a
  obtain rfl : w0 = (.int i0) := Option.some.inj ei0
  obtain ⟨i1, ei1⟩ := is_v g2b
  obtain rfl : w1 = (.int i1) := Option.some.inj ei1
  obtain ⟨wc, ev_wc⟩ := exa_v u4a
  have S_wc := Sta.start ev_wc (Or.inr ⟨(wd2 hw), (wd12 hw)⟩)
  obtain ⟨wv, ev_wv⟩ := exa_v u4b
  have S_wv := Sta.start ev_wv (Or.inr ⟨(wd2 hw), (wd16 hw)⟩)
  obtain ⟨wo, ev_wo⟩ := exa_v u3a
  have S_wo := Sta.start ev_wo (Or.inr ⟨(wd2 hw), (wd5 hw)⟩)
  obtain ⟨n, o, h1, h2, h3, _, L, rfl, ⟨rfl, N⟩, hq⟩ := rm0 l s _ hw tables_1 i0 i1 wc wv wo s.heap s.heap.size (Nat.le_refl _) S_wc S_wv S_wo p e ha hc hk s m _ below hf ((Spec.applies_iff_loose hf).mp happ).1 ⟨rfl, State.Warmed39.refl s, rfl⟩ trivial
  refine ⟨n, _, h1, h2, h3, hpost _ _ _ _ _ _ ⟨Cond.after_iff.mpr rfl, Cond.after_iff.mpr (eq_i res_at (Term.int_eval (1)) rfl), trivial⟩ ⟨hq.1, hq.2.1, (hq.2.2.sift fun y hy => Or.inr (N y hy)).mono (by decide) (by decide)⟩⟩
theorem main_1_1 : Claimed_1_1 := comes_1 fun _ _ _ _ _ _ h hF => ⟨h.1, hF⟩
theorem main_1_2 : Claimed_1_2 := comes_1 fun _ _ _ _ _ _ h hF => ⟨h.2.1, hF⟩
end Jvm.Pilot.@@N@@
namespace Jvm.Pilot.@@N@@
open Jvm Jvm.ClassFile Sem Op Lib Jvm.Free Jvm.Stand Jvm.Pilot.@@N@@.Jvm.D
/-! MADE BY PROGRAM (witnessworld.py) out of the Statement's table words and the real class files: 12 classes; the members and pool entries that the words name. The judged class is class 1, her method 2. -/
namespace start1
open Jvm.ClassFile
def u (s : String) : CpInfo := .utf8 (stringToUtf16 s)
/-- a pool by its gaps: so many unusable entries, then the entry; so many at the end -/
def gap : Nat → List CpInfo → List CpInfo
  | 0, r => r
  | n + 1, r => .unusable :: gap n r
def poolList (es : List (Nat × CpInfo)) (last : Nat) : List CpInfo := es.foldr (fun e r => gap e.1 (e.2 :: r)) (gap last [])
def pool (es : List (Nat × CpInfo)) (last : Nat) : Array CpInfo := ⟨poolList es last⟩
def fileOf (pool : Array CpInfo) (this : Nat) (attrs : Array Attribute := #[]) (ms : Array MethodInfo := #[]) (fl : Nat := 33) (sup : Nat := 0) (ifs : Array Nat := #[]) (fds : Array FieldInfo := #[]) : ClassFile where
  minorVersion := 0
  majorVersion := 65
  constantPool := pool
  accessFlags := fl
  thisClass := this
  superClass := sup
  interfaces := ifs
  fields := fds
  methods := ms
  attributes := attrs
def plain (name : String) (sup : Option ClassId) : Class where
  name := name
  kind := .ordinary
  loader := none
  accessFlags := 33
  super := sup
  interfaces := #[]
  cf := none
  fields := #[]
  methods := #[]
  instanceTypes := #[]
  staticTypes := #[]
  resolved := #[]
  callSites := []
  init := .initialized
  statics := none
  mirror := none

def pool0 : Array CpInfo := pool [(5, u "<init>"), (0, u "()V"), (1, .class_ 10), (1, u "java/lang/Object")] 113

def k0m0 : Method := { name := "<init>", desc := "()V", sig := { parameters := [], returnType := none }, accessFlags := 1, code := none }
/-- java/lang/Object -/
def k0 : Class := { plain "java/lang/Object" none with
  accessFlags := 33
  interfaces := #[]
  cf := some (fileOf pool0 8 #[] #[{ accessFlags := 1, nameIndex := 5, descriptorIndex := 6, attributes := #[] }] 33 0 #[] #[])
  fields := #[]
  methods := #[k0m0]
  instanceTypes := #[]
  staticTypes := #[]
  resolved := Array.replicate 124 none
  statics := none }

def pool1 : Array CpInfo := pool [(2, .class_ 4), (1, u "java/lang/Object"), (0, u "<init>"), (0, u "()V"), (0, .fieldref 8 9), (0, .class_ 10), (0, .nameAndType 11 12), (0, u "com/example/typed_api_errors/typedapierrors/error/StatusClass"), (0, u "CLIENT_ERROR"), (0, u "Lcom/example/typed_api_errors/typedapierrors/error/StatusClass;"), (0, .fieldref 8 14), (0, .nameAndType 15 12), (0, u "SERVER_ERROR"), (0, .fieldref 8 17), (0, .nameAndType 18 12), (0, u "OTHER"), (0, .integer 2147483647), (0, .methodref 8 21), (0, .nameAndType 22 23), (0, u "of"), (0, u "(I)Lcom/example/typed_api_errors/typedapierrors/error/StatusClass;"), (0, .methodref 25 26), (0, .class_ 27), (0, .nameAndType 28 23), (0, u "com/example/typed_api_errors/typedapierrors/error/StatusClassOfPinLaw"), (0, u "expected"), (3, u "law"), (0, u "(II)Z")] 2

def k1m0 : Method := { name := "<init>", desc := "()V", sig := { parameters := [], returnType := none }, accessFlags := 2, code := none }
def k1c1 : Code := { maxStack := 2, maxLocals := 2, code := method_2_code, exceptionTable := #[], attributes := #[] }
def k1m1 : Method := { name := "expected", desc := "(I)Lcom/example/typed_api_errors/typedapierrors/error/StatusClass;", sig := { parameters := [.int], returnType := some (.object "com/example/typed_api_errors/typedapierrors/error/StatusClass") }, accessFlags := 10, code := some k1c1 }
def k1c2 : Code := { maxStack := 3, maxLocals := 4, code := code, exceptionTable := #[], attributes := #[] }
def k1m2 : Method := { name := "law", desc := "(II)Z", sig := { parameters := [.int, .int], returnType := some .boolean }, accessFlags := 9, code := some k1c2 }
/-- com/example/typed_api_errors/typedapierrors/error/StatusClassOfPinLaw -/
def k1 : Class := { plain "com/example/typed_api_errors/typedapierrors/error/StatusClassOfPinLaw" (some 0) with
  accessFlags := 49
  interfaces := #[]
  cf := some (fileOf pool1 25 #[] #[{ accessFlags := 2, nameIndex := 5, descriptorIndex := 6, attributes := #[] }, { accessFlags := 10, nameIndex := 28, descriptorIndex := 23, attributes := #[] }, { accessFlags := 9, nameIndex := 32, descriptorIndex := 33, attributes := #[] }] 49 2 #[] #[])
  fields := #[]
  methods := #[k1m0, k1m1, k1m2]
  instanceTypes := #[]
  staticTypes := #[]
  resolved := Array.replicate 36 none
  statics := none }

def pool2 : Array CpInfo := pool [(1, .class_ 2), (0, u "java/lang/constant/Constable"), (0, .class_ 4), (0, u "java/lang/Object")] 6

/-- java/lang/constant/Constable -/
def k2 : Class := { plain "java/lang/constant/Constable" (some 0) with
  accessFlags := 1537
  interfaces := #[]
  cf := some (fileOf pool2 1 #[] #[] 1537 3 #[] #[])
  fields := #[]
  methods := #[]
  instanceTypes := #[]
  staticTypes := #[]
  resolved := Array.replicate 11 none
  statics := none }

def pool3 : Array CpInfo := pool [(1, .class_ 2), (0, u "java/lang/Comparable"), (0, .class_ 4), (0, u "java/lang/Object")] 7

/-- java/lang/Comparable -/
def k3 : Class := { plain "java/lang/Comparable" (some 0) with
  accessFlags := 1537
  interfaces := #[]
  cf := some (fileOf pool3 1 #[] #[] 1537 3 #[] #[])
  fields := #[]
  methods := #[]
  instanceTypes := #[]
  staticTypes := #[]
  resolved := Array.replicate 12 none
  statics := none }

def pool4 : Array CpInfo := pool [(1, .class_ 2), (0, u "java/io/Serializable"), (0, .class_ 4), (0, u "java/lang/Object")] 2

/-- java/io/Serializable -/
def k4 : Class := { plain "java/io/Serializable" (some 0) with
  accessFlags := 1537
  interfaces := #[]
  cf := some (fileOf pool4 1 #[] #[] 1537 3 #[] #[])
  fields := #[]
  methods := #[]
  instanceTypes := #[]
  staticTypes := #[]
  resolved := Array.replicate 7 none
  statics := none }

def pool5 : Array CpInfo := pool [(2, .class_ 4), (1, u "java/lang/Enum"), (0, u "name"), (0, u "Ljava/lang/String;"), (2, u "ordinal"), (0, u "I"), (1, .class_ 14), (1, u "java/lang/Object"), (4, u "hash"), (86, .class_ 108), (1, u "java/lang/Enum$EnumDesc"), (2, .class_ 112), (0, u "java/lang/constant/Constable"), (0, .class_ 114), (0, u "java/lang/Comparable"), (0, .class_ 116), (0, u "java/io/Serializable")] 87

/-- java/lang/Enum -/
def k5 : Class := { plain "java/lang/Enum" (some 0) with
  accessFlags := 1057
  interfaces := #[2, 3, 4]
  cf := some (fileOf pool5 2 #[.nestMembers #[106]] #[] 1057 12 #[111, 113, 115] #[{ accessFlags := 18, nameIndex := 5, descriptorIndex := 6, attributes := #[] }, { accessFlags := 18, nameIndex := 9, descriptorIndex := 10, attributes := #[] }, { accessFlags := 2, nameIndex := 19, descriptorIndex := 10, attributes := #[] }])
  fields := #[{ name := "name", type := (.object "java/lang/String"), accessFlags := 18, slot := 0, constantValue := 0 }, { name := "ordinal", type := .int, accessFlags := 18, slot := 1, constantValue := 0 }, { name := "hash", type := .int, accessFlags := 2, slot := 2, constantValue := 0 }]
  methods := #[]
  instanceTypes := #[(.object "java/lang/String"), .int, .int]
  staticTypes := #[]
  resolved := Array.replicate 204 none
  statics := none }

def pool6 : Array CpInfo := pool [(1, .class_ 2), (0, u "com/example/typed_api_errors/typedapierrors/error/StatusClass"), (0, .fieldref 1 4), (0, .nameAndType 5 6), (0, u "CLIENT_ERROR"), (0, u "Lcom/example/typed_api_errors/typedapierrors/error/StatusClass;"), (0, .fieldref 1 8), (0, .nameAndType 9 6), (0, u "SERVER_ERROR"), (0, .fieldref 1 11), (0, .nameAndType 12 6), (0, u "OTHER"), (2, u "$VALUES"), (0, u "[Lcom/example/typed_api_errors/typedapierrors/error/StatusClass;"), (6, .class_ 25), (1, u "java/lang/Enum"), (8, u "label"), (0, u "Ljava/lang/String;"), (23, u "of"), (0, u "(I)Lcom/example/typed_api_errors/typedapierrors/error/StatusClass;")] 7

def k6c0 : Code := { maxStack := 2, maxLocals := 2, code := prog_11_method_4_code, exceptionTable := #[], attributes := #[] }
def k6m0 : Method := { name := "of", desc := "(I)Lcom/example/typed_api_errors/typedapierrors/error/StatusClass;", sig := { parameters := [.int], returnType := some (.object "com/example/typed_api_errors/typedapierrors/error/StatusClass") }, accessFlags := 9, code := some k6c0 }
/-- com/example/typed_api_errors/typedapierrors/error/StatusClass -/
def k6 : Class := { plain "com/example/typed_api_errors/typedapierrors/error/StatusClass" (some 5) with
  accessFlags := 16433
  interfaces := #[]
  cf := some (fileOf pool6 1 #[] #[{ accessFlags := 9, nameIndex := 59, descriptorIndex := 60, attributes := #[] }] 16433 23 #[] #[{ accessFlags := 16409, nameIndex := 5, descriptorIndex := 6, attributes := #[] }, { accessFlags := 16409, nameIndex := 9, descriptorIndex := 6, attributes := #[] }, { accessFlags := 16409, nameIndex := 12, descriptorIndex := 6, attributes := #[] }, { accessFlags := 18, nameIndex := 34, descriptorIndex := 35, attributes := #[] }, { accessFlags := 4122, nameIndex := 15, descriptorIndex := 16, attributes := #[] }])
  fields := #[{ name := "CLIENT_ERROR", type := (.object "com/example/typed_api_errors/typedapierrors/error/StatusClass"), accessFlags := 16409, slot := 0, constantValue := 0 }, { name := "SERVER_ERROR", type := (.object "com/example/typed_api_errors/typedapierrors/error/StatusClass"), accessFlags := 16409, slot := 1, constantValue := 0 }, { name := "OTHER", type := (.object "com/example/typed_api_errors/typedapierrors/error/StatusClass"), accessFlags := 16409, slot := 2, constantValue := 0 }, { name := "label", type := (.object "java/lang/String"), accessFlags := 18, slot := 3, constantValue := 0 }, { name := "$VALUES", type := (.array (.object "com/example/typed_api_errors/typedapierrors/error/StatusClass")), accessFlags := 4122, slot := 3, constantValue := 0 }]
  methods := #[k6m0]
  instanceTypes := #[(.object "java/lang/String"), .int, .int, (.object "java/lang/String")]
  staticTypes := #[(.object "com/example/typed_api_errors/typedapierrors/error/StatusClass"), (.object "com/example/typed_api_errors/typedapierrors/error/StatusClass"), (.object "com/example/typed_api_errors/typedapierrors/error/StatusClass"), (.array (.object "com/example/typed_api_errors/typedapierrors/error/StatusClass"))]
  resolved := Array.replicate 68 none
  statics := some 0 }

def pool7 : Array CpInfo := pool [(1, u "java/lang/Cloneable"), (0, .class_ 1), (0, u "java/lang/Object"), (0, .class_ 3)] 3

/-- java/lang/Cloneable -/
def k7 : Class := { plain "java/lang/Cloneable" (some 0) with
  accessFlags := 1537
  interfaces := #[]
  cf := some (fileOf pool7 2 #[] #[] 1537 4 #[] #[])
  fields := #[]
  methods := #[]
  instanceTypes := #[]
  staticTypes := #[]
  resolved := Array.replicate 8 none
  statics := none }

/-- the primitive byte -/
def k8 : Class := { plain "byte" none with kind := .primitive 'B', accessFlags := 0x411 }
/-- [B -/
def k9 : Class := { plain "[B" (some 0) with kind := .array 8 .byte, interfaces := #[7, 4], accessFlags := 1041 }

/-- the primitive int -/
def k10 : Class := { plain "int" none with kind := .primitive 'I', accessFlags := 0x411 }
/-- [I -/
def k11 : Class := { plain "[I" (some 0) with kind := .array 10 .int, interfaces := #[7, 4], accessFlags := 1041 }

def heap : Heap := #[{ cls := 6, slots := #[.ref 1, .ref 2, .ref 3, .null], vm := .statics 6 },
  { cls := 6, slots := #[.null, .int 0, .int 0, .null], vm := .none },
  { cls := 6, slots := #[.null, .int 1, .int 0, .null], vm := .none },
  { cls := 6, slots := #[.null, .int 2, .int 0, .null], vm := .none }]
def classes : Array Class := #[k0, k1, k2, k3, k4, k5, k6, k7, k8, k9, k10, k11]
def interned : List (Array UInt16 × Addr) := []
def slotsUsed : Nat := 16
def theMethod : MethodId := ⟨1, 2⟩
def args0 : Array Value := #[.int 5, .int 7]
def aboutOver (below : List Frame) : State where
  vm := { classes := classes, interned := interned.toArray }
  heap := heap
  slotsUsed := slotsUsed
  threads := #[{ frames := .invoking theMethod args0 :: below }]
def below0 : List Frame := [.native { method := ⟨0, 0⟩, args := #[] }]
def about1 : State := aboutOver below0
def p0 : Program := .bare "" "" ""
def e0 : Env := launch0.env 0 0 0
theorem w_frames : about1.frames = Frame.invoking theMethod args0 :: below0 := rfl
set_option maxRecDepth 65536 in
theorem w_args : argsFit about1.vm theMethod args0 = true := by decide +kernel
set_option maxRecDepth 65536 in
theorem w_heap : heapFits about1 = true := by decide +kernel
set_option maxRecDepth 65536 in
theorem w_runnable : about1.curStatus? = some .runnable := by decide +kernel
set_option maxRecDepth 65536 in
theorem w_alone : about1.alone = true := by decide +kernel
set_option maxRecDepth 65536 in
theorem w_named : about1.methodNamed? x = some theMethod := by decide +kernel
set_option maxRecDepth 65536 in
theorem w_hears : about1.hears theMethod below0 = true := by decide +kernel
set_option maxRecDepth 65536 in
theorem w_ripe : about1.ripe theMethod args0 below0 = true := by decide +kernel
theorem w_running : about1.status = .running := rfl
set_option maxRecDepth 65536 in
theorem w_room : about1.hasRoom e0.platform room_1 = true :=
  launch0.hasRoom_least _ room_1 (by decide +kernel) (by decide +kernel) (by decide +kernel) (by decide +kernel) (by decide +kernel) (by decide +kernel)
theorem allAtoms_all (ts : List Jvm.Cond) (a : Array Jvm.Value) (st : Jvm.State) : (allAtoms ts).before a st = ts.all (fun c => c.before a st) := by
  induction ts with
  | nil => rfl
  | cons c t ih =>
    show (Jvm.Cond.and c (allAtoms t)).before a st = _
    rw [Jvm.Cond.before_and, ih, List.all_cons]
def words1 : List Jvm.Cond := Jvm.Cond.code x code maxLocals ret :: tables_1
/-- a 'code' word, met by the world's own term for the bytes: nothing is compared byte by byte -/
theorem code_word {y : MethodName} {bytes : ByteArray} {mx : Nat} {rt : Option FieldType} {a : Array Value} {s : State} {m : MethodId} {meth : Method} {c : Code} (h1 : s.methodNamed? y = some m) (h2 : s.vm.method? m = some meth) (h3 : meth.code = some c) (h4 : c.code = bytes)
    (h5 : (c.maxLocals == mx && c.exceptionTable.isEmpty && decide (c.maxStack ≤ mostOperands) && decide (meth.sig.returnType = rt) && !meth.locks && decide (parseMethodDescriptor y.desc = some meth.sig)) = true) : (Jvm.Cond.code y bytes mx rt).before a s = true := by
  simp only [Bool.and_eq_true, beq_iff_eq, Bool.not_eq_true', decide_eq_true_eq] at h5
  obtain ⟨⟨⟨⟨⟨g1, g2⟩, g3⟩, g4⟩, g5⟩, g6⟩ := h5
  simp [Cond.before, Cond.holds, Cond.value, h1, h2, h3, h4, g1, g2, g3, g4, g5, g6]
def isCode : Jvm.Cond → Bool
  | .code _ _ _ _ => true
  | _ => false
theorem all_split {L : List Jvm.Cond} {P : Jvm.Cond → Bool} (h1 : L.all (fun c => isCode c || P c) = true) (h2 : ∀ c ∈ L.filter isCode, P c = true) : L.all P = true := by
  refine List.all_eq_true.mpr fun c hc => ?_
  have h := List.all_eq_true.mp h1 c hc
  rcases Bool.eq_false_or_eq_true (isCode c) with hi | hi
  · exact h2 c (List.mem_filter.mpr ⟨hc, hi⟩)
  · simpa [hi] using h
set_option maxRecDepth 65536 in
theorem w_c0 : (Jvm.Cond.code x code maxLocals ret).before args0 about1 = true := code_word (m := ⟨1, 2⟩) (meth := k1m2) (c := k1c2) (by decide +kernel) rfl rfl rfl (by decide +kernel)
set_option maxRecDepth 65536 in
theorem w_c1 : (Jvm.Cond.code ({ cls := "com/example/typed_api_errors/typedapierrors/error/StatusClass", name := "of", desc := "(I)Lcom/example/typed_api_errors/typedapierrors/error/StatusClass;" } : Jvm.MethodName) prog_11_method_4_code (2 : Nat) (Option.some (Jvm.ClassFile.FieldType.object "com/example/typed_api_errors/typedapierrors/error/StatusClass"))).before args0 about1 = true := code_word (m := ⟨6, 0⟩) (meth := k6m0) (c := k6c0) (by decide +kernel) rfl rfl rfl (by decide +kernel)
set_option maxRecDepth 65536 in
theorem w_c2 : (Jvm.Cond.code ({ cls := "com/example/typed_api_errors/typedapierrors/error/StatusClassOfPinLaw", name := "expected", desc := "(I)Lcom/example/typed_api_errors/typedapierrors/error/StatusClass;" } : Jvm.MethodName) method_2_code (2 : Nat) (Option.some (Jvm.ClassFile.FieldType.object "com/example/typed_api_errors/typedapierrors/error/StatusClass"))).before args0 about1 = true := code_word (m := ⟨1, 1⟩) (meth := k1m1) (c := k1c1) (by decide +kernel) rfl rfl rfl (by decide +kernel)
def codes1 : List Jvm.Cond := [Jvm.Cond.code x code maxLocals ret, Jvm.Cond.code ({ cls := "com/example/typed_api_errors/typedapierrors/error/StatusClass", name := "of", desc := "(I)Lcom/example/typed_api_errors/typedapierrors/error/StatusClass;" } : Jvm.MethodName) prog_11_method_4_code (2 : Nat) (Option.some (Jvm.ClassFile.FieldType.object "com/example/typed_api_errors/typedapierrors/error/StatusClass")), Jvm.Cond.code ({ cls := "com/example/typed_api_errors/typedapierrors/error/StatusClassOfPinLaw", name := "expected", desc := "(I)Lcom/example/typed_api_errors/typedapierrors/error/StatusClass;" } : Jvm.MethodName) method_2_code (2 : Nat) (Option.some (Jvm.ClassFile.FieldType.object "com/example/typed_api_errors/typedapierrors/error/StatusClass"))]
set_option maxRecDepth 65536 in
theorem codes_eq : words1.filter isCode = codes1 := rfl
theorem w_codes : ∀ c ∈ words1.filter isCode, c.before args0 about1 = true := by
  rw [codes_eq]
  intro c hc
  simp only [codes1, List.mem_cons, List.not_mem_nil, or_false] at hc
  rcases hc with rfl | rfl | rfl
  · exact w_c0
  · exact w_c1
  · exact w_c2
set_option maxRecDepth 65536 in
theorem w_t1 : words1.all (fun c => isCode c || c.before args0 about1) = true := by decide +kernel
theorem w_tables : (allAtoms (Jvm.Cond.code x code maxLocals ret :: tables_1)).before args0 about1 = true := by
  rw [allAtoms_all]
  show words1.all (fun c => c.before args0 about1) = true
  refine all_split ?_ w_codes
  rw [w_t1]
set_option maxRecDepth 65536 in
theorem w_case : (Jvm.Cond.and given_1 narrow_1).before args0 about1 = true := by decide +kernel
theorem w_applies : (headSpec (Jvm.Cond.code x code maxLocals ret :: tables_1) room_1).applies x e0.platform about1 = true :=
  (Spec.applies_iff w_frames).mpr ⟨w_running, w_runnable, w_alone, w_named, w_hears, w_ripe, w_room, w_tables⟩
theorem atStart : AtStart classFile x code maxLocals ret World_1 tables_1 room_1 Calls_1 rest_1 Pre_1 launch0 p0 e0 about1 theMethod args0 below0 :=
  ⟨lists_1, trivial, launch0.admits_env _ _ _, launch0.least_env, fairChoices_fair.cas, fairChoices_fair.clock, w_frames, w_args, w_heap, w_applies, trivial, trivial, w_case⟩
end start1
theorem witness_1 : WitnessClaimed_1 := ⟨start1.p0, start1.e0, start1.about1, start1.theMethod, start1.args0, start1.below0, start1.atStart⟩
end Jvm.Pilot.@@N@@

import JvmDerived
import JvmDerived.Pilot.@@N@@Statement
import JvmDerived.Pilot.@@N@@Code
set_option linter.unusedVariables false
set_option linter.unusedSimpArgs false
namespace Jvm.RoadKit
open Sem ClassFile Op Lib Jvm.Stand Jvm.Free Jvm.LawKit
section New
variable {p : Program} {l : Launch} {e : Env} {R : Room} {s : State} {m : MethodId} {args : Array Value} {below : List Frame} {meth : Method} {c : Code} {T : State} {locs : List Loc} {cells slots : Nat}
theorem retI (X : Stand p l e R s m args below meth c T locs cells slots) (hx : p.tables.exec = Jvm.exec) {pc : Nat} {Ls : Array Slot} {z : Int32} {rest : List Value} (hret : meth.sig.returnType = some .int) (hd : decode c.code pc = .ok (.ireturn, 1)) {fs : List Frame}
    (hl : ∀ (f : JFrame) (acts : List Action), f.method = m → f.locked = none → f.entered = [] → (doReturn e (T.setTop f) acts (some (.int z))).1 = T.setFrames fs) : Steps p.tables e below (T.setTop (mkF m pc Ls (.int z :: rest))) (T.setFrames fs) :=
  retOut X hx hret rfl (Or.inl ⟨rfl, Or.inl rfl, z, rfl⟩) hd hl
theorem own_lremM {g : JFrame} {target : State} (X : Stand p l e R s m args below meth c T locs cells slots) (hx : p.tables.exec = Jvm.exec) (hg : g.method = m) {x y : Int64} {rest : List Value} (hd : decode c.code g.pc = .ok (.lrem, 1)) (hs : g.stack = .long y :: .long x :: rest) (hy : y ≠ 0)
    (hr : Steps p.tables e below (T.setTop { g with pc := g.pc + 1, stack := .long (x % y) :: rest }) target) : Steps p.tables e below (T.setTop g) target := by
  have q : x - x / y * y = x % y := lrem_mod x y
  exact XS.lrem X.here hx hg hd hs hy (by rw [q]; exact hr)
theorem own_evInt {Z : State} {args : Array Value} {t : Term} {k : Int32} (h : (Jvm.Cond.eq t (.int k)).value args Z none Z [] = some true) : t.eval args Z none [] Z = some (.int k) := by
  obtain ⟨x, y, h1, h2, -, -⟩ := cmp_v (Or.inl h)
  have hy : y = .int k := Option.some.inj (h2.symm.trans (Term.int_eval k))
  subst hy
  have hx : x = .int k := by
    cases x <;> simp [Cond.value, h1, h2] at h ⊢
    exact h
  rw [h1, hx]
theorem own_selPriv {y : MethodName} {kI : Nat} (hI : (Jvm.Cond.instantiable y.cls kI).before args s = true) (hpriv : s.PrivateAt y) (hinst : (Jvm.Cond.instanceMethod y).before args s = true) (hy : y.cls ≠ "java/lang/invoke/MethodHandle" ∧ y.cls ≠ "java/lang/invoke/VarHandle") : (Jvm.Cond.selects y.cls y y).before args s = true := by
  obtain ⟨c, k, h1, h2, -, h4, -⟩ := Cond.instantiable_spec hI
  exact selects_self_of_private h1 h2 (Bool.or_eq_false_iff.mp h4).1 hpriv hinst hy
theorem own_since0 (s : State) : s.Since s.vm 0 := (State.WarmedH.refl s).since _
theorem own_irr32 (x : Int32) : ¬ (x < x) := Int32.lt_irrefl
theorem own_irr64 (x : Int64) : ¬ (x < x) := Int64.lt_irrefl
theorem own_fldInt {Z : State} {args : Array Value} {t : Term} {a : Addr} {C n d : String} {k : Int32} (ev : t.eval args Z none [] Z = some (.ref a)) (h : (Jvm.Cond.eq (.field t C n d) (.int k)).value args Z none Z [] = some true) : Fld Z Z.heap a C n d (.int k) := by
  obtain ⟨x, y, h1, h2, -, -⟩ := cmp_v (Or.inl h)
  have hy : y = .int k := Option.some.inj (h2.symm.trans (Term.int_eval k))
  subst hy
  have hx : x = .int k := by
    cases x <;> simp [Cond.value, h1, h2] at h ⊢
    exact h
  rw [fld_at ev] at h1
  exact Fld.start (hx ▸ h1)
end New
end Jvm.RoadKit
namespace Jvm.Pilot.@@N@@
open Jvm Jvm.ClassFile Sem Op Lib Jvm.Free Jvm.Stand Jvm.LawKit Jvm.RoadKit Bundle Jvm.Pilot.@@N@@.Jvm.D
theorem wd0 {a0 : Array Value} {Z : State} (hw : ∀ d ∈ tables_1, d.before a0 Z = true) : (Jvm.Cond.classLink "com/example/formula_to_strategy/formulatostrategy/language/BoundIsLowerPinLaw" (22 : Nat) "com/example/formula_to_strategy/formulatostrategy/language/Bound").before a0 Z = true := hw _ (List.mem_of_getElem? (i := 0) rfl)
theorem wd1 {a0 : Array Value} {Z : State} (hw : ∀ d ∈ tables_1, d.before a0 Z = true) : (Jvm.Cond.instantiable "com/example/formula_to_strategy/formulatostrategy/language/Bound" (2 : Nat)).before a0 Z = true := hw _ (List.mem_of_getElem? (i := 1) rfl)
theorem wd2 {a0 : Array Value} {Z : State} (hw : ∀ d ∈ tables_1, d.before a0 Z = true) : (Jvm.Cond.initialized "com/example/formula_to_strategy/formulatostrategy/language/Bound").before a0 Z = true := hw _ (List.mem_of_getElem? (i := 2) rfl)
theorem wd3 {a0 : Array Value} {Z : State} (hw : ∀ d ∈ tables_1, d.before a0 Z = true) : (Jvm.Cond.methodLink "com/example/formula_to_strategy/formulatostrategy/language/BoundIsLowerPinLaw" (24 : Nat) ({ cls := "com/example/formula_to_strategy/formulatostrategy/language/BoundIsLowerPinLaw", name := "relation", desc := "(I)Lcom/example/formula_to_strategy/formulatostrategy/language/BinaryExpression$Operator;" } : Jvm.MethodName)).before a0 Z = true := hw _ (List.mem_of_getElem? (i := 3) rfl)
theorem wd4 {a0 : Array Value} {Z : State} (hw : ∀ d ∈ tables_1, d.before a0 Z = true) : (Jvm.Cond.static ({ cls := "com/example/formula_to_strategy/formulatostrategy/language/BoundIsLowerPinLaw", name := "relation", desc := "(I)Lcom/example/formula_to_strategy/formulatostrategy/language/BinaryExpression$Operator;" } : Jvm.MethodName)).before a0 Z = true := hw _ (List.mem_of_getElem? (i := 4) rfl)
theorem wd5 {a0 : Array Value} {Z : State} (hw : ∀ d ∈ tables_1, d.before a0 Z = true) : (Jvm.Cond.initialized "com/example/formula_to_strategy/formulatostrategy/language/BoundIsLowerPinLaw").before a0 Z = true := hw _ (List.mem_of_getElem? (i := 5) rfl)
theorem wd6 {a0 : Array Value} {Z : State} (hw : ∀ d ∈ tables_1, d.before a0 Z = true) : (Jvm.Cond.code ({ cls := "com/example/formula_to_strategy/formulatostrategy/language/BoundIsLowerPinLaw", name := "relation", desc := "(I)Lcom/example/formula_to_strategy/formulatostrategy/language/BinaryExpression$Operator;" } : Jvm.MethodName) method_2_code (1 : Nat) (Option.some (Jvm.ClassFile.FieldType.object "com/example/formula_to_strategy/formulatostrategy/language/BinaryExpression$Operator"))).before a0 Z = true := hw _ (List.mem_of_getElem? (i := 6) rfl)
theorem wd7 {a0 : Array Value} {Z : State} (hw : ∀ d ∈ tables_1, d.before a0 Z = true) : (Jvm.Cond.fieldLink "com/example/formula_to_strategy/formulatostrategy/language/BoundIsLowerPinLaw" (7 : Nat) "com/example/formula_to_strategy/formulatostrategy/language/BinaryExpression$Operator" "LESS" "Lcom/example/formula_to_strategy/formulatostrategy/language/BinaryExpression$Operator;").before a0 Z = true := hw _ (List.mem_of_getElem? (i := 7) rfl)
theorem wd8 {a0 : Array Value} {Z : State} (hw : ∀ d ∈ tables_1, d.before a0 Z = true) : (Jvm.Cond.initialized "com/example/formula_to_strategy/formulatostrategy/language/BinaryExpression$Operator").before a0 Z = true := hw _ (List.mem_of_getElem? (i := 8) rfl)
theorem wd9 {a0 : Array Value} {Z : State} (hw : ∀ d ∈ tables_1, d.before a0 Z = true) : (Jvm.Cond.laysStatic "com/example/formula_to_strategy/formulatostrategy/language/BinaryExpression$Operator" "LESS" "Lcom/example/formula_to_strategy/formulatostrategy/language/BinaryExpression$Operator;").before a0 Z = true := hw _ (List.mem_of_getElem? (i := 9) rfl)
theorem wd10 {a0 : Array Value} {Z : State} (hw : ∀ d ∈ tables_1, d.before a0 Z = true) : (Jvm.Cond.methodLink "com/example/formula_to_strategy/formulatostrategy/language/BoundIsLowerPinLaw" (30 : Nat) ({ cls := "com/example/formula_to_strategy/formulatostrategy/language/Bound", name := "<init>", desc := "(Lcom/example/formula_to_strategy/formulatostrategy/language/BinaryExpression$Operator;D)V" } : Jvm.MethodName)).before a0 Z = true := hw _ (List.mem_of_getElem? (i := 10) rfl)
theorem wd11 {a0 : Array Value} {Z : State} (hw : ∀ d ∈ tables_1, d.before a0 Z = true) : (Jvm.Cond.instanceMethod ({ cls := "com/example/formula_to_strategy/formulatostrategy/language/Bound", name := "<init>", desc := "(Lcom/example/formula_to_strategy/formulatostrategy/language/BinaryExpression$Operator;D)V" } : Jvm.MethodName)).before a0 Z = true := hw _ (List.mem_of_getElem? (i := 11) rfl)
theorem wd12 {a0 : Array Value} {Z : State} (hw : ∀ d ∈ tables_1, d.before a0 Z = true) : (Jvm.Cond.code ({ cls := "com/example/formula_to_strategy/formulatostrategy/language/Bound", name := "<init>", desc := "(Lcom/example/formula_to_strategy/formulatostrategy/language/BinaryExpression$Operator;D)V" } : Jvm.MethodName) prog_28_method_1_code (4 : Nat) (Option.none : Option Jvm.ClassFile.FieldType)).before a0 Z = true := hw _ (List.mem_of_getElem? (i := 12) rfl)
theorem wd13 {a0 : Array Value} {Z : State} (hw : ∀ d ∈ tables_1, d.before a0 Z = true) : (Jvm.Cond.methodLink "com/example/formula_to_strategy/formulatostrategy/language/Bound" (1 : Nat) ({ cls := "java/lang/Object", name := "<init>", desc := "()V" } : Jvm.MethodName)).before a0 Z = true := hw _ (List.mem_of_getElem? (i := 13) rfl)
theorem wd14 {a0 : Array Value} {Z : State} (hw : ∀ d ∈ tables_1, d.before a0 Z = true) : (Jvm.Cond.instanceMethod ({ cls := "java/lang/Object", name := "<init>", desc := "()V" } : Jvm.MethodName)).before a0 Z = true := hw _ (List.mem_of_getElem? (i := 14) rfl)
theorem wd15 {a0 : Array Value} {Z : State} (hw : ∀ d ∈ tables_1, d.before a0 Z = true) : (Jvm.Cond.code ({ cls := "java/lang/Object", name := "<init>", desc := "()V" } : Jvm.MethodName) object_method_1_code (1 : Nat) (Option.none : Option Jvm.ClassFile.FieldType)).before a0 Z = true := hw _ (List.mem_of_getElem? (i := 15) rfl)
theorem wd16 {a0 : Array Value} {Z : State} (hw : ∀ d ∈ tables_1, d.before a0 Z = true) : (Jvm.Cond.fieldLink "com/example/formula_to_strategy/formulatostrategy/language/Bound" (7 : Nat) "com/example/formula_to_strategy/formulatostrategy/language/Bound" "relation" "Lcom/example/formula_to_strategy/formulatostrategy/language/BinaryExpression$Operator;").before a0 Z = true := hw _ (List.mem_of_getElem? (i := 16) rfl)
theorem wd17 {a0 : Array Value} {Z : State} (hw : ∀ d ∈ tables_1, d.before a0 Z = true) : (Jvm.Cond.laysFinal "com/example/formula_to_strategy/formulatostrategy/language/Bound" "com/example/formula_to_strategy/formulatostrategy/language/Bound" "relation" "Lcom/example/formula_to_strategy/formulatostrategy/language/BinaryExpression$Operator;").before a0 Z = true := hw _ (List.mem_of_getElem? (i := 17) rfl)
theorem wd18 {a0 : Array Value} {Z : State} (hw : ∀ d ∈ tables_1, d.before a0 Z = true) : (Jvm.Cond.fieldLink "com/example/formula_to_strategy/formulatostrategy/language/Bound" (13 : Nat) "com/example/formula_to_strategy/formulatostrategy/language/Bound" "threshold" "D").before a0 Z = true := hw _ (List.mem_of_getElem? (i := 18) rfl)
theorem wd19 {a0 : Array Value} {Z : State} (hw : ∀ d ∈ tables_1, d.before a0 Z = true) : (Jvm.Cond.laysFinal "com/example/formula_to_strategy/formulatostrategy/language/Bound" "com/example/formula_to_strategy/formulatostrategy/language/Bound" "threshold" "D").before a0 Z = true := hw _ (List.mem_of_getElem? (i := 19) rfl)
theorem wd20 {a0 : Array Value} {Z : State} (hw : ∀ d ∈ tables_1, d.before a0 Z = true) : (Jvm.Cond.methodLink "com/example/formula_to_strategy/formulatostrategy/language/BoundIsLowerPinLaw" (33 : Nat) ({ cls := "com/example/formula_to_strategy/formulatostrategy/language/Bound", name := "isLower", desc := "()Z" } : Jvm.MethodName)).before a0 Z = true := hw _ (List.mem_of_getElem? (i := 20) rfl)
theorem wd21 {a0 : Array Value} {Z : State} (hw : ∀ d ∈ tables_1, d.before a0 Z = true) : (Jvm.Cond.declares ({ cls := "com/example/formula_to_strategy/formulatostrategy/language/Bound", name := "isLower", desc := "()Z" } : Jvm.MethodName)).before a0 Z = true := hw _ (List.mem_of_getElem? (i := 21) rfl)
theorem wd22 {a0 : Array Value} {Z : State} (hw : ∀ d ∈ tables_1, d.before a0 Z = true) : (Jvm.Cond.instanceMethod ({ cls := "com/example/formula_to_strategy/formulatostrategy/language/Bound", name := "isLower", desc := "()Z" } : Jvm.MethodName)).before a0 Z = true := hw _ (List.mem_of_getElem? (i := 22) rfl)
theorem wd23 {a0 : Array Value} {Z : State} (hw : ∀ d ∈ tables_1, d.before a0 Z = true) : (Jvm.Cond.selects "com/example/formula_to_strategy/formulatostrategy/language/Bound" ({ cls := "com/example/formula_to_strategy/formulatostrategy/language/Bound", name := "isLower", desc := "()Z" } : Jvm.MethodName) ({ cls := "com/example/formula_to_strategy/formulatostrategy/language/Bound", name := "isLower", desc := "()Z" } : Jvm.MethodName)).before a0 Z = true := hw _ (List.mem_of_getElem? (i := 23) rfl)
theorem wd24 {a0 : Array Value} {Z : State} (hw : ∀ d ∈ tables_1, d.before a0 Z = true) : (Jvm.Cond.code ({ cls := "com/example/formula_to_strategy/formulatostrategy/language/Bound", name := "isLower", desc := "()Z" } : Jvm.MethodName) prog_28_method_2_code (1 : Nat) (Option.some Jvm.ClassFile.FieldType.boolean)).before a0 Z = true := hw _ (List.mem_of_getElem? (i := 24) rfl)
theorem wd25 {a0 : Array Value} {Z : State} (hw : ∀ d ∈ tables_1, d.before a0 Z = true) : (Jvm.Cond.fieldLink "com/example/formula_to_strategy/formulatostrategy/language/Bound" (17 : Nat) "com/example/formula_to_strategy/formulatostrategy/language/BinaryExpression$Operator" "GREATER_EQUAL" "Lcom/example/formula_to_strategy/formulatostrategy/language/BinaryExpression$Operator;").before a0 Z = true := hw _ (List.mem_of_getElem? (i := 25) rfl)
theorem wd26 {a0 : Array Value} {Z : State} (hw : ∀ d ∈ tables_1, d.before a0 Z = true) : (Jvm.Cond.laysStatic "com/example/formula_to_strategy/formulatostrategy/language/BinaryExpression$Operator" "GREATER_EQUAL" "Lcom/example/formula_to_strategy/formulatostrategy/language/BinaryExpression$Operator;").before a0 Z = true := hw _ (List.mem_of_getElem? (i := 26) rfl)
theorem wd27 {a0 : Array Value} {Z : State} (hw : ∀ d ∈ tables_1, d.before a0 Z = true) : (Jvm.Cond.fieldLink "com/example/formula_to_strategy/formulatostrategy/language/Bound" (22 : Nat) "com/example/formula_to_strategy/formulatostrategy/language/BinaryExpression$Operator" "GREATER" "Lcom/example/formula_to_strategy/formulatostrategy/language/BinaryExpression$Operator;").before a0 Z = true := hw _ (List.mem_of_getElem? (i := 27) rfl)
theorem wd28 {a0 : Array Value} {Z : State} (hw : ∀ d ∈ tables_1, d.before a0 Z = true) : (Jvm.Cond.laysStatic "com/example/formula_to_strategy/formulatostrategy/language/BinaryExpression$Operator" "GREATER" "Lcom/example/formula_to_strategy/formulatostrategy/language/BinaryExpression$Operator;").before a0 Z = true := hw _ (List.mem_of_getElem? (i := 28) rfl)
theorem wd29 {a0 : Array Value} {Z : State} (hw : ∀ d ∈ tables_1, d.before a0 Z = true) : (Jvm.Cond.methodLink "com/example/formula_to_strategy/formulatostrategy/language/BoundIsLowerPinLaw" (37 : Nat) ({ cls := "com/example/formula_to_strategy/formulatostrategy/language/Bound", name := "holds", desc := "(D)Z" } : Jvm.MethodName)).before a0 Z = true := hw _ (List.mem_of_getElem? (i := 29) rfl)
theorem wd30 {a0 : Array Value} {Z : State} (hw : ∀ d ∈ tables_1, d.before a0 Z = true) : (Jvm.Cond.declares ({ cls := "com/example/formula_to_strategy/formulatostrategy/language/Bound", name := "holds", desc := "(D)Z" } : Jvm.MethodName)).before a0 Z = true := hw _ (List.mem_of_getElem? (i := 30) rfl)
theorem wd31 {a0 : Array Value} {Z : State} (hw : ∀ d ∈ tables_1, d.before a0 Z = true) : (Jvm.Cond.instanceMethod ({ cls := "com/example/formula_to_strategy/formulatostrategy/language/Bound", name := "holds", desc := "(D)Z" } : Jvm.MethodName)).before a0 Z = true := hw _ (List.mem_of_getElem? (i := 31) rfl)
theorem wd32 {a0 : Array Value} {Z : State} (hw : ∀ d ∈ tables_1, d.before a0 Z = true) : (Jvm.Cond.selects "com/example/formula_to_strategy/formulatostrategy/language/Bound" ({ cls := "com/example/formula_to_strategy/formulatostrategy/language/Bound", name := "holds", desc := "(D)Z" } : Jvm.MethodName) ({ cls := "com/example/formula_to_strategy/formulatostrategy/language/Bound", name := "holds", desc := "(D)Z" } : Jvm.MethodName)).before a0 Z = true := hw _ (List.mem_of_getElem? (i := 32) rfl)
theorem wd33 {a0 : Array Value} {Z : State} (hw : ∀ d ∈ tables_1, d.before a0 Z = true) : (Jvm.Cond.code ({ cls := "com/example/formula_to_strategy/formulatostrategy/language/Bound", name := "holds", desc := "(D)Z" } : Jvm.MethodName) prog_28_method_5_code (3 : Nat) (Option.some Jvm.ClassFile.FieldType.boolean)).before a0 Z = true := hw _ (List.mem_of_getElem? (i := 33) rfl)
theorem wd34 {a0 : Array Value} {Z : State} (hw : ∀ d ∈ tables_1, d.before a0 Z = true) : (Jvm.Cond.fieldLink "com/example/formula_to_strategy/formulatostrategy/language/Bound" (28 : Nat) "com/example/formula_to_strategy/formulatostrategy/language/Bound$1" "$SwitchMap$com$example$formula_to_strategy$formulatostrategy$language$BinaryExpression$Operator" "[I").before a0 Z = true := hw _ (List.mem_of_getElem? (i := 34) rfl)
theorem wd35 {a0 : Array Value} {Z : State} (hw : ∀ d ∈ tables_1, d.before a0 Z = true) : (Jvm.Cond.initialized "com/example/formula_to_strategy/formulatostrategy/language/Bound$1").before a0 Z = true := hw _ (List.mem_of_getElem? (i := 35) rfl)
theorem wd36 {a0 : Array Value} {Z : State} (hw : ∀ d ∈ tables_1, d.before a0 Z = true) : (Jvm.Cond.laysStatic "com/example/formula_to_strategy/formulatostrategy/language/Bound$1" "$SwitchMap$com$example$formula_to_strategy$formulatostrategy$language$BinaryExpression$Operator" "[I").before a0 Z = true := hw _ (List.mem_of_getElem? (i := 36) rfl)
theorem wd37 {a0 : Array Value} {Z : State} (hw : ∀ d ∈ tables_1, d.before a0 Z = true) : (Jvm.Cond.methodLink "com/example/formula_to_strategy/formulatostrategy/language/Bound" (34 : Nat) ({ cls := "com/example/formula_to_strategy/formulatostrategy/language/BinaryExpression$Operator", name := "ordinal", desc := "()I" } : Jvm.MethodName)).before a0 Z = true := hw _ (List.mem_of_getElem? (i := 37) rfl)
theorem wd38 {a0 : Array Value} {Z : State} (hw : ∀ d ∈ tables_1, d.before a0 Z = true) : (Jvm.Cond.sameMethod "com/example/formula_to_strategy/formulatostrategy/language/BinaryExpression$Operator" "java/lang/Enum" "ordinal" "()I").before a0 Z = true := hw _ (List.mem_of_getElem? (i := 38) rfl)
theorem wd39 {a0 : Array Value} {Z : State} (hw : ∀ d ∈ tables_1, d.before a0 Z = true) : (Jvm.Cond.declares ({ cls := "java/lang/Enum", name := "ordinal", desc := "()I" } : Jvm.MethodName)).before a0 Z = true := hw _ (List.mem_of_getElem? (i := 39) rfl)
theorem wd40 {a0 : Array Value} {Z : State} (hw : ∀ d ∈ tables_1, d.before a0 Z = true) : (Jvm.Cond.instanceMethod ({ cls := "java/lang/Enum", name := "ordinal", desc := "()I" } : Jvm.MethodName)).before a0 Z = true := hw _ (List.mem_of_getElem? (i := 40) rfl)
theorem wd41 {a0 : Array Value} {Z : State} (hw : ∀ d ∈ tables_1, d.before a0 Z = true) : (Jvm.Cond.selects "com/example/formula_to_strategy/formulatostrategy/language/BinaryExpression$Operator" ({ cls := "com/example/formula_to_strategy/formulatostrategy/language/BinaryExpression$Operator", name := "ordinal", desc := "()I" } : Jvm.MethodName) ({ cls := "java/lang/Enum", name := "ordinal", desc := "()I" } : Jvm.MethodName)).before a0 Z = true := hw _ (List.mem_of_getElem? (i := 41) rfl)
theorem wd42 {a0 : Array Value} {Z : State} (hw : ∀ d ∈ tables_1, d.before a0 Z = true) : (Jvm.Cond.initialized "java/lang/Enum").before a0 Z = true := hw _ (List.mem_of_getElem? (i := 42) rfl)
theorem wd43 {a0 : Array Value} {Z : State} (hw : ∀ d ∈ tables_1, d.before a0 Z = true) : (Jvm.Cond.code ({ cls := "java/lang/Enum", name := "ordinal", desc := "()I" } : Jvm.MethodName) jdk_37_method_2_code (1 : Nat) (Option.some Jvm.ClassFile.FieldType.int)).before a0 Z = true := hw _ (List.mem_of_getElem? (i := 43) rfl)
theorem wd44 {a0 : Array Value} {Z : State} (hw : ∀ d ∈ tables_1, d.before a0 Z = true) : (Jvm.Cond.fieldLink "java/lang/Enum" (7 : Nat) "java/lang/Enum" "ordinal" "I").before a0 Z = true := hw _ (List.mem_of_getElem? (i := 44) rfl)
theorem wd46 {a0 : Array Value} {Z : State} (hw : ∀ d ∈ tables_1, d.before a0 Z = true) : (Jvm.Cond.fieldLink "com/example/formula_to_strategy/formulatostrategy/language/BoundIsLowerPinLaw" (16 : Nat) "com/example/formula_to_strategy/formulatostrategy/language/BinaryExpression$Operator" "GREATER" "Lcom/example/formula_to_strategy/formulatostrategy/language/BinaryExpression$Operator;").before a0 Z = true := hw _ (List.mem_of_getElem? (i := 46) rfl)
theorem wd47 {a0 : Array Value} {Z : State} (hw : ∀ d ∈ tables_1, d.before a0 Z = true) : (Jvm.Cond.fieldLink "com/example/formula_to_strategy/formulatostrategy/language/BoundIsLowerPinLaw" (13 : Nat) "com/example/formula_to_strategy/formulatostrategy/language/BinaryExpression$Operator" "LESS_EQUAL" "Lcom/example/formula_to_strategy/formulatostrategy/language/BinaryExpression$Operator;").before a0 Z = true := hw _ (List.mem_of_getElem? (i := 47) rfl)
theorem wd48 {a0 : Array Value} {Z : State} (hw : ∀ d ∈ tables_1, d.before a0 Z = true) : (Jvm.Cond.laysStatic "com/example/formula_to_strategy/formulatostrategy/language/BinaryExpression$Operator" "LESS_EQUAL" "Lcom/example/formula_to_strategy/formulatostrategy/language/BinaryExpression$Operator;").before a0 Z = true := hw _ (List.mem_of_getElem? (i := 48) rfl)
theorem wd49 {a0 : Array Value} {Z : State} (hw : ∀ d ∈ tables_1, d.before a0 Z = true) : (Jvm.Cond.fieldLink "com/example/formula_to_strategy/formulatostrategy/language/BoundIsLowerPinLaw" (19 : Nat) "com/example/formula_to_strategy/formulatostrategy/language/BinaryExpression$Operator" "GREATER_EQUAL" "Lcom/example/formula_to_strategy/formulatostrategy/language/BinaryExpression$Operator;").before a0 Z = true := hw _ (List.mem_of_getElem? (i := 49) rfl)
def own_rel (x : Int32) (a b c d : Addr) : Addr := if x = 0 then a else if x = 1 then b else if x = 2 then c else d
def own_holds (sw : Int32) (b a : Int64) : Int32 := if sw = 1 then (if b < a then 0 else 1) else if sw = 2 then (if a < b then 1 else 0) else if sw = 3 then (if a < b then 0 else 1) else (if b < a then 1 else 0)
theorem own_and3 (x : Int32) : (x &&& (3 : Int32)) = 0 ∨ (x &&& (3 : Int32)) = 1 ∨ (x &&& (3 : Int32)) = 2 ∨ (x &&& (3 : Int32)) = 3 := by
  have q := c_mask x 3 2 (by decide) (by decide)
  simp only [← Int32.toInt_inj]
  have o0 : (0 : Int32).toInt = 0 := rfl
  have o1 : (1 : Int32).toInt = 1 := rfl
  have o2 : (2 : Int32).toInt = 2 := rfl
  have o3 : (3 : Int32).toInt = 3 := rfl
  omega
theorem own_b1 (x : Int32) : B53 x.toInt64 := by
  have q := c_i2l x; have r := rng32 x; unfold B53; omega
theorem own_b2 (x : Int32) : B53 (x.toInt64 + (1 : Int64)) := by
  have q := c_i2l x; have r := rng32 x; have a := c_ladd x.toInt64 1; have o1 : (1 : Int64).toInt = 1 := rfl; have z := rng64 (x.toInt64 + 1); unfold B53; omega
theorem own_b3 (x : Int32) : B53 (x.toInt64 - (1 : Int64)) := by
  have q := c_i2l x; have r := rng32 x; have a := c_lsub x.toInt64 1; have o1 : (1 : Int64).toInt = 1 := rfl; have z := rng64 (x.toInt64 - 1); unfold B53; omega
theorem own_l1 (x : Int32) : x.toInt64 < x.toInt64 + (1 : Int64) := by
  have q := c_i2l x; have r := rng32 x; have a := c_ladd x.toInt64 1; have o1 : (1 : Int64).toInt = 1 := rfl; have z := rng64 (x.toInt64 + 1); rw [Int64.lt_iff_toInt_lt]; omega
theorem own_l2 (x : Int32) : x.toInt64 - (1 : Int64) < x.toInt64 := by
  have q := c_i2l x; have r := rng32 x; have a := c_lsub x.toInt64 1; have o1 : (1 : Int64).toInt = 1 := rfl; have z := rng64 (x.toInt64 - 1); rw [Int64.lt_iff_toInt_lt]; omega
theorem own_n1 (x : Int32) : ¬ x.toInt64 + (1 : Int64) < x.toInt64 := fun q => by
  have a := own_l1 x; rw [Int64.lt_iff_toInt_lt] at q a; omega
theorem own_n2 (x : Int32) : ¬ x.toInt64 < x.toInt64 - (1 : Int64) := fun q => by
  have a := own_l2 x; rw [Int64.lt_iff_toInt_lt] at q a; omega
theorem ef_Rel (m : MethodId) (x0 : Int32) : entryFrame m #[(.int x0)] 1 = mkF m 0 #[.val (.int x0)] [] := by first | (simp [entryFrame, mkF, argsToLocals, Value.category]; done) | rfl
theorem pn_com_example_formula_to_strategy_formulatostrategy_language_BoundIsLowerPinLaw : plainName "com/example/formula_to_strategy/formulatostrategy/language/BoundIsLowerPinLaw" = true := by first | (simp [plainName, overriddenIn]; done) | decide +kernel
theorem dd_method_2_code_0 : decode method_2_code 0 = .ok (.iload_n 0, 1) := by decide +kernel
theorem dd_method_2_code_1 : decode method_2_code 1 = .ok (.ifCond .ne 7, 3) := by decide +kernel
theorem dd_method_2_code_4 : decode method_2_code 4 = .ok (.getstatic 7, 3) := by decide +kernel
theorem dd_method_2_code_7 : decode method_2_code 7 = .ok (.areturn, 1) := by decide +kernel
theorem dd_method_2_code_8 : decode method_2_code 8 = .ok (.iload_n 0, 1) := by decide +kernel
theorem dd_method_2_code_9 : decode method_2_code 9 = .ok (.iconst 1, 1) := by decide +kernel
theorem dd_method_2_code_10 : decode method_2_code 10 = .ok (.if_icmp .ne 7, 3) := by decide +kernel
theorem dd_method_2_code_13 : decode method_2_code 13 = .ok (.getstatic 13, 3) := by decide +kernel
theorem dd_method_2_code_16 : decode method_2_code 16 = .ok (.areturn, 1) := by decide +kernel
theorem dd_method_2_code_17 : decode method_2_code 17 = .ok (.iload_n 0, 1) := by decide +kernel
theorem dd_method_2_code_18 : decode method_2_code 18 = .ok (.iconst 2, 1) := by decide +kernel
theorem dd_method_2_code_19 : decode method_2_code 19 = .ok (.if_icmp .ne 7, 3) := by decide +kernel
theorem dd_method_2_code_22 : decode method_2_code 22 = .ok (.getstatic 16, 3) := by decide +kernel
theorem dd_method_2_code_25 : decode method_2_code 25 = .ok (.areturn, 1) := by decide +kernel
theorem dd_method_2_code_26 : decode method_2_code 26 = .ok (.getstatic 19, 3) := by decide +kernel
theorem dd_method_2_code_29 : decode method_2_code 29 = .ok (.areturn, 1) := by decide +kernel
def QRel (Z : State) (x0 : Int32) (wl : Addr) (we : Addr) (wg : Addr) (wq : Addr) (h0 : Heap) (n0 : Nat) (v : Option Value) (h : Heap) (L : List Loc) : Prop := v = some (.ref (own_rel x0 wl we wg wq)) ∧ Fr n0 L ∧ h = h0
set_option maxRecDepth 65536 in
set_option maxHeartbeats 40000000 in
theorem rmRel (l : Launch) (Z : State) (a0 : Array Value) (hw : ∀ d ∈ tables_1, d.before a0 Z = true) (ws : List Jvm.Cond) (x0 : Int32) (wl : Addr) (we : Addr) (wg : Addr) (wq : Addr) (h0 : Heap) (n0 : Nat) (Z0 : n0 ≤ h0.size) (S_wl : Sta Z h0 "com/example/formula_to_strategy/formulatostrategy/language/BinaryExpression$Operator" "LESS" "Lcom/example/formula_to_strategy/formulatostrategy/language/BinaryExpression$Operator;" (.ref wl)) (S_we : Sta Z h0 "com/example/formula_to_strategy/formulatostrategy/language/BinaryExpression$Operator" "LESS_EQUAL" "Lcom/example/formula_to_strategy/formulatostrategy/language/BinaryExpression$Operator;" (.ref we)) (S_wg : Sta Z h0 "com/example/formula_to_strategy/formulatostrategy/language/BinaryExpression$Operator" "GREATER" "Lcom/example/formula_to_strategy/formulatostrategy/language/BinaryExpression$Operator;" (.ref wg)) (S_wq : Sta Z h0 "com/example/formula_to_strategy/formulatostrategy/language/BinaryExpression$Operator" "GREATER_EQUAL" "Lcom/example/formula_to_strategy/formulatostrategy/language/BinaryExpression$Operator;" (.ref wq)) :
    MetFree l (⟨"com/example/formula_to_strategy/formulatostrategy/language/BoundIsLowerPinLaw", "relation", "(I)Lcom/example/formula_to_strategy/formulatostrategy/language/BinaryExpression$Operator;"⟩ : MethodName) (head1 (Jvm.Cond.code (⟨"com/example/formula_to_strategy/formulatostrategy/language/BoundIsLowerPinLaw", "relation", "(I)Lcom/example/formula_to_strategy/formulatostrategy/language/BinaryExpression$Operator;"⟩ : MethodName) method_2_code 1 (some (.object "com/example/formula_to_strategy/formulatostrategy/language/BinaryExpression$Operator")) :: ws) ({ frames := 0, cells := 0, slots := 0, locals := 0 } : Room)) (fun a U => a = #[(.int x0)] ∧ Z.Warmed39 U.vm ∧ U.heap = h0) (fun _ _ _ _ _ => True) (fun _ U oc_ U' => ∃ v L, oc_ = .returned v ∧ QRel Z x0 wl we wg wq h0 n0 v U'.heap L ∧ FrameEnd U oc_ U' L ({ frames := 0, cells := 0, slots := 0, locals := 0 } : Room).cells ({ frames := 0, cells := 0, slots := 0, locals := 0 } : Room).slots) := by
  refine MetFree.of_bodySF (plainFor_of_name pn_com_example_formula_to_strategy_formulatostrategy_language_BoundIsLowerPinLaw) hisR ?_
  intro p e s m args below meth c s₁ Bd hml0 hP hK
  obtain ⟨rfl, hZ, hh⟩ := hP
  have hx := Bd.exec
  have hby := Bd.bytes
  have hml : c.maxLocals = 1 := hml0
  have hown : s.vm.findClass "com/example/formula_to_strategy/formulatostrategy/language/BoundIsLowerPinLaw" = some m.cls := findClass_of_methodNamed Bd.named
  have hnm := (name_of_methodNamed Bd.named Bd.method).1
  have X0 : Stand p l e ({ frames := 0, cells := 0, slots := 0, locals := 0 } : Room) s m #[(.int x0)] below meth c s₁ [] 0 0 := Stand.of_body Bd
  have e0 : s₁.heap = h0 := by rw [← hh, Bd.state]; rfl
  have N0 := Fr.nil n0
  have pre0 : ∀ t, Steps p.tables e below (s₁.setTop (mkF m 0 #[.val (.int x0)] [])) t → Steps p.tables e below (s₁.setTop (entryFrame m #[(.int x0)] 1)) t := fun t k => castTop (ef_Rel m x0) k
  have k1 : ∀ t, Steps p.tables e below (s₁.setTop (mkF m 1 #[.val (.int x0)] [(.int x0)])) t → Steps p.tables e below (s₁.setTop (entryFrame m #[(.int x0)] 1)) t := by
    intro t kt
    refine pre0 t ?_
    show Steps p.tables e below (s₁.setTop (mkF m 0 #[.val (.int x0)] [])) _
    refine XS.iloadN X0.here hx rfl (hb hby dd_method_2_code_0) rfl ?_
    exact kt
  by_cases hc2 : x0 = (0 : Int32)
  · skip
    obtain ⟨T3, X3, e3, st3⟩ := getS2 X0 hx hZ hown (host := "") (Or.inl (wd7 hw)) Via.refl e0 S_wl (g := (mkF m 4 #[.val (.int x0)] [])) rfl (hb hby dd_method_2_code_4)
    obtain ⟨lfs, lhr, lhrun, lhended, lhW, lhsame⟩ := X3.leave (v := some (.ref wl)) (fun h => by rw [Bd.returns] at h; cases h)
    refine ⟨_, _, k1 _ ?_, lhrun, lhended, _, _, rfl, ?_, ⟨_, rfl⟩, lhW, lhsame.mono (by decide) (by decide)⟩
    · skip
      show Steps p.tables e below (s₁.setTop (mkF m 1 #[.val (.int x0)] [(.int x0)])) _
      refine XS.ifNo X0.here hx rfl (hb hby dd_method_2_code_1) rfl ((if0 _ _).trans (teq hc2).2) ?_
      show Steps p.tables e below (s₁.setTop (mkF m 4 #[.val (.int x0)] [])) _
      refine st3 _ ?_
      show Steps p.tables e below (T3.setTop (mkF m 7 #[.val (.int x0)] [(.ref wl)])) _
      exact retOut X3 hx Bd.returns rfl (Or.inr (Or.inr (Or.inr (Or.inr ⟨rfl, rfl, rfl⟩)))) (hb hby dd_method_2_code_7) lhr
    · skip
      show QRel Z x0 wl we wg wq h0 n0 _ T3.heap _
      rw [e3]
      refine ⟨?_, N0, rfl⟩
      simp [own_rel, hc2]
  · skip
    have k4 : ∀ t, Steps p.tables e below (s₁.setTop (mkF m 10 #[.val (.int x0)] [(.int (1 : Int32)), (.int x0)])) t → Steps p.tables e below (s₁.setTop (entryFrame m #[(.int x0)] 1)) t := by
      intro t kt
      refine k1 t ?_
      show Steps p.tables e below (s₁.setTop (mkF m 1 #[.val (.int x0)] [(.int x0)])) _
      refine XS.ifYes X0.here hx rfl (pc0 := 1) (pc' := 8) rfl (hb hby dd_method_2_code_1) rfl ((if0 _ _).trans (feq hc2).2) (by decide) (by decide) ?_
      show Steps p.tables e below (s₁.setTop (mkF m 8 #[.val (.int x0)] [])) _
      refine XS.iloadN X0.here hx rfl (hb hby dd_method_2_code_8) rfl ?_
      show Steps p.tables e below (s₁.setTop (mkF m 9 #[.val (.int x0)] [(.int x0)])) _
      refine XS.iconst X0.here hx rfl (hb hby dd_method_2_code_9) ?_
      exact kt
    by_cases hc5 : x0 = (1 : Int32)
    · skip
      obtain ⟨T6, X6, e6, st6⟩ := getS2 X0 hx hZ hown (host := "") (Or.inl (wd47 hw)) Via.refl e0 S_we (g := (mkF m 13 #[.val (.int x0)] [])) rfl (hb hby dd_method_2_code_13)
      obtain ⟨lfs, lhr, lhrun, lhended, lhW, lhsame⟩ := X6.leave (v := some (.ref we)) (fun h => by rw [Bd.returns] at h; cases h)
      refine ⟨_, _, k4 _ ?_, lhrun, lhended, _, _, rfl, ?_, ⟨_, rfl⟩, lhW, lhsame.mono (by decide) (by decide)⟩
      · skip
        show Steps p.tables e below (s₁.setTop (mkF m 10 #[.val (.int x0)] [(.int (1 : Int32)), (.int x0)])) _
        refine XS.icmpNo X0.here hx rfl (hb hby dd_method_2_code_10) rfl (teq hc5).2 ?_
        show Steps p.tables e below (s₁.setTop (mkF m 13 #[.val (.int x0)] [])) _
        refine st6 _ ?_
        show Steps p.tables e below (T6.setTop (mkF m 16 #[.val (.int x0)] [(.ref we)])) _
        exact retOut X6 hx Bd.returns rfl (Or.inr (Or.inr (Or.inr (Or.inr ⟨rfl, rfl, rfl⟩)))) (hb hby dd_method_2_code_16) lhr
      · skip
        show QRel Z x0 wl we wg wq h0 n0 _ T6.heap _
        rw [e6]
        refine ⟨?_, N0, rfl⟩
        simp [own_rel, hc2, hc5]
    · skip
      have k7 : ∀ t, Steps p.tables e below (s₁.setTop (mkF m 19 #[.val (.int x0)] [(.int (2 : Int32)), (.int x0)])) t → Steps p.tables e below (s₁.setTop (entryFrame m #[(.int x0)] 1)) t := by
        intro t kt
        refine k4 t ?_
        show Steps p.tables e below (s₁.setTop (mkF m 10 #[.val (.int x0)] [(.int (1 : Int32)), (.int x0)])) _
        refine XS.icmpYes X0.here hx rfl (pc0 := 10) (pc' := 17) rfl (hb hby dd_method_2_code_10) rfl (feq hc5).2 (by decide) (by decide) ?_
        show Steps p.tables e below (s₁.setTop (mkF m 17 #[.val (.int x0)] [])) _
        refine XS.iloadN X0.here hx rfl (hb hby dd_method_2_code_17) rfl ?_
        show Steps p.tables e below (s₁.setTop (mkF m 18 #[.val (.int x0)] [(.int x0)])) _
        refine XS.iconst X0.here hx rfl (hb hby dd_method_2_code_18) ?_
        exact kt
      by_cases hc8 : x0 = (2 : Int32)
      · skip
        obtain ⟨T9, X9, e9, st9⟩ := getS2 X0 hx hZ hown (host := "") (Or.inl (wd46 hw)) Via.refl e0 S_wg (g := (mkF m 22 #[.val (.int x0)] [])) rfl (hb hby dd_method_2_code_22)
        obtain ⟨lfs, lhr, lhrun, lhended, lhW, lhsame⟩ := X9.leave (v := some (.ref wg)) (fun h => by rw [Bd.returns] at h; cases h)
        refine ⟨_, _, k7 _ ?_, lhrun, lhended, _, _, rfl, ?_, ⟨_, rfl⟩, lhW, lhsame.mono (by decide) (by decide)⟩
        · skip
          show Steps p.tables e below (s₁.setTop (mkF m 19 #[.val (.int x0)] [(.int (2 : Int32)), (.int x0)])) _
          refine XS.icmpNo X0.here hx rfl (hb hby dd_method_2_code_19) rfl (teq hc8).2 ?_
          show Steps p.tables e below (s₁.setTop (mkF m 22 #[.val (.int x0)] [])) _
          refine st9 _ ?_
          show Steps p.tables e below (T9.setTop (mkF m 25 #[.val (.int x0)] [(.ref wg)])) _
          exact retOut X9 hx Bd.returns rfl (Or.inr (Or.inr (Or.inr (Or.inr ⟨rfl, rfl, rfl⟩)))) (hb hby dd_method_2_code_25) lhr
        · skip
          show QRel Z x0 wl we wg wq h0 n0 _ T9.heap _
          rw [e9]
          refine ⟨?_, N0, rfl⟩
          simp [own_rel, hc2, hc5, hc8]
      · skip
        obtain ⟨T10, X10, e10, st10⟩ := getS2 X0 hx hZ hown (host := "") (Or.inl (wd49 hw)) Via.refl e0 S_wq (g := (mkF m 26 #[.val (.int x0)] [])) rfl (hb hby dd_method_2_code_26)
        obtain ⟨lfs, lhr, lhrun, lhended, lhW, lhsame⟩ := X10.leave (v := some (.ref wq)) (fun h => by rw [Bd.returns] at h; cases h)
        refine ⟨_, _, k7 _ ?_, lhrun, lhended, _, _, rfl, ?_, ⟨_, rfl⟩, lhW, lhsame.mono (by decide) (by decide)⟩
        · skip
          show Steps p.tables e below (s₁.setTop (mkF m 19 #[.val (.int x0)] [(.int (2 : Int32)), (.int x0)])) _
          refine XS.icmpYes X0.here hx rfl (pc0 := 19) (pc' := 26) rfl (hb hby dd_method_2_code_19) rfl (feq hc8).2 (by decide) (by decide) ?_
          show Steps p.tables e below (s₁.setTop (mkF m 26 #[.val (.int x0)] [])) _
          refine st10 _ ?_
          show Steps p.tables e below (T10.setTop (mkF m 29 #[.val (.int x0)] [(.ref wq)])) _
          exact retOut X10 hx Bd.returns rfl (Or.inr (Or.inr (Or.inr (Or.inr ⟨rfl, rfl, rfl⟩)))) (hb hby dd_method_2_code_29) lhr
        · skip
          show QRel Z x0 wl we wg wq h0 n0 _ T10.heap _
          rw [e10]
          refine ⟨?_, N0, rfl⟩
          simp [own_rel, hc2, hc5, hc8]
theorem ef_Ini (m : MethodId) (x0 : Addr) (x1 : Addr) (x2 : UInt64) : entryFrame m #[(.ref x0), (.ref x1), (.double x2)] 4 = mkF m 0 #[.val (.ref x0), .val (.ref x1), .val (.double x2), .second] [] := by first | (simp [entryFrame, mkF, argsToLocals, Value.category]; done) | rfl
theorem pn_com_example_formula_to_strategy_formulatostrategy_language_Bound : plainName "com/example/formula_to_strategy/formulatostrategy/language/Bound" = true := by first | (simp [plainName, overriddenIn]; done) | decide +kernel
theorem dd_prog_28_method_1_code_0 : decode prog_28_method_1_code 0 = .ok (.aload_n 0, 1) := by decide +kernel
theorem dd_prog_28_method_1_code_1 : decode prog_28_method_1_code 1 = .ok (.invokespecial 1, 3) := by decide +kernel
theorem dd_prog_28_method_1_code_4 : decode prog_28_method_1_code 4 = .ok (.aload_n 0, 1) := by decide +kernel
theorem dd_prog_28_method_1_code_5 : decode prog_28_method_1_code 5 = .ok (.aload_n 1, 1) := by decide +kernel
theorem dd_prog_28_method_1_code_6 : decode prog_28_method_1_code 6 = .ok (.putfield 7, 3) := by decide +kernel
theorem dd_prog_28_method_1_code_9 : decode prog_28_method_1_code 9 = .ok (.aload_n 0, 1) := by decide +kernel
theorem dd_prog_28_method_1_code_10 : decode prog_28_method_1_code 10 = .ok (.dload_n 2, 1) := by decide +kernel
theorem dd_prog_28_method_1_code_11 : decode prog_28_method_1_code 11 = .ok (.putfield 13, 3) := by decide +kernel
theorem dd_prog_28_method_1_code_14 : decode prog_28_method_1_code 14 = .ok (.return_, 1) := by decide +kernel
def QIni (Z : State) (o : Addr) (rl : Addr) (d2 : UInt64) (u0 : Value) (u1 : Value) (h0 : Heap) (n0 : Nat) (v : Option Value) (h : Heap) (L : List Loc) : Prop := v = none ∧ Fr n0 L ∧ Keep h0 h [o] ∧ Exa Z h o "com/example/formula_to_strategy/formulatostrategy/language/Bound" ∧ Fld Z h o "com/example/formula_to_strategy/formulatostrategy/language/Bound" "relation" "Lcom/example/formula_to_strategy/formulatostrategy/language/BinaryExpression$Operator;" (.ref rl) ∧ Fld Z h o "com/example/formula_to_strategy/formulatostrategy/language/Bound" "threshold" "D" (.double d2)
set_option maxRecDepth 65536 in
set_option maxHeartbeats 40000000 in
theorem rmIni (l : Launch) (Z : State) (a0 : Array Value) (hw : ∀ d ∈ tables_1, d.before a0 Z = true) (ws : List Jvm.Cond) (o : Addr) (rl : Addr) (d2 : UInt64) (u0 : Value) (u1 : Value) (h0 : Heap) (n0 : Nat) (Z0 : n0 ≤ h0.size) (g_o : n0 ≤ o) (E_o : Exa Z h0 o "com/example/formula_to_strategy/formulatostrategy/language/Bound") (F_r : Fld Z h0 o "com/example/formula_to_strategy/formulatostrategy/language/Bound" "relation" "Lcom/example/formula_to_strategy/formulatostrategy/language/BinaryExpression$Operator;" u0) (F_t : Fld Z h0 o "com/example/formula_to_strategy/formulatostrategy/language/Bound" "threshold" "D" u1) :
    MetFree l (⟨"com/example/formula_to_strategy/formulatostrategy/language/Bound", "<init>", "(Lcom/example/formula_to_strategy/formulatostrategy/language/BinaryExpression$Operator;D)V"⟩ : MethodName) (head1 (Jvm.Cond.code (⟨"com/example/formula_to_strategy/formulatostrategy/language/Bound", "<init>", "(Lcom/example/formula_to_strategy/formulatostrategy/language/BinaryExpression$Operator;D)V"⟩ : MethodName) prog_28_method_1_code 4 none :: ws) ({ frames := 1, cells := 0, slots := 0, locals := 12 } : Room)) (fun a U => a = #[(.ref o), (.ref rl), (.double d2)] ∧ Z.Warmed39 U.vm ∧ U.heap = h0) (fun _ _ _ _ _ => True) (fun _ U oc_ U' => ∃ v L, oc_ = .returned v ∧ QIni Z o rl d2 u0 u1 h0 n0 v U'.heap L ∧ FrameEnd U oc_ U' L ({ frames := 1, cells := 0, slots := 0, locals := 12 } : Room).cells ({ frames := 1, cells := 0, slots := 0, locals := 12 } : Room).slots) := by
  refine MetFree.of_bodySF (plainFor_of_name pn_com_example_formula_to_strategy_formulatostrategy_language_Bound) hisR ?_
  intro p e s m args below meth c s₁ Bd hml0 hP hK
  obtain ⟨rfl, hZ, hh⟩ := hP
  have hx := Bd.exec
  have hby := Bd.bytes
  have hml : c.maxLocals = 4 := hml0
  have hown : s.vm.findClass "com/example/formula_to_strategy/formulatostrategy/language/Bound" = some m.cls := findClass_of_methodNamed Bd.named
  have hnm := (name_of_methodNamed Bd.named Bd.method).1
  have X0 : Stand p l e ({ frames := 1, cells := 0, slots := 0, locals := 12 } : Room) s m #[(.ref o), (.ref rl), (.double d2)] below meth c s₁ [] 0 0 := Stand.of_body Bd
  have e0 : s₁.heap = h0 := by rw [← hh, Bd.state]; rfl
  have N0 := Fr.nil n0
  have pre0 : ∀ t, Steps p.tables e below (s₁.setTop (mkF m 0 #[.val (.ref o), .val (.ref rl), .val (.double d2), .second] [])) t → Steps p.tables e below (s₁.setTop (entryFrame m #[(.ref o), (.ref rl), (.double d2)] 4)) t := fun t k => castTop (ef_Ini m o rl d2) k
  obtain ⟨T1, X1, e1, st1⟩ := initO X0 hx hZ hown (wd13 hw) (wd14 hw) (wd15 hw) e0 (g := (mkF m 1 #[.val (.ref o), .val (.ref rl), .val (.double d2), .second] [(.ref o)])) rfl (by rw [hml]; rfl) rfl (hb hby dd_prog_28_method_1_code_1) (by decide) (W := 0) (by show 2 * 0 + _ ≤ _; exact Nat.le_of_eq rfl) (by decide)
  obtain ⟨T2, h2, X2, e2, W2, st2⟩ := putF X1 hx hZ hown (host := "") (Or.inl (wd16 hw)) Via.refl e1 F_r E_o (Or.inr ⟨(wd17 hw), rfl, hnm⟩) (wd1 hw) (ty := (.object "com/example/formula_to_strategy/formulatostrategy/language/BinaryExpression$Operator")) (by decide) rfl rfl (g := (mkF m 6 #[.val (.ref o), .val (.ref rl), .val (.double d2), .second] [(.ref rl), (.ref o)])) rfl rfl (hb hby dd_prog_28_method_1_code_6)
  have N2 := Fr.snoc X2 N0 g_o
  have Z2 : n0 ≤ h2.size := by rw [W2.size]; exact Z0
  have K2 : Keep h0 h2 [o] := ((Keep.refl h0 [o]).wr W2 (Or.inl (List.mem_of_getElem? (i := 0) rfl)))
  have Fw2 := F_r.same W2
  have f3 := (E_o.wr W2)
  have f4 := (F_t.other W2 (Or.inr (slot_ne (Or.inr (wd19 hw)) (Or.inr (wd17 hw)) (by decide) (t := .double) (t' := (.object "com/example/formula_to_strategy/formulatostrategy/language/BinaryExpression$Operator")) (by decide) (by decide))))
  obtain ⟨T5, h5, X5, e5, W5, st5⟩ := putF X2 hx hZ hown (host := "") (Or.inl (wd18 hw)) Via.refl e2 f4 f3 (Or.inr ⟨(wd19 hw), rfl, hnm⟩) (wd1 hw) (ty := .double) (by decide) rfl rfl (g := (mkF m 11 #[.val (.ref o), .val (.ref rl), .val (.double d2), .second] [(.double d2), (.ref o)])) rfl rfl (hb hby dd_prog_28_method_1_code_11)
  have N5 := Fr.snoc X5 N2 g_o
  have Z5 : n0 ≤ h5.size := by rw [W5.size]; exact Z2
  have K5 : Keep h0 h5 [o] := (K2.wr W5 (Or.inl (List.mem_of_getElem? (i := 0) rfl)))
  have Fw5 := f4.same W5
  obtain ⟨lfs, lhr, lhrun, lhended, lhW, lhsame⟩ := X5.leave (v := none) (fun _ => rfl)
  refine ⟨_, _, pre0 _ ?_, lhrun, lhended, _, _, rfl, ?_, ⟨_, rfl⟩, lhW, lhsame.mono (by decide) (by decide)⟩
  · skip
    show Steps p.tables e below (s₁.setTop (mkF m 0 #[.val (.ref o), .val (.ref rl), .val (.double d2), .second] [])) _
    refine XS.aloadN X0.here hx rfl (hb hby dd_prog_28_method_1_code_0) rfl rfl ?_
    show Steps p.tables e below (s₁.setTop (mkF m 1 #[.val (.ref o), .val (.ref rl), .val (.double d2), .second] [(.ref o)])) _
    refine st1 _ ?_
    show Steps p.tables e below (T1.setTop (mkF m 4 #[.val (.ref o), .val (.ref rl), .val (.double d2), .second] [])) _
    refine XS.aloadN X1.here hx rfl (hb hby dd_prog_28_method_1_code_4) rfl rfl ?_
    show Steps p.tables e below (T1.setTop (mkF m 5 #[.val (.ref o), .val (.ref rl), .val (.double d2), .second] [(.ref o)])) _
    refine XS.aloadN X1.here hx rfl (hb hby dd_prog_28_method_1_code_5) rfl rfl ?_
    show Steps p.tables e below (T1.setTop (mkF m 6 #[.val (.ref o), .val (.ref rl), .val (.double d2), .second] [(.ref rl), (.ref o)])) _
    refine st2 _ ?_
    show Steps p.tables e below (T2.setTop (mkF m 9 #[.val (.ref o), .val (.ref rl), .val (.double d2), .second] [])) _
    refine XS.aloadN X2.here hx rfl (hb hby dd_prog_28_method_1_code_9) rfl rfl ?_
    show Steps p.tables e below (T2.setTop (mkF m 10 #[.val (.ref o), .val (.ref rl), .val (.double d2), .second] [(.ref o)])) _
    refine XS.dloadN X2.here hx rfl (hb hby dd_prog_28_method_1_code_10) rfl ?_
    show Steps p.tables e below (T2.setTop (mkF m 11 #[.val (.ref o), .val (.ref rl), .val (.double d2), .second] [(.double d2), (.ref o)])) _
    refine st5 _ ?_
    show Steps p.tables e below (T5.setTop (mkF m 14 #[.val (.ref o), .val (.ref rl), .val (.double d2), .second] [])) _
    exact X5.returnOut hx Bd.returns (hb hby dd_prog_28_method_1_code_14) lhr
  · skip
    show QIni Z o rl d2 u0 u1 h0 n0 _ T5.heap _
    rw [e5]
    have f6 := (f3.wr W5)
    have f7 := (Fw2.other W5 (Or.inr (slot_ne (Or.inr (wd17 hw)) (Or.inr (wd19 hw)) (by decide) (t := (.object "com/example/formula_to_strategy/formulatostrategy/language/BinaryExpression$Operator")) (t' := .double) (by decide) (by decide))))
    exact ⟨rfl, N5, K5, f6, f7, Fw5⟩
theorem ef_Low (m : MethodId) (x0 : Addr) : entryFrame m #[(.ref x0)] 1 = mkF m 0 #[.val (.ref x0)] [] := by first | (simp [entryFrame, mkF, argsToLocals, Value.category]; done) | rfl
theorem dd_prog_28_method_2_code_0 : decode prog_28_method_2_code 0 = .ok (.aload_n 0, 1) := by decide +kernel
theorem dd_prog_28_method_2_code_1 : decode prog_28_method_2_code 1 = .ok (.getfield 7, 3) := by decide +kernel
theorem dd_prog_28_method_2_code_4 : decode prog_28_method_2_code 4 = .ok (.getstatic 17, 3) := by decide +kernel
theorem dd_prog_28_method_2_code_7 : decode prog_28_method_2_code 7 = .ok (.if_acmp .eq 13, 3) := by decide +kernel
theorem dd_prog_28_method_2_code_20 : decode prog_28_method_2_code 20 = .ok (.iconst 1, 1) := by decide +kernel
theorem dd_prog_28_method_2_code_21 : decode prog_28_method_2_code 21 = .ok (.goto 4, 3) := by decide +kernel
theorem dd_prog_28_method_2_code_25 : decode prog_28_method_2_code 25 = .ok (.ireturn, 1) := by decide +kernel
theorem dd_prog_28_method_2_code_10 : decode prog_28_method_2_code 10 = .ok (.aload_n 0, 1) := by decide +kernel
theorem dd_prog_28_method_2_code_11 : decode prog_28_method_2_code 11 = .ok (.getfield 7, 3) := by decide +kernel
theorem dd_prog_28_method_2_code_14 : decode prog_28_method_2_code 14 = .ok (.getstatic 22, 3) := by decide +kernel
theorem dd_prog_28_method_2_code_17 : decode prog_28_method_2_code 17 = .ok (.if_acmp .ne 7, 3) := by decide +kernel
theorem dd_prog_28_method_2_code_24 : decode prog_28_method_2_code 24 = .ok (.iconst 0, 1) := by decide +kernel
def QLow (Z : State) (o : Addr) (rl : Addr) (wg : Addr) (wq : Addr) (r : Int32) (h0 : Heap) (n0 : Nat) (v : Option Value) (h : Heap) (L : List Loc) : Prop := v = some (.int r) ∧ Fr n0 L ∧ h = h0
set_option maxRecDepth 65536 in
set_option maxHeartbeats 40000000 in
theorem rmLow (l : Launch) (Z : State) (a0 : Array Value) (hw : ∀ d ∈ tables_1, d.before a0 Z = true) (ws : List Jvm.Cond) (o : Addr) (rl : Addr) (wg : Addr) (wq : Addr) (r : Int32) (h0 : Heap) (n0 : Nat) (Z0 : n0 ≤ h0.size) (F_r : Fld Z h0 o "com/example/formula_to_strategy/formulatostrategy/language/Bound" "relation" "Lcom/example/formula_to_strategy/formulatostrategy/language/BinaryExpression$Operator;" (.ref rl)) (S_wg : Sta Z h0 "com/example/formula_to_strategy/formulatostrategy/language/BinaryExpression$Operator" "GREATER" "Lcom/example/formula_to_strategy/formulatostrategy/language/BinaryExpression$Operator;" (.ref wg)) (S_wq : Sta Z h0 "com/example/formula_to_strategy/formulatostrategy/language/BinaryExpression$Operator" "GREATER_EQUAL" "Lcom/example/formula_to_strategy/formulatostrategy/language/BinaryExpression$Operator;" (.ref wq)) (hres : ((rl = wq ∨ rl = wg) ∧ r = 1) ∨ (¬ rl = wq ∧ ¬ rl = wg ∧ r = 0)) :
    MetFree l (⟨"com/example/formula_to_strategy/formulatostrategy/language/Bound", "isLower", "()Z"⟩ : MethodName) (head1 (Jvm.Cond.code (⟨"com/example/formula_to_strategy/formulatostrategy/language/Bound", "isLower", "()Z"⟩ : MethodName) prog_28_method_2_code 1 (some .boolean) :: ws) ({ frames := 0, cells := 0, slots := 0, locals := 0 } : Room)) (fun a U => a = #[(.ref o)] ∧ Z.Warmed39 U.vm ∧ U.heap = h0) (fun _ _ _ _ _ => True) (fun _ U oc_ U' => ∃ v L, oc_ = .returned v ∧ QLow Z o rl wg wq r h0 n0 v U'.heap L ∧ FrameEnd U oc_ U' L ({ frames := 0, cells := 0, slots := 0, locals := 0 } : Room).cells ({ frames := 0, cells := 0, slots := 0, locals := 0 } : Room).slots) := by
  refine MetFree.of_bodySF (plainFor_of_name pn_com_example_formula_to_strategy_formulatostrategy_language_Bound) hisR ?_
  intro p e s m args below meth c s₁ Bd hml0 hP hK
  obtain ⟨rfl, hZ, hh⟩ := hP
  have hx := Bd.exec
  have hby := Bd.bytes
  have hml : c.maxLocals = 1 := hml0
  have hown : s.vm.findClass "com/example/formula_to_strategy/formulatostrategy/language/Bound" = some m.cls := findClass_of_methodNamed Bd.named
  have hnm := (name_of_methodNamed Bd.named Bd.method).1
  have X0 : Stand p l e ({ frames := 0, cells := 0, slots := 0, locals := 0 } : Room) s m #[(.ref o)] below meth c s₁ [] 0 0 := Stand.of_body Bd
  have e0 : s₁.heap = h0 := by rw [← hh, Bd.state]; rfl
  have N0 := Fr.nil n0
  have pre0 : ∀ t, Steps p.tables e below (s₁.setTop (mkF m 0 #[.val (.ref o)] [])) t → Steps p.tables e below (s₁.setTop (entryFrame m #[(.ref o)] 1)) t := fun t k => castTop (ef_Low m o) k
  obtain ⟨T1, X1, e1, st1⟩ := getF X0 hx hZ hown (host := "") (Or.inl (wd16 hw)) Via.refl e0 F_r (g := (mkF m 1 #[.val (.ref o)] [(.ref o)])) rfl rfl (hb hby dd_prog_28_method_2_code_1)
  obtain ⟨T2, X2, e2, st2⟩ := getS2 X1 hx hZ hown (host := "") (Or.inl (wd25 hw)) Via.refl e1 S_wq (g := (mkF m 4 #[.val (.ref o)] [(.ref rl)])) rfl (hb hby dd_prog_28_method_2_code_4)
  have k3 : ∀ t, Steps p.tables e below (T2.setTop (mkF m 7 #[.val (.ref o)] [(.ref wq), (.ref rl)])) t → Steps p.tables e below (s₁.setTop (entryFrame m #[(.ref o)] 1)) t := by
    intro t kt
    refine pre0 t ?_
    show Steps p.tables e below (s₁.setTop (mkF m 0 #[.val (.ref o)] [])) _
    refine XS.aloadN X0.here hx rfl (hb hby dd_prog_28_method_2_code_0) rfl rfl ?_
    show Steps p.tables e below (s₁.setTop (mkF m 1 #[.val (.ref o)] [(.ref o)])) _
    refine st1 _ ?_
    show Steps p.tables e below (T1.setTop (mkF m 4 #[.val (.ref o)] [(.ref rl)])) _
    refine st2 _ ?_
    exact kt
  by_cases hc4 : rl = wq
  · skip
    obtain ⟨lfs, lhr, lhrun, lhended, lhW, lhsame⟩ := X2.leave (v := some (.int (1 : Int32))) (fun h => by rw [Bd.returns] at h; cases h)
    refine ⟨_, _, k3 _ ?_, lhrun, lhended, _, _, rfl, ?_, ⟨_, rfl⟩, lhW, lhsame.mono (by decide) (by decide)⟩
    · skip
      show Steps p.tables e below (T2.setTop (mkF m 7 #[.val (.ref o)] [(.ref wq), (.ref rl)])) _
      refine Jvm.RoadKit.acmp (g := (mkF m 7 #[.val (.ref o)] [(.ref wq), (.ref rl)])) X2 hx rfl rfl rfl (pc0 := 7) (pc' := 20) (same := true) rfl (hb hby dd_prog_28_method_2_code_7) rfl (decide_eq_true (congrArg Value.ref hc4)) (by decide) (by decide) ?_
      show Steps p.tables e below (T2.setTop (mkF m 20 #[.val (.ref o)] [])) _
      refine XS.iconst X2.here hx rfl (hb hby dd_prog_28_method_2_code_20) ?_
      show Steps p.tables e below (T2.setTop (mkF m 21 #[.val (.ref o)] [(.int (1 : Int32))])) _
      refine XS.goto X2.here hx rfl (pc0 := 21) (pc' := 25) rfl (hb hby dd_prog_28_method_2_code_21) (by decide) (by decide) ?_
      show Steps p.tables e below (T2.setTop (mkF m 25 #[.val (.ref o)] [(.int (1 : Int32))])) _
      exact retN X2 hx (t := .boolean) Bd.returns (by simp) (hb hby dd_prog_28_method_2_code_25) lhr
    · skip
      show QLow Z o rl wg wq r h0 n0 _ T2.heap _
      rw [e2]
      refine ⟨?_, N0, rfl⟩
      rcases hres with ⟨q1, q2⟩ | ⟨q1, q2, q3⟩
      · subst q2; rcases q1 with q1 | q1 <;> first | rfl | (exact absurd q1 (by assumption))
      · subst q3; first | rfl | (exact absurd (by assumption) q1) | (exact absurd (by assumption) q2)
  · skip
    obtain ⟨T5, X5, e5, st5⟩ := getF X2 hx hZ hown (host := "") (Or.inl (wd16 hw)) Via.refl e2 F_r (g := (mkF m 11 #[.val (.ref o)] [(.ref o)])) rfl rfl (hb hby dd_prog_28_method_2_code_11)
    obtain ⟨T6, X6, e6, st6⟩ := getS2 X5 hx hZ hown (host := "") (Or.inl (wd27 hw)) Via.refl e5 S_wg (g := (mkF m 14 #[.val (.ref o)] [(.ref rl)])) rfl (hb hby dd_prog_28_method_2_code_14)
    have k7 : ∀ t, Steps p.tables e below (T6.setTop (mkF m 17 #[.val (.ref o)] [(.ref wg), (.ref rl)])) t → Steps p.tables e below (s₁.setTop (entryFrame m #[(.ref o)] 1)) t := by
      intro t kt
      refine k3 t ?_
      show Steps p.tables e below (T2.setTop (mkF m 7 #[.val (.ref o)] [(.ref wq), (.ref rl)])) _
      refine Jvm.RoadKit.acmp (g := (mkF m 7 #[.val (.ref o)] [(.ref wq), (.ref rl)])) X2 hx rfl rfl rfl (pc0 := 7) (pc' := 10) (same := false) rfl (hb hby dd_prog_28_method_2_code_7) rfl (decide_eq_false fun q => hc4 (Value.ref.inj q)) (by decide) (by decide) ?_
      show Steps p.tables e below (T2.setTop (mkF m 10 #[.val (.ref o)] [])) _
      refine XS.aloadN X2.here hx rfl (hb hby dd_prog_28_method_2_code_10) rfl rfl ?_
      show Steps p.tables e below (T2.setTop (mkF m 11 #[.val (.ref o)] [(.ref o)])) _
      refine st5 _ ?_
      show Steps p.tables e below (T5.setTop (mkF m 14 #[.val (.ref o)] [(.ref rl)])) _
      refine st6 _ ?_
      exact kt
    by_cases hc8 : rl = wg
    · skip
      obtain ⟨lfs, lhr, lhrun, lhended, lhW, lhsame⟩ := X6.leave (v := some (.int (1 : Int32))) (fun h => by rw [Bd.returns] at h; cases h)
      refine ⟨_, _, k7 _ ?_, lhrun, lhended, _, _, rfl, ?_, ⟨_, rfl⟩, lhW, lhsame.mono (by decide) (by decide)⟩
      · skip
        show Steps p.tables e below (T6.setTop (mkF m 17 #[.val (.ref o)] [(.ref wg), (.ref rl)])) _
        refine Jvm.RoadKit.acmp (g := (mkF m 17 #[.val (.ref o)] [(.ref wg), (.ref rl)])) X6 hx rfl rfl rfl (pc0 := 17) (pc' := 20) (same := true) rfl (hb hby dd_prog_28_method_2_code_17) rfl (decide_eq_true (congrArg Value.ref hc8)) (by decide) (by decide) ?_
        show Steps p.tables e below (T6.setTop (mkF m 20 #[.val (.ref o)] [])) _
        refine XS.iconst X6.here hx rfl (hb hby dd_prog_28_method_2_code_20) ?_
        show Steps p.tables e below (T6.setTop (mkF m 21 #[.val (.ref o)] [(.int (1 : Int32))])) _
        refine XS.goto X6.here hx rfl (pc0 := 21) (pc' := 25) rfl (hb hby dd_prog_28_method_2_code_21) (by decide) (by decide) ?_
        show Steps p.tables e below (T6.setTop (mkF m 25 #[.val (.ref o)] [(.int (1 : Int32))])) _
        exact retN X6 hx (t := .boolean) Bd.returns (by simp) (hb hby dd_prog_28_method_2_code_25) lhr
      · skip
        show QLow Z o rl wg wq r h0 n0 _ T6.heap _
        rw [e6]
        refine ⟨?_, N0, rfl⟩
        rcases hres with ⟨q1, q2⟩ | ⟨q1, q2, q3⟩
        · subst q2; rcases q1 with q1 | q1 <;> first | rfl | (exact absurd q1 (by assumption))
        · subst q3; first | rfl | (exact absurd (by assumption) q1) | (exact absurd (by assumption) q2)
    · skip
      obtain ⟨lfs, lhr, lhrun, lhended, lhW, lhsame⟩ := X6.leave (v := some (.int (0 : Int32))) (fun h => by rw [Bd.returns] at h; cases h)
      refine ⟨_, _, k7 _ ?_, lhrun, lhended, _, _, rfl, ?_, ⟨_, rfl⟩, lhW, lhsame.mono (by decide) (by decide)⟩
      · skip
        show Steps p.tables e below (T6.setTop (mkF m 17 #[.val (.ref o)] [(.ref wg), (.ref rl)])) _
        refine Jvm.RoadKit.acmp (g := (mkF m 17 #[.val (.ref o)] [(.ref wg), (.ref rl)])) X6 hx rfl rfl rfl (pc0 := 17) (pc' := 24) (same := false) rfl (hb hby dd_prog_28_method_2_code_17) rfl (decide_eq_false fun q => hc8 (Value.ref.inj q)) (by decide) (by decide) ?_
        show Steps p.tables e below (T6.setTop (mkF m 24 #[.val (.ref o)] [])) _
        refine XS.iconst X6.here hx rfl (hb hby dd_prog_28_method_2_code_24) ?_
        show Steps p.tables e below (T6.setTop (mkF m 25 #[.val (.ref o)] [(.int (0 : Int32))])) _
        exact retN X6 hx (t := .boolean) Bd.returns (by simp) (hb hby dd_prog_28_method_2_code_25) lhr
      · skip
        show QLow Z o rl wg wq r h0 n0 _ T6.heap _
        rw [e6]
        refine ⟨?_, N0, rfl⟩
        rcases hres with ⟨q1, q2⟩ | ⟨q1, q2, q3⟩
        · subst q2; rcases q1 with q1 | q1 <;> first | rfl | (exact absurd q1 (by assumption))
        · subst q3; first | rfl | (exact absurd (by assumption) q1) | (exact absurd (by assumption) q2)
theorem ef_Ord (m : MethodId) (x0 : Addr) : entryFrame m #[(.ref x0)] 1 = mkF m 0 #[.val (.ref x0)] [] := by first | (simp [entryFrame, mkF, argsToLocals, Value.category]; done) | rfl
theorem pn_java_lang_Enum : plainName "java/lang/Enum" = true := by first | (simp [plainName, overriddenIn]; done) | decide +kernel
theorem dd_jdk_37_method_2_code_0 : decode jdk_37_method_2_code 0 = .ok (.aload_n 0, 1) := by decide +kernel
theorem dd_jdk_37_method_2_code_1 : decode jdk_37_method_2_code 1 = .ok (.getfield 7, 3) := by decide +kernel
theorem dd_jdk_37_method_2_code_4 : decode jdk_37_method_2_code 4 = .ok (.ireturn, 1) := by decide +kernel
def QOrd (Z : State) (o : Addr) (k : Int32) (h0 : Heap) (n0 : Nat) (v : Option Value) (h : Heap) (L : List Loc) : Prop := v = some (.int k) ∧ Fr n0 L ∧ h = h0
set_option maxRecDepth 65536 in
set_option maxHeartbeats 40000000 in
theorem rmOrd (l : Launch) (Z : State) (a0 : Array Value) (hw : ∀ d ∈ tables_1, d.before a0 Z = true) (ws : List Jvm.Cond) (o : Addr) (k : Int32) (h0 : Heap) (n0 : Nat) (Z0 : n0 ≤ h0.size) (F_o : Fld Z h0 o "java/lang/Enum" "ordinal" "I" (.int k)) :
    MetFree l (⟨"java/lang/Enum", "ordinal", "()I"⟩ : MethodName) (head1 (Jvm.Cond.code (⟨"java/lang/Enum", "ordinal", "()I"⟩ : MethodName) jdk_37_method_2_code 1 (some .int) :: ws) ({ frames := 0, cells := 0, slots := 0, locals := 0 } : Room)) (fun a U => a = #[(.ref o)] ∧ Z.Warmed39 U.vm ∧ U.heap = h0) (fun _ _ _ _ _ => True) (fun _ U oc_ U' => ∃ v L, oc_ = .returned v ∧ QOrd Z o k h0 n0 v U'.heap L ∧ FrameEnd U oc_ U' L ({ frames := 0, cells := 0, slots := 0, locals := 0 } : Room).cells ({ frames := 0, cells := 0, slots := 0, locals := 0 } : Room).slots) := by
  refine MetFree.of_bodySF (plainFor_of_name pn_java_lang_Enum) hisR ?_
  intro p e s m args below meth c s₁ Bd hml0 hP hK
  obtain ⟨rfl, hZ, hh⟩ := hP
  have hx := Bd.exec
  have hby := Bd.bytes
  have hml : c.maxLocals = 1 := hml0
  have hown : s.vm.findClass "java/lang/Enum" = some m.cls := findClass_of_methodNamed Bd.named
  have hnm := (name_of_methodNamed Bd.named Bd.method).1
  have X0 : Stand p l e ({ frames := 0, cells := 0, slots := 0, locals := 0 } : Room) s m #[(.ref o)] below meth c s₁ [] 0 0 := Stand.of_body Bd
  have e0 : s₁.heap = h0 := by rw [← hh, Bd.state]; rfl
  have N0 := Fr.nil n0
  have pre0 : ∀ t, Steps p.tables e below (s₁.setTop (mkF m 0 #[.val (.ref o)] [])) t → Steps p.tables e below (s₁.setTop (entryFrame m #[(.ref o)] 1)) t := fun t k => castTop (ef_Ord m o) k
  obtain ⟨T1, X1, e1, st1⟩ := getF X0 hx hZ hown (host := "") (Or.inl (wd44 hw)) Via.refl e0 F_o (g := (mkF m 1 #[.val (.ref o)] [(.ref o)])) rfl rfl (hb hby dd_jdk_37_method_2_code_1)
  obtain ⟨lfs, lhr, lhrun, lhended, lhW, lhsame⟩ := X1.leave (v := some (.int k)) (fun h => by rw [Bd.returns] at h; cases h)
  refine ⟨_, _, pre0 _ ?_, lhrun, lhended, _, _, rfl, ?_, ⟨_, rfl⟩, lhW, lhsame.mono (by decide) (by decide)⟩
  · skip
    show Steps p.tables e below (s₁.setTop (mkF m 0 #[.val (.ref o)] [])) _
    refine XS.aloadN X0.here hx rfl (hb hby dd_jdk_37_method_2_code_0) rfl rfl ?_
    show Steps p.tables e below (s₁.setTop (mkF m 1 #[.val (.ref o)] [(.ref o)])) _
    refine st1 _ ?_
    show Steps p.tables e below (T1.setTop (mkF m 4 #[.val (.ref o)] [(.int k)])) _
    exact retI X1 hx Bd.returns (hb hby dd_jdk_37_method_2_code_4) lhr
  · skip
    show QOrd Z o k h0 n0 _ T1.heap _
    rw [e1]
    exact ⟨rfl, N0, rfl⟩
theorem ef_Hol (m : MethodId) (x0 : Addr) (x1 : UInt64) : entryFrame m #[(.ref x0), (.double x1)] 3 = mkF m 0 #[.val (.ref x0), .val (.double x1), .second] [] := by first | (simp [entryFrame, mkF, argsToLocals, Value.category]; done) | rfl
theorem dd_prog_28_method_5_code_0 : decode prog_28_method_5_code 0 = .ok (.getstatic 28, 3) := by decide +kernel
theorem dd_prog_28_method_5_code_3 : decode prog_28_method_5_code 3 = .ok (.aload_n 0, 1) := by decide +kernel
theorem dd_prog_28_method_5_code_4 : decode prog_28_method_5_code 4 = .ok (.getfield 7, 3) := by decide +kernel
theorem dd_prog_28_method_5_code_7 : decode prog_28_method_5_code 7 = .ok (.invokevirtual 34, 3) := by decide +kernel
theorem pd___I : parseMethodDescriptor "()I" = some ⟨[], some .int⟩ := by decide +kernel
theorem dd_prog_28_method_5_code_10 : decode prog_28_method_5_code 10 = .ok (.iaload, 1) := by decide +kernel
theorem dd_prog_28_method_5_code_11 : decode prog_28_method_5_code 11 = .ok (.tableswitch 97 1 4 #[29, 46, 63, 80], 29) := by decide +kernel
theorem dd_prog_28_method_5_code_40 : decode prog_28_method_5_code 40 = .ok (.dload_n 1, 1) := by decide +kernel
theorem dd_prog_28_method_5_code_41 : decode prog_28_method_5_code 41 = .ok (.aload_n 0, 1) := by decide +kernel
theorem dd_prog_28_method_5_code_42 : decode prog_28_method_5_code 42 = .ok (.getfield 13, 3) := by decide +kernel
theorem dd_prog_28_method_5_code_45 : decode prog_28_method_5_code 45 = .ok (.dcmp .l, 1) := by decide +kernel
theorem dd_prog_28_method_5_code_46 : decode prog_28_method_5_code 46 = .ok (.ifCond .lt 7, 3) := by decide +kernel
theorem dd_prog_28_method_5_code_53 : decode prog_28_method_5_code 53 = .ok (.iconst 0, 1) := by decide +kernel
theorem dd_prog_28_method_5_code_54 : decode prog_28_method_5_code 54 = .ok (.goto 74, 3) := by decide +kernel
theorem dd_prog_28_method_5_code_128 : decode prog_28_method_5_code 128 = .ok (.ireturn, 1) := by decide +kernel
theorem dd_prog_28_method_5_code_49 : decode prog_28_method_5_code 49 = .ok (.iconst 1, 1) := by decide +kernel
theorem dd_prog_28_method_5_code_50 : decode prog_28_method_5_code 50 = .ok (.goto 78, 3) := by decide +kernel
theorem dd_prog_28_method_5_code_57 : decode prog_28_method_5_code 57 = .ok (.dload_n 1, 1) := by decide +kernel
theorem dd_prog_28_method_5_code_58 : decode prog_28_method_5_code 58 = .ok (.aload_n 0, 1) := by decide +kernel
theorem dd_prog_28_method_5_code_59 : decode prog_28_method_5_code 59 = .ok (.getfield 13, 3) := by decide +kernel
theorem dd_prog_28_method_5_code_62 : decode prog_28_method_5_code 62 = .ok (.dcmp .l, 1) := by decide +kernel
theorem dd_prog_28_method_5_code_63 : decode prog_28_method_5_code 63 = .ok (.ifCond .le 7, 3) := by decide +kernel
theorem dd_prog_28_method_5_code_66 : decode prog_28_method_5_code 66 = .ok (.iconst 1, 1) := by decide +kernel
theorem dd_prog_28_method_5_code_67 : decode prog_28_method_5_code 67 = .ok (.goto 61, 3) := by decide +kernel
theorem dd_prog_28_method_5_code_70 : decode prog_28_method_5_code 70 = .ok (.iconst 0, 1) := by decide +kernel
theorem dd_prog_28_method_5_code_71 : decode prog_28_method_5_code 71 = .ok (.goto 57, 3) := by decide +kernel
theorem dd_prog_28_method_5_code_74 : decode prog_28_method_5_code 74 = .ok (.dload_n 1, 1) := by decide +kernel
theorem dd_prog_28_method_5_code_75 : decode prog_28_method_5_code 75 = .ok (.aload_n 0, 1) := by decide +kernel
theorem dd_prog_28_method_5_code_76 : decode prog_28_method_5_code 76 = .ok (.getfield 13, 3) := by decide +kernel
theorem dd_prog_28_method_5_code_79 : decode prog_28_method_5_code 79 = .ok (.dcmp .g, 1) := by decide +kernel
theorem dd_prog_28_method_5_code_80 : decode prog_28_method_5_code 80 = .ok (.ifCond .gt 7, 3) := by decide +kernel
theorem dd_prog_28_method_5_code_87 : decode prog_28_method_5_code 87 = .ok (.iconst 0, 1) := by decide +kernel
theorem dd_prog_28_method_5_code_88 : decode prog_28_method_5_code 88 = .ok (.goto 40, 3) := by decide +kernel
theorem dd_prog_28_method_5_code_83 : decode prog_28_method_5_code 83 = .ok (.iconst 1, 1) := by decide +kernel
theorem dd_prog_28_method_5_code_84 : decode prog_28_method_5_code 84 = .ok (.goto 44, 3) := by decide +kernel
theorem dd_prog_28_method_5_code_91 : decode prog_28_method_5_code 91 = .ok (.dload_n 1, 1) := by decide +kernel
theorem dd_prog_28_method_5_code_92 : decode prog_28_method_5_code 92 = .ok (.aload_n 0, 1) := by decide +kernel
theorem dd_prog_28_method_5_code_93 : decode prog_28_method_5_code 93 = .ok (.getfield 13, 3) := by decide +kernel
theorem dd_prog_28_method_5_code_96 : decode prog_28_method_5_code 96 = .ok (.dcmp .g, 1) := by decide +kernel
theorem dd_prog_28_method_5_code_97 : decode prog_28_method_5_code 97 = .ok (.ifCond .ge 7, 3) := by decide +kernel
theorem dd_prog_28_method_5_code_100 : decode prog_28_method_5_code 100 = .ok (.iconst 1, 1) := by decide +kernel
theorem dd_prog_28_method_5_code_101 : decode prog_28_method_5_code 101 = .ok (.goto 27, 3) := by decide +kernel
theorem dd_prog_28_method_5_code_104 : decode prog_28_method_5_code 104 = .ok (.iconst 0, 1) := by decide +kernel
theorem dd_prog_28_method_5_code_105 : decode prog_28_method_5_code 105 = .ok (.goto 23, 3) := by decide +kernel
def QHol (Z : State) (o : Addr) (dd : UInt64) (ab : Int64) (aa : Int64) (rl : Addr) (am : Addr) (clm : Cell) (od : Int32) (sw : Int32) (h0 : Heap) (n0 : Nat) (v : Option Value) (h : Heap) (L : List Loc) : Prop := v = some (.int (own_holds sw ab aa)) ∧ Fr n0 L ∧ h = h0
set_option maxRecDepth 65536 in
set_option maxHeartbeats 40000000 in
theorem rmHol (l : Launch) (Z : State) (a0 : Array Value) (hw : ∀ d ∈ tables_1, d.before a0 Z = true) (ws : List Jvm.Cond) (o : Addr) (dd : UInt64) (ab : Int64) (aa : Int64) (rl : Addr) (am : Addr) (clm : Cell) (od : Int32) (sw : Int32) (h0 : Heap) (n0 : Nat) (Z0 : n0 ≤ h0.size) (hdd : dd = FP.l2d ab) (F_r : Fld Z h0 o "com/example/formula_to_strategy/formulatostrategy/language/Bound" "relation" "Lcom/example/formula_to_strategy/formulatostrategy/language/BinaryExpression$Operator;" (.ref rl)) (F_t : Fld Z h0 o "com/example/formula_to_strategy/formulatostrategy/language/Bound" "threshold" "D" (.double (FP.l2d aa))) (S_m : Sta Z h0 "com/example/formula_to_strategy/formulatostrategy/language/Bound$1" "$SwitchMap$com$example$formula_to_strategy$formulatostrategy$language$BinaryExpression$Operator" "[I" (.ref am)) (Ar : Arr Z h0 am clm .int) (E_r : Exa Z h0 rl "com/example/formula_to_strategy/formulatostrategy/language/BinaryExpression$Operator") (F_o : Fld Z h0 rl "java/lang/Enum" "ordinal" "I" (.int od)) (hin : ¬ (od < 0 ∨ clm.slots.size ≤ od.toNatClampNeg)) (hat : clm.slots[od.toNatClampNeg]? = some (.int sw)) (hsw : sw = 1 ∨ sw = 2 ∨ sw = 3 ∨ sw = 4) (ba : B53 aa) (bb : B53 ab) :
    MetFree l (⟨"com/example/formula_to_strategy/formulatostrategy/language/Bound", "holds", "(D)Z"⟩ : MethodName) (head1 (Jvm.Cond.code (⟨"com/example/formula_to_strategy/formulatostrategy/language/Bound", "holds", "(D)Z"⟩ : MethodName) prog_28_method_5_code 3 (some .boolean) :: ws) ({ frames := 1, cells := 0, slots := 0, locals := 15 } : Room)) (fun a U => a = #[(.ref o), (.double dd)] ∧ Z.Warmed39 U.vm ∧ U.heap = h0) (fun _ _ _ _ _ => True) (fun _ U oc_ U' => ∃ v L, oc_ = .returned v ∧ QHol Z o dd ab aa rl am clm od sw h0 n0 v U'.heap L ∧ FrameEnd U oc_ U' L ({ frames := 1, cells := 0, slots := 0, locals := 15 } : Room).cells ({ frames := 1, cells := 0, slots := 0, locals := 15 } : Room).slots) := by
  refine MetFree.of_bodySF (plainFor_of_name pn_com_example_formula_to_strategy_formulatostrategy_language_Bound) hisR ?_
  intro p e s m args below meth c s₁ Bd hml0 hP hK
  obtain ⟨rfl, hZ, hh⟩ := hP
  have hx := Bd.exec
  have hby := Bd.bytes
  have hml : c.maxLocals = 3 := hml0
  have hown : s.vm.findClass "com/example/formula_to_strategy/formulatostrategy/language/Bound" = some m.cls := findClass_of_methodNamed Bd.named
  have hnm := (name_of_methodNamed Bd.named Bd.method).1
  have X0 : Stand p l e ({ frames := 1, cells := 0, slots := 0, locals := 15 } : Room) s m #[(.ref o), (.double dd)] below meth c s₁ [] 0 0 := Stand.of_body Bd
  have e0 : s₁.heap = h0 := by rw [← hh, Bd.state]; rfl
  have N0 := Fr.nil n0
  have pre0 : ∀ t, Steps p.tables e below (s₁.setTop (mkF m 0 #[.val (.ref o), .val (.double dd), .second] [])) t → Steps p.tables e below (s₁.setTop (entryFrame m #[(.ref o), (.double dd)] 3)) t := fun t k => castTop (ef_Hol m o dd) k
  subst hdd
  obtain ⟨T1, X1, e1, st1⟩ := getS2 X0 hx hZ hown (host := "") (Or.inl (wd34 hw)) Via.refl e0 S_m (g := (mkF m 0 #[.val (.ref o), .val (.double (FP.l2d ab)), .second] [])) rfl (hb hby dd_prog_28_method_5_code_0)
  obtain ⟨T2, X2, e2, st2⟩ := getF X1 hx hZ hown (host := "") (Or.inl (wd16 hw)) Via.refl e1 F_r (g := (mkF m 4 #[.val (.ref o), .val (.double (FP.l2d ab)), .second] [(.ref o), (.ref am)])) rfl rfl (hb hby dd_prog_28_method_5_code_4)
  obtain ⟨cq3, kq3, q3a, q3b, q3c⟩ := isOf hZ e2 E_r
  obtain ⟨_, _, ⟨T3, L3, kc3, ks3⟩, -, X3, ⟨Lc3, hQ3, l3, y3, z3⟩, st3⟩ := X2.virtualBackUp hx (owner := "java/lang/Enum") (x := (⟨"com/example/formula_to_strategy/formulatostrategy/language/BinaryExpression$Operator", "ordinal", "()I"⟩ : MethodName)) (y := (⟨"java/lang/Enum", "ordinal", "()I"⟩ : MethodName)) hown (mvT hZ (wd37 hw)) (mvT hZ (wd38 hw)) (mvT hZ (wd39 hw)) (by decide) (mvT hZ (wd41 hw)) (mvT hZ (wd40 hw)) (backOf (W := 1) (rmOrd l Z a0 hw [] rl _ h0 n0 Z0 F_o) hZ (wd43 hw) (wd42 hw) (by decide) (by decide)) q3a q3c (g := (mkF m 7 #[.val (.ref o), .val (.double (FP.l2d ab)), .second] [(.ref rl), (.ref am)])) rfl (by rw [hml]; rfl) (Steps.refl _) (argsL := []) (rest := [(.ref am)]) (lenOf pd___I rfl) rfl (by show 2 * 0 + _ ≤ _; exact Nat.le_of_eq rfl) (hb hby dd_prog_28_method_5_code_7) (fun _ _ => ⟨rfl, e2, (by decide : 0 + 0 ≤ _), (by decide : 0 + 0 ≤ _)⟩)
  dsimp only [Pt.U, Pt.locs, Pt.cells, Pt.slots] at X3 l3 y3 z3 st3 hQ3
  subst l3 y3 z3
  obtain ⟨rfl, Nq3, eq3⟩ := hQ3
  have N3 := Fr.app N0 Nq3
  have k4 : ∀ t, Steps p.tables e below (T3.setTop (mkF m 11 #[.val (.ref o), .val (.double (FP.l2d ab)), .second] [(.int sw)])) t → Steps p.tables e below (s₁.setTop (entryFrame m #[(.ref o), (.double (FP.l2d ab))] 3)) t := by
    intro t kt
    refine pre0 t ?_
    show Steps p.tables e below (s₁.setTop (mkF m 0 #[.val (.ref o), .val (.double (FP.l2d ab)), .second] [])) _
    refine st1 _ ?_
    show Steps p.tables e below (T1.setTop (mkF m 3 #[.val (.ref o), .val (.double (FP.l2d ab)), .second] [(.ref am)])) _
    refine XS.aloadN X1.here hx rfl (hb hby dd_prog_28_method_5_code_3) rfl rfl ?_
    show Steps p.tables e below (T1.setTop (mkF m 4 #[.val (.ref o), .val (.double (FP.l2d ab)), .second] [(.ref o), (.ref am)])) _
    refine st2 _ ?_
    show Steps p.tables e below (T2.setTop (mkF m 7 #[.val (.ref o), .val (.double (FP.l2d ab)), .second] [(.ref rl), (.ref am)])) _
    refine st3.trans ?_
    show Steps p.tables e below (T3.setTop (mkF m 10 #[.val (.ref o), .val (.double (FP.l2d ab)), .second] [(.int od), (.ref am)])) _
    refine X3.iaload hx (j := od) (v := (.int sw)) (by (try rw [eq3]); exact Ar.1) (State.isArrayOf_alike hZ.alike Ar.2.1) Ar.2.2 hin hat (g := (mkF m 10 #[.val (.ref o), .val (.double (FP.l2d ab)), .second] [(.int od), (.ref am)])) rfl rfl (hb hby dd_prog_28_method_5_code_10) _ ?_
    exact kt
  rcases hsw with hsw | hsw | hsw | hsw
  · skip
    rw [(hsw : sw = (1 : Int32))] at k4
    obtain ⟨T5, X5, e5, st5⟩ := getF X3 hx hZ hown (host := "") (Or.inl (wd18 hw)) Via.refl eq3 F_t (g := (mkF m 42 #[.val (.ref o), .val (.double (FP.l2d ab)), .second] [(.ref o), (.double (FP.l2d ab))])) rfl rfl (hb hby dd_prog_28_method_5_code_42)
    have k6 : ∀ t, Steps p.tables e below (T5.setTop (mkF m 46 #[.val (.ref o), .val (.double (FP.l2d ab)), .second] [(.int (lcmpW ab aa))])) t → Steps p.tables e below (s₁.setTop (entryFrame m #[(.ref o), (.double (FP.l2d ab))] 3)) t := by
      intro t kt
      refine k4 t ?_
      show Steps p.tables e below (T3.setTop (mkF m 11 #[.val (.ref o), .val (.double (FP.l2d ab)), .second] [(.int (1 : Int32))])) _
      refine XS.tswIn X3.here hx rfl (pc0 := 11) (pc' := 40) rfl (hb hby dd_prog_28_method_5_code_11) rfl (by decide) (by rfl) (by decide) (by decide) ?_
      show Steps p.tables e below (T3.setTop (mkF m 40 #[.val (.ref o), .val (.double (FP.l2d ab)), .second] [])) _
      refine XS.dloadN X3.here hx rfl (hb hby dd_prog_28_method_5_code_40) rfl ?_
      show Steps p.tables e below (T3.setTop (mkF m 41 #[.val (.ref o), .val (.double (FP.l2d ab)), .second] [(.double (FP.l2d ab))])) _
      refine XS.aloadN X3.here hx rfl (hb hby dd_prog_28_method_5_code_41) rfl rfl ?_
      show Steps p.tables e below (T3.setTop (mkF m 42 #[.val (.ref o), .val (.double (FP.l2d ab)), .second] [(.ref o), (.double (FP.l2d ab))])) _
      refine st5 _ ?_
      show Steps p.tables e below (T5.setTop (mkF m 45 #[.val (.ref o), .val (.double (FP.l2d ab)), .second] [(.double (FP.l2d aa)), (.double (FP.l2d ab))])) _
      refine XS.dcmpS X5.here hx rfl (hb hby dd_prog_28_method_5_code_45) rfl (dcmpV_w bb ba .l) ?_
      exact kt
    by_cases hc7 : ab < aa
    · skip
      obtain ⟨lfs, lhr, lhrun, lhended, lhW, lhsame⟩ := X5.leave (v := some (.int (0 : Int32))) (fun h => by rw [Bd.returns] at h; cases h)
      refine ⟨_, _, k6 _ ?_, lhrun, lhended, _, _, rfl, ?_, ⟨_, rfl⟩, lhW, lhsame.mono (by decide) (by decide)⟩
      · skip
        show Steps p.tables e below (T5.setTop (mkF m 46 #[.val (.ref o), .val (.double (FP.l2d ab)), .second] [(.int (lcmpW ab aa))])) _
        refine XS.ifYes X5.here hx rfl (pc0 := 46) (pc' := 53) rfl (hb hby dd_prog_28_method_5_code_46) rfl ((if0 _ _).trans (tlt ((lw_lt ab aa).mpr hc7)).1) (by decide) (by decide) ?_
        show Steps p.tables e below (T5.setTop (mkF m 53 #[.val (.ref o), .val (.double (FP.l2d ab)), .second] [])) _
        refine XS.iconst X5.here hx rfl (hb hby dd_prog_28_method_5_code_53) ?_
        show Steps p.tables e below (T5.setTop (mkF m 54 #[.val (.ref o), .val (.double (FP.l2d ab)), .second] [(.int (0 : Int32))])) _
        refine XS.goto X5.here hx rfl (pc0 := 54) (pc' := 128) rfl (hb hby dd_prog_28_method_5_code_54) (by decide) (by decide) ?_
        show Steps p.tables e below (T5.setTop (mkF m 128 #[.val (.ref o), .val (.double (FP.l2d ab)), .second] [(.int (0 : Int32))])) _
        exact retN X5 hx (t := .boolean) Bd.returns (by simp) (hb hby dd_prog_28_method_5_code_128) lhr
      · skip
        show QHol Z o (FP.l2d ab) ab aa rl am clm od sw h0 n0 _ T5.heap _
        rw [e5]
        refine ⟨?_, N3, rfl⟩
        simp [own_holds, hsw, hc7]
    · skip
      obtain ⟨lfs, lhr, lhrun, lhended, lhW, lhsame⟩ := X5.leave (v := some (.int (1 : Int32))) (fun h => by rw [Bd.returns] at h; cases h)
      refine ⟨_, _, k6 _ ?_, lhrun, lhended, _, _, rfl, ?_, ⟨_, rfl⟩, lhW, lhsame.mono (by decide) (by decide)⟩
      · skip
        show Steps p.tables e below (T5.setTop (mkF m 46 #[.val (.ref o), .val (.double (FP.l2d ab)), .second] [(.int (lcmpW ab aa))])) _
        refine XS.ifNo X5.here hx rfl (hb hby dd_prog_28_method_5_code_46) rfl ((if0 _ _).trans (flt (fun q => hc7 ((lw_lt ab aa).mp q))).1) ?_
        show Steps p.tables e below (T5.setTop (mkF m 49 #[.val (.ref o), .val (.double (FP.l2d ab)), .second] [])) _
        refine XS.iconst X5.here hx rfl (hb hby dd_prog_28_method_5_code_49) ?_
        show Steps p.tables e below (T5.setTop (mkF m 50 #[.val (.ref o), .val (.double (FP.l2d ab)), .second] [(.int (1 : Int32))])) _
        refine XS.goto X5.here hx rfl (pc0 := 50) (pc' := 128) rfl (hb hby dd_prog_28_method_5_code_50) (by decide) (by decide) ?_
        show Steps p.tables e below (T5.setTop (mkF m 128 #[.val (.ref o), .val (.double (FP.l2d ab)), .second] [(.int (1 : Int32))])) _
        exact retN X5 hx (t := .boolean) Bd.returns (by simp) (hb hby dd_prog_28_method_5_code_128) lhr
      · skip
        show QHol Z o (FP.l2d ab) ab aa rl am clm od sw h0 n0 _ T5.heap _
        rw [e5]
        refine ⟨?_, N3, rfl⟩
        simp [own_holds, hsw, hc7]
  · skip
    rw [(hsw : sw = (2 : Int32))] at k4
    obtain ⟨T8, X8, e8, st8⟩ := getF X3 hx hZ hown (host := "") (Or.inl (wd18 hw)) Via.refl eq3 F_t (g := (mkF m 59 #[.val (.ref o), .val (.double (FP.l2d ab)), .second] [(.ref o), (.double (FP.l2d ab))])) rfl rfl (hb hby dd_prog_28_method_5_code_59)
    have k9 : ∀ t, Steps p.tables e below (T8.setTop (mkF m 63 #[.val (.ref o), .val (.double (FP.l2d ab)), .second] [(.int (lcmpW ab aa))])) t → Steps p.tables e below (s₁.setTop (entryFrame m #[(.ref o), (.double (FP.l2d ab))] 3)) t := by
      intro t kt
      refine k4 t ?_
      show Steps p.tables e below (T3.setTop (mkF m 11 #[.val (.ref o), .val (.double (FP.l2d ab)), .second] [(.int (2 : Int32))])) _
      refine XS.tswIn X3.here hx rfl (pc0 := 11) (pc' := 57) rfl (hb hby dd_prog_28_method_5_code_11) rfl (by decide) (by rfl) (by decide) (by decide) ?_
      show Steps p.tables e below (T3.setTop (mkF m 57 #[.val (.ref o), .val (.double (FP.l2d ab)), .second] [])) _
      refine XS.dloadN X3.here hx rfl (hb hby dd_prog_28_method_5_code_57) rfl ?_
      show Steps p.tables e below (T3.setTop (mkF m 58 #[.val (.ref o), .val (.double (FP.l2d ab)), .second] [(.double (FP.l2d ab))])) _
      refine XS.aloadN X3.here hx rfl (hb hby dd_prog_28_method_5_code_58) rfl rfl ?_
      show Steps p.tables e below (T3.setTop (mkF m 59 #[.val (.ref o), .val (.double (FP.l2d ab)), .second] [(.ref o), (.double (FP.l2d ab))])) _
      refine st8 _ ?_
      show Steps p.tables e below (T8.setTop (mkF m 62 #[.val (.ref o), .val (.double (FP.l2d ab)), .second] [(.double (FP.l2d aa)), (.double (FP.l2d ab))])) _
      refine XS.dcmpS X8.here hx rfl (hb hby dd_prog_28_method_5_code_62) rfl (dcmpV_w bb ba .l) ?_
      exact kt
    by_cases hc10 : aa < ab
    · skip
      obtain ⟨lfs, lhr, lhrun, lhended, lhW, lhsame⟩ := X8.leave (v := some (.int (1 : Int32))) (fun h => by rw [Bd.returns] at h; cases h)
      refine ⟨_, _, k9 _ ?_, lhrun, lhended, _, _, rfl, ?_, ⟨_, rfl⟩, lhW, lhsame.mono (by decide) (by decide)⟩
      · skip
        show Steps p.tables e below (T8.setTop (mkF m 63 #[.val (.ref o), .val (.double (FP.l2d ab)), .second] [(.int (lcmpW ab aa))])) _
        refine XS.ifNo X8.here hx rfl (hb hby dd_prog_28_method_5_code_63) rfl ((if0 _ _).trans (tlt ((lw_gt ab aa).mpr hc10)).2.2.2) ?_
        show Steps p.tables e below (T8.setTop (mkF m 66 #[.val (.ref o), .val (.double (FP.l2d ab)), .second] [])) _
        refine XS.iconst X8.here hx rfl (hb hby dd_prog_28_method_5_code_66) ?_
        show Steps p.tables e below (T8.setTop (mkF m 67 #[.val (.ref o), .val (.double (FP.l2d ab)), .second] [(.int (1 : Int32))])) _
        refine XS.goto X8.here hx rfl (pc0 := 67) (pc' := 128) rfl (hb hby dd_prog_28_method_5_code_67) (by decide) (by decide) ?_
        show Steps p.tables e below (T8.setTop (mkF m 128 #[.val (.ref o), .val (.double (FP.l2d ab)), .second] [(.int (1 : Int32))])) _
        exact retN X8 hx (t := .boolean) Bd.returns (by simp) (hb hby dd_prog_28_method_5_code_128) lhr
      · skip
        show QHol Z o (FP.l2d ab) ab aa rl am clm od sw h0 n0 _ T8.heap _
        rw [e8]
        refine ⟨?_, N3, rfl⟩
        simp [own_holds, hsw, hc10]
    · skip
      obtain ⟨lfs, lhr, lhrun, lhended, lhW, lhsame⟩ := X8.leave (v := some (.int (0 : Int32))) (fun h => by rw [Bd.returns] at h; cases h)
      refine ⟨_, _, k9 _ ?_, lhrun, lhended, _, _, rfl, ?_, ⟨_, rfl⟩, lhW, lhsame.mono (by decide) (by decide)⟩
      · skip
        show Steps p.tables e below (T8.setTop (mkF m 63 #[.val (.ref o), .val (.double (FP.l2d ab)), .second] [(.int (lcmpW ab aa))])) _
        refine XS.ifYes X8.here hx rfl (pc0 := 63) (pc' := 70) rfl (hb hby dd_prog_28_method_5_code_63) rfl ((if0 _ _).trans (flt (fun q => hc10 ((lw_gt ab aa).mp q))).2.2.2) (by decide) (by decide) ?_
        show Steps p.tables e below (T8.setTop (mkF m 70 #[.val (.ref o), .val (.double (FP.l2d ab)), .second] [])) _
        refine XS.iconst X8.here hx rfl (hb hby dd_prog_28_method_5_code_70) ?_
        show Steps p.tables e below (T8.setTop (mkF m 71 #[.val (.ref o), .val (.double (FP.l2d ab)), .second] [(.int (0 : Int32))])) _
        refine XS.goto X8.here hx rfl (pc0 := 71) (pc' := 128) rfl (hb hby dd_prog_28_method_5_code_71) (by decide) (by decide) ?_
        show Steps p.tables e below (T8.setTop (mkF m 128 #[.val (.ref o), .val (.double (FP.l2d ab)), .second] [(.int (0 : Int32))])) _
        exact retN X8 hx (t := .boolean) Bd.returns (by simp) (hb hby dd_prog_28_method_5_code_128) lhr
      · skip
        show QHol Z o (FP.l2d ab) ab aa rl am clm od sw h0 n0 _ T8.heap _
        rw [e8]
        refine ⟨?_, N3, rfl⟩
        simp [own_holds, hsw, hc10]
  · skip
    rw [(hsw : sw = (3 : Int32))] at k4
    obtain ⟨T11, X11, e11, st11⟩ := getF X3 hx hZ hown (host := "") (Or.inl (wd18 hw)) Via.refl eq3 F_t (g := (mkF m 76 #[.val (.ref o), .val (.double (FP.l2d ab)), .second] [(.ref o), (.double (FP.l2d ab))])) rfl rfl (hb hby dd_prog_28_method_5_code_76)
    have k12 : ∀ t, Steps p.tables e below (T11.setTop (mkF m 80 #[.val (.ref o), .val (.double (FP.l2d ab)), .second] [(.int (lcmpW ab aa))])) t → Steps p.tables e below (s₁.setTop (entryFrame m #[(.ref o), (.double (FP.l2d ab))] 3)) t := by
      intro t kt
      refine k4 t ?_
      show Steps p.tables e below (T3.setTop (mkF m 11 #[.val (.ref o), .val (.double (FP.l2d ab)), .second] [(.int (3 : Int32))])) _
      refine XS.tswIn X3.here hx rfl (pc0 := 11) (pc' := 74) rfl (hb hby dd_prog_28_method_5_code_11) rfl (by decide) (by rfl) (by decide) (by decide) ?_
      show Steps p.tables e below (T3.setTop (mkF m 74 #[.val (.ref o), .val (.double (FP.l2d ab)), .second] [])) _
      refine XS.dloadN X3.here hx rfl (hb hby dd_prog_28_method_5_code_74) rfl ?_
      show Steps p.tables e below (T3.setTop (mkF m 75 #[.val (.ref o), .val (.double (FP.l2d ab)), .second] [(.double (FP.l2d ab))])) _
      refine XS.aloadN X3.here hx rfl (hb hby dd_prog_28_method_5_code_75) rfl rfl ?_
      show Steps p.tables e below (T3.setTop (mkF m 76 #[.val (.ref o), .val (.double (FP.l2d ab)), .second] [(.ref o), (.double (FP.l2d ab))])) _
      refine st11 _ ?_
      show Steps p.tables e below (T11.setTop (mkF m 79 #[.val (.ref o), .val (.double (FP.l2d ab)), .second] [(.double (FP.l2d aa)), (.double (FP.l2d ab))])) _
      refine XS.dcmpS X11.here hx rfl (hb hby dd_prog_28_method_5_code_79) rfl (dcmpV_w bb ba .g) ?_
      exact kt
    by_cases hc13 : aa < ab
    · skip
      obtain ⟨lfs, lhr, lhrun, lhended, lhW, lhsame⟩ := X11.leave (v := some (.int (0 : Int32))) (fun h => by rw [Bd.returns] at h; cases h)
      refine ⟨_, _, k12 _ ?_, lhrun, lhended, _, _, rfl, ?_, ⟨_, rfl⟩, lhW, lhsame.mono (by decide) (by decide)⟩
      · skip
        show Steps p.tables e below (T11.setTop (mkF m 80 #[.val (.ref o), .val (.double (FP.l2d ab)), .second] [(.int (lcmpW ab aa))])) _
        refine XS.ifYes X11.here hx rfl (pc0 := 80) (pc' := 87) rfl (hb hby dd_prog_28_method_5_code_80) rfl ((if0 _ _).trans (tlt ((lw_gt ab aa).mpr hc13)).2.2.1) (by decide) (by decide) ?_
        show Steps p.tables e below (T11.setTop (mkF m 87 #[.val (.ref o), .val (.double (FP.l2d ab)), .second] [])) _
        refine XS.iconst X11.here hx rfl (hb hby dd_prog_28_method_5_code_87) ?_
        show Steps p.tables e below (T11.setTop (mkF m 88 #[.val (.ref o), .val (.double (FP.l2d ab)), .second] [(.int (0 : Int32))])) _
        refine XS.goto X11.here hx rfl (pc0 := 88) (pc' := 128) rfl (hb hby dd_prog_28_method_5_code_88) (by decide) (by decide) ?_
        show Steps p.tables e below (T11.setTop (mkF m 128 #[.val (.ref o), .val (.double (FP.l2d ab)), .second] [(.int (0 : Int32))])) _
        exact retN X11 hx (t := .boolean) Bd.returns (by simp) (hb hby dd_prog_28_method_5_code_128) lhr
      · skip
        show QHol Z o (FP.l2d ab) ab aa rl am clm od sw h0 n0 _ T11.heap _
        rw [e11]
        refine ⟨?_, N3, rfl⟩
        simp [own_holds, hsw, hc13]
    · skip
      obtain ⟨lfs, lhr, lhrun, lhended, lhW, lhsame⟩ := X11.leave (v := some (.int (1 : Int32))) (fun h => by rw [Bd.returns] at h; cases h)
      refine ⟨_, _, k12 _ ?_, lhrun, lhended, _, _, rfl, ?_, ⟨_, rfl⟩, lhW, lhsame.mono (by decide) (by decide)⟩
      · skip
        show Steps p.tables e below (T11.setTop (mkF m 80 #[.val (.ref o), .val (.double (FP.l2d ab)), .second] [(.int (lcmpW ab aa))])) _
        refine XS.ifNo X11.here hx rfl (hb hby dd_prog_28_method_5_code_80) rfl ((if0 _ _).trans (flt (fun q => hc13 ((lw_gt ab aa).mp q))).2.2.1) ?_
        show Steps p.tables e below (T11.setTop (mkF m 83 #[.val (.ref o), .val (.double (FP.l2d ab)), .second] [])) _
        refine XS.iconst X11.here hx rfl (hb hby dd_prog_28_method_5_code_83) ?_
        show Steps p.tables e below (T11.setTop (mkF m 84 #[.val (.ref o), .val (.double (FP.l2d ab)), .second] [(.int (1 : Int32))])) _
        refine XS.goto X11.here hx rfl (pc0 := 84) (pc' := 128) rfl (hb hby dd_prog_28_method_5_code_84) (by decide) (by decide) ?_
        show Steps p.tables e below (T11.setTop (mkF m 128 #[.val (.ref o), .val (.double (FP.l2d ab)), .second] [(.int (1 : Int32))])) _
        exact retN X11 hx (t := .boolean) Bd.returns (by simp) (hb hby dd_prog_28_method_5_code_128) lhr
      · skip
        show QHol Z o (FP.l2d ab) ab aa rl am clm od sw h0 n0 _ T11.heap _
        rw [e11]
        refine ⟨?_, N3, rfl⟩
        simp [own_holds, hsw, hc13]
  · skip
    rw [(hsw : sw = (4 : Int32))] at k4
    obtain ⟨T14, X14, e14, st14⟩ := getF X3 hx hZ hown (host := "") (Or.inl (wd18 hw)) Via.refl eq3 F_t (g := (mkF m 93 #[.val (.ref o), .val (.double (FP.l2d ab)), .second] [(.ref o), (.double (FP.l2d ab))])) rfl rfl (hb hby dd_prog_28_method_5_code_93)
    have k15 : ∀ t, Steps p.tables e below (T14.setTop (mkF m 97 #[.val (.ref o), .val (.double (FP.l2d ab)), .second] [(.int (lcmpW ab aa))])) t → Steps p.tables e below (s₁.setTop (entryFrame m #[(.ref o), (.double (FP.l2d ab))] 3)) t := by
      intro t kt
      refine k4 t ?_
      show Steps p.tables e below (T3.setTop (mkF m 11 #[.val (.ref o), .val (.double (FP.l2d ab)), .second] [(.int (4 : Int32))])) _
      refine XS.tswIn X3.here hx rfl (pc0 := 11) (pc' := 91) rfl (hb hby dd_prog_28_method_5_code_11) rfl (by decide) (by rfl) (by decide) (by decide) ?_
      show Steps p.tables e below (T3.setTop (mkF m 91 #[.val (.ref o), .val (.double (FP.l2d ab)), .second] [])) _
      refine XS.dloadN X3.here hx rfl (hb hby dd_prog_28_method_5_code_91) rfl ?_
      show Steps p.tables e below (T3.setTop (mkF m 92 #[.val (.ref o), .val (.double (FP.l2d ab)), .second] [(.double (FP.l2d ab))])) _
      refine XS.aloadN X3.here hx rfl (hb hby dd_prog_28_method_5_code_92) rfl rfl ?_
      show Steps p.tables e below (T3.setTop (mkF m 93 #[.val (.ref o), .val (.double (FP.l2d ab)), .second] [(.ref o), (.double (FP.l2d ab))])) _
      refine st14 _ ?_
      show Steps p.tables e below (T14.setTop (mkF m 96 #[.val (.ref o), .val (.double (FP.l2d ab)), .second] [(.double (FP.l2d aa)), (.double (FP.l2d ab))])) _
      refine XS.dcmpS X14.here hx rfl (hb hby dd_prog_28_method_5_code_96) rfl (dcmpV_w bb ba .g) ?_
      exact kt
    by_cases hc16 : ab < aa
    · skip
      obtain ⟨lfs, lhr, lhrun, lhended, lhW, lhsame⟩ := X14.leave (v := some (.int (1 : Int32))) (fun h => by rw [Bd.returns] at h; cases h)
      refine ⟨_, _, k15 _ ?_, lhrun, lhended, _, _, rfl, ?_, ⟨_, rfl⟩, lhW, lhsame.mono (by decide) (by decide)⟩
      · skip
        show Steps p.tables e below (T14.setTop (mkF m 97 #[.val (.ref o), .val (.double (FP.l2d ab)), .second] [(.int (lcmpW ab aa))])) _
        refine XS.ifNo X14.here hx rfl (hb hby dd_prog_28_method_5_code_97) rfl ((if0 _ _).trans (tlt ((lw_lt ab aa).mpr hc16)).2.1) ?_
        show Steps p.tables e below (T14.setTop (mkF m 100 #[.val (.ref o), .val (.double (FP.l2d ab)), .second] [])) _
        refine XS.iconst X14.here hx rfl (hb hby dd_prog_28_method_5_code_100) ?_
        show Steps p.tables e below (T14.setTop (mkF m 101 #[.val (.ref o), .val (.double (FP.l2d ab)), .second] [(.int (1 : Int32))])) _
        refine XS.goto X14.here hx rfl (pc0 := 101) (pc' := 128) rfl (hb hby dd_prog_28_method_5_code_101) (by decide) (by decide) ?_
        show Steps p.tables e below (T14.setTop (mkF m 128 #[.val (.ref o), .val (.double (FP.l2d ab)), .second] [(.int (1 : Int32))])) _
        exact retN X14 hx (t := .boolean) Bd.returns (by simp) (hb hby dd_prog_28_method_5_code_128) lhr
      · skip
        show QHol Z o (FP.l2d ab) ab aa rl am clm od sw h0 n0 _ T14.heap _
        rw [e14]
        refine ⟨?_, N3, rfl⟩
        simp [own_holds, hsw, hc16]
    · skip
      obtain ⟨lfs, lhr, lhrun, lhended, lhW, lhsame⟩ := X14.leave (v := some (.int (0 : Int32))) (fun h => by rw [Bd.returns] at h; cases h)
      refine ⟨_, _, k15 _ ?_, lhrun, lhended, _, _, rfl, ?_, ⟨_, rfl⟩, lhW, lhsame.mono (by decide) (by decide)⟩
      · skip
        show Steps p.tables e below (T14.setTop (mkF m 97 #[.val (.ref o), .val (.double (FP.l2d ab)), .second] [(.int (lcmpW ab aa))])) _
        refine XS.ifYes X14.here hx rfl (pc0 := 97) (pc' := 104) rfl (hb hby dd_prog_28_method_5_code_97) rfl ((if0 _ _).trans (flt (fun q => hc16 ((lw_lt ab aa).mp q))).2.1) (by decide) (by decide) ?_
        show Steps p.tables e below (T14.setTop (mkF m 104 #[.val (.ref o), .val (.double (FP.l2d ab)), .second] [])) _
        refine XS.iconst X14.here hx rfl (hb hby dd_prog_28_method_5_code_104) ?_
        show Steps p.tables e below (T14.setTop (mkF m 105 #[.val (.ref o), .val (.double (FP.l2d ab)), .second] [(.int (0 : Int32))])) _
        refine XS.goto X14.here hx rfl (pc0 := 105) (pc' := 128) rfl (hb hby dd_prog_28_method_5_code_105) (by decide) (by decide) ?_
        show Steps p.tables e below (T14.setTop (mkF m 128 #[.val (.ref o), .val (.double (FP.l2d ab)), .second] [(.int (0 : Int32))])) _
        exact retN X14 hx (t := .boolean) Bd.returns (by simp) (hb hby dd_prog_28_method_5_code_128) lhr
      · skip
        show QHol Z o (FP.l2d ab) ab aa rl am clm od sw h0 n0 _ T14.heap _
        rw [e14]
        refine ⟨?_, N3, rfl⟩
        simp [own_holds, hsw, hc16]
theorem ef_0 (m : MethodId) (x0 : Int32) (x1 : Int32) : entryFrame m #[(.int x0), (.int x1)] maxLocals = mkF m 0 #[.val (.int x0), .val (.int x1), .unset, .unset, .unset, .unset, .unset, .unset, .unset, .unset] [] := by first | (simp [entryFrame, mkF, argsToLocals, Value.category, maxLocals]; done) | rfl
theorem pd__I_Lcom_example_formula_to_strategy_formulatostrategy_language_BinaryExpression_Operator_ : parseMethodDescriptor "(I)Lcom/example/formula_to_strategy/formulatostrategy/language/BinaryExpression$Operator;" = some ⟨[.int], some (.object "com/example/formula_to_strategy/formulatostrategy/language/BinaryExpression$Operator")⟩ := by decide +kernel
theorem pd__Lcom_example_formula_to_strategy_formulatostrategy_language_BinaryExpression_Operator_D_V : parseMethodDescriptor "(Lcom/example/formula_to_strategy/formulatostrategy/language/BinaryExpression$Operator;D)V" = some ⟨[(.object "com/example/formula_to_strategy/formulatostrategy/language/BinaryExpression$Operator"), .double], none⟩ := by decide +kernel
theorem pd___Z : parseMethodDescriptor "()Z" = some ⟨[], some .boolean⟩ := by decide +kernel
theorem pd__D_Z : parseMethodDescriptor "(D)Z" = some ⟨[.double], some .boolean⟩ := by decide +kernel
def Q0 (Z : State) (x0 : Int32) (x1 : Int32) (wl : Addr) (we : Addr) (wg : Addr) (wq : Addr) (am : Addr) (clm : Cell) (h0 : Heap) (n0 : Nat) (v : Option Value) (h : Heap) (L : List Loc) : Prop := v = some (.int 1) ∧ Fr n0 L
set_option maxRecDepth 65536 in
set_option maxHeartbeats 40000000 in
theorem rm0 (l : Launch) (Z : State) (a0 : Array Value) (hw : ∀ d ∈ tables_1, d.before a0 Z = true) (ws : List Jvm.Cond) (x0 : Int32) (x1 : Int32) (wl : Addr) (we : Addr) (wg : Addr) (wq : Addr) (am : Addr) (clm : Cell) (h0 : Heap) (n0 : Nat) (Z0 : n0 ≤ h0.size) (X00 : Old Z n0 h0) (S_wl : Sta Z Z.heap "com/example/formula_to_strategy/formulatostrategy/language/BinaryExpression$Operator" "LESS" "Lcom/example/formula_to_strategy/formulatostrategy/language/BinaryExpression$Operator;" (.ref wl)) (S_we : Sta Z Z.heap "com/example/formula_to_strategy/formulatostrategy/language/BinaryExpression$Operator" "LESS_EQUAL" "Lcom/example/formula_to_strategy/formulatostrategy/language/BinaryExpression$Operator;" (.ref we)) (S_wg : Sta Z Z.heap "com/example/formula_to_strategy/formulatostrategy/language/BinaryExpression$Operator" "GREATER" "Lcom/example/formula_to_strategy/formulatostrategy/language/BinaryExpression$Operator;" (.ref wg)) (S_wq : Sta Z Z.heap "com/example/formula_to_strategy/formulatostrategy/language/BinaryExpression$Operator" "GREATER_EQUAL" "Lcom/example/formula_to_strategy/formulatostrategy/language/BinaryExpression$Operator;" (.ref wq)) (E_wl : Exa Z Z.heap wl "com/example/formula_to_strategy/formulatostrategy/language/BinaryExpression$Operator") (E_we : Exa Z Z.heap we "com/example/formula_to_strategy/formulatostrategy/language/BinaryExpression$Operator") (E_wg : Exa Z Z.heap wg "com/example/formula_to_strategy/formulatostrategy/language/BinaryExpression$Operator") (E_wq : Exa Z Z.heap wq "com/example/formula_to_strategy/formulatostrategy/language/BinaryExpression$Operator") (O_wl : Fld Z Z.heap wl "java/lang/Enum" "ordinal" "I" (.int 6)) (O_we : Fld Z Z.heap we "java/lang/Enum" "ordinal" "I" (.int 7)) (O_wg : Fld Z Z.heap wg "java/lang/Enum" "ordinal" "I" (.int 8)) (O_wq : Fld Z Z.heap wq "java/lang/Enum" "ordinal" "I" (.int 9)) (S_m : Sta Z Z.heap "com/example/formula_to_strategy/formulatostrategy/language/Bound$1" "$SwitchMap$com$example$formula_to_strategy$formulatostrategy$language$BinaryExpression$Operator" "[I" (.ref am)) (Ar : Arr Z Z.heap am clm .int) (hin6 : ¬ ((6 : Int32) < 0 ∨ clm.slots.size ≤ (6 : Int32).toNatClampNeg)) (hin7 : ¬ ((7 : Int32) < 0 ∨ clm.slots.size ≤ (7 : Int32).toNatClampNeg)) (hin8 : ¬ ((8 : Int32) < 0 ∨ clm.slots.size ≤ (8 : Int32).toNatClampNeg)) (hin9 : ¬ ((9 : Int32) < 0 ∨ clm.slots.size ≤ (9 : Int32).toNatClampNeg)) (hat6 : clm.slots[(6 : Int32).toNatClampNeg]? = some (.int (4 : Int32))) (hat7 : clm.slots[(7 : Int32).toNatClampNeg]? = some (.int (3 : Int32))) (hat8 : clm.slots[(8 : Int32).toNatClampNeg]? = some (.int (2 : Int32))) (hat9 : clm.slots[(9 : Int32).toNatClampNeg]? = some (.int (1 : Int32))) :
    MetFree l x (head1 (Jvm.Cond.code x code maxLocals ret :: ws) room_1) (fun a U => a = #[(.int x0), (.int x1)] ∧ Z.Warmed39 U.vm ∧ U.heap = h0) (fun _ _ _ _ _ => True) (fun _ U oc_ U' => ∃ v L, oc_ = .returned v ∧ Q0 Z x0 x1 wl we wg wq am clm h0 n0 v U'.heap L ∧ FrameEnd U oc_ U' L 16 128) := by
  refine MetFree.of_bodySF (plainFor_of_name pn_com_example_formula_to_strategy_formulatostrategy_language_BoundIsLowerPinLaw) hisR ?_
  intro p e s m args below meth c s₁ Bd hml0 hP hK
  obtain ⟨rfl, hZ, hh⟩ := hP
  have hx := Bd.exec
  have hby := Bd.bytes
  have hml : c.maxLocals = 10 := hml0
  have hown : s.vm.findClass "com/example/formula_to_strategy/formulatostrategy/language/BoundIsLowerPinLaw" = some m.cls := findClass_of_methodNamed Bd.named
  have hnm := (name_of_methodNamed Bd.named Bd.method).1
  have X0 : Stand p l e room_1 s m #[(.int x0), (.int x1)] below meth c s₁ [] 0 0 := Stand.of_body Bd
  have e0 : s₁.heap = h0 := by rw [← hh, Bd.state]; rfl
  have N0 := Fr.nil n0
  have pre0 : ∀ t, Steps p.tables e below (s₁.setTop (mkF m 0 #[.val (.int x0), .val (.int x1), .unset, .unset, .unset, .unset, .unset, .unset, .unset, .unset] [])) t → Steps p.tables e below (s₁.setTop (entryFrame m #[(.int x0), (.int x1)] maxLocals)) t := fun t k => castTop (ef_0 m x0 x1) k
  have k1 : ∀ t, Steps p.tables e below (s₁.setTop (mkF m 4 #[.val (.int x0), .val (.int x1), .val (.int (x0 &&& (3 : Int32))), .unset, .unset, .unset, .unset, .unset, .unset, .unset] [])) t → Steps p.tables e below (s₁.setTop (entryFrame m #[(.int x0), (.int x1)] maxLocals)) t := by
    intro t kt
    refine pre0 t ?_
    show Steps p.tables e below (s₁.setTop (mkF m 0 #[.val (.int x0), .val (.int x1), .unset, .unset, .unset, .unset, .unset, .unset, .unset, .unset] [])) _
    refine XS.iloadN X0.here hx rfl (hb hby at_0) rfl ?_
    show Steps p.tables e below (s₁.setTop (mkF m 1 #[.val (.int x0), .val (.int x1), .unset, .unset, .unset, .unset, .unset, .unset, .unset, .unset] [(.int x0)])) _
    refine XS.iconst X0.here hx rfl (hb hby at_1) ?_
    show Steps p.tables e below (s₁.setTop (mkF m 2 #[.val (.int x0), .val (.int x1), .unset, .unset, .unset, .unset, .unset, .unset, .unset, .unset] [(.int (3 : Int32)), (.int x0)])) _
    refine XS.iand X0.here hx rfl (hb hby at_2) rfl ?_
    show Steps p.tables e below (s₁.setTop (mkF m 3 #[.val (.int x0), .val (.int x1), .unset, .unset, .unset, .unset, .unset, .unset, .unset, .unset] [(.int (x0 &&& (3 : Int32)))])) _
    refine XS.istoreN X0.here hx rfl (hb hby at_3) rfl (l' := #[.val (.int x0), .val (.int x1), .val (.int (x0 &&& (3 : Int32))), .unset, .unset, .unset, .unset, .unset, .unset, .unset]) rfl ?_
    exact kt
  rcases own_and3 x0 with hk | hk | hk | hk
  · skip
    rw [(hk : (x0 &&& (3 : Int32)) = (0 : Int32))] at k1
    obtain ⟨T2, h2, X2, e2, E2, A2, D2, -, st2⟩ := newO X0 hx hZ hown (wd0 hw) (wd1 hw) (wd2 hw) e0 (g := (mkF m 7 #[.val (.int x0), .val (.int x1), .val (.int (0 : Int32)), .val (.double (FP.l2d x1.toInt64)), .second, .unset, .unset, .unset, .unset, .unset] [])) rfl (hb hby at_7) (by decide) (by decide)
    obtain ⟨b2, g2⟩ : ∃ z, z = h0.size := ⟨_, rfl⟩
    rw [← g2] at A2 D2 st2
    have ge_b2 : n0 ≤ b2 := Nat.le_trans Z0 (Nat.le_of_eq g2.symm)
    have sz_b2 : h0.size ≤ b2 := Nat.le_trans (Nat.le_refl _) (Nat.le_of_eq g2.symm)
    have Z2 : n0 ≤ h2.size := Nat.le_trans Z0 E2.1
    have K2 : Keep h0 h2 [] := ((Keep.refl h0 []).ext E2)
    have F2_relation : Fld Z h2 b2 "com/example/formula_to_strategy/formulatostrategy/language/Bound" "relation" "Lcom/example/formula_to_strategy/formulatostrategy/language/BinaryExpression$Operator;" .null := D2 (Or.inr (wd17 hw)) (ty := (.object "com/example/formula_to_strategy/formulatostrategy/language/BinaryExpression$Operator")) (by decide)
    have F2_threshold : Fld Z h2 b2 "com/example/formula_to_strategy/formulatostrategy/language/Bound" "threshold" "D" (.double (0 : UInt64)) := D2 (Or.inr (wd19 hw)) (ty := .double) (by decide)
    have f3 := (X00.ext E2)
    obtain ⟨_, _, ⟨T4, L4, kc4, ks4⟩, -, X4, ⟨Lc4, hQ4, l4, y4, z4⟩, st4⟩ := Jvm.LawKit.callS X2 hx (y := (⟨"com/example/formula_to_strategy/formulatostrategy/language/BoundIsLowerPinLaw", "relation", "(I)Lcom/example/formula_to_strategy/formulatostrategy/language/BinaryExpression$Operator;"⟩ : MethodName)) hown (mvT hZ (wd3 hw)) (mvT hZ (wd4 hw)) (mvT hZ (wd5 hw)) (mvT hZ (wd6 hw)) (by decide) (backOf (W := 2) (rmRel l Z a0 hw [] (0 : Int32) wl we wg wq h2 n0 Z2 (S_wl.ext f3.2) (S_we.ext f3.2) (S_wg.ext f3.2) (S_wq.ext f3.2)) hZ (wd6 hw) (wd5 hw) (by decide) (by decide)) (g := (mkF m 12 #[.val (.int x0), .val (.int x1), .val (.int (0 : Int32)), .val (.double (FP.l2d x1.toInt64)), .second, .unset, .unset, .unset, .unset, .unset] [(.int (0 : Int32)), (.ref b2), (.ref b2)])) rfl (by rw [hml]; rfl) (argsL := [(.int (0 : Int32))]) (rest := [(.ref b2), (.ref b2)]) (lenOf pd__I_Lcom_example_formula_to_strategy_formulatostrategy_language_BinaryExpression_Operator_ rfl) rfl (by show 2 * 0 + _ ≤ _; exact Nat.le_of_eq rfl) (hb hby at_12) (fun _ _ => ⟨rfl, e2, (by decide : 1 + 0 ≤ _), (by decide : 2 + 0 ≤ _)⟩)
    dsimp only [Pt.U, Pt.locs, Pt.cells, Pt.slots] at X4 l4 y4 z4 st4 hQ4
    subst l4 y4 z4
    obtain ⟨rfl, Nq4, eq4⟩ := hQ4
    have N4 := Fr.app N0 Nq4
    have k5 : ∀ t, Steps p.tables e below (T4.setTop (mkF m 15 #[.val (.int x0), .val (.int x1), .val (.int (0 : Int32)), .val (.double (FP.l2d x1.toInt64)), .second, .unset, .unset, .unset, .unset, .unset] [(.ref (own_rel (0 : Int32) wl we wg wq)), (.ref b2), (.ref b2)])) t → Steps p.tables e below (s₁.setTop (entryFrame m #[(.int x0), (.int x1)] maxLocals)) t := by
      intro t kt
      refine k1 t ?_
      show Steps p.tables e below (s₁.setTop (mkF m 4 #[.val (.int x0), .val (.int x1), .val (.int (0 : Int32)), .unset, .unset, .unset, .unset, .unset, .unset, .unset] [])) _
      refine XS.iloadN X0.here hx rfl (hb hby at_4) rfl ?_
      show Steps p.tables e below (s₁.setTop (mkF m 5 #[.val (.int x0), .val (.int x1), .val (.int (0 : Int32)), .unset, .unset, .unset, .unset, .unset, .unset, .unset] [(.int x1)])) _
      refine XS.i2dS X0.here hx rfl (hb hby at_5) rfl (i2d_w x1) ?_
      show Steps p.tables e below (s₁.setTop (mkF m 6 #[.val (.int x0), .val (.int x1), .val (.int (0 : Int32)), .unset, .unset, .unset, .unset, .unset, .unset, .unset] [(.double (FP.l2d x1.toInt64))])) _
      refine XS.dstoreN X0.here hx rfl (hb hby at_6) rfl (l' := #[.val (.int x0), .val (.int x1), .val (.int (0 : Int32)), .val (.double (FP.l2d x1.toInt64)), .second, .unset, .unset, .unset, .unset, .unset]) rfl ?_
      show Steps p.tables e below (s₁.setTop (mkF m 7 #[.val (.int x0), .val (.int x1), .val (.int (0 : Int32)), .val (.double (FP.l2d x1.toInt64)), .second, .unset, .unset, .unset, .unset, .unset] [])) _
      refine st2 _ ?_
      show Steps p.tables e below (T2.setTop (mkF m 10 #[.val (.int x0), .val (.int x1), .val (.int (0 : Int32)), .val (.double (FP.l2d x1.toInt64)), .second, .unset, .unset, .unset, .unset, .unset] [(.ref b2)])) _
      refine XS.dup X2.here hx rfl (hb hby at_10) rfl rfl ?_
      show Steps p.tables e below (T2.setTop (mkF m 11 #[.val (.int x0), .val (.int x1), .val (.int (0 : Int32)), .val (.double (FP.l2d x1.toInt64)), .second, .unset, .unset, .unset, .unset, .unset] [(.ref b2), (.ref b2)])) _
      refine XS.iloadN X2.here hx rfl (hb hby at_11) rfl ?_
      show Steps p.tables e below (T2.setTop (mkF m 12 #[.val (.int x0), .val (.int x1), .val (.int (0 : Int32)), .val (.double (FP.l2d x1.toInt64)), .second, .unset, .unset, .unset, .unset, .unset] [(.int (0 : Int32)), (.ref b2), (.ref b2)])) _
      refine st4 _ ?_
      exact kt
    rw [(by first | rfl | simp [own_rel] : own_rel (0 : Int32) wl we wg wq = wl)] at k5
    obtain ⟨_, _, ⟨T6, L6, kc6, ks6⟩, -, X6, ⟨Lc6, hQ6, l6, y6, z6⟩, st6⟩ := X4.specialBack hx (y := (⟨"com/example/formula_to_strategy/formulatostrategy/language/Bound", "<init>", "(Lcom/example/formula_to_strategy/formulatostrategy/language/BinaryExpression$Operator;D)V"⟩ : MethodName)) rfl hown (mvT hZ (wd10 hw)) (mvT hZ (wd11 hw)) (mvT hZ (wd12 hw)) (by decide) (backOf (W := 1) (rmIni l Z a0 hw [] b2 wl (FP.l2d x1.toInt64) _ _ h2 n0 Z2 ge_b2 A2 F2_relation F2_threshold) hZ (wd12 hw) (wd2 hw) (by decide) (by decide)) (g := (mkF m 16 #[.val (.int x0), .val (.int x1), .val (.int (0 : Int32)), .val (.double (FP.l2d x1.toInt64)), .second, .unset, .unset, .unset, .unset, .unset] [(.double (FP.l2d x1.toInt64)), (.ref wl), (.ref b2), (.ref b2)])) rfl (by rw [hml]; rfl) (Steps.refl _) (a := b2) (argsL := [(.ref wl), (.double (FP.l2d x1.toInt64))]) (rest := [(.ref b2)]) (lenOf pd__Lcom_example_formula_to_strategy_formulatostrategy_language_BinaryExpression_Operator_D_V rfl) rfl (by show 2 * 0 + _ ≤ _; exact Nat.le_of_eq rfl) (hb hby at_16) (fun _ _ => ⟨rfl, eq4, (by decide : 1 + 0 ≤ _), (by decide : 2 + 0 ≤ _)⟩)
    dsimp only [Pt.U, Pt.locs, Pt.cells, Pt.slots] at X6 l6 y6 z6 st6 hQ6
    subst l6 y6 z6
    obtain ⟨rfl, Nq6, Kq6, gE6, gR6, gT6⟩ := hQ6
    have N6 := Fr.app N4 Nq6
    have Z6 : n0 ≤ T6.heap.size := Nat.le_trans Z2 Kq6.1
    have K6 : Keep h0 T6.heap [] := Keep.trans K2 Kq6 (allS (Or.inr sz_b2) all0)
    have f7 := (f3.keep Kq6 (allS ge_b2 all0))
    obtain ⟨cq8, kq8, q8a, q8b, q8c⟩ := isOf hZ rfl gE6
    obtain ⟨_, _, ⟨T8, L8, kc8, ks8⟩, -, X8, ⟨Lc8, hQ8, l8, y8, z8⟩, st8⟩ := X6.virtualBack hx (y := (⟨"com/example/formula_to_strategy/formulatostrategy/language/Bound", "isLower", "()Z"⟩ : MethodName)) (z := (⟨"com/example/formula_to_strategy/formulatostrategy/language/Bound", "isLower", "()Z"⟩ : MethodName)) hown (mvT hZ (wd20 hw)) (mvT hZ (wd21 hw)) (notFace_of_selects (args := #[]) (mvT hZ (wd23 hw))) (mvT hZ (wd23 hw)) (mvT hZ (wd22 hw)) (by decide) (backOf (W := 0) (rmLow l Z a0 hw [] b2 wl wg wq (0 : Int32) T6.heap n0 Z6 gR6 (S_wg.ext f7.2) (S_wq.ext f7.2) (Or.inr ⟨(Fld.ne O_wl O_wq (by decide)), (Fld.ne O_wl O_wg (by decide)), rfl⟩)) hZ (wd24 hw) (wd2 hw) (by decide) (by decide)) q8a q8c (g := (mkF m 23 #[.val (.int x0), .val (.int x1), .val (.int (0 : Int32)), .val (.double (FP.l2d x1.toInt64)), .second, .val (.ref b2), .unset, .unset, .unset, .unset] [(.ref b2)])) rfl (by rw [hml]; rfl) (Steps.refl _) (argsL := []) (rest := []) (lenOf pd___Z rfl) rfl (by show 2 * 0 + _ ≤ _; exact Nat.le_of_eq rfl) (hb hby at_23) (fun _ _ => ⟨rfl, rfl, (by decide : 1 + 0 ≤ _), (by decide : 2 + 0 ≤ _)⟩)
    dsimp only [Pt.U, Pt.locs, Pt.cells, Pt.slots] at X8 l8 y8 z8 st8 hQ8
    subst l8 y8 z8
    obtain ⟨rfl, Nq8, eq8⟩ := hQ8
    have N8 := Fr.app N6 Nq8
    obtain ⟨cq9, kq9, q9a, q9b, q9c⟩ := isOf hZ eq8 gE6
    obtain ⟨_, _, ⟨T9, L9, kc9, ks9⟩, -, X9, ⟨Lc9, hQ9, l9, y9, z9⟩, st9⟩ := X8.virtualBack hx (y := (⟨"com/example/formula_to_strategy/formulatostrategy/language/Bound", "holds", "(D)Z"⟩ : MethodName)) (z := (⟨"com/example/formula_to_strategy/formulatostrategy/language/Bound", "holds", "(D)Z"⟩ : MethodName)) hown (mvT hZ (wd29 hw)) (mvT hZ (wd30 hw)) (notFace_of_selects (args := #[]) (mvT hZ (wd32 hw))) (mvT hZ (wd32 hw)) (mvT hZ (wd31 hw)) (by decide) (backOf (W := 0) (rmHol l Z a0 hw [] b2 _ (x1.toInt64 + (1 : Int64)) x1.toInt64 wl am clm (6 : Int32) (4 : Int32) T6.heap n0 Z6 rfl gR6 gT6 (S_m.ext f7.2) (Ar.ext f7.2) (E_wl.ext f7.2) (O_wl.ext f7.2) hin6 hat6 (by decide) (own_b1 x1) (own_b2 x1)) hZ (wd33 hw) (wd2 hw) (by decide) (by decide)) q9a q9c (g := (mkF m 45 #[.val (.int x0), .val (.int x1), .val (.int (0 : Int32)), .val (.double (FP.l2d x1.toInt64)), .second, .val (.ref b2), .val (.int (0 : Int32)), .val (.int (0 : Int32)), .unset, .unset] [(.double (FP.l2d (x1.toInt64 + (1 : Int64)))), (.ref b2)])) rfl (by rw [hml]; rfl) (Steps.refl _) (argsL := [(.double (FP.l2d (x1.toInt64 + (1 : Int64))))]) (rest := []) (lenOf pd__D_Z rfl) rfl (by show 2 * 0 + _ ≤ _; exact Nat.le_of_eq rfl) (hb hby at_45) (fun _ _ => ⟨rfl, eq8, (by decide : 1 + 0 ≤ _), (by decide : 2 + 0 ≤ _)⟩)
    dsimp only [Pt.U, Pt.locs, Pt.cells, Pt.slots] at X9 l9 y9 z9 st9 hQ9
    subst l9 y9 z9
    obtain ⟨rfl, Nq9, eq9⟩ := hQ9
    have N9 := Fr.app N8 Nq9
    have k10 : ∀ t, Steps p.tables e below (T9.setTop (mkF m 48 #[.val (.int x0), .val (.int x1), .val (.int (0 : Int32)), .val (.double (FP.l2d x1.toInt64)), .second, .val (.ref b2), .val (.int (0 : Int32)), .val (.int (0 : Int32)), .unset, .unset] [(.int (own_holds (4 : Int32) (x1.toInt64 + (1 : Int64)) x1.toInt64))])) t → Steps p.tables e below (s₁.setTop (entryFrame m #[(.int x0), (.int x1)] maxLocals)) t := by
      intro t kt
      refine k5 t ?_
      show Steps p.tables e below (T4.setTop (mkF m 15 #[.val (.int x0), .val (.int x1), .val (.int (0 : Int32)), .val (.double (FP.l2d x1.toInt64)), .second, .unset, .unset, .unset, .unset, .unset] [(.ref wl), (.ref b2), (.ref b2)])) _
      refine XS.dloadN X4.here hx rfl (hb hby at_15) rfl ?_
      show Steps p.tables e below (T4.setTop (mkF m 16 #[.val (.int x0), .val (.int x1), .val (.int (0 : Int32)), .val (.double (FP.l2d x1.toInt64)), .second, .unset, .unset, .unset, .unset, .unset] [(.double (FP.l2d x1.toInt64)), (.ref wl), (.ref b2), (.ref b2)])) _
      refine st6.trans ?_
      show Steps p.tables e below (T6.setTop (mkF m 19 #[.val (.int x0), .val (.int x1), .val (.int (0 : Int32)), .val (.double (FP.l2d x1.toInt64)), .second, .unset, .unset, .unset, .unset, .unset] [(.ref b2)])) _
      refine XS.astore X6.here hx rfl (hb hby at_19) rfl rfl (l' := #[.val (.int x0), .val (.int x1), .val (.int (0 : Int32)), .val (.double (FP.l2d x1.toInt64)), .second, .val (.ref b2), .unset, .unset, .unset, .unset]) rfl ?_
      show Steps p.tables e below (T6.setTop (mkF m 21 #[.val (.int x0), .val (.int x1), .val (.int (0 : Int32)), .val (.double (FP.l2d x1.toInt64)), .second, .val (.ref b2), .unset, .unset, .unset, .unset] [])) _
      refine XS.aload X6.here hx rfl (hb hby at_21) rfl rfl ?_
      show Steps p.tables e below (T6.setTop (mkF m 23 #[.val (.int x0), .val (.int x1), .val (.int (0 : Int32)), .val (.double (FP.l2d x1.toInt64)), .second, .val (.ref b2), .unset, .unset, .unset, .unset] [(.ref b2)])) _
      refine st8.trans ?_
      show Steps p.tables e below (T8.setTop (mkF m 26 #[.val (.int x0), .val (.int x1), .val (.int (0 : Int32)), .val (.double (FP.l2d x1.toInt64)), .second, .val (.ref b2), .unset, .unset, .unset, .unset] [(.int (0 : Int32))])) _
      refine XS.istore X8.here hx rfl (hb hby at_26) rfl (l' := #[.val (.int x0), .val (.int x1), .val (.int (0 : Int32)), .val (.double (FP.l2d x1.toInt64)), .second, .val (.ref b2), .val (.int (0 : Int32)), .unset, .unset, .unset]) rfl ?_
      show Steps p.tables e below (T8.setTop (mkF m 28 #[.val (.int x0), .val (.int x1), .val (.int (0 : Int32)), .val (.double (FP.l2d x1.toInt64)), .second, .val (.ref b2), .val (.int (0 : Int32)), .unset, .unset, .unset] [])) _
      refine XS.iloadN X8.here hx rfl (hb hby at_28) rfl ?_
      show Steps p.tables e below (T8.setTop (mkF m 29 #[.val (.int x0), .val (.int x1), .val (.int (0 : Int32)), .val (.double (FP.l2d x1.toInt64)), .second, .val (.ref b2), .val (.int (0 : Int32)), .unset, .unset, .unset] [(.int (0 : Int32))])) _
      refine XS.iconst X8.here hx rfl (hb hby at_29) ?_
      show Steps p.tables e below (T8.setTop (mkF m 30 #[.val (.int x0), .val (.int x1), .val (.int (0 : Int32)), .val (.double (FP.l2d x1.toInt64)), .second, .val (.ref b2), .val (.int (0 : Int32)), .unset, .unset, .unset] [(.int (2 : Int32)), (.int (0 : Int32))])) _
      refine XS.icmpYes X8.here hx rfl (pc0 := 30) (pc' := 37) rfl (hb hby at_30) rfl (tlt (by decide : (0 : Int32) < (2 : Int32))).1 (by decide) (by decide) ?_
      show Steps p.tables e below (T8.setTop (mkF m 37 #[.val (.int x0), .val (.int x1), .val (.int (0 : Int32)), .val (.double (FP.l2d x1.toInt64)), .second, .val (.ref b2), .val (.int (0 : Int32)), .unset, .unset, .unset] [])) _
      refine XS.iconst X8.here hx rfl (hb hby at_37) ?_
      show Steps p.tables e below (T8.setTop (mkF m 38 #[.val (.int x0), .val (.int x1), .val (.int (0 : Int32)), .val (.double (FP.l2d x1.toInt64)), .second, .val (.ref b2), .val (.int (0 : Int32)), .unset, .unset, .unset] [(.int (0 : Int32))])) _
      refine XS.istore X8.here hx rfl (hb hby at_38) rfl (l' := #[.val (.int x0), .val (.int x1), .val (.int (0 : Int32)), .val (.double (FP.l2d x1.toInt64)), .second, .val (.ref b2), .val (.int (0 : Int32)), .val (.int (0 : Int32)), .unset, .unset]) rfl ?_
      show Steps p.tables e below (T8.setTop (mkF m 40 #[.val (.int x0), .val (.int x1), .val (.int (0 : Int32)), .val (.double (FP.l2d x1.toInt64)), .second, .val (.ref b2), .val (.int (0 : Int32)), .val (.int (0 : Int32)), .unset, .unset] [])) _
      refine XS.aload X8.here hx rfl (hb hby at_40) rfl rfl ?_
      show Steps p.tables e below (T8.setTop (mkF m 42 #[.val (.int x0), .val (.int x1), .val (.int (0 : Int32)), .val (.double (FP.l2d x1.toInt64)), .second, .val (.ref b2), .val (.int (0 : Int32)), .val (.int (0 : Int32)), .unset, .unset] [(.ref b2)])) _
      refine XS.dloadN X8.here hx rfl (hb hby at_42) rfl ?_
      show Steps p.tables e below (T8.setTop (mkF m 43 #[.val (.int x0), .val (.int x1), .val (.int (0 : Int32)), .val (.double (FP.l2d x1.toInt64)), .second, .val (.ref b2), .val (.int (0 : Int32)), .val (.int (0 : Int32)), .unset, .unset] [(.double (FP.l2d x1.toInt64)), (.ref b2)])) _
      refine XS.dconst1 X8.here hx rfl (hb hby at_43) (by decide +kernel : FP.dconst1 = FP.l2d 1) ?_
      show Steps p.tables e below (T8.setTop (mkF m 44 #[.val (.int x0), .val (.int x1), .val (.int (0 : Int32)), .val (.double (FP.l2d x1.toInt64)), .second, .val (.ref b2), .val (.int (0 : Int32)), .val (.int (0 : Int32)), .unset, .unset] [(.double (FP.l2d (1 : Int64))), (.double (FP.l2d x1.toInt64)), (.ref b2)])) _
      refine XS.daddS X8.here hx rfl (hb hby at_44) rfl (nn_w (dadd_w (own_b1 x1) (⟨by decide, by decide⟩ : B53 (1 : Int64)))) (dadd_w (own_b1 x1) (⟨by decide, by decide⟩ : B53 (1 : Int64))) ?_
      show Steps p.tables e below (T8.setTop (mkF m 45 #[.val (.int x0), .val (.int x1), .val (.int (0 : Int32)), .val (.double (FP.l2d x1.toInt64)), .second, .val (.ref b2), .val (.int (0 : Int32)), .val (.int (0 : Int32)), .unset, .unset] [(.double (FP.l2d (x1.toInt64 + (1 : Int64)))), (.ref b2)])) _
      refine st9.trans ?_
      exact kt
    rw [(by simp [own_holds, own_l1, own_l2, own_n1, own_n2] : (own_holds (4 : Int32) (x1.toInt64 + (1 : Int64)) x1.toInt64) = (0 : Int32))] at k10
    obtain ⟨cq11, kq11, q11a, q11b, q11c⟩ := isOf hZ eq9 gE6
    obtain ⟨_, _, ⟨T11, L11, kc11, ks11⟩, -, X11, ⟨Lc11, hQ11, l11, y11, z11⟩, st11⟩ := X9.virtualBack hx (y := (⟨"com/example/formula_to_strategy/formulatostrategy/language/Bound", "holds", "(D)Z"⟩ : MethodName)) (z := (⟨"com/example/formula_to_strategy/formulatostrategy/language/Bound", "holds", "(D)Z"⟩ : MethodName)) hown (mvT hZ (wd29 hw)) (mvT hZ (wd30 hw)) (notFace_of_selects (args := #[]) (mvT hZ (wd32 hw))) (mvT hZ (wd32 hw)) (mvT hZ (wd31 hw)) (by decide) (backOf (W := 0) (rmHol l Z a0 hw [] b2 _ (x1.toInt64 - (1 : Int64)) x1.toInt64 wl am clm (6 : Int32) (4 : Int32) T6.heap n0 Z6 rfl gR6 gT6 (S_m.ext f7.2) (Ar.ext f7.2) (E_wl.ext f7.2) (O_wl.ext f7.2) hin6 hat6 (by decide) (own_b1 x1) (own_b3 x1)) hZ (wd33 hw) (wd2 hw) (by decide) (by decide)) q11a q11c (g := (mkF m 55 #[.val (.int x0), .val (.int x1), .val (.int (0 : Int32)), .val (.double (FP.l2d x1.toInt64)), .second, .val (.ref b2), .val (.int (0 : Int32)), .val (.int (0 : Int32)), .val (.int (0 : Int32)), .unset] [(.double (FP.l2d (x1.toInt64 - (1 : Int64)))), (.ref b2)])) rfl (by rw [hml]; rfl) (Steps.refl _) (argsL := [(.double (FP.l2d (x1.toInt64 - (1 : Int64))))]) (rest := []) (lenOf pd__D_Z rfl) rfl (by show 2 * 0 + _ ≤ _; exact Nat.le_of_eq rfl) (hb hby at_55) (fun _ _ => ⟨rfl, eq9, (by decide : 1 + 0 ≤ _), (by decide : 2 + 0 ≤ _)⟩)
    dsimp only [Pt.U, Pt.locs, Pt.cells, Pt.slots] at X11 l11 y11 z11 st11 hQ11
    subst l11 y11 z11
    obtain ⟨rfl, Nq11, eq11⟩ := hQ11
    have N11 := Fr.app N9 Nq11
    have k12 : ∀ t, Steps p.tables e below (T11.setTop (mkF m 58 #[.val (.int x0), .val (.int x1), .val (.int (0 : Int32)), .val (.double (FP.l2d x1.toInt64)), .second, .val (.ref b2), .val (.int (0 : Int32)), .val (.int (0 : Int32)), .val (.int (0 : Int32)), .unset] [(.int (own_holds (4 : Int32) (x1.toInt64 - (1 : Int64)) x1.toInt64))])) t → Steps p.tables e below (s₁.setTop (entryFrame m #[(.int x0), (.int x1)] maxLocals)) t := by
      intro t kt
      refine k10 t ?_
      show Steps p.tables e below (T9.setTop (mkF m 48 #[.val (.int x0), .val (.int x1), .val (.int (0 : Int32)), .val (.double (FP.l2d x1.toInt64)), .second, .val (.ref b2), .val (.int (0 : Int32)), .val (.int (0 : Int32)), .unset, .unset] [(.int (0 : Int32))])) _
      refine XS.istore X9.here hx rfl (hb hby at_48) rfl (l' := #[.val (.int x0), .val (.int x1), .val (.int (0 : Int32)), .val (.double (FP.l2d x1.toInt64)), .second, .val (.ref b2), .val (.int (0 : Int32)), .val (.int (0 : Int32)), .val (.int (0 : Int32)), .unset]) rfl ?_
      show Steps p.tables e below (T9.setTop (mkF m 50 #[.val (.int x0), .val (.int x1), .val (.int (0 : Int32)), .val (.double (FP.l2d x1.toInt64)), .second, .val (.ref b2), .val (.int (0 : Int32)), .val (.int (0 : Int32)), .val (.int (0 : Int32)), .unset] [])) _
      refine XS.aload X9.here hx rfl (hb hby at_50) rfl rfl ?_
      show Steps p.tables e below (T9.setTop (mkF m 52 #[.val (.int x0), .val (.int x1), .val (.int (0 : Int32)), .val (.double (FP.l2d x1.toInt64)), .second, .val (.ref b2), .val (.int (0 : Int32)), .val (.int (0 : Int32)), .val (.int (0 : Int32)), .unset] [(.ref b2)])) _
      refine XS.dloadN X9.here hx rfl (hb hby at_52) rfl ?_
      show Steps p.tables e below (T9.setTop (mkF m 53 #[.val (.int x0), .val (.int x1), .val (.int (0 : Int32)), .val (.double (FP.l2d x1.toInt64)), .second, .val (.ref b2), .val (.int (0 : Int32)), .val (.int (0 : Int32)), .val (.int (0 : Int32)), .unset] [(.double (FP.l2d x1.toInt64)), (.ref b2)])) _
      refine XS.dconst1 X9.here hx rfl (hb hby at_53) (by decide +kernel : FP.dconst1 = FP.l2d 1) ?_
      show Steps p.tables e below (T9.setTop (mkF m 54 #[.val (.int x0), .val (.int x1), .val (.int (0 : Int32)), .val (.double (FP.l2d x1.toInt64)), .second, .val (.ref b2), .val (.int (0 : Int32)), .val (.int (0 : Int32)), .val (.int (0 : Int32)), .unset] [(.double (FP.l2d (1 : Int64))), (.double (FP.l2d x1.toInt64)), (.ref b2)])) _
      refine XS.dsubS X9.here hx rfl (hb hby at_54) rfl (nn_w (dsub_w (own_b1 x1) (⟨by decide, by decide⟩ : B53 (1 : Int64)))) (dsub_w (own_b1 x1) (⟨by decide, by decide⟩ : B53 (1 : Int64))) ?_
      show Steps p.tables e below (T9.setTop (mkF m 55 #[.val (.int x0), .val (.int x1), .val (.int (0 : Int32)), .val (.double (FP.l2d x1.toInt64)), .second, .val (.ref b2), .val (.int (0 : Int32)), .val (.int (0 : Int32)), .val (.int (0 : Int32)), .unset] [(.double (FP.l2d (x1.toInt64 - (1 : Int64)))), (.ref b2)])) _
      refine st11.trans ?_
      exact kt
    rw [(by simp [own_holds, own_l1, own_l2, own_n1, own_n2] : (own_holds (4 : Int32) (x1.toInt64 - (1 : Int64)) x1.toInt64) = (1 : Int32))] at k12
    obtain ⟨lfs, lhr, lhrun, lhended, lhW, lhsame⟩ := X11.leave (v := some (.int (1 : Int32))) (fun h => by rw [Bd.returns] at h; cases h)
    refine ⟨_, _, k12 _ ?_, lhrun, lhended, _, _, rfl, ?_, ⟨_, rfl⟩, lhW, lhsame.mono (by decide) (by decide)⟩
    · skip
      show Steps p.tables e below (T11.setTop (mkF m 58 #[.val (.int x0), .val (.int x1), .val (.int (0 : Int32)), .val (.double (FP.l2d x1.toInt64)), .second, .val (.ref b2), .val (.int (0 : Int32)), .val (.int (0 : Int32)), .val (.int (0 : Int32)), .unset] [(.int (1 : Int32))])) _
      refine XS.istore X11.here hx rfl (hb hby at_58) rfl (l' := #[.val (.int x0), .val (.int x1), .val (.int (0 : Int32)), .val (.double (FP.l2d x1.toInt64)), .second, .val (.ref b2), .val (.int (0 : Int32)), .val (.int (0 : Int32)), .val (.int (0 : Int32)), .val (.int (1 : Int32))]) rfl ?_
      show Steps p.tables e below (T11.setTop (mkF m 60 #[.val (.int x0), .val (.int x1), .val (.int (0 : Int32)), .val (.double (FP.l2d x1.toInt64)), .second, .val (.ref b2), .val (.int (0 : Int32)), .val (.int (0 : Int32)), .val (.int (0 : Int32)), .val (.int (1 : Int32))] [])) _
      refine XS.iload X11.here hx rfl (hb hby at_60) rfl ?_
      show Steps p.tables e below (T11.setTop (mkF m 62 #[.val (.int x0), .val (.int x1), .val (.int (0 : Int32)), .val (.double (FP.l2d x1.toInt64)), .second, .val (.ref b2), .val (.int (0 : Int32)), .val (.int (0 : Int32)), .val (.int (0 : Int32)), .val (.int (1 : Int32))] [(.int (0 : Int32))])) _
      refine XS.iload X11.here hx rfl (hb hby at_62) rfl ?_
      show Steps p.tables e below (T11.setTop (mkF m 64 #[.val (.int x0), .val (.int x1), .val (.int (0 : Int32)), .val (.double (FP.l2d x1.toInt64)), .second, .val (.ref b2), .val (.int (0 : Int32)), .val (.int (0 : Int32)), .val (.int (0 : Int32)), .val (.int (1 : Int32))] [(.int (0 : Int32)), (.int (0 : Int32))])) _
      refine XS.icmpNo X11.here hx rfl (hb hby at_64) rfl (teq (by decide : (0 : Int32) = (0 : Int32))).2 ?_
      show Steps p.tables e below (T11.setTop (mkF m 67 #[.val (.int x0), .val (.int x1), .val (.int (0 : Int32)), .val (.double (FP.l2d x1.toInt64)), .second, .val (.ref b2), .val (.int (0 : Int32)), .val (.int (0 : Int32)), .val (.int (0 : Int32)), .val (.int (1 : Int32))] [])) _
      refine XS.iload X11.here hx rfl (hb hby at_67) rfl ?_
      show Steps p.tables e below (T11.setTop (mkF m 69 #[.val (.int x0), .val (.int x1), .val (.int (0 : Int32)), .val (.double (FP.l2d x1.toInt64)), .second, .val (.ref b2), .val (.int (0 : Int32)), .val (.int (0 : Int32)), .val (.int (0 : Int32)), .val (.int (1 : Int32))] [(.int (0 : Int32))])) _
      refine XS.iload X11.here hx rfl (hb hby at_69) rfl ?_
      show Steps p.tables e below (T11.setTop (mkF m 71 #[.val (.int x0), .val (.int x1), .val (.int (0 : Int32)), .val (.double (FP.l2d x1.toInt64)), .second, .val (.ref b2), .val (.int (0 : Int32)), .val (.int (0 : Int32)), .val (.int (0 : Int32)), .val (.int (1 : Int32))] [(.int (0 : Int32)), (.int (0 : Int32))])) _
      refine XS.icmpNo X11.here hx rfl (hb hby at_71) rfl (teq (by decide : (0 : Int32) = (0 : Int32))).2 ?_
      show Steps p.tables e below (T11.setTop (mkF m 74 #[.val (.int x0), .val (.int x1), .val (.int (0 : Int32)), .val (.double (FP.l2d x1.toInt64)), .second, .val (.ref b2), .val (.int (0 : Int32)), .val (.int (0 : Int32)), .val (.int (0 : Int32)), .val (.int (1 : Int32))] [])) _
      refine XS.iload X11.here hx rfl (hb hby at_74) rfl ?_
      show Steps p.tables e below (T11.setTop (mkF m 76 #[.val (.int x0), .val (.int x1), .val (.int (0 : Int32)), .val (.double (FP.l2d x1.toInt64)), .second, .val (.ref b2), .val (.int (0 : Int32)), .val (.int (0 : Int32)), .val (.int (0 : Int32)), .val (.int (1 : Int32))] [(.int (0 : Int32))])) _
      refine XS.iload X11.here hx rfl (hb hby at_76) rfl ?_
      show Steps p.tables e below (T11.setTop (mkF m 78 #[.val (.int x0), .val (.int x1), .val (.int (0 : Int32)), .val (.double (FP.l2d x1.toInt64)), .second, .val (.ref b2), .val (.int (0 : Int32)), .val (.int (0 : Int32)), .val (.int (0 : Int32)), .val (.int (1 : Int32))] [(.int (1 : Int32)), (.int (0 : Int32))])) _
      refine XS.icmpNo X11.here hx rfl (hb hby at_78) rfl (feq (by decide : ¬ ((0 : Int32) = (1 : Int32)))).1 ?_
      show Steps p.tables e below (T11.setTop (mkF m 81 #[.val (.int x0), .val (.int x1), .val (.int (0 : Int32)), .val (.double (FP.l2d x1.toInt64)), .second, .val (.ref b2), .val (.int (0 : Int32)), .val (.int (0 : Int32)), .val (.int (0 : Int32)), .val (.int (1 : Int32))] [])) _
      refine XS.iconst X11.here hx rfl (hb hby at_81) ?_
      show Steps p.tables e below (T11.setTop (mkF m 82 #[.val (.int x0), .val (.int x1), .val (.int (0 : Int32)), .val (.double (FP.l2d x1.toInt64)), .second, .val (.ref b2), .val (.int (0 : Int32)), .val (.int (0 : Int32)), .val (.int (0 : Int32)), .val (.int (1 : Int32))] [(.int (1 : Int32))])) _
      refine XS.goto X11.here hx rfl (pc0 := 82) (pc' := 86) rfl (hb hby at_82) (by decide) (by decide) ?_
      show Steps p.tables e below (T11.setTop (mkF m 86 #[.val (.int x0), .val (.int x1), .val (.int (0 : Int32)), .val (.double (FP.l2d x1.toInt64)), .second, .val (.ref b2), .val (.int (0 : Int32)), .val (.int (0 : Int32)), .val (.int (0 : Int32)), .val (.int (1 : Int32))] [(.int (1 : Int32))])) _
      exact retN X11 hx (t := .boolean) Bd.returns (by simp) (hb hby at_86) lhr
    · skip
      show Q0 Z x0 x1 wl we wg wq am clm h0 n0 _ T11.heap _
      rw [eq11]
      exact ⟨rfl, N11⟩
  · skip
    rw [(hk : (x0 &&& (3 : Int32)) = (1 : Int32))] at k1
    obtain ⟨T13, h13, X13, e13, E13, A13, D13, -, st13⟩ := newO X0 hx hZ hown (wd0 hw) (wd1 hw) (wd2 hw) e0 (g := (mkF m 7 #[.val (.int x0), .val (.int x1), .val (.int (1 : Int32)), .val (.double (FP.l2d x1.toInt64)), .second, .unset, .unset, .unset, .unset, .unset] [])) rfl (hb hby at_7) (by decide) (by decide)
    obtain ⟨b13, g13⟩ : ∃ z, z = h0.size := ⟨_, rfl⟩
    rw [← g13] at A13 D13 st13
    have ge_b13 : n0 ≤ b13 := Nat.le_trans Z0 (Nat.le_of_eq g13.symm)
    have sz_b13 : h0.size ≤ b13 := Nat.le_trans (Nat.le_refl _) (Nat.le_of_eq g13.symm)
    have Z13 : n0 ≤ h13.size := Nat.le_trans Z0 E13.1
    have K13 : Keep h0 h13 [] := ((Keep.refl h0 []).ext E13)
    have F13_relation : Fld Z h13 b13 "com/example/formula_to_strategy/formulatostrategy/language/Bound" "relation" "Lcom/example/formula_to_strategy/formulatostrategy/language/BinaryExpression$Operator;" .null := D13 (Or.inr (wd17 hw)) (ty := (.object "com/example/formula_to_strategy/formulatostrategy/language/BinaryExpression$Operator")) (by decide)
    have F13_threshold : Fld Z h13 b13 "com/example/formula_to_strategy/formulatostrategy/language/Bound" "threshold" "D" (.double (0 : UInt64)) := D13 (Or.inr (wd19 hw)) (ty := .double) (by decide)
    have f14 := (X00.ext E13)
    obtain ⟨_, _, ⟨T15, L15, kc15, ks15⟩, -, X15, ⟨Lc15, hQ15, l15, y15, z15⟩, st15⟩ := Jvm.LawKit.callS X13 hx (y := (⟨"com/example/formula_to_strategy/formulatostrategy/language/BoundIsLowerPinLaw", "relation", "(I)Lcom/example/formula_to_strategy/formulatostrategy/language/BinaryExpression$Operator;"⟩ : MethodName)) hown (mvT hZ (wd3 hw)) (mvT hZ (wd4 hw)) (mvT hZ (wd5 hw)) (mvT hZ (wd6 hw)) (by decide) (backOf (W := 2) (rmRel l Z a0 hw [] (1 : Int32) wl we wg wq h13 n0 Z13 (S_wl.ext f14.2) (S_we.ext f14.2) (S_wg.ext f14.2) (S_wq.ext f14.2)) hZ (wd6 hw) (wd5 hw) (by decide) (by decide)) (g := (mkF m 12 #[.val (.int x0), .val (.int x1), .val (.int (1 : Int32)), .val (.double (FP.l2d x1.toInt64)), .second, .unset, .unset, .unset, .unset, .unset] [(.int (1 : Int32)), (.ref b13), (.ref b13)])) rfl (by rw [hml]; rfl) (argsL := [(.int (1 : Int32))]) (rest := [(.ref b13), (.ref b13)]) (lenOf pd__I_Lcom_example_formula_to_strategy_formulatostrategy_language_BinaryExpression_Operator_ rfl) rfl (by show 2 * 0 + _ ≤ _; exact Nat.le_of_eq rfl) (hb hby at_12) (fun _ _ => ⟨rfl, e13, (by decide : 1 + 0 ≤ _), (by decide : 2 + 0 ≤ _)⟩)
    dsimp only [Pt.U, Pt.locs, Pt.cells, Pt.slots] at X15 l15 y15 z15 st15 hQ15
    subst l15 y15 z15
    obtain ⟨rfl, Nq15, eq15⟩ := hQ15
    have N15 := Fr.app N0 Nq15
    have k16 : ∀ t, Steps p.tables e below (T15.setTop (mkF m 15 #[.val (.int x0), .val (.int x1), .val (.int (1 : Int32)), .val (.double (FP.l2d x1.toInt64)), .second, .unset, .unset, .unset, .unset, .unset] [(.ref (own_rel (1 : Int32) wl we wg wq)), (.ref b13), (.ref b13)])) t → Steps p.tables e below (s₁.setTop (entryFrame m #[(.int x0), (.int x1)] maxLocals)) t := by
      intro t kt
      refine k1 t ?_
      show Steps p.tables e below (s₁.setTop (mkF m 4 #[.val (.int x0), .val (.int x1), .val (.int (1 : Int32)), .unset, .unset, .unset, .unset, .unset, .unset, .unset] [])) _
      refine XS.iloadN X0.here hx rfl (hb hby at_4) rfl ?_
      show Steps p.tables e below (s₁.setTop (mkF m 5 #[.val (.int x0), .val (.int x1), .val (.int (1 : Int32)), .unset, .unset, .unset, .unset, .unset, .unset, .unset] [(.int x1)])) _
      refine XS.i2dS X0.here hx rfl (hb hby at_5) rfl (i2d_w x1) ?_
      show Steps p.tables e below (s₁.setTop (mkF m 6 #[.val (.int x0), .val (.int x1), .val (.int (1 : Int32)), .unset, .unset, .unset, .unset, .unset, .unset, .unset] [(.double (FP.l2d x1.toInt64))])) _
      refine XS.dstoreN X0.here hx rfl (hb hby at_6) rfl (l' := #[.val (.int x0), .val (.int x1), .val (.int (1 : Int32)), .val (.double (FP.l2d x1.toInt64)), .second, .unset, .unset, .unset, .unset, .unset]) rfl ?_
      show Steps p.tables e below (s₁.setTop (mkF m 7 #[.val (.int x0), .val (.int x1), .val (.int (1 : Int32)), .val (.double (FP.l2d x1.toInt64)), .second, .unset, .unset, .unset, .unset, .unset] [])) _
      refine st13 _ ?_
      show Steps p.tables e below (T13.setTop (mkF m 10 #[.val (.int x0), .val (.int x1), .val (.int (1 : Int32)), .val (.double (FP.l2d x1.toInt64)), .second, .unset, .unset, .unset, .unset, .unset] [(.ref b13)])) _
      refine XS.dup X13.here hx rfl (hb hby at_10) rfl rfl ?_
      show Steps p.tables e below (T13.setTop (mkF m 11 #[.val (.int x0), .val (.int x1), .val (.int (1 : Int32)), .val (.double (FP.l2d x1.toInt64)), .second, .unset, .unset, .unset, .unset, .unset] [(.ref b13), (.ref b13)])) _
      refine XS.iloadN X13.here hx rfl (hb hby at_11) rfl ?_
      show Steps p.tables e below (T13.setTop (mkF m 12 #[.val (.int x0), .val (.int x1), .val (.int (1 : Int32)), .val (.double (FP.l2d x1.toInt64)), .second, .unset, .unset, .unset, .unset, .unset] [(.int (1 : Int32)), (.ref b13), (.ref b13)])) _
      refine st15 _ ?_
      exact kt
    rw [(by first | rfl | simp [own_rel] : own_rel (1 : Int32) wl we wg wq = we)] at k16
    obtain ⟨_, _, ⟨T17, L17, kc17, ks17⟩, -, X17, ⟨Lc17, hQ17, l17, y17, z17⟩, st17⟩ := X15.specialBack hx (y := (⟨"com/example/formula_to_strategy/formulatostrategy/language/Bound", "<init>", "(Lcom/example/formula_to_strategy/formulatostrategy/language/BinaryExpression$Operator;D)V"⟩ : MethodName)) rfl hown (mvT hZ (wd10 hw)) (mvT hZ (wd11 hw)) (mvT hZ (wd12 hw)) (by decide) (backOf (W := 1) (rmIni l Z a0 hw [] b13 we (FP.l2d x1.toInt64) _ _ h13 n0 Z13 ge_b13 A13 F13_relation F13_threshold) hZ (wd12 hw) (wd2 hw) (by decide) (by decide)) (g := (mkF m 16 #[.val (.int x0), .val (.int x1), .val (.int (1 : Int32)), .val (.double (FP.l2d x1.toInt64)), .second, .unset, .unset, .unset, .unset, .unset] [(.double (FP.l2d x1.toInt64)), (.ref we), (.ref b13), (.ref b13)])) rfl (by rw [hml]; rfl) (Steps.refl _) (a := b13) (argsL := [(.ref we), (.double (FP.l2d x1.toInt64))]) (rest := [(.ref b13)]) (lenOf pd__Lcom_example_formula_to_strategy_formulatostrategy_language_BinaryExpression_Operator_D_V rfl) rfl (by show 2 * 0 + _ ≤ _; exact Nat.le_of_eq rfl) (hb hby at_16) (fun _ _ => ⟨rfl, eq15, (by decide : 1 + 0 ≤ _), (by decide : 2 + 0 ≤ _)⟩)
    dsimp only [Pt.U, Pt.locs, Pt.cells, Pt.slots] at X17 l17 y17 z17 st17 hQ17
    subst l17 y17 z17
    obtain ⟨rfl, Nq17, Kq17, gE17, gR17, gT17⟩ := hQ17
    have N17 := Fr.app N15 Nq17
    have Z17 : n0 ≤ T17.heap.size := Nat.le_trans Z13 Kq17.1
    have K17 : Keep h0 T17.heap [] := Keep.trans K13 Kq17 (allS (Or.inr sz_b13) all0)
    have f18 := (f14.keep Kq17 (allS ge_b13 all0))
    obtain ⟨cq19, kq19, q19a, q19b, q19c⟩ := isOf hZ rfl gE17
    obtain ⟨_, _, ⟨T19, L19, kc19, ks19⟩, -, X19, ⟨Lc19, hQ19, l19, y19, z19⟩, st19⟩ := X17.virtualBack hx (y := (⟨"com/example/formula_to_strategy/formulatostrategy/language/Bound", "isLower", "()Z"⟩ : MethodName)) (z := (⟨"com/example/formula_to_strategy/formulatostrategy/language/Bound", "isLower", "()Z"⟩ : MethodName)) hown (mvT hZ (wd20 hw)) (mvT hZ (wd21 hw)) (notFace_of_selects (args := #[]) (mvT hZ (wd23 hw))) (mvT hZ (wd23 hw)) (mvT hZ (wd22 hw)) (by decide) (backOf (W := 0) (rmLow l Z a0 hw [] b13 we wg wq (0 : Int32) T17.heap n0 Z17 gR17 (S_wg.ext f18.2) (S_wq.ext f18.2) (Or.inr ⟨(Fld.ne O_we O_wq (by decide)), (Fld.ne O_we O_wg (by decide)), rfl⟩)) hZ (wd24 hw) (wd2 hw) (by decide) (by decide)) q19a q19c (g := (mkF m 23 #[.val (.int x0), .val (.int x1), .val (.int (1 : Int32)), .val (.double (FP.l2d x1.toInt64)), .second, .val (.ref b13), .unset, .unset, .unset, .unset] [(.ref b13)])) rfl (by rw [hml]; rfl) (Steps.refl _) (argsL := []) (rest := []) (lenOf pd___Z rfl) rfl (by show 2 * 0 + _ ≤ _; exact Nat.le_of_eq rfl) (hb hby at_23) (fun _ _ => ⟨rfl, rfl, (by decide : 1 + 0 ≤ _), (by decide : 2 + 0 ≤ _)⟩)
    dsimp only [Pt.U, Pt.locs, Pt.cells, Pt.slots] at X19 l19 y19 z19 st19 hQ19
    subst l19 y19 z19
    obtain ⟨rfl, Nq19, eq19⟩ := hQ19
    have N19 := Fr.app N17 Nq19
    obtain ⟨cq20, kq20, q20a, q20b, q20c⟩ := isOf hZ eq19 gE17
    obtain ⟨_, _, ⟨T20, L20, kc20, ks20⟩, -, X20, ⟨Lc20, hQ20, l20, y20, z20⟩, st20⟩ := X19.virtualBack hx (y := (⟨"com/example/formula_to_strategy/formulatostrategy/language/Bound", "holds", "(D)Z"⟩ : MethodName)) (z := (⟨"com/example/formula_to_strategy/formulatostrategy/language/Bound", "holds", "(D)Z"⟩ : MethodName)) hown (mvT hZ (wd29 hw)) (mvT hZ (wd30 hw)) (notFace_of_selects (args := #[]) (mvT hZ (wd32 hw))) (mvT hZ (wd32 hw)) (mvT hZ (wd31 hw)) (by decide) (backOf (W := 0) (rmHol l Z a0 hw [] b13 _ (x1.toInt64 + (1 : Int64)) x1.toInt64 we am clm (7 : Int32) (3 : Int32) T17.heap n0 Z17 rfl gR17 gT17 (S_m.ext f18.2) (Ar.ext f18.2) (E_we.ext f18.2) (O_we.ext f18.2) hin7 hat7 (by decide) (own_b1 x1) (own_b2 x1)) hZ (wd33 hw) (wd2 hw) (by decide) (by decide)) q20a q20c (g := (mkF m 45 #[.val (.int x0), .val (.int x1), .val (.int (1 : Int32)), .val (.double (FP.l2d x1.toInt64)), .second, .val (.ref b13), .val (.int (0 : Int32)), .val (.int (0 : Int32)), .unset, .unset] [(.double (FP.l2d (x1.toInt64 + (1 : Int64)))), (.ref b13)])) rfl (by rw [hml]; rfl) (Steps.refl _) (argsL := [(.double (FP.l2d (x1.toInt64 + (1 : Int64))))]) (rest := []) (lenOf pd__D_Z rfl) rfl (by show 2 * 0 + _ ≤ _; exact Nat.le_of_eq rfl) (hb hby at_45) (fun _ _ => ⟨rfl, eq19, (by decide : 1 + 0 ≤ _), (by decide : 2 + 0 ≤ _)⟩)
    dsimp only [Pt.U, Pt.locs, Pt.cells, Pt.slots] at X20 l20 y20 z20 st20 hQ20
    subst l20 y20 z20
    obtain ⟨rfl, Nq20, eq20⟩ := hQ20
    have N20 := Fr.app N19 Nq20
    have k21 : ∀ t, Steps p.tables e below (T20.setTop (mkF m 48 #[.val (.int x0), .val (.int x1), .val (.int (1 : Int32)), .val (.double (FP.l2d x1.toInt64)), .second, .val (.ref b13), .val (.int (0 : Int32)), .val (.int (0 : Int32)), .unset, .unset] [(.int (own_holds (3 : Int32) (x1.toInt64 + (1 : Int64)) x1.toInt64))])) t → Steps p.tables e below (s₁.setTop (entryFrame m #[(.int x0), (.int x1)] maxLocals)) t := by
      intro t kt
      refine k16 t ?_
      show Steps p.tables e below (T15.setTop (mkF m 15 #[.val (.int x0), .val (.int x1), .val (.int (1 : Int32)), .val (.double (FP.l2d x1.toInt64)), .second, .unset, .unset, .unset, .unset, .unset] [(.ref we), (.ref b13), (.ref b13)])) _
      refine XS.dloadN X15.here hx rfl (hb hby at_15) rfl ?_
      show Steps p.tables e below (T15.setTop (mkF m 16 #[.val (.int x0), .val (.int x1), .val (.int (1 : Int32)), .val (.double (FP.l2d x1.toInt64)), .second, .unset, .unset, .unset, .unset, .unset] [(.double (FP.l2d x1.toInt64)), (.ref we), (.ref b13), (.ref b13)])) _
      refine st17.trans ?_
      show Steps p.tables e below (T17.setTop (mkF m 19 #[.val (.int x0), .val (.int x1), .val (.int (1 : Int32)), .val (.double (FP.l2d x1.toInt64)), .second, .unset, .unset, .unset, .unset, .unset] [(.ref b13)])) _
      refine XS.astore X17.here hx rfl (hb hby at_19) rfl rfl (l' := #[.val (.int x0), .val (.int x1), .val (.int (1 : Int32)), .val (.double (FP.l2d x1.toInt64)), .second, .val (.ref b13), .unset, .unset, .unset, .unset]) rfl ?_
      show Steps p.tables e below (T17.setTop (mkF m 21 #[.val (.int x0), .val (.int x1), .val (.int (1 : Int32)), .val (.double (FP.l2d x1.toInt64)), .second, .val (.ref b13), .unset, .unset, .unset, .unset] [])) _
      refine XS.aload X17.here hx rfl (hb hby at_21) rfl rfl ?_
      show Steps p.tables e below (T17.setTop (mkF m 23 #[.val (.int x0), .val (.int x1), .val (.int (1 : Int32)), .val (.double (FP.l2d x1.toInt64)), .second, .val (.ref b13), .unset, .unset, .unset, .unset] [(.ref b13)])) _
      refine st19.trans ?_
      show Steps p.tables e below (T19.setTop (mkF m 26 #[.val (.int x0), .val (.int x1), .val (.int (1 : Int32)), .val (.double (FP.l2d x1.toInt64)), .second, .val (.ref b13), .unset, .unset, .unset, .unset] [(.int (0 : Int32))])) _
      refine XS.istore X19.here hx rfl (hb hby at_26) rfl (l' := #[.val (.int x0), .val (.int x1), .val (.int (1 : Int32)), .val (.double (FP.l2d x1.toInt64)), .second, .val (.ref b13), .val (.int (0 : Int32)), .unset, .unset, .unset]) rfl ?_
      show Steps p.tables e below (T19.setTop (mkF m 28 #[.val (.int x0), .val (.int x1), .val (.int (1 : Int32)), .val (.double (FP.l2d x1.toInt64)), .second, .val (.ref b13), .val (.int (0 : Int32)), .unset, .unset, .unset] [])) _
      refine XS.iloadN X19.here hx rfl (hb hby at_28) rfl ?_
      show Steps p.tables e below (T19.setTop (mkF m 29 #[.val (.int x0), .val (.int x1), .val (.int (1 : Int32)), .val (.double (FP.l2d x1.toInt64)), .second, .val (.ref b13), .val (.int (0 : Int32)), .unset, .unset, .unset] [(.int (1 : Int32))])) _
      refine XS.iconst X19.here hx rfl (hb hby at_29) ?_
      show Steps p.tables e below (T19.setTop (mkF m 30 #[.val (.int x0), .val (.int x1), .val (.int (1 : Int32)), .val (.double (FP.l2d x1.toInt64)), .second, .val (.ref b13), .val (.int (0 : Int32)), .unset, .unset, .unset] [(.int (2 : Int32)), (.int (1 : Int32))])) _
      refine XS.icmpYes X19.here hx rfl (pc0 := 30) (pc' := 37) rfl (hb hby at_30) rfl (tlt (by decide : (1 : Int32) < (2 : Int32))).1 (by decide) (by decide) ?_
      show Steps p.tables e below (T19.setTop (mkF m 37 #[.val (.int x0), .val (.int x1), .val (.int (1 : Int32)), .val (.double (FP.l2d x1.toInt64)), .second, .val (.ref b13), .val (.int (0 : Int32)), .unset, .unset, .unset] [])) _
      refine XS.iconst X19.here hx rfl (hb hby at_37) ?_
      show Steps p.tables e below (T19.setTop (mkF m 38 #[.val (.int x0), .val (.int x1), .val (.int (1 : Int32)), .val (.double (FP.l2d x1.toInt64)), .second, .val (.ref b13), .val (.int (0 : Int32)), .unset, .unset, .unset] [(.int (0 : Int32))])) _
      refine XS.istore X19.here hx rfl (hb hby at_38) rfl (l' := #[.val (.int x0), .val (.int x1), .val (.int (1 : Int32)), .val (.double (FP.l2d x1.toInt64)), .second, .val (.ref b13), .val (.int (0 : Int32)), .val (.int (0 : Int32)), .unset, .unset]) rfl ?_
      show Steps p.tables e below (T19.setTop (mkF m 40 #[.val (.int x0), .val (.int x1), .val (.int (1 : Int32)), .val (.double (FP.l2d x1.toInt64)), .second, .val (.ref b13), .val (.int (0 : Int32)), .val (.int (0 : Int32)), .unset, .unset] [])) _
      refine XS.aload X19.here hx rfl (hb hby at_40) rfl rfl ?_
      show Steps p.tables e below (T19.setTop (mkF m 42 #[.val (.int x0), .val (.int x1), .val (.int (1 : Int32)), .val (.double (FP.l2d x1.toInt64)), .second, .val (.ref b13), .val (.int (0 : Int32)), .val (.int (0 : Int32)), .unset, .unset] [(.ref b13)])) _
      refine XS.dloadN X19.here hx rfl (hb hby at_42) rfl ?_
      show Steps p.tables e below (T19.setTop (mkF m 43 #[.val (.int x0), .val (.int x1), .val (.int (1 : Int32)), .val (.double (FP.l2d x1.toInt64)), .second, .val (.ref b13), .val (.int (0 : Int32)), .val (.int (0 : Int32)), .unset, .unset] [(.double (FP.l2d x1.toInt64)), (.ref b13)])) _
      refine XS.dconst1 X19.here hx rfl (hb hby at_43) (by decide +kernel : FP.dconst1 = FP.l2d 1) ?_
      show Steps p.tables e below (T19.setTop (mkF m 44 #[.val (.int x0), .val (.int x1), .val (.int (1 : Int32)), .val (.double (FP.l2d x1.toInt64)), .second, .val (.ref b13), .val (.int (0 : Int32)), .val (.int (0 : Int32)), .unset, .unset] [(.double (FP.l2d (1 : Int64))), (.double (FP.l2d x1.toInt64)), (.ref b13)])) _
      refine XS.daddS X19.here hx rfl (hb hby at_44) rfl (nn_w (dadd_w (own_b1 x1) (⟨by decide, by decide⟩ : B53 (1 : Int64)))) (dadd_w (own_b1 x1) (⟨by decide, by decide⟩ : B53 (1 : Int64))) ?_
      show Steps p.tables e below (T19.setTop (mkF m 45 #[.val (.int x0), .val (.int x1), .val (.int (1 : Int32)), .val (.double (FP.l2d x1.toInt64)), .second, .val (.ref b13), .val (.int (0 : Int32)), .val (.int (0 : Int32)), .unset, .unset] [(.double (FP.l2d (x1.toInt64 + (1 : Int64)))), (.ref b13)])) _
      refine st20.trans ?_
      exact kt
    rw [(by simp [own_holds, own_l1, own_l2, own_n1, own_n2] : (own_holds (3 : Int32) (x1.toInt64 + (1 : Int64)) x1.toInt64) = (0 : Int32))] at k21
    obtain ⟨cq22, kq22, q22a, q22b, q22c⟩ := isOf hZ eq20 gE17
    obtain ⟨_, _, ⟨T22, L22, kc22, ks22⟩, -, X22, ⟨Lc22, hQ22, l22, y22, z22⟩, st22⟩ := X20.virtualBack hx (y := (⟨"com/example/formula_to_strategy/formulatostrategy/language/Bound", "holds", "(D)Z"⟩ : MethodName)) (z := (⟨"com/example/formula_to_strategy/formulatostrategy/language/Bound", "holds", "(D)Z"⟩ : MethodName)) hown (mvT hZ (wd29 hw)) (mvT hZ (wd30 hw)) (notFace_of_selects (args := #[]) (mvT hZ (wd32 hw))) (mvT hZ (wd32 hw)) (mvT hZ (wd31 hw)) (by decide) (backOf (W := 0) (rmHol l Z a0 hw [] b13 _ (x1.toInt64 - (1 : Int64)) x1.toInt64 we am clm (7 : Int32) (3 : Int32) T17.heap n0 Z17 rfl gR17 gT17 (S_m.ext f18.2) (Ar.ext f18.2) (E_we.ext f18.2) (O_we.ext f18.2) hin7 hat7 (by decide) (own_b1 x1) (own_b3 x1)) hZ (wd33 hw) (wd2 hw) (by decide) (by decide)) q22a q22c (g := (mkF m 55 #[.val (.int x0), .val (.int x1), .val (.int (1 : Int32)), .val (.double (FP.l2d x1.toInt64)), .second, .val (.ref b13), .val (.int (0 : Int32)), .val (.int (0 : Int32)), .val (.int (0 : Int32)), .unset] [(.double (FP.l2d (x1.toInt64 - (1 : Int64)))), (.ref b13)])) rfl (by rw [hml]; rfl) (Steps.refl _) (argsL := [(.double (FP.l2d (x1.toInt64 - (1 : Int64))))]) (rest := []) (lenOf pd__D_Z rfl) rfl (by show 2 * 0 + _ ≤ _; exact Nat.le_of_eq rfl) (hb hby at_55) (fun _ _ => ⟨rfl, eq20, (by decide : 1 + 0 ≤ _), (by decide : 2 + 0 ≤ _)⟩)
    dsimp only [Pt.U, Pt.locs, Pt.cells, Pt.slots] at X22 l22 y22 z22 st22 hQ22
    subst l22 y22 z22
    obtain ⟨rfl, Nq22, eq22⟩ := hQ22
    have N22 := Fr.app N20 Nq22
    have k23 : ∀ t, Steps p.tables e below (T22.setTop (mkF m 58 #[.val (.int x0), .val (.int x1), .val (.int (1 : Int32)), .val (.double (FP.l2d x1.toInt64)), .second, .val (.ref b13), .val (.int (0 : Int32)), .val (.int (0 : Int32)), .val (.int (0 : Int32)), .unset] [(.int (own_holds (3 : Int32) (x1.toInt64 - (1 : Int64)) x1.toInt64))])) t → Steps p.tables e below (s₁.setTop (entryFrame m #[(.int x0), (.int x1)] maxLocals)) t := by
      intro t kt
      refine k21 t ?_
      show Steps p.tables e below (T20.setTop (mkF m 48 #[.val (.int x0), .val (.int x1), .val (.int (1 : Int32)), .val (.double (FP.l2d x1.toInt64)), .second, .val (.ref b13), .val (.int (0 : Int32)), .val (.int (0 : Int32)), .unset, .unset] [(.int (0 : Int32))])) _
      refine XS.istore X20.here hx rfl (hb hby at_48) rfl (l' := #[.val (.int x0), .val (.int x1), .val (.int (1 : Int32)), .val (.double (FP.l2d x1.toInt64)), .second, .val (.ref b13), .val (.int (0 : Int32)), .val (.int (0 : Int32)), .val (.int (0 : Int32)), .unset]) rfl ?_
      show Steps p.tables e below (T20.setTop (mkF m 50 #[.val (.int x0), .val (.int x1), .val (.int (1 : Int32)), .val (.double (FP.l2d x1.toInt64)), .second, .val (.ref b13), .val (.int (0 : Int32)), .val (.int (0 : Int32)), .val (.int (0 : Int32)), .unset] [])) _
      refine XS.aload X20.here hx rfl (hb hby at_50) rfl rfl ?_
      show Steps p.tables e below (T20.setTop (mkF m 52 #[.val (.int x0), .val (.int x1), .val (.int (1 : Int32)), .val (.double (FP.l2d x1.toInt64)), .second, .val (.ref b13), .val (.int (0 : Int32)), .val (.int (0 : Int32)), .val (.int (0 : Int32)), .unset] [(.ref b13)])) _
      refine XS.dloadN X20.here hx rfl (hb hby at_52) rfl ?_
      show Steps p.tables e below (T20.setTop (mkF m 53 #[.val (.int x0), .val (.int x1), .val (.int (1 : Int32)), .val (.double (FP.l2d x1.toInt64)), .second, .val (.ref b13), .val (.int (0 : Int32)), .val (.int (0 : Int32)), .val (.int (0 : Int32)), .unset] [(.double (FP.l2d x1.toInt64)), (.ref b13)])) _
      refine XS.dconst1 X20.here hx rfl (hb hby at_53) (by decide +kernel : FP.dconst1 = FP.l2d 1) ?_
      show Steps p.tables e below (T20.setTop (mkF m 54 #[.val (.int x0), .val (.int x1), .val (.int (1 : Int32)), .val (.double (FP.l2d x1.toInt64)), .second, .val (.ref b13), .val (.int (0 : Int32)), .val (.int (0 : Int32)), .val (.int (0 : Int32)), .unset] [(.double (FP.l2d (1 : Int64))), (.double (FP.l2d x1.toInt64)), (.ref b13)])) _
      refine XS.dsubS X20.here hx rfl (hb hby at_54) rfl (nn_w (dsub_w (own_b1 x1) (⟨by decide, by decide⟩ : B53 (1 : Int64)))) (dsub_w (own_b1 x1) (⟨by decide, by decide⟩ : B53 (1 : Int64))) ?_
      show Steps p.tables e below (T20.setTop (mkF m 55 #[.val (.int x0), .val (.int x1), .val (.int (1 : Int32)), .val (.double (FP.l2d x1.toInt64)), .second, .val (.ref b13), .val (.int (0 : Int32)), .val (.int (0 : Int32)), .val (.int (0 : Int32)), .unset] [(.double (FP.l2d (x1.toInt64 - (1 : Int64)))), (.ref b13)])) _
      refine st22.trans ?_
      exact kt
    rw [(by simp [own_holds, own_l1, own_l2, own_n1, own_n2] : (own_holds (3 : Int32) (x1.toInt64 - (1 : Int64)) x1.toInt64) = (1 : Int32))] at k23
    obtain ⟨lfs, lhr, lhrun, lhended, lhW, lhsame⟩ := X22.leave (v := some (.int (1 : Int32))) (fun h => by rw [Bd.returns] at h; cases h)
    refine ⟨_, _, k23 _ ?_, lhrun, lhended, _, _, rfl, ?_, ⟨_, rfl⟩, lhW, lhsame.mono (by decide) (by decide)⟩
    · skip
      show Steps p.tables e below (T22.setTop (mkF m 58 #[.val (.int x0), .val (.int x1), .val (.int (1 : Int32)), .val (.double (FP.l2d x1.toInt64)), .second, .val (.ref b13), .val (.int (0 : Int32)), .val (.int (0 : Int32)), .val (.int (0 : Int32)), .unset] [(.int (1 : Int32))])) _
      refine XS.istore X22.here hx rfl (hb hby at_58) rfl (l' := #[.val (.int x0), .val (.int x1), .val (.int (1 : Int32)), .val (.double (FP.l2d x1.toInt64)), .second, .val (.ref b13), .val (.int (0 : Int32)), .val (.int (0 : Int32)), .val (.int (0 : Int32)), .val (.int (1 : Int32))]) rfl ?_
      show Steps p.tables e below (T22.setTop (mkF m 60 #[.val (.int x0), .val (.int x1), .val (.int (1 : Int32)), .val (.double (FP.l2d x1.toInt64)), .second, .val (.ref b13), .val (.int (0 : Int32)), .val (.int (0 : Int32)), .val (.int (0 : Int32)), .val (.int (1 : Int32))] [])) _
      refine XS.iload X22.here hx rfl (hb hby at_60) rfl ?_
      show Steps p.tables e below (T22.setTop (mkF m 62 #[.val (.int x0), .val (.int x1), .val (.int (1 : Int32)), .val (.double (FP.l2d x1.toInt64)), .second, .val (.ref b13), .val (.int (0 : Int32)), .val (.int (0 : Int32)), .val (.int (0 : Int32)), .val (.int (1 : Int32))] [(.int (0 : Int32))])) _
      refine XS.iload X22.here hx rfl (hb hby at_62) rfl ?_
      show Steps p.tables e below (T22.setTop (mkF m 64 #[.val (.int x0), .val (.int x1), .val (.int (1 : Int32)), .val (.double (FP.l2d x1.toInt64)), .second, .val (.ref b13), .val (.int (0 : Int32)), .val (.int (0 : Int32)), .val (.int (0 : Int32)), .val (.int (1 : Int32))] [(.int (0 : Int32)), (.int (0 : Int32))])) _
      refine XS.icmpNo X22.here hx rfl (hb hby at_64) rfl (teq (by decide : (0 : Int32) = (0 : Int32))).2 ?_
      show Steps p.tables e below (T22.setTop (mkF m 67 #[.val (.int x0), .val (.int x1), .val (.int (1 : Int32)), .val (.double (FP.l2d x1.toInt64)), .second, .val (.ref b13), .val (.int (0 : Int32)), .val (.int (0 : Int32)), .val (.int (0 : Int32)), .val (.int (1 : Int32))] [])) _
      refine XS.iload X22.here hx rfl (hb hby at_67) rfl ?_
      show Steps p.tables e below (T22.setTop (mkF m 69 #[.val (.int x0), .val (.int x1), .val (.int (1 : Int32)), .val (.double (FP.l2d x1.toInt64)), .second, .val (.ref b13), .val (.int (0 : Int32)), .val (.int (0 : Int32)), .val (.int (0 : Int32)), .val (.int (1 : Int32))] [(.int (0 : Int32))])) _
      refine XS.iload X22.here hx rfl (hb hby at_69) rfl ?_
      show Steps p.tables e below (T22.setTop (mkF m 71 #[.val (.int x0), .val (.int x1), .val (.int (1 : Int32)), .val (.double (FP.l2d x1.toInt64)), .second, .val (.ref b13), .val (.int (0 : Int32)), .val (.int (0 : Int32)), .val (.int (0 : Int32)), .val (.int (1 : Int32))] [(.int (0 : Int32)), (.int (0 : Int32))])) _
      refine XS.icmpNo X22.here hx rfl (hb hby at_71) rfl (teq (by decide : (0 : Int32) = (0 : Int32))).2 ?_
      show Steps p.tables e below (T22.setTop (mkF m 74 #[.val (.int x0), .val (.int x1), .val (.int (1 : Int32)), .val (.double (FP.l2d x1.toInt64)), .second, .val (.ref b13), .val (.int (0 : Int32)), .val (.int (0 : Int32)), .val (.int (0 : Int32)), .val (.int (1 : Int32))] [])) _
      refine XS.iload X22.here hx rfl (hb hby at_74) rfl ?_
      show Steps p.tables e below (T22.setTop (mkF m 76 #[.val (.int x0), .val (.int x1), .val (.int (1 : Int32)), .val (.double (FP.l2d x1.toInt64)), .second, .val (.ref b13), .val (.int (0 : Int32)), .val (.int (0 : Int32)), .val (.int (0 : Int32)), .val (.int (1 : Int32))] [(.int (0 : Int32))])) _
      refine XS.iload X22.here hx rfl (hb hby at_76) rfl ?_
      show Steps p.tables e below (T22.setTop (mkF m 78 #[.val (.int x0), .val (.int x1), .val (.int (1 : Int32)), .val (.double (FP.l2d x1.toInt64)), .second, .val (.ref b13), .val (.int (0 : Int32)), .val (.int (0 : Int32)), .val (.int (0 : Int32)), .val (.int (1 : Int32))] [(.int (1 : Int32)), (.int (0 : Int32))])) _
      refine XS.icmpNo X22.here hx rfl (hb hby at_78) rfl (feq (by decide : ¬ ((0 : Int32) = (1 : Int32)))).1 ?_
      show Steps p.tables e below (T22.setTop (mkF m 81 #[.val (.int x0), .val (.int x1), .val (.int (1 : Int32)), .val (.double (FP.l2d x1.toInt64)), .second, .val (.ref b13), .val (.int (0 : Int32)), .val (.int (0 : Int32)), .val (.int (0 : Int32)), .val (.int (1 : Int32))] [])) _
      refine XS.iconst X22.here hx rfl (hb hby at_81) ?_
      show Steps p.tables e below (T22.setTop (mkF m 82 #[.val (.int x0), .val (.int x1), .val (.int (1 : Int32)), .val (.double (FP.l2d x1.toInt64)), .second, .val (.ref b13), .val (.int (0 : Int32)), .val (.int (0 : Int32)), .val (.int (0 : Int32)), .val (.int (1 : Int32))] [(.int (1 : Int32))])) _
      refine XS.goto X22.here hx rfl (pc0 := 82) (pc' := 86) rfl (hb hby at_82) (by decide) (by decide) ?_
      show Steps p.tables e below (T22.setTop (mkF m 86 #[.val (.int x0), .val (.int x1), .val (.int (1 : Int32)), .val (.double (FP.l2d x1.toInt64)), .second, .val (.ref b13), .val (.int (0 : Int32)), .val (.int (0 : Int32)), .val (.int (0 : Int32)), .val (.int (1 : Int32))] [(.int (1 : Int32))])) _
      exact retN X22 hx (t := .boolean) Bd.returns (by simp) (hb hby at_86) lhr
    · skip
      show Q0 Z x0 x1 wl we wg wq am clm h0 n0 _ T22.heap _
      rw [eq22]
      exact ⟨rfl, N22⟩
  · skip
    rw [(hk : (x0 &&& (3 : Int32)) = (2 : Int32))] at k1
    obtain ⟨T24, h24, X24, e24, E24, A24, D24, -, st24⟩ := newO X0 hx hZ hown (wd0 hw) (wd1 hw) (wd2 hw) e0 (g := (mkF m 7 #[.val (.int x0), .val (.int x1), .val (.int (2 : Int32)), .val (.double (FP.l2d x1.toInt64)), .second, .unset, .unset, .unset, .unset, .unset] [])) rfl (hb hby at_7) (by decide) (by decide)
    obtain ⟨b24, g24⟩ : ∃ z, z = h0.size := ⟨_, rfl⟩
    rw [← g24] at A24 D24 st24
    have ge_b24 : n0 ≤ b24 := Nat.le_trans Z0 (Nat.le_of_eq g24.symm)
    have sz_b24 : h0.size ≤ b24 := Nat.le_trans (Nat.le_refl _) (Nat.le_of_eq g24.symm)
    have Z24 : n0 ≤ h24.size := Nat.le_trans Z0 E24.1
    have K24 : Keep h0 h24 [] := ((Keep.refl h0 []).ext E24)
    have F24_relation : Fld Z h24 b24 "com/example/formula_to_strategy/formulatostrategy/language/Bound" "relation" "Lcom/example/formula_to_strategy/formulatostrategy/language/BinaryExpression$Operator;" .null := D24 (Or.inr (wd17 hw)) (ty := (.object "com/example/formula_to_strategy/formulatostrategy/language/BinaryExpression$Operator")) (by decide)
    have F24_threshold : Fld Z h24 b24 "com/example/formula_to_strategy/formulatostrategy/language/Bound" "threshold" "D" (.double (0 : UInt64)) := D24 (Or.inr (wd19 hw)) (ty := .double) (by decide)
    have f25 := (X00.ext E24)
    obtain ⟨_, _, ⟨T26, L26, kc26, ks26⟩, -, X26, ⟨Lc26, hQ26, l26, y26, z26⟩, st26⟩ := Jvm.LawKit.callS X24 hx (y := (⟨"com/example/formula_to_strategy/formulatostrategy/language/BoundIsLowerPinLaw", "relation", "(I)Lcom/example/formula_to_strategy/formulatostrategy/language/BinaryExpression$Operator;"⟩ : MethodName)) hown (mvT hZ (wd3 hw)) (mvT hZ (wd4 hw)) (mvT hZ (wd5 hw)) (mvT hZ (wd6 hw)) (by decide) (backOf (W := 2) (rmRel l Z a0 hw [] (2 : Int32) wl we wg wq h24 n0 Z24 (S_wl.ext f25.2) (S_we.ext f25.2) (S_wg.ext f25.2) (S_wq.ext f25.2)) hZ (wd6 hw) (wd5 hw) (by decide) (by decide)) (g := (mkF m 12 #[.val (.int x0), .val (.int x1), .val (.int (2 : Int32)), .val (.double (FP.l2d x1.toInt64)), .second, .unset, .unset, .unset, .unset, .unset] [(.int (2 : Int32)), (.ref b24), (.ref b24)])) rfl (by rw [hml]; rfl) (argsL := [(.int (2 : Int32))]) (rest := [(.ref b24), (.ref b24)]) (lenOf pd__I_Lcom_example_formula_to_strategy_formulatostrategy_language_BinaryExpression_Operator_ rfl) rfl (by show 2 * 0 + _ ≤ _; exact Nat.le_of_eq rfl) (hb hby at_12) (fun _ _ => ⟨rfl, e24, (by decide : 1 + 0 ≤ _), (by decide : 2 + 0 ≤ _)⟩)
    dsimp only [Pt.U, Pt.locs, Pt.cells, Pt.slots] at X26 l26 y26 z26 st26 hQ26
    subst l26 y26 z26
    obtain ⟨rfl, Nq26, eq26⟩ := hQ26
    have N26 := Fr.app N0 Nq26
    have k27 : ∀ t, Steps p.tables e below (T26.setTop (mkF m 15 #[.val (.int x0), .val (.int x1), .val (.int (2 : Int32)), .val (.double (FP.l2d x1.toInt64)), .second, .unset, .unset, .unset, .unset, .unset] [(.ref (own_rel (2 : Int32) wl we wg wq)), (.ref b24), (.ref b24)])) t → Steps p.tables e below (s₁.setTop (entryFrame m #[(.int x0), (.int x1)] maxLocals)) t := by
      intro t kt
      refine k1 t ?_
      show Steps p.tables e below (s₁.setTop (mkF m 4 #[.val (.int x0), .val (.int x1), .val (.int (2 : Int32)), .unset, .unset, .unset, .unset, .unset, .unset, .unset] [])) _
      refine XS.iloadN X0.here hx rfl (hb hby at_4) rfl ?_
      show Steps p.tables e below (s₁.setTop (mkF m 5 #[.val (.int x0), .val (.int x1), .val (.int (2 : Int32)), .unset, .unset, .unset, .unset, .unset, .unset, .unset] [(.int x1)])) _
      refine XS.i2dS X0.here hx rfl (hb hby at_5) rfl (i2d_w x1) ?_
      show Steps p.tables e below (s₁.setTop (mkF m 6 #[.val (.int x0), .val (.int x1), .val (.int (2 : Int32)), .unset, .unset, .unset, .unset, .unset, .unset, .unset] [(.double (FP.l2d x1.toInt64))])) _
      refine XS.dstoreN X0.here hx rfl (hb hby at_6) rfl (l' := #[.val (.int x0), .val (.int x1), .val (.int (2 : Int32)), .val (.double (FP.l2d x1.toInt64)), .second, .unset, .unset, .unset, .unset, .unset]) rfl ?_
      show Steps p.tables e below (s₁.setTop (mkF m 7 #[.val (.int x0), .val (.int x1), .val (.int (2 : Int32)), .val (.double (FP.l2d x1.toInt64)), .second, .unset, .unset, .unset, .unset, .unset] [])) _
      refine st24 _ ?_
      show Steps p.tables e below (T24.setTop (mkF m 10 #[.val (.int x0), .val (.int x1), .val (.int (2 : Int32)), .val (.double (FP.l2d x1.toInt64)), .second, .unset, .unset, .unset, .unset, .unset] [(.ref b24)])) _
      refine XS.dup X24.here hx rfl (hb hby at_10) rfl rfl ?_
      show Steps p.tables e below (T24.setTop (mkF m 11 #[.val (.int x0), .val (.int x1), .val (.int (2 : Int32)), .val (.double (FP.l2d x1.toInt64)), .second, .unset, .unset, .unset, .unset, .unset] [(.ref b24), (.ref b24)])) _
      refine XS.iloadN X24.here hx rfl (hb hby at_11) rfl ?_
      show Steps p.tables e below (T24.setTop (mkF m 12 #[.val (.int x0), .val (.int x1), .val (.int (2 : Int32)), .val (.double (FP.l2d x1.toInt64)), .second, .unset, .unset, .unset, .unset, .unset] [(.int (2 : Int32)), (.ref b24), (.ref b24)])) _
      refine st26 _ ?_
      exact kt
    rw [(by first | rfl | simp [own_rel] : own_rel (2 : Int32) wl we wg wq = wg)] at k27
    obtain ⟨_, _, ⟨T28, L28, kc28, ks28⟩, -, X28, ⟨Lc28, hQ28, l28, y28, z28⟩, st28⟩ := X26.specialBack hx (y := (⟨"com/example/formula_to_strategy/formulatostrategy/language/Bound", "<init>", "(Lcom/example/formula_to_strategy/formulatostrategy/language/BinaryExpression$Operator;D)V"⟩ : MethodName)) rfl hown (mvT hZ (wd10 hw)) (mvT hZ (wd11 hw)) (mvT hZ (wd12 hw)) (by decide) (backOf (W := 1) (rmIni l Z a0 hw [] b24 wg (FP.l2d x1.toInt64) _ _ h24 n0 Z24 ge_b24 A24 F24_relation F24_threshold) hZ (wd12 hw) (wd2 hw) (by decide) (by decide)) (g := (mkF m 16 #[.val (.int x0), .val (.int x1), .val (.int (2 : Int32)), .val (.double (FP.l2d x1.toInt64)), .second, .unset, .unset, .unset, .unset, .unset] [(.double (FP.l2d x1.toInt64)), (.ref wg), (.ref b24), (.ref b24)])) rfl (by rw [hml]; rfl) (Steps.refl _) (a := b24) (argsL := [(.ref wg), (.double (FP.l2d x1.toInt64))]) (rest := [(.ref b24)]) (lenOf pd__Lcom_example_formula_to_strategy_formulatostrategy_language_BinaryExpression_Operator_D_V rfl) rfl (by show 2 * 0 + _ ≤ _; exact Nat.le_of_eq rfl) (hb hby at_16) (fun _ _ => ⟨rfl, eq26, (by decide : 1 + 0 ≤ _), (by decide : 2 + 0 ≤ _)⟩)
    dsimp only [Pt.U, Pt.locs, Pt.cells, Pt.slots] at X28 l28 y28 z28 st28 hQ28
    subst l28 y28 z28
    obtain ⟨rfl, Nq28, Kq28, gE28, gR28, gT28⟩ := hQ28
    have N28 := Fr.app N26 Nq28
    have Z28 : n0 ≤ T28.heap.size := Nat.le_trans Z24 Kq28.1
    have K28 : Keep h0 T28.heap [] := Keep.trans K24 Kq28 (allS (Or.inr sz_b24) all0)
    have f29 := (f25.keep Kq28 (allS ge_b24 all0))
    obtain ⟨cq30, kq30, q30a, q30b, q30c⟩ := isOf hZ rfl gE28
    obtain ⟨_, _, ⟨T30, L30, kc30, ks30⟩, -, X30, ⟨Lc30, hQ30, l30, y30, z30⟩, st30⟩ := X28.virtualBack hx (y := (⟨"com/example/formula_to_strategy/formulatostrategy/language/Bound", "isLower", "()Z"⟩ : MethodName)) (z := (⟨"com/example/formula_to_strategy/formulatostrategy/language/Bound", "isLower", "()Z"⟩ : MethodName)) hown (mvT hZ (wd20 hw)) (mvT hZ (wd21 hw)) (notFace_of_selects (args := #[]) (mvT hZ (wd23 hw))) (mvT hZ (wd23 hw)) (mvT hZ (wd22 hw)) (by decide) (backOf (W := 0) (rmLow l Z a0 hw [] b24 wg wg wq (1 : Int32) T28.heap n0 Z28 gR28 (S_wg.ext f29.2) (S_wq.ext f29.2) (Or.inl ⟨Or.inr rfl, rfl⟩)) hZ (wd24 hw) (wd2 hw) (by decide) (by decide)) q30a q30c (g := (mkF m 23 #[.val (.int x0), .val (.int x1), .val (.int (2 : Int32)), .val (.double (FP.l2d x1.toInt64)), .second, .val (.ref b24), .unset, .unset, .unset, .unset] [(.ref b24)])) rfl (by rw [hml]; rfl) (Steps.refl _) (argsL := []) (rest := []) (lenOf pd___Z rfl) rfl (by show 2 * 0 + _ ≤ _; exact Nat.le_of_eq rfl) (hb hby at_23) (fun _ _ => ⟨rfl, rfl, (by decide : 1 + 0 ≤ _), (by decide : 2 + 0 ≤ _)⟩)
    dsimp only [Pt.U, Pt.locs, Pt.cells, Pt.slots] at X30 l30 y30 z30 st30 hQ30
    subst l30 y30 z30
    obtain ⟨rfl, Nq30, eq30⟩ := hQ30
    have N30 := Fr.app N28 Nq30
    obtain ⟨cq31, kq31, q31a, q31b, q31c⟩ := isOf hZ eq30 gE28
    obtain ⟨_, _, ⟨T31, L31, kc31, ks31⟩, -, X31, ⟨Lc31, hQ31, l31, y31, z31⟩, st31⟩ := X30.virtualBack hx (y := (⟨"com/example/formula_to_strategy/formulatostrategy/language/Bound", "holds", "(D)Z"⟩ : MethodName)) (z := (⟨"com/example/formula_to_strategy/formulatostrategy/language/Bound", "holds", "(D)Z"⟩ : MethodName)) hown (mvT hZ (wd29 hw)) (mvT hZ (wd30 hw)) (notFace_of_selects (args := #[]) (mvT hZ (wd32 hw))) (mvT hZ (wd32 hw)) (mvT hZ (wd31 hw)) (by decide) (backOf (W := 0) (rmHol l Z a0 hw [] b24 _ (x1.toInt64 + (1 : Int64)) x1.toInt64 wg am clm (8 : Int32) (2 : Int32) T28.heap n0 Z28 rfl gR28 gT28 (S_m.ext f29.2) (Ar.ext f29.2) (E_wg.ext f29.2) (O_wg.ext f29.2) hin8 hat8 (by decide) (own_b1 x1) (own_b2 x1)) hZ (wd33 hw) (wd2 hw) (by decide) (by decide)) q31a q31c (g := (mkF m 45 #[.val (.int x0), .val (.int x1), .val (.int (2 : Int32)), .val (.double (FP.l2d x1.toInt64)), .second, .val (.ref b24), .val (.int (1 : Int32)), .val (.int (1 : Int32)), .unset, .unset] [(.double (FP.l2d (x1.toInt64 + (1 : Int64)))), (.ref b24)])) rfl (by rw [hml]; rfl) (Steps.refl _) (argsL := [(.double (FP.l2d (x1.toInt64 + (1 : Int64))))]) (rest := []) (lenOf pd__D_Z rfl) rfl (by show 2 * 0 + _ ≤ _; exact Nat.le_of_eq rfl) (hb hby at_45) (fun _ _ => ⟨rfl, eq30, (by decide : 1 + 0 ≤ _), (by decide : 2 + 0 ≤ _)⟩)
    dsimp only [Pt.U, Pt.locs, Pt.cells, Pt.slots] at X31 l31 y31 z31 st31 hQ31
    subst l31 y31 z31
    obtain ⟨rfl, Nq31, eq31⟩ := hQ31
    have N31 := Fr.app N30 Nq31
    have k32 : ∀ t, Steps p.tables e below (T31.setTop (mkF m 48 #[.val (.int x0), .val (.int x1), .val (.int (2 : Int32)), .val (.double (FP.l2d x1.toInt64)), .second, .val (.ref b24), .val (.int (1 : Int32)), .val (.int (1 : Int32)), .unset, .unset] [(.int (own_holds (2 : Int32) (x1.toInt64 + (1 : Int64)) x1.toInt64))])) t → Steps p.tables e below (s₁.setTop (entryFrame m #[(.int x0), (.int x1)] maxLocals)) t := by
      intro t kt
      refine k27 t ?_
      show Steps p.tables e below (T26.setTop (mkF m 15 #[.val (.int x0), .val (.int x1), .val (.int (2 : Int32)), .val (.double (FP.l2d x1.toInt64)), .second, .unset, .unset, .unset, .unset, .unset] [(.ref wg), (.ref b24), (.ref b24)])) _
      refine XS.dloadN X26.here hx rfl (hb hby at_15) rfl ?_
      show Steps p.tables e below (T26.setTop (mkF m 16 #[.val (.int x0), .val (.int x1), .val (.int (2 : Int32)), .val (.double (FP.l2d x1.toInt64)), .second, .unset, .unset, .unset, .unset, .unset] [(.double (FP.l2d x1.toInt64)), (.ref wg), (.ref b24), (.ref b24)])) _
      refine st28.trans ?_
      show Steps p.tables e below (T28.setTop (mkF m 19 #[.val (.int x0), .val (.int x1), .val (.int (2 : Int32)), .val (.double (FP.l2d x1.toInt64)), .second, .unset, .unset, .unset, .unset, .unset] [(.ref b24)])) _
      refine XS.astore X28.here hx rfl (hb hby at_19) rfl rfl (l' := #[.val (.int x0), .val (.int x1), .val (.int (2 : Int32)), .val (.double (FP.l2d x1.toInt64)), .second, .val (.ref b24), .unset, .unset, .unset, .unset]) rfl ?_
      show Steps p.tables e below (T28.setTop (mkF m 21 #[.val (.int x0), .val (.int x1), .val (.int (2 : Int32)), .val (.double (FP.l2d x1.toInt64)), .second, .val (.ref b24), .unset, .unset, .unset, .unset] [])) _
      refine XS.aload X28.here hx rfl (hb hby at_21) rfl rfl ?_
      show Steps p.tables e below (T28.setTop (mkF m 23 #[.val (.int x0), .val (.int x1), .val (.int (2 : Int32)), .val (.double (FP.l2d x1.toInt64)), .second, .val (.ref b24), .unset, .unset, .unset, .unset] [(.ref b24)])) _
      refine st30.trans ?_
      show Steps p.tables e below (T30.setTop (mkF m 26 #[.val (.int x0), .val (.int x1), .val (.int (2 : Int32)), .val (.double (FP.l2d x1.toInt64)), .second, .val (.ref b24), .unset, .unset, .unset, .unset] [(.int (1 : Int32))])) _
      refine XS.istore X30.here hx rfl (hb hby at_26) rfl (l' := #[.val (.int x0), .val (.int x1), .val (.int (2 : Int32)), .val (.double (FP.l2d x1.toInt64)), .second, .val (.ref b24), .val (.int (1 : Int32)), .unset, .unset, .unset]) rfl ?_
      show Steps p.tables e below (T30.setTop (mkF m 28 #[.val (.int x0), .val (.int x1), .val (.int (2 : Int32)), .val (.double (FP.l2d x1.toInt64)), .second, .val (.ref b24), .val (.int (1 : Int32)), .unset, .unset, .unset] [])) _
      refine XS.iloadN X30.here hx rfl (hb hby at_28) rfl ?_
      show Steps p.tables e below (T30.setTop (mkF m 29 #[.val (.int x0), .val (.int x1), .val (.int (2 : Int32)), .val (.double (FP.l2d x1.toInt64)), .second, .val (.ref b24), .val (.int (1 : Int32)), .unset, .unset, .unset] [(.int (2 : Int32))])) _
      refine XS.iconst X30.here hx rfl (hb hby at_29) ?_
      show Steps p.tables e below (T30.setTop (mkF m 30 #[.val (.int x0), .val (.int x1), .val (.int (2 : Int32)), .val (.double (FP.l2d x1.toInt64)), .second, .val (.ref b24), .val (.int (1 : Int32)), .unset, .unset, .unset] [(.int (2 : Int32)), (.int (2 : Int32))])) _
      refine XS.icmpNo X30.here hx rfl (hb hby at_30) rfl (flt (by decide : ¬ ((2 : Int32) < (2 : Int32)))).1 ?_
      show Steps p.tables e below (T30.setTop (mkF m 33 #[.val (.int x0), .val (.int x1), .val (.int (2 : Int32)), .val (.double (FP.l2d x1.toInt64)), .second, .val (.ref b24), .val (.int (1 : Int32)), .unset, .unset, .unset] [])) _
      refine XS.iconst X30.here hx rfl (hb hby at_33) ?_
      show Steps p.tables e below (T30.setTop (mkF m 34 #[.val (.int x0), .val (.int x1), .val (.int (2 : Int32)), .val (.double (FP.l2d x1.toInt64)), .second, .val (.ref b24), .val (.int (1 : Int32)), .unset, .unset, .unset] [(.int (1 : Int32))])) _
      refine XS.goto X30.here hx rfl (pc0 := 34) (pc' := 38) rfl (hb hby at_34) (by decide) (by decide) ?_
      show Steps p.tables e below (T30.setTop (mkF m 38 #[.val (.int x0), .val (.int x1), .val (.int (2 : Int32)), .val (.double (FP.l2d x1.toInt64)), .second, .val (.ref b24), .val (.int (1 : Int32)), .unset, .unset, .unset] [(.int (1 : Int32))])) _
      refine XS.istore X30.here hx rfl (hb hby at_38) rfl (l' := #[.val (.int x0), .val (.int x1), .val (.int (2 : Int32)), .val (.double (FP.l2d x1.toInt64)), .second, .val (.ref b24), .val (.int (1 : Int32)), .val (.int (1 : Int32)), .unset, .unset]) rfl ?_
      show Steps p.tables e below (T30.setTop (mkF m 40 #[.val (.int x0), .val (.int x1), .val (.int (2 : Int32)), .val (.double (FP.l2d x1.toInt64)), .second, .val (.ref b24), .val (.int (1 : Int32)), .val (.int (1 : Int32)), .unset, .unset] [])) _
      refine XS.aload X30.here hx rfl (hb hby at_40) rfl rfl ?_
      show Steps p.tables e below (T30.setTop (mkF m 42 #[.val (.int x0), .val (.int x1), .val (.int (2 : Int32)), .val (.double (FP.l2d x1.toInt64)), .second, .val (.ref b24), .val (.int (1 : Int32)), .val (.int (1 : Int32)), .unset, .unset] [(.ref b24)])) _
      refine XS.dloadN X30.here hx rfl (hb hby at_42) rfl ?_
      show Steps p.tables e below (T30.setTop (mkF m 43 #[.val (.int x0), .val (.int x1), .val (.int (2 : Int32)), .val (.double (FP.l2d x1.toInt64)), .second, .val (.ref b24), .val (.int (1 : Int32)), .val (.int (1 : Int32)), .unset, .unset] [(.double (FP.l2d x1.toInt64)), (.ref b24)])) _
      refine XS.dconst1 X30.here hx rfl (hb hby at_43) (by decide +kernel : FP.dconst1 = FP.l2d 1) ?_
      show Steps p.tables e below (T30.setTop (mkF m 44 #[.val (.int x0), .val (.int x1), .val (.int (2 : Int32)), .val (.double (FP.l2d x1.toInt64)), .second, .val (.ref b24), .val (.int (1 : Int32)), .val (.int (1 : Int32)), .unset, .unset] [(.double (FP.l2d (1 : Int64))), (.double (FP.l2d x1.toInt64)), (.ref b24)])) _
      refine XS.daddS X30.here hx rfl (hb hby at_44) rfl (nn_w (dadd_w (own_b1 x1) (⟨by decide, by decide⟩ : B53 (1 : Int64)))) (dadd_w (own_b1 x1) (⟨by decide, by decide⟩ : B53 (1 : Int64))) ?_
      show Steps p.tables e below (T30.setTop (mkF m 45 #[.val (.int x0), .val (.int x1), .val (.int (2 : Int32)), .val (.double (FP.l2d x1.toInt64)), .second, .val (.ref b24), .val (.int (1 : Int32)), .val (.int (1 : Int32)), .unset, .unset] [(.double (FP.l2d (x1.toInt64 + (1 : Int64)))), (.ref b24)])) _
      refine st31.trans ?_
      exact kt
    rw [(by simp [own_holds, own_l1, own_l2, own_n1, own_n2] : (own_holds (2 : Int32) (x1.toInt64 + (1 : Int64)) x1.toInt64) = (1 : Int32))] at k32
    obtain ⟨cq33, kq33, q33a, q33b, q33c⟩ := isOf hZ eq31 gE28
    obtain ⟨_, _, ⟨T33, L33, kc33, ks33⟩, -, X33, ⟨Lc33, hQ33, l33, y33, z33⟩, st33⟩ := X31.virtualBack hx (y := (⟨"com/example/formula_to_strategy/formulatostrategy/language/Bound", "holds", "(D)Z"⟩ : MethodName)) (z := (⟨"com/example/formula_to_strategy/formulatostrategy/language/Bound", "holds", "(D)Z"⟩ : MethodName)) hown (mvT hZ (wd29 hw)) (mvT hZ (wd30 hw)) (notFace_of_selects (args := #[]) (mvT hZ (wd32 hw))) (mvT hZ (wd32 hw)) (mvT hZ (wd31 hw)) (by decide) (backOf (W := 0) (rmHol l Z a0 hw [] b24 _ (x1.toInt64 - (1 : Int64)) x1.toInt64 wg am clm (8 : Int32) (2 : Int32) T28.heap n0 Z28 rfl gR28 gT28 (S_m.ext f29.2) (Ar.ext f29.2) (E_wg.ext f29.2) (O_wg.ext f29.2) hin8 hat8 (by decide) (own_b1 x1) (own_b3 x1)) hZ (wd33 hw) (wd2 hw) (by decide) (by decide)) q33a q33c (g := (mkF m 55 #[.val (.int x0), .val (.int x1), .val (.int (2 : Int32)), .val (.double (FP.l2d x1.toInt64)), .second, .val (.ref b24), .val (.int (1 : Int32)), .val (.int (1 : Int32)), .val (.int (1 : Int32)), .unset] [(.double (FP.l2d (x1.toInt64 - (1 : Int64)))), (.ref b24)])) rfl (by rw [hml]; rfl) (Steps.refl _) (argsL := [(.double (FP.l2d (x1.toInt64 - (1 : Int64))))]) (rest := []) (lenOf pd__D_Z rfl) rfl (by show 2 * 0 + _ ≤ _; exact Nat.le_of_eq rfl) (hb hby at_55) (fun _ _ => ⟨rfl, eq31, (by decide : 1 + 0 ≤ _), (by decide : 2 + 0 ≤ _)⟩)
    dsimp only [Pt.U, Pt.locs, Pt.cells, Pt.slots] at X33 l33 y33 z33 st33 hQ33
    subst l33 y33 z33
    obtain ⟨rfl, Nq33, eq33⟩ := hQ33
    have N33 := Fr.app N31 Nq33
    have k34 : ∀ t, Steps p.tables e below (T33.setTop (mkF m 58 #[.val (.int x0), .val (.int x1), .val (.int (2 : Int32)), .val (.double (FP.l2d x1.toInt64)), .second, .val (.ref b24), .val (.int (1 : Int32)), .val (.int (1 : Int32)), .val (.int (1 : Int32)), .unset] [(.int (own_holds (2 : Int32) (x1.toInt64 - (1 : Int64)) x1.toInt64))])) t → Steps p.tables e below (s₁.setTop (entryFrame m #[(.int x0), (.int x1)] maxLocals)) t := by
      intro t kt
      refine k32 t ?_
      show Steps p.tables e below (T31.setTop (mkF m 48 #[.val (.int x0), .val (.int x1), .val (.int (2 : Int32)), .val (.double (FP.l2d x1.toInt64)), .second, .val (.ref b24), .val (.int (1 : Int32)), .val (.int (1 : Int32)), .unset, .unset] [(.int (1 : Int32))])) _
      refine XS.istore X31.here hx rfl (hb hby at_48) rfl (l' := #[.val (.int x0), .val (.int x1), .val (.int (2 : Int32)), .val (.double (FP.l2d x1.toInt64)), .second, .val (.ref b24), .val (.int (1 : Int32)), .val (.int (1 : Int32)), .val (.int (1 : Int32)), .unset]) rfl ?_
      show Steps p.tables e below (T31.setTop (mkF m 50 #[.val (.int x0), .val (.int x1), .val (.int (2 : Int32)), .val (.double (FP.l2d x1.toInt64)), .second, .val (.ref b24), .val (.int (1 : Int32)), .val (.int (1 : Int32)), .val (.int (1 : Int32)), .unset] [])) _
      refine XS.aload X31.here hx rfl (hb hby at_50) rfl rfl ?_
      show Steps p.tables e below (T31.setTop (mkF m 52 #[.val (.int x0), .val (.int x1), .val (.int (2 : Int32)), .val (.double (FP.l2d x1.toInt64)), .second, .val (.ref b24), .val (.int (1 : Int32)), .val (.int (1 : Int32)), .val (.int (1 : Int32)), .unset] [(.ref b24)])) _
      refine XS.dloadN X31.here hx rfl (hb hby at_52) rfl ?_
      show Steps p.tables e below (T31.setTop (mkF m 53 #[.val (.int x0), .val (.int x1), .val (.int (2 : Int32)), .val (.double (FP.l2d x1.toInt64)), .second, .val (.ref b24), .val (.int (1 : Int32)), .val (.int (1 : Int32)), .val (.int (1 : Int32)), .unset] [(.double (FP.l2d x1.toInt64)), (.ref b24)])) _
      refine XS.dconst1 X31.here hx rfl (hb hby at_53) (by decide +kernel : FP.dconst1 = FP.l2d 1) ?_
      show Steps p.tables e below (T31.setTop (mkF m 54 #[.val (.int x0), .val (.int x1), .val (.int (2 : Int32)), .val (.double (FP.l2d x1.toInt64)), .second, .val (.ref b24), .val (.int (1 : Int32)), .val (.int (1 : Int32)), .val (.int (1 : Int32)), .unset] [(.double (FP.l2d (1 : Int64))), (.double (FP.l2d x1.toInt64)), (.ref b24)])) _
      refine XS.dsubS X31.here hx rfl (hb hby at_54) rfl (nn_w (dsub_w (own_b1 x1) (⟨by decide, by decide⟩ : B53 (1 : Int64)))) (dsub_w (own_b1 x1) (⟨by decide, by decide⟩ : B53 (1 : Int64))) ?_
      show Steps p.tables e below (T31.setTop (mkF m 55 #[.val (.int x0), .val (.int x1), .val (.int (2 : Int32)), .val (.double (FP.l2d x1.toInt64)), .second, .val (.ref b24), .val (.int (1 : Int32)), .val (.int (1 : Int32)), .val (.int (1 : Int32)), .unset] [(.double (FP.l2d (x1.toInt64 - (1 : Int64)))), (.ref b24)])) _
      refine st33.trans ?_
      exact kt
    rw [(by simp [own_holds, own_l1, own_l2, own_n1, own_n2] : (own_holds (2 : Int32) (x1.toInt64 - (1 : Int64)) x1.toInt64) = (0 : Int32))] at k34
    obtain ⟨lfs, lhr, lhrun, lhended, lhW, lhsame⟩ := X33.leave (v := some (.int (1 : Int32))) (fun h => by rw [Bd.returns] at h; cases h)
    refine ⟨_, _, k34 _ ?_, lhrun, lhended, _, _, rfl, ?_, ⟨_, rfl⟩, lhW, lhsame.mono (by decide) (by decide)⟩
    · skip
      show Steps p.tables e below (T33.setTop (mkF m 58 #[.val (.int x0), .val (.int x1), .val (.int (2 : Int32)), .val (.double (FP.l2d x1.toInt64)), .second, .val (.ref b24), .val (.int (1 : Int32)), .val (.int (1 : Int32)), .val (.int (1 : Int32)), .unset] [(.int (0 : Int32))])) _
      refine XS.istore X33.here hx rfl (hb hby at_58) rfl (l' := #[.val (.int x0), .val (.int x1), .val (.int (2 : Int32)), .val (.double (FP.l2d x1.toInt64)), .second, .val (.ref b24), .val (.int (1 : Int32)), .val (.int (1 : Int32)), .val (.int (1 : Int32)), .val (.int (0 : Int32))]) rfl ?_
      show Steps p.tables e below (T33.setTop (mkF m 60 #[.val (.int x0), .val (.int x1), .val (.int (2 : Int32)), .val (.double (FP.l2d x1.toInt64)), .second, .val (.ref b24), .val (.int (1 : Int32)), .val (.int (1 : Int32)), .val (.int (1 : Int32)), .val (.int (0 : Int32))] [])) _
      refine XS.iload X33.here hx rfl (hb hby at_60) rfl ?_
      show Steps p.tables e below (T33.setTop (mkF m 62 #[.val (.int x0), .val (.int x1), .val (.int (2 : Int32)), .val (.double (FP.l2d x1.toInt64)), .second, .val (.ref b24), .val (.int (1 : Int32)), .val (.int (1 : Int32)), .val (.int (1 : Int32)), .val (.int (0 : Int32))] [(.int (1 : Int32))])) _
      refine XS.iload X33.here hx rfl (hb hby at_62) rfl ?_
      show Steps p.tables e below (T33.setTop (mkF m 64 #[.val (.int x0), .val (.int x1), .val (.int (2 : Int32)), .val (.double (FP.l2d x1.toInt64)), .second, .val (.ref b24), .val (.int (1 : Int32)), .val (.int (1 : Int32)), .val (.int (1 : Int32)), .val (.int (0 : Int32))] [(.int (1 : Int32)), (.int (1 : Int32))])) _
      refine XS.icmpNo X33.here hx rfl (hb hby at_64) rfl (teq (by decide : (1 : Int32) = (1 : Int32))).2 ?_
      show Steps p.tables e below (T33.setTop (mkF m 67 #[.val (.int x0), .val (.int x1), .val (.int (2 : Int32)), .val (.double (FP.l2d x1.toInt64)), .second, .val (.ref b24), .val (.int (1 : Int32)), .val (.int (1 : Int32)), .val (.int (1 : Int32)), .val (.int (0 : Int32))] [])) _
      refine XS.iload X33.here hx rfl (hb hby at_67) rfl ?_
      show Steps p.tables e below (T33.setTop (mkF m 69 #[.val (.int x0), .val (.int x1), .val (.int (2 : Int32)), .val (.double (FP.l2d x1.toInt64)), .second, .val (.ref b24), .val (.int (1 : Int32)), .val (.int (1 : Int32)), .val (.int (1 : Int32)), .val (.int (0 : Int32))] [(.int (1 : Int32))])) _
      refine XS.iload X33.here hx rfl (hb hby at_69) rfl ?_
      show Steps p.tables e below (T33.setTop (mkF m 71 #[.val (.int x0), .val (.int x1), .val (.int (2 : Int32)), .val (.double (FP.l2d x1.toInt64)), .second, .val (.ref b24), .val (.int (1 : Int32)), .val (.int (1 : Int32)), .val (.int (1 : Int32)), .val (.int (0 : Int32))] [(.int (1 : Int32)), (.int (1 : Int32))])) _
      refine XS.icmpNo X33.here hx rfl (hb hby at_71) rfl (teq (by decide : (1 : Int32) = (1 : Int32))).2 ?_
      show Steps p.tables e below (T33.setTop (mkF m 74 #[.val (.int x0), .val (.int x1), .val (.int (2 : Int32)), .val (.double (FP.l2d x1.toInt64)), .second, .val (.ref b24), .val (.int (1 : Int32)), .val (.int (1 : Int32)), .val (.int (1 : Int32)), .val (.int (0 : Int32))] [])) _
      refine XS.iload X33.here hx rfl (hb hby at_74) rfl ?_
      show Steps p.tables e below (T33.setTop (mkF m 76 #[.val (.int x0), .val (.int x1), .val (.int (2 : Int32)), .val (.double (FP.l2d x1.toInt64)), .second, .val (.ref b24), .val (.int (1 : Int32)), .val (.int (1 : Int32)), .val (.int (1 : Int32)), .val (.int (0 : Int32))] [(.int (1 : Int32))])) _
      refine XS.iload X33.here hx rfl (hb hby at_76) rfl ?_
      show Steps p.tables e below (T33.setTop (mkF m 78 #[.val (.int x0), .val (.int x1), .val (.int (2 : Int32)), .val (.double (FP.l2d x1.toInt64)), .second, .val (.ref b24), .val (.int (1 : Int32)), .val (.int (1 : Int32)), .val (.int (1 : Int32)), .val (.int (0 : Int32))] [(.int (0 : Int32)), (.int (1 : Int32))])) _
      refine XS.icmpNo X33.here hx rfl (hb hby at_78) rfl (feq (by decide : ¬ ((1 : Int32) = (0 : Int32)))).1 ?_
      show Steps p.tables e below (T33.setTop (mkF m 81 #[.val (.int x0), .val (.int x1), .val (.int (2 : Int32)), .val (.double (FP.l2d x1.toInt64)), .second, .val (.ref b24), .val (.int (1 : Int32)), .val (.int (1 : Int32)), .val (.int (1 : Int32)), .val (.int (0 : Int32))] [])) _
      refine XS.iconst X33.here hx rfl (hb hby at_81) ?_
      show Steps p.tables e below (T33.setTop (mkF m 82 #[.val (.int x0), .val (.int x1), .val (.int (2 : Int32)), .val (.double (FP.l2d x1.toInt64)), .second, .val (.ref b24), .val (.int (1 : Int32)), .val (.int (1 : Int32)), .val (.int (1 : Int32)), .val (.int (0 : Int32))] [(.int (1 : Int32))])) _
      refine XS.goto X33.here hx rfl (pc0 := 82) (pc' := 86) rfl (hb hby at_82) (by decide) (by decide) ?_
      show Steps p.tables e below (T33.setTop (mkF m 86 #[.val (.int x0), .val (.int x1), .val (.int (2 : Int32)), .val (.double (FP.l2d x1.toInt64)), .second, .val (.ref b24), .val (.int (1 : Int32)), .val (.int (1 : Int32)), .val (.int (1 : Int32)), .val (.int (0 : Int32))] [(.int (1 : Int32))])) _
      exact retN X33 hx (t := .boolean) Bd.returns (by simp) (hb hby at_86) lhr
    · skip
      show Q0 Z x0 x1 wl we wg wq am clm h0 n0 _ T33.heap _
      rw [eq33]
      exact ⟨rfl, N33⟩
  · skip
    rw [(hk : (x0 &&& (3 : Int32)) = (3 : Int32))] at k1
    obtain ⟨T35, h35, X35, e35, E35, A35, D35, -, st35⟩ := newO X0 hx hZ hown (wd0 hw) (wd1 hw) (wd2 hw) e0 (g := (mkF m 7 #[.val (.int x0), .val (.int x1), .val (.int (3 : Int32)), .val (.double (FP.l2d x1.toInt64)), .second, .unset, .unset, .unset, .unset, .unset] [])) rfl (hb hby at_7) (by decide) (by decide)
    obtain ⟨b35, g35⟩ : ∃ z, z = h0.size := ⟨_, rfl⟩
    rw [← g35] at A35 D35 st35
    have ge_b35 : n0 ≤ b35 := Nat.le_trans Z0 (Nat.le_of_eq g35.symm)
    have sz_b35 : h0.size ≤ b35 := Nat.le_trans (Nat.le_refl _) (Nat.le_of_eq g35.symm)
    have Z35 : n0 ≤ h35.size := Nat.le_trans Z0 E35.1
    have K35 : Keep h0 h35 [] := ((Keep.refl h0 []).ext E35)
    have F35_relation : Fld Z h35 b35 "com/example/formula_to_strategy/formulatostrategy/language/Bound" "relation" "Lcom/example/formula_to_strategy/formulatostrategy/language/BinaryExpression$Operator;" .null := D35 (Or.inr (wd17 hw)) (ty := (.object "com/example/formula_to_strategy/formulatostrategy/language/BinaryExpression$Operator")) (by decide)
    have F35_threshold : Fld Z h35 b35 "com/example/formula_to_strategy/formulatostrategy/language/Bound" "threshold" "D" (.double (0 : UInt64)) := D35 (Or.inr (wd19 hw)) (ty := .double) (by decide)
    have f36 := (X00.ext E35)
    obtain ⟨_, _, ⟨T37, L37, kc37, ks37⟩, -, X37, ⟨Lc37, hQ37, l37, y37, z37⟩, st37⟩ := Jvm.LawKit.callS X35 hx (y := (⟨"com/example/formula_to_strategy/formulatostrategy/language/BoundIsLowerPinLaw", "relation", "(I)Lcom/example/formula_to_strategy/formulatostrategy/language/BinaryExpression$Operator;"⟩ : MethodName)) hown (mvT hZ (wd3 hw)) (mvT hZ (wd4 hw)) (mvT hZ (wd5 hw)) (mvT hZ (wd6 hw)) (by decide) (backOf (W := 2) (rmRel l Z a0 hw [] (3 : Int32) wl we wg wq h35 n0 Z35 (S_wl.ext f36.2) (S_we.ext f36.2) (S_wg.ext f36.2) (S_wq.ext f36.2)) hZ (wd6 hw) (wd5 hw) (by decide) (by decide)) (g := (mkF m 12 #[.val (.int x0), .val (.int x1), .val (.int (3 : Int32)), .val (.double (FP.l2d x1.toInt64)), .second, .unset, .unset, .unset, .unset, .unset] [(.int (3 : Int32)), (.ref b35), (.ref b35)])) rfl (by rw [hml]; rfl) (argsL := [(.int (3 : Int32))]) (rest := [(.ref b35), (.ref b35)]) (lenOf pd__I_Lcom_example_formula_to_strategy_formulatostrategy_language_BinaryExpression_Operator_ rfl) rfl (by show 2 * 0 + _ ≤ _; exact Nat.le_of_eq rfl) (hb hby at_12) (fun _ _ => ⟨rfl, e35, (by decide : 1 + 0 ≤ _), (by decide : 2 + 0 ≤ _)⟩)
    dsimp only [Pt.U, Pt.locs, Pt.cells, Pt.slots] at X37 l37 y37 z37 st37 hQ37
    subst l37 y37 z37
    obtain ⟨rfl, Nq37, eq37⟩ := hQ37
    have N37 := Fr.app N0 Nq37
    have k38 : ∀ t, Steps p.tables e below (T37.setTop (mkF m 15 #[.val (.int x0), .val (.int x1), .val (.int (3 : Int32)), .val (.double (FP.l2d x1.toInt64)), .second, .unset, .unset, .unset, .unset, .unset] [(.ref (own_rel (3 : Int32) wl we wg wq)), (.ref b35), (.ref b35)])) t → Steps p.tables e below (s₁.setTop (entryFrame m #[(.int x0), (.int x1)] maxLocals)) t := by
      intro t kt
      refine k1 t ?_
      show Steps p.tables e below (s₁.setTop (mkF m 4 #[.val (.int x0), .val (.int x1), .val (.int (3 : Int32)), .unset, .unset, .unset, .unset, .unset, .unset, .unset] [])) _
      refine XS.iloadN X0.here hx rfl (hb hby at_4) rfl ?_
      show Steps p.tables e below (s₁.setTop (mkF m 5 #[.val (.int x0), .val (.int x1), .val (.int (3 : Int32)), .unset, .unset, .unset, .unset, .unset, .unset, .unset] [(.int x1)])) _
      refine XS.i2dS X0.here hx rfl (hb hby at_5) rfl (i2d_w x1) ?_
      show Steps p.tables e below (s₁.setTop (mkF m 6 #[.val (.int x0), .val (.int x1), .val (.int (3 : Int32)), .unset, .unset, .unset, .unset, .unset, .unset, .unset] [(.double (FP.l2d x1.toInt64))])) _
      refine XS.dstoreN X0.here hx rfl (hb hby at_6) rfl (l' := #[.val (.int x0), .val (.int x1), .val (.int (3 : Int32)), .val (.double (FP.l2d x1.toInt64)), .second, .unset, .unset, .unset, .unset, .unset]) rfl ?_
      show Steps p.tables e below (s₁.setTop (mkF m 7 #[.val (.int x0), .val (.int x1), .val (.int (3 : Int32)), .val (.double (FP.l2d x1.toInt64)), .second, .unset, .unset, .unset, .unset, .unset] [])) _
      refine st35 _ ?_
      show Steps p.tables e below (T35.setTop (mkF m 10 #[.val (.int x0), .val (.int x1), .val (.int (3 : Int32)), .val (.double (FP.l2d x1.toInt64)), .second, .unset, .unset, .unset, .unset, .unset] [(.ref b35)])) _
      refine XS.dup X35.here hx rfl (hb hby at_10) rfl rfl ?_
      show Steps p.tables e below (T35.setTop (mkF m 11 #[.val (.int x0), .val (.int x1), .val (.int (3 : Int32)), .val (.double (FP.l2d x1.toInt64)), .second, .unset, .unset, .unset, .unset, .unset] [(.ref b35), (.ref b35)])) _
      refine XS.iloadN X35.here hx rfl (hb hby at_11) rfl ?_
      show Steps p.tables e below (T35.setTop (mkF m 12 #[.val (.int x0), .val (.int x1), .val (.int (3 : Int32)), .val (.double (FP.l2d x1.toInt64)), .second, .unset, .unset, .unset, .unset, .unset] [(.int (3 : Int32)), (.ref b35), (.ref b35)])) _
      refine st37 _ ?_
      exact kt
    rw [(by first | rfl | simp [own_rel] : own_rel (3 : Int32) wl we wg wq = wq)] at k38
    obtain ⟨_, _, ⟨T39, L39, kc39, ks39⟩, -, X39, ⟨Lc39, hQ39, l39, y39, z39⟩, st39⟩ := X37.specialBack hx (y := (⟨"com/example/formula_to_strategy/formulatostrategy/language/Bound", "<init>", "(Lcom/example/formula_to_strategy/formulatostrategy/language/BinaryExpression$Operator;D)V"⟩ : MethodName)) rfl hown (mvT hZ (wd10 hw)) (mvT hZ (wd11 hw)) (mvT hZ (wd12 hw)) (by decide) (backOf (W := 1) (rmIni l Z a0 hw [] b35 wq (FP.l2d x1.toInt64) _ _ h35 n0 Z35 ge_b35 A35 F35_relation F35_threshold) hZ (wd12 hw) (wd2 hw) (by decide) (by decide)) (g := (mkF m 16 #[.val (.int x0), .val (.int x1), .val (.int (3 : Int32)), .val (.double (FP.l2d x1.toInt64)), .second, .unset, .unset, .unset, .unset, .unset] [(.double (FP.l2d x1.toInt64)), (.ref wq), (.ref b35), (.ref b35)])) rfl (by rw [hml]; rfl) (Steps.refl _) (a := b35) (argsL := [(.ref wq), (.double (FP.l2d x1.toInt64))]) (rest := [(.ref b35)]) (lenOf pd__Lcom_example_formula_to_strategy_formulatostrategy_language_BinaryExpression_Operator_D_V rfl) rfl (by show 2 * 0 + _ ≤ _; exact Nat.le_of_eq rfl) (hb hby at_16) (fun _ _ => ⟨rfl, eq37, (by decide : 1 + 0 ≤ _), (by decide : 2 + 0 ≤ _)⟩)
    dsimp only [Pt.U, Pt.locs, Pt.cells, Pt.slots] at X39 l39 y39 z39 st39 hQ39
    subst l39 y39 z39
    obtain ⟨rfl, Nq39, Kq39, gE39, gR39, gT39⟩ := hQ39
    have N39 := Fr.app N37 Nq39
    have Z39 : n0 ≤ T39.heap.size := Nat.le_trans Z35 Kq39.1
    have K39 : Keep h0 T39.heap [] := Keep.trans K35 Kq39 (allS (Or.inr sz_b35) all0)
    have f40 := (f36.keep Kq39 (allS ge_b35 all0))
    obtain ⟨cq41, kq41, q41a, q41b, q41c⟩ := isOf hZ rfl gE39
    obtain ⟨_, _, ⟨T41, L41, kc41, ks41⟩, -, X41, ⟨Lc41, hQ41, l41, y41, z41⟩, st41⟩ := X39.virtualBack hx (y := (⟨"com/example/formula_to_strategy/formulatostrategy/language/Bound", "isLower", "()Z"⟩ : MethodName)) (z := (⟨"com/example/formula_to_strategy/formulatostrategy/language/Bound", "isLower", "()Z"⟩ : MethodName)) hown (mvT hZ (wd20 hw)) (mvT hZ (wd21 hw)) (notFace_of_selects (args := #[]) (mvT hZ (wd23 hw))) (mvT hZ (wd23 hw)) (mvT hZ (wd22 hw)) (by decide) (backOf (W := 0) (rmLow l Z a0 hw [] b35 wq wg wq (1 : Int32) T39.heap n0 Z39 gR39 (S_wg.ext f40.2) (S_wq.ext f40.2) (Or.inl ⟨Or.inl rfl, rfl⟩)) hZ (wd24 hw) (wd2 hw) (by decide) (by decide)) q41a q41c (g := (mkF m 23 #[.val (.int x0), .val (.int x1), .val (.int (3 : Int32)), .val (.double (FP.l2d x1.toInt64)), .second, .val (.ref b35), .unset, .unset, .unset, .unset] [(.ref b35)])) rfl (by rw [hml]; rfl) (Steps.refl _) (argsL := []) (rest := []) (lenOf pd___Z rfl) rfl (by show 2 * 0 + _ ≤ _; exact Nat.le_of_eq rfl) (hb hby at_23) (fun _ _ => ⟨rfl, rfl, (by decide : 1 + 0 ≤ _), (by decide : 2 + 0 ≤ _)⟩)
    dsimp only [Pt.U, Pt.locs, Pt.cells, Pt.slots] at X41 l41 y41 z41 st41 hQ41
    subst l41 y41 z41
    obtain ⟨rfl, Nq41, eq41⟩ := hQ41
    have N41 := Fr.app N39 Nq41
    obtain ⟨cq42, kq42, q42a, q42b, q42c⟩ := isOf hZ eq41 gE39
    obtain ⟨_, _, ⟨T42, L42, kc42, ks42⟩, -, X42, ⟨Lc42, hQ42, l42, y42, z42⟩, st42⟩ := X41.virtualBack hx (y := (⟨"com/example/formula_to_strategy/formulatostrategy/language/Bound", "holds", "(D)Z"⟩ : MethodName)) (z := (⟨"com/example/formula_to_strategy/formulatostrategy/language/Bound", "holds", "(D)Z"⟩ : MethodName)) hown (mvT hZ (wd29 hw)) (mvT hZ (wd30 hw)) (notFace_of_selects (args := #[]) (mvT hZ (wd32 hw))) (mvT hZ (wd32 hw)) (mvT hZ (wd31 hw)) (by decide) (backOf (W := 0) (rmHol l Z a0 hw [] b35 _ (x1.toInt64 + (1 : Int64)) x1.toInt64 wq am clm (9 : Int32) (1 : Int32) T39.heap n0 Z39 rfl gR39 gT39 (S_m.ext f40.2) (Ar.ext f40.2) (E_wq.ext f40.2) (O_wq.ext f40.2) hin9 hat9 (by decide) (own_b1 x1) (own_b2 x1)) hZ (wd33 hw) (wd2 hw) (by decide) (by decide)) q42a q42c (g := (mkF m 45 #[.val (.int x0), .val (.int x1), .val (.int (3 : Int32)), .val (.double (FP.l2d x1.toInt64)), .second, .val (.ref b35), .val (.int (1 : Int32)), .val (.int (1 : Int32)), .unset, .unset] [(.double (FP.l2d (x1.toInt64 + (1 : Int64)))), (.ref b35)])) rfl (by rw [hml]; rfl) (Steps.refl _) (argsL := [(.double (FP.l2d (x1.toInt64 + (1 : Int64))))]) (rest := []) (lenOf pd__D_Z rfl) rfl (by show 2 * 0 + _ ≤ _; exact Nat.le_of_eq rfl) (hb hby at_45) (fun _ _ => ⟨rfl, eq41, (by decide : 1 + 0 ≤ _), (by decide : 2 + 0 ≤ _)⟩)
    dsimp only [Pt.U, Pt.locs, Pt.cells, Pt.slots] at X42 l42 y42 z42 st42 hQ42
    subst l42 y42 z42
    obtain ⟨rfl, Nq42, eq42⟩ := hQ42
    have N42 := Fr.app N41 Nq42
    have k43 : ∀ t, Steps p.tables e below (T42.setTop (mkF m 48 #[.val (.int x0), .val (.int x1), .val (.int (3 : Int32)), .val (.double (FP.l2d x1.toInt64)), .second, .val (.ref b35), .val (.int (1 : Int32)), .val (.int (1 : Int32)), .unset, .unset] [(.int (own_holds (1 : Int32) (x1.toInt64 + (1 : Int64)) x1.toInt64))])) t → Steps p.tables e below (s₁.setTop (entryFrame m #[(.int x0), (.int x1)] maxLocals)) t := by
      intro t kt
      refine k38 t ?_
      show Steps p.tables e below (T37.setTop (mkF m 15 #[.val (.int x0), .val (.int x1), .val (.int (3 : Int32)), .val (.double (FP.l2d x1.toInt64)), .second, .unset, .unset, .unset, .unset, .unset] [(.ref wq), (.ref b35), (.ref b35)])) _
      refine XS.dloadN X37.here hx rfl (hb hby at_15) rfl ?_
      show Steps p.tables e below (T37.setTop (mkF m 16 #[.val (.int x0), .val (.int x1), .val (.int (3 : Int32)), .val (.double (FP.l2d x1.toInt64)), .second, .unset, .unset, .unset, .unset, .unset] [(.double (FP.l2d x1.toInt64)), (.ref wq), (.ref b35), (.ref b35)])) _
      refine st39.trans ?_
      show Steps p.tables e below (T39.setTop (mkF m 19 #[.val (.int x0), .val (.int x1), .val (.int (3 : Int32)), .val (.double (FP.l2d x1.toInt64)), .second, .unset, .unset, .unset, .unset, .unset] [(.ref b35)])) _
      refine XS.astore X39.here hx rfl (hb hby at_19) rfl rfl (l' := #[.val (.int x0), .val (.int x1), .val (.int (3 : Int32)), .val (.double (FP.l2d x1.toInt64)), .second, .val (.ref b35), .unset, .unset, .unset, .unset]) rfl ?_
      show Steps p.tables e below (T39.setTop (mkF m 21 #[.val (.int x0), .val (.int x1), .val (.int (3 : Int32)), .val (.double (FP.l2d x1.toInt64)), .second, .val (.ref b35), .unset, .unset, .unset, .unset] [])) _
      refine XS.aload X39.here hx rfl (hb hby at_21) rfl rfl ?_
      show Steps p.tables e below (T39.setTop (mkF m 23 #[.val (.int x0), .val (.int x1), .val (.int (3 : Int32)), .val (.double (FP.l2d x1.toInt64)), .second, .val (.ref b35), .unset, .unset, .unset, .unset] [(.ref b35)])) _
      refine st41.trans ?_
      show Steps p.tables e below (T41.setTop (mkF m 26 #[.val (.int x0), .val (.int x1), .val (.int (3 : Int32)), .val (.double (FP.l2d x1.toInt64)), .second, .val (.ref b35), .unset, .unset, .unset, .unset] [(.int (1 : Int32))])) _
      refine XS.istore X41.here hx rfl (hb hby at_26) rfl (l' := #[.val (.int x0), .val (.int x1), .val (.int (3 : Int32)), .val (.double (FP.l2d x1.toInt64)), .second, .val (.ref b35), .val (.int (1 : Int32)), .unset, .unset, .unset]) rfl ?_
      show Steps p.tables e below (T41.setTop (mkF m 28 #[.val (.int x0), .val (.int x1), .val (.int (3 : Int32)), .val (.double (FP.l2d x1.toInt64)), .second, .val (.ref b35), .val (.int (1 : Int32)), .unset, .unset, .unset] [])) _
      refine XS.iloadN X41.here hx rfl (hb hby at_28) rfl ?_
      show Steps p.tables e below (T41.setTop (mkF m 29 #[.val (.int x0), .val (.int x1), .val (.int (3 : Int32)), .val (.double (FP.l2d x1.toInt64)), .second, .val (.ref b35), .val (.int (1 : Int32)), .unset, .unset, .unset] [(.int (3 : Int32))])) _
      refine XS.iconst X41.here hx rfl (hb hby at_29) ?_
      show Steps p.tables e below (T41.setTop (mkF m 30 #[.val (.int x0), .val (.int x1), .val (.int (3 : Int32)), .val (.double (FP.l2d x1.toInt64)), .second, .val (.ref b35), .val (.int (1 : Int32)), .unset, .unset, .unset] [(.int (2 : Int32)), (.int (3 : Int32))])) _
      refine XS.icmpNo X41.here hx rfl (hb hby at_30) rfl (flt (by decide : ¬ ((3 : Int32) < (2 : Int32)))).1 ?_
      show Steps p.tables e below (T41.setTop (mkF m 33 #[.val (.int x0), .val (.int x1), .val (.int (3 : Int32)), .val (.double (FP.l2d x1.toInt64)), .second, .val (.ref b35), .val (.int (1 : Int32)), .unset, .unset, .unset] [])) _
      refine XS.iconst X41.here hx rfl (hb hby at_33) ?_
      show Steps p.tables e below (T41.setTop (mkF m 34 #[.val (.int x0), .val (.int x1), .val (.int (3 : Int32)), .val (.double (FP.l2d x1.toInt64)), .second, .val (.ref b35), .val (.int (1 : Int32)), .unset, .unset, .unset] [(.int (1 : Int32))])) _
      refine XS.goto X41.here hx rfl (pc0 := 34) (pc' := 38) rfl (hb hby at_34) (by decide) (by decide) ?_
      show Steps p.tables e below (T41.setTop (mkF m 38 #[.val (.int x0), .val (.int x1), .val (.int (3 : Int32)), .val (.double (FP.l2d x1.toInt64)), .second, .val (.ref b35), .val (.int (1 : Int32)), .unset, .unset, .unset] [(.int (1 : Int32))])) _
      refine XS.istore X41.here hx rfl (hb hby at_38) rfl (l' := #[.val (.int x0), .val (.int x1), .val (.int (3 : Int32)), .val (.double (FP.l2d x1.toInt64)), .second, .val (.ref b35), .val (.int (1 : Int32)), .val (.int (1 : Int32)), .unset, .unset]) rfl ?_
      show Steps p.tables e below (T41.setTop (mkF m 40 #[.val (.int x0), .val (.int x1), .val (.int (3 : Int32)), .val (.double (FP.l2d x1.toInt64)), .second, .val (.ref b35), .val (.int (1 : Int32)), .val (.int (1 : Int32)), .unset, .unset] [])) _
      refine XS.aload X41.here hx rfl (hb hby at_40) rfl rfl ?_
      show Steps p.tables e below (T41.setTop (mkF m 42 #[.val (.int x0), .val (.int x1), .val (.int (3 : Int32)), .val (.double (FP.l2d x1.toInt64)), .second, .val (.ref b35), .val (.int (1 : Int32)), .val (.int (1 : Int32)), .unset, .unset] [(.ref b35)])) _
      refine XS.dloadN X41.here hx rfl (hb hby at_42) rfl ?_
      show Steps p.tables e below (T41.setTop (mkF m 43 #[.val (.int x0), .val (.int x1), .val (.int (3 : Int32)), .val (.double (FP.l2d x1.toInt64)), .second, .val (.ref b35), .val (.int (1 : Int32)), .val (.int (1 : Int32)), .unset, .unset] [(.double (FP.l2d x1.toInt64)), (.ref b35)])) _
      refine XS.dconst1 X41.here hx rfl (hb hby at_43) (by decide +kernel : FP.dconst1 = FP.l2d 1) ?_
      show Steps p.tables e below (T41.setTop (mkF m 44 #[.val (.int x0), .val (.int x1), .val (.int (3 : Int32)), .val (.double (FP.l2d x1.toInt64)), .second, .val (.ref b35), .val (.int (1 : Int32)), .val (.int (1 : Int32)), .unset, .unset] [(.double (FP.l2d (1 : Int64))), (.double (FP.l2d x1.toInt64)), (.ref b35)])) _
      refine XS.daddS X41.here hx rfl (hb hby at_44) rfl (nn_w (dadd_w (own_b1 x1) (⟨by decide, by decide⟩ : B53 (1 : Int64)))) (dadd_w (own_b1 x1) (⟨by decide, by decide⟩ : B53 (1 : Int64))) ?_
      show Steps p.tables e below (T41.setTop (mkF m 45 #[.val (.int x0), .val (.int x1), .val (.int (3 : Int32)), .val (.double (FP.l2d x1.toInt64)), .second, .val (.ref b35), .val (.int (1 : Int32)), .val (.int (1 : Int32)), .unset, .unset] [(.double (FP.l2d (x1.toInt64 + (1 : Int64)))), (.ref b35)])) _
      refine st42.trans ?_
      exact kt
    rw [(by simp [own_holds, own_l1, own_l2, own_n1, own_n2] : (own_holds (1 : Int32) (x1.toInt64 + (1 : Int64)) x1.toInt64) = (1 : Int32))] at k43
    obtain ⟨cq44, kq44, q44a, q44b, q44c⟩ := isOf hZ eq42 gE39
    obtain ⟨_, _, ⟨T44, L44, kc44, ks44⟩, -, X44, ⟨Lc44, hQ44, l44, y44, z44⟩, st44⟩ := X42.virtualBack hx (y := (⟨"com/example/formula_to_strategy/formulatostrategy/language/Bound", "holds", "(D)Z"⟩ : MethodName)) (z := (⟨"com/example/formula_to_strategy/formulatostrategy/language/Bound", "holds", "(D)Z"⟩ : MethodName)) hown (mvT hZ (wd29 hw)) (mvT hZ (wd30 hw)) (notFace_of_selects (args := #[]) (mvT hZ (wd32 hw))) (mvT hZ (wd32 hw)) (mvT hZ (wd31 hw)) (by decide) (backOf (W := 0) (rmHol l Z a0 hw [] b35 _ (x1.toInt64 - (1 : Int64)) x1.toInt64 wq am clm (9 : Int32) (1 : Int32) T39.heap n0 Z39 rfl gR39 gT39 (S_m.ext f40.2) (Ar.ext f40.2) (E_wq.ext f40.2) (O_wq.ext f40.2) hin9 hat9 (by decide) (own_b1 x1) (own_b3 x1)) hZ (wd33 hw) (wd2 hw) (by decide) (by decide)) q44a q44c (g := (mkF m 55 #[.val (.int x0), .val (.int x1), .val (.int (3 : Int32)), .val (.double (FP.l2d x1.toInt64)), .second, .val (.ref b35), .val (.int (1 : Int32)), .val (.int (1 : Int32)), .val (.int (1 : Int32)), .unset] [(.double (FP.l2d (x1.toInt64 - (1 : Int64)))), (.ref b35)])) rfl (by rw [hml]; rfl) (Steps.refl _) (argsL := [(.double (FP.l2d (x1.toInt64 - (1 : Int64))))]) (rest := []) (lenOf pd__D_Z rfl) rfl (by show 2 * 0 + _ ≤ _; exact Nat.le_of_eq rfl) (hb hby at_55) (fun _ _ => ⟨rfl, eq42, (by decide : 1 + 0 ≤ _), (by decide : 2 + 0 ≤ _)⟩)
    dsimp only [Pt.U, Pt.locs, Pt.cells, Pt.slots] at X44 l44 y44 z44 st44 hQ44
    subst l44 y44 z44
    obtain ⟨rfl, Nq44, eq44⟩ := hQ44
    have N44 := Fr.app N42 Nq44
    have k45 : ∀ t, Steps p.tables e below (T44.setTop (mkF m 58 #[.val (.int x0), .val (.int x1), .val (.int (3 : Int32)), .val (.double (FP.l2d x1.toInt64)), .second, .val (.ref b35), .val (.int (1 : Int32)), .val (.int (1 : Int32)), .val (.int (1 : Int32)), .unset] [(.int (own_holds (1 : Int32) (x1.toInt64 - (1 : Int64)) x1.toInt64))])) t → Steps p.tables e below (s₁.setTop (entryFrame m #[(.int x0), (.int x1)] maxLocals)) t := by
      intro t kt
      refine k43 t ?_
      show Steps p.tables e below (T42.setTop (mkF m 48 #[.val (.int x0), .val (.int x1), .val (.int (3 : Int32)), .val (.double (FP.l2d x1.toInt64)), .second, .val (.ref b35), .val (.int (1 : Int32)), .val (.int (1 : Int32)), .unset, .unset] [(.int (1 : Int32))])) _
      refine XS.istore X42.here hx rfl (hb hby at_48) rfl (l' := #[.val (.int x0), .val (.int x1), .val (.int (3 : Int32)), .val (.double (FP.l2d x1.toInt64)), .second, .val (.ref b35), .val (.int (1 : Int32)), .val (.int (1 : Int32)), .val (.int (1 : Int32)), .unset]) rfl ?_
      show Steps p.tables e below (T42.setTop (mkF m 50 #[.val (.int x0), .val (.int x1), .val (.int (3 : Int32)), .val (.double (FP.l2d x1.toInt64)), .second, .val (.ref b35), .val (.int (1 : Int32)), .val (.int (1 : Int32)), .val (.int (1 : Int32)), .unset] [])) _
      refine XS.aload X42.here hx rfl (hb hby at_50) rfl rfl ?_
      show Steps p.tables e below (T42.setTop (mkF m 52 #[.val (.int x0), .val (.int x1), .val (.int (3 : Int32)), .val (.double (FP.l2d x1.toInt64)), .second, .val (.ref b35), .val (.int (1 : Int32)), .val (.int (1 : Int32)), .val (.int (1 : Int32)), .unset] [(.ref b35)])) _
      refine XS.dloadN X42.here hx rfl (hb hby at_52) rfl ?_
      show Steps p.tables e below (T42.setTop (mkF m 53 #[.val (.int x0), .val (.int x1), .val (.int (3 : Int32)), .val (.double (FP.l2d x1.toInt64)), .second, .val (.ref b35), .val (.int (1 : Int32)), .val (.int (1 : Int32)), .val (.int (1 : Int32)), .unset] [(.double (FP.l2d x1.toInt64)), (.ref b35)])) _
      refine XS.dconst1 X42.here hx rfl (hb hby at_53) (by decide +kernel : FP.dconst1 = FP.l2d 1) ?_
      show Steps p.tables e below (T42.setTop (mkF m 54 #[.val (.int x0), .val (.int x1), .val (.int (3 : Int32)), .val (.double (FP.l2d x1.toInt64)), .second, .val (.ref b35), .val (.int (1 : Int32)), .val (.int (1 : Int32)), .val (.int (1 : Int32)), .unset] [(.double (FP.l2d (1 : Int64))), (.double (FP.l2d x1.toInt64)), (.ref b35)])) _
      refine XS.dsubS X42.here hx rfl (hb hby at_54) rfl (nn_w (dsub_w (own_b1 x1) (⟨by decide, by decide⟩ : B53 (1 : Int64)))) (dsub_w (own_b1 x1) (⟨by decide, by decide⟩ : B53 (1 : Int64))) ?_
      show Steps p.tables e below (T42.setTop (mkF m 55 #[.val (.int x0), .val (.int x1), .val (.int (3 : Int32)), .val (.double (FP.l2d x1.toInt64)), .second, .val (.ref b35), .val (.int (1 : Int32)), .val (.int (1 : Int32)), .val (.int (1 : Int32)), .unset] [(.double (FP.l2d (x1.toInt64 - (1 : Int64)))), (.ref b35)])) _
      refine st44.trans ?_
      exact kt
    rw [(by simp [own_holds, own_l1, own_l2, own_n1, own_n2] : (own_holds (1 : Int32) (x1.toInt64 - (1 : Int64)) x1.toInt64) = (0 : Int32))] at k45
    obtain ⟨lfs, lhr, lhrun, lhended, lhW, lhsame⟩ := X44.leave (v := some (.int (1 : Int32))) (fun h => by rw [Bd.returns] at h; cases h)
    refine ⟨_, _, k45 _ ?_, lhrun, lhended, _, _, rfl, ?_, ⟨_, rfl⟩, lhW, lhsame.mono (by decide) (by decide)⟩
    · skip
      show Steps p.tables e below (T44.setTop (mkF m 58 #[.val (.int x0), .val (.int x1), .val (.int (3 : Int32)), .val (.double (FP.l2d x1.toInt64)), .second, .val (.ref b35), .val (.int (1 : Int32)), .val (.int (1 : Int32)), .val (.int (1 : Int32)), .unset] [(.int (0 : Int32))])) _
      refine XS.istore X44.here hx rfl (hb hby at_58) rfl (l' := #[.val (.int x0), .val (.int x1), .val (.int (3 : Int32)), .val (.double (FP.l2d x1.toInt64)), .second, .val (.ref b35), .val (.int (1 : Int32)), .val (.int (1 : Int32)), .val (.int (1 : Int32)), .val (.int (0 : Int32))]) rfl ?_
      show Steps p.tables e below (T44.setTop (mkF m 60 #[.val (.int x0), .val (.int x1), .val (.int (3 : Int32)), .val (.double (FP.l2d x1.toInt64)), .second, .val (.ref b35), .val (.int (1 : Int32)), .val (.int (1 : Int32)), .val (.int (1 : Int32)), .val (.int (0 : Int32))] [])) _
      refine XS.iload X44.here hx rfl (hb hby at_60) rfl ?_
      show Steps p.tables e below (T44.setTop (mkF m 62 #[.val (.int x0), .val (.int x1), .val (.int (3 : Int32)), .val (.double (FP.l2d x1.toInt64)), .second, .val (.ref b35), .val (.int (1 : Int32)), .val (.int (1 : Int32)), .val (.int (1 : Int32)), .val (.int (0 : Int32))] [(.int (1 : Int32))])) _
      refine XS.iload X44.here hx rfl (hb hby at_62) rfl ?_
      show Steps p.tables e below (T44.setTop (mkF m 64 #[.val (.int x0), .val (.int x1), .val (.int (3 : Int32)), .val (.double (FP.l2d x1.toInt64)), .second, .val (.ref b35), .val (.int (1 : Int32)), .val (.int (1 : Int32)), .val (.int (1 : Int32)), .val (.int (0 : Int32))] [(.int (1 : Int32)), (.int (1 : Int32))])) _
      refine XS.icmpNo X44.here hx rfl (hb hby at_64) rfl (teq (by decide : (1 : Int32) = (1 : Int32))).2 ?_
      show Steps p.tables e below (T44.setTop (mkF m 67 #[.val (.int x0), .val (.int x1), .val (.int (3 : Int32)), .val (.double (FP.l2d x1.toInt64)), .second, .val (.ref b35), .val (.int (1 : Int32)), .val (.int (1 : Int32)), .val (.int (1 : Int32)), .val (.int (0 : Int32))] [])) _
      refine XS.iload X44.here hx rfl (hb hby at_67) rfl ?_
      show Steps p.tables e below (T44.setTop (mkF m 69 #[.val (.int x0), .val (.int x1), .val (.int (3 : Int32)), .val (.double (FP.l2d x1.toInt64)), .second, .val (.ref b35), .val (.int (1 : Int32)), .val (.int (1 : Int32)), .val (.int (1 : Int32)), .val (.int (0 : Int32))] [(.int (1 : Int32))])) _
      refine XS.iload X44.here hx rfl (hb hby at_69) rfl ?_
      show Steps p.tables e below (T44.setTop (mkF m 71 #[.val (.int x0), .val (.int x1), .val (.int (3 : Int32)), .val (.double (FP.l2d x1.toInt64)), .second, .val (.ref b35), .val (.int (1 : Int32)), .val (.int (1 : Int32)), .val (.int (1 : Int32)), .val (.int (0 : Int32))] [(.int (1 : Int32)), (.int (1 : Int32))])) _
      refine XS.icmpNo X44.here hx rfl (hb hby at_71) rfl (teq (by decide : (1 : Int32) = (1 : Int32))).2 ?_
      show Steps p.tables e below (T44.setTop (mkF m 74 #[.val (.int x0), .val (.int x1), .val (.int (3 : Int32)), .val (.double (FP.l2d x1.toInt64)), .second, .val (.ref b35), .val (.int (1 : Int32)), .val (.int (1 : Int32)), .val (.int (1 : Int32)), .val (.int (0 : Int32))] [])) _
      refine XS.iload X44.here hx rfl (hb hby at_74) rfl ?_
      show Steps p.tables e below (T44.setTop (mkF m 76 #[.val (.int x0), .val (.int x1), .val (.int (3 : Int32)), .val (.double (FP.l2d x1.toInt64)), .second, .val (.ref b35), .val (.int (1 : Int32)), .val (.int (1 : Int32)), .val (.int (1 : Int32)), .val (.int (0 : Int32))] [(.int (1 : Int32))])) _
      refine XS.iload X44.here hx rfl (hb hby at_76) rfl ?_
      show Steps p.tables e below (T44.setTop (mkF m 78 #[.val (.int x0), .val (.int x1), .val (.int (3 : Int32)), .val (.double (FP.l2d x1.toInt64)), .second, .val (.ref b35), .val (.int (1 : Int32)), .val (.int (1 : Int32)), .val (.int (1 : Int32)), .val (.int (0 : Int32))] [(.int (0 : Int32)), (.int (1 : Int32))])) _
      refine XS.icmpNo X44.here hx rfl (hb hby at_78) rfl (feq (by decide : ¬ ((1 : Int32) = (0 : Int32)))).1 ?_
      show Steps p.tables e below (T44.setTop (mkF m 81 #[.val (.int x0), .val (.int x1), .val (.int (3 : Int32)), .val (.double (FP.l2d x1.toInt64)), .second, .val (.ref b35), .val (.int (1 : Int32)), .val (.int (1 : Int32)), .val (.int (1 : Int32)), .val (.int (0 : Int32))] [])) _
      refine XS.iconst X44.here hx rfl (hb hby at_81) ?_
      show Steps p.tables e below (T44.setTop (mkF m 82 #[.val (.int x0), .val (.int x1), .val (.int (3 : Int32)), .val (.double (FP.l2d x1.toInt64)), .second, .val (.ref b35), .val (.int (1 : Int32)), .val (.int (1 : Int32)), .val (.int (1 : Int32)), .val (.int (0 : Int32))] [(.int (1 : Int32))])) _
      refine XS.goto X44.here hx rfl (pc0 := 82) (pc' := 86) rfl (hb hby at_82) (by decide) (by decide) ?_
      show Steps p.tables e below (T44.setTop (mkF m 86 #[.val (.int x0), .val (.int x1), .val (.int (3 : Int32)), .val (.double (FP.l2d x1.toInt64)), .second, .val (.ref b35), .val (.int (1 : Int32)), .val (.int (1 : Int32)), .val (.int (1 : Int32)), .val (.int (0 : Int32))] [(.int (1 : Int32))])) _
      exact retN X44 hx (t := .boolean) Bd.returns (by simp) (hb hby at_86) lhr
    · skip
      show Q0 Z x0 x1 wl we wg wq am clm h0 n0 _ T44.heap _
      rw [eq44]
      exact ⟨rfl, N44⟩
set_option maxRecDepth 65536 in
set_option maxHeartbeats 40000000 in
theorem comes_1 {Post : Tables → Env → Array Value → State → Outcome → State → Prop} (hpost : ∀ tb e args s v u, (limb_1_1.after args s (.returned v) u = true ∧ limb_1_2.after args s (.returned v) u = true ∧ True) → FrameEnd s (.returned v) u (Jvm.fieldLocs frame_1_writes args s ++ Jvm.arrayLocs frame_1_arrays args s ++ Jvm.staticLocs frame_1_statics s) 16 128 → Post tb e args s (.returned v) u) :
    ArmFor flags0 classFile x code maxLocals ret World_1 tables_1 room_1 Calls_1 rest_1 Pre_1 Post := by
  intro l hfl _ _ p e ha hc hk s m args below hf hA hF happ hP
  obtain ⟨hcalls, hrest, hpre⟩ := hP
  obtain ⟨-, -, -, hnamed, -, -, -, hat⟩ := (Spec.applies_iff hf).mp happ
  obtain ⟨hg, hn⟩ := and_e (Cond.before_iff.mp (show (Jvm.Cond.and given_1 narrow_1).before args s = true from hpre))
  obtain ⟨g1a, g1b⟩ := and_e hg
  obtain ⟨g2a, g2b⟩ := and_e g1b
  obtain ⟨u3a, u3b⟩ := and_e hn
  obtain ⟨u4a, u4b⟩ := and_e u3b
  obtain ⟨u5a, u5b⟩ := and_e u4b
  obtain ⟨u6a, u6b⟩ := and_e u5b
  obtain ⟨u7a, u7b⟩ := and_e u6b
  obtain ⟨u8a, u8b⟩ := and_e u7b
  obtain ⟨u9a, u9b⟩ := and_e u8b
  obtain ⟨u10a, u10b⟩ := and_e u9b
  obtain ⟨u11a, u11b⟩ := and_e u10b
  obtain ⟨u12a, u12b⟩ := and_e u11b
  obtain ⟨u13a, u13b⟩ := and_e u12b
  obtain ⟨u14a, u14b⟩ := and_e u13b
  obtain ⟨u15a, u15b⟩ := and_e u14b
  obtain ⟨u16a, u16b⟩ := and_e u15b
  obtain ⟨u17a, u17b⟩ := and_e u16b
  obtain ⟨w0, w1, rfl⟩ : ∃ w0 w1 : Value, args = #[w0, w1] := by
    have hs : args.size = 2 := by simpa [Cond.value, given_1] using g1a
    obtain ⟨L⟩ := args
    match L, hs with
    | [w0, w1], _ => exact ⟨w0, w1, rfl⟩
  have hw := fun d (hd : d ∈ tables_1) => atoms_spec (ws := Jvm.Cond.code x code maxLocals ret :: tables_1) hat d (List.mem_cons_of_mem _ hd)
  have hfit : Fit s := fun {y c} hc i hi => by
    obtain ⟨ha, rfl⟩ := Array.getElem?_eq_some_iff.mp hc
    have q := List.all_eq_true.mp ((Array.all_eq_true_iff_forall_mem.mp hF) _ (Array.getElem_mem ha)) i (List.mem_range.mpr hi)
    simpa [Array.getElem?_eq_getElem hi] using q
  obtain ⟨i0, ei0⟩ := is_v g2a
  obtain rfl : w0 = (.int i0) := Option.some.inj ei0
  obtain ⟨i1, ei1⟩ := is_v g2b
  obtain rfl : w1 = (.int i1) := Option.some.inj ei1
  obtain ⟨wl, ev_wl⟩ := exa_v u3a
  have O_wl := own_fldInt ev_wl u5a
  have S_wl := Sta.start ev_wl (Or.inr ⟨(wd8 hw), (wd9 hw)⟩)
  have E_wl := Exa.start ev_wl u3a
  obtain ⟨we, ev_we⟩ := exa_v u11a
  have O_we := own_fldInt ev_we u12a
  have S_we := Sta.start ev_we (Or.inr ⟨(wd8 hw), (wd48 hw)⟩)
  have E_we := Exa.start ev_we u11a
  obtain ⟨wg, ev_wg⟩ := exa_v u7a
  have O_wg := own_fldInt ev_wg u8a
  have S_wg := Sta.start ev_wg (Or.inr ⟨(wd8 hw), (wd28 hw)⟩)
  have E_wg := Exa.start ev_wg u7a
  obtain ⟨wq, ev_wq⟩ := exa_v u4a
  have O_wq := own_fldInt ev_wq u6a
  have S_wq := Sta.start ev_wq (Or.inr ⟨(wd8 hw), (wd26 hw)⟩)
  have E_wq := Exa.start ev_wq u4a
  obtain ⟨am, ev_m⟩ := arr_v u9a
  have S_m := Sta.start ev_m (Or.inr ⟨(wd35 hw), (wd36 hw)⟩)
  obtain ⟨clm, Ar⟩ := Arr.start ev_m u9a
  obtain ⟨hin6, hat6⟩ := elem_in (own_evInt u14a) ev_m (Term.int_eval (6)) Ar.1
  obtain ⟨hin7, hat7⟩ := elem_in (own_evInt u15a) ev_m (Term.int_eval (7)) Ar.1
  obtain ⟨hin8, hat8⟩ := elem_in (own_evInt u16a) ev_m (Term.int_eval (8)) Ar.1
  obtain ⟨hin9, hat9⟩ := elem_in (own_evInt u17a) ev_m (Term.int_eval (9)) Ar.1
  obtain ⟨n, o, h1, h2, h3, _, L, rfl, ⟨rfl, N⟩, hq⟩ := rm0 l s _ hw tables_1 i0 i1 wl we wg wq am clm s.heap s.heap.size (Nat.le_refl _) (Old.start s) S_wl S_we S_wg S_wq E_wl E_we E_wg E_wq O_wl O_we O_wg O_wq S_m Ar hin6 hin7 hin8 hin9 hat6 hat7 hat8 hat9 p e ha hc hk s m _ below hf ((Spec.applies_iff_loose hf).mp happ).1 ⟨rfl, State.Warmed39.refl s, rfl⟩ trivial
  refine ⟨n, _, h1, h2, h3, hpost _ _ _ _ _ _ ⟨Cond.after_iff.mpr rfl, Cond.after_iff.mpr (eq_i res_at (Term.int_eval (1)) rfl), trivial⟩ ⟨hq.1, hq.2.1, (hq.2.2.sift fun y hy => Or.inr (N y hy)).mono (by decide) (by decide)⟩⟩
theorem main_1_1 : Claimed_1_1 := comes_1 fun _ _ _ _ _ _ h hF => ⟨h.1, hF⟩
theorem main_1_2 : Claimed_1_2 := comes_1 fun _ _ _ _ _ _ h hF => ⟨h.2.1, hF⟩
end Jvm.Pilot.@@N@@
namespace Jvm.Pilot.@@N@@
open Jvm Jvm.ClassFile Sem Op Lib Jvm.Free Jvm.Stand Jvm.Pilot.@@N@@.Jvm.D
/-! MADE BY PROGRAM (witnessworld.py) out of the Statement's table words and the real class files: 14 classes; the members and pool entries that the words name. The judged class is class 1, her method 2. -/
namespace start1
open Jvm.ClassFile
def u (s : String) : CpInfo := .utf8 (stringToUtf16 s)
/-- a pool by its gaps: so many unusable entries, then the entry; so many at the end -/
def gap : Nat → List CpInfo → List CpInfo
  | 0, r => r
  | n + 1, r => .unusable :: gap n r
def poolList (es : List (Nat × CpInfo)) (last : Nat) : List CpInfo := es.foldr (fun e r => gap e.1 (e.2 :: r)) (gap last [])
def pool (es : List (Nat × CpInfo)) (last : Nat) : Array CpInfo := ⟨poolList es last⟩
def fileOf (pool : Array CpInfo) (this : Nat) (attrs : Array Attribute := #[]) (ms : Array MethodInfo := #[]) (fl : Nat := 33) (sup : Nat := 0) (ifs : Array Nat := #[]) (fds : Array FieldInfo := #[]) : ClassFile where
  minorVersion := 0
  majorVersion := 65
  constantPool := pool
  accessFlags := fl
  thisClass := this
  superClass := sup
  interfaces := ifs
  fields := fds
  methods := ms
  attributes := attrs
def plain (name : String) (sup : Option ClassId) : Class where
  name := name
  kind := .ordinary
  loader := none
  accessFlags := 33
  super := sup
  interfaces := #[]
  cf := none
  fields := #[]
  methods := #[]
  instanceTypes := #[]
  staticTypes := #[]
  resolved := #[]
  callSites := []
  init := .initialized
  statics := none
  mirror := none

def pool0 : Array CpInfo := pool [(5, u "<init>"), (0, u "()V"), (1, .class_ 10), (1, u "java/lang/Object")] 113

def k0c0 : Code := { maxStack := 0, maxLocals := 1, code := object_method_1_code, exceptionTable := #[], attributes := #[] }
def k0m0 : Method := { name := "<init>", desc := "()V", sig := { parameters := [], returnType := none }, accessFlags := 1, code := some k0c0 }
/-- java/lang/Object -/
def k0 : Class := { plain "java/lang/Object" none with
  accessFlags := 33
  interfaces := #[]
  cf := some (fileOf pool0 8 #[] #[{ accessFlags := 1, nameIndex := 5, descriptorIndex := 6, attributes := #[] }] 33 0 #[] #[])
  fields := #[]
  methods := #[k0m0]
  instanceTypes := #[]
  staticTypes := #[]
  resolved := Array.replicate 124 none
  statics := none }

def pool1 : Array CpInfo := pool [(2, .class_ 4), (1, u "java/lang/Object"), (0, u "<init>"), (0, u "()V"), (0, .fieldref 8 9), (0, .class_ 10), (0, .nameAndType 11 12), (0, u "com/example/formula_to_strategy/formulatostrategy/language/BinaryExpression$Operator"), (0, u "LESS"), (0, u "Lcom/example/formula_to_strategy/formulatostrategy/language/BinaryExpression$Operator;"), (0, .fieldref 8 14), (0, .nameAndType 15 12), (0, u "LESS_EQUAL"), (0, .fieldref 8 17), (0, .nameAndType 18 12), (0, u "GREATER"), (0, .fieldref 8 20), (0, .nameAndType 21 12), (0, u "GREATER_EQUAL"), (0, .class_ 23), (0, u "com/example/formula_to_strategy/formulatostrategy/language/Bound"), (0, .methodref 25 26), (0, .class_ 27), (0, .nameAndType 28 29), (0, u "com/example/formula_to_strategy/formulatostrategy/language/BoundIsLowerPinLaw"), (0, u "relation"), (0, u "(I)Lcom/example/formula_to_strategy/formulatostrategy/language/BinaryExpression$Operator;"), (0, .methodref 22 31), (0, .nameAndType 5 32), (0, u "(Lcom/example/formula_to_strategy/formulatostrategy/language/BinaryExpression$Operator;D)V"), (0, .methodref 22 34), (0, .nameAndType 35 36), (0, u "isLower"), (0, u "()Z"), (0, .methodref 22 38), (0, .nameAndType 39 40), (0, u "holds"), (0, u "(D)Z"), (3, u "law"), (0, u "(II)Z")] 6

def k1m0 : Method := { name := "<init>", desc := "()V", sig := { parameters := [], returnType := none }, accessFlags := 2, code := none }
def k1c1 : Code := { maxStack := 2, maxLocals := 1, code := method_2_code, exceptionTable := #[], attributes := #[] }
def k1m1 : Method := { name := "relation", desc := "(I)Lcom/example/formula_to_strategy/formulatostrategy/language/BinaryExpression$Operator;", sig := { parameters := [.int], returnType := some (.object "com/example/formula_to_strategy/formulatostrategy/language/BinaryExpression$Operator") }, accessFlags := 10, code := some k1c1 }
def k1c2 : Code := { maxStack := 5, maxLocals := 10, code := code, exceptionTable := #[], attributes := #[] }
def k1m2 : Method := { name := "law", desc := "(II)Z", sig := { parameters := [.int, .int], returnType := some .boolean }, accessFlags := 9, code := some k1c2 }
/-- com/example/formula_to_strategy/formulatostrategy/language/BoundIsLowerPinLaw -/
def k1 : Class := { plain "com/example/formula_to_strategy/formulatostrategy/language/BoundIsLowerPinLaw" (some 0) with
  accessFlags := 49
  interfaces := #[]
  cf := some (fileOf pool1 25 #[] #[{ accessFlags := 2, nameIndex := 5, descriptorIndex := 6, attributes := #[] }, { accessFlags := 10, nameIndex := 28, descriptorIndex := 29, attributes := #[] }, { accessFlags := 9, nameIndex := 44, descriptorIndex := 45, attributes := #[] }] 49 2 #[] #[])
  fields := #[]
  methods := #[k1m0, k1m1, k1m2]
  instanceTypes := #[]
  staticTypes := #[]
  resolved := Array.replicate 52 none
  statics := none }

def pool2 : Array CpInfo := pool [(1, .methodref 2 3), (0, .class_ 4), (0, .nameAndType 5 6), (0, u "java/lang/Object"), (0, u "<init>"), (0, u "()V"), (0, .fieldref 8 9), (0, .class_ 10), (0, .nameAndType 11 12), (0, u "com/example/formula_to_strategy/formulatostrategy/language/Bound"), (0, u "relation"), (0, u "Lcom/example/formula_to_strategy/formulatostrategy/language/BinaryExpression$Operator;"), (0, .fieldref 8 14), (0, .nameAndType 15 16), (0, u "threshold"), (0, u "D"), (0, .fieldref 18 19), (0, .class_ 20), (0, .nameAndType 21 12), (0, u "com/example/formula_to_strategy/formulatostrategy/language/BinaryExpression$Operator"), (0, u "GREATER_EQUAL"), (0, .fieldref 18 23), (0, .nameAndType 24 12), (0, u "GREATER"), (3, .fieldref 29 30), (0, .class_ 31), (0, .nameAndType 32 33), (0, u "com/example/formula_to_strategy/formulatostrategy/language/Bound$1"), (0, u "$SwitchMap$com$example$formula_to_strategy$formulatostrategy$language$BinaryExpression$Operator"), (0, u "[I"), (0, .methodref 18 35), (0, .nameAndType 36 37), (0, u "ordinal"), (0, u "()I"), (28, u "(Lcom/example/formula_to_strategy/formulatostrategy/language/BinaryExpression$Operator;D)V"), (2, u "isLower"), (0, u "()Z"), (3, u "holds"), (0, u "(D)Z")] 24

def k2c0 : Code := { maxStack := 3, maxLocals := 4, code := prog_28_method_1_code, exceptionTable := #[], attributes := #[] }
def k2m0 : Method := { name := "<init>", desc := "(Lcom/example/formula_to_strategy/formulatostrategy/language/BinaryExpression$Operator;D)V", sig := { parameters := [(.object "com/example/formula_to_strategy/formulatostrategy/language/BinaryExpression$Operator"), .double], returnType := none }, accessFlags := 0, code := some k2c0 }
def k2c1 : Code := { maxStack := 2, maxLocals := 1, code := prog_28_method_2_code, exceptionTable := #[], attributes := #[] }
def k2m1 : Method := { name := "isLower", desc := "()Z", sig := { parameters := [], returnType := some .boolean }, accessFlags := 1, code := some k2c1 }
def k2c2 : Code := { maxStack := 4, maxLocals := 3, code := prog_28_method_5_code, exceptionTable := #[], attributes := #[] }
def k2m2 : Method := { name := "holds", desc := "(D)Z", sig := { parameters := [.double], returnType := some .boolean }, accessFlags := 1, code := some k2c2 }
/-- com/example/formula_to_strategy/formulatostrategy/language/Bound -/
def k2 : Class := { plain "com/example/formula_to_strategy/formulatostrategy/language/Bound" (some 0) with
  accessFlags := 49
  interfaces := #[]
  cf := some (fileOf pool2 8 #[.nestMembers #[29]] #[{ accessFlags := 0, nameIndex := 5, descriptorIndex := 66, attributes := #[] }, { accessFlags := 1, nameIndex := 69, descriptorIndex := 70, attributes := #[] }, { accessFlags := 1, nameIndex := 74, descriptorIndex := 75, attributes := #[] }] 49 2 #[] #[{ accessFlags := 18, nameIndex := 11, descriptorIndex := 12, attributes := #[] }, { accessFlags := 18, nameIndex := 15, descriptorIndex := 16, attributes := #[] }])
  fields := #[{ name := "relation", type := (.object "com/example/formula_to_strategy/formulatostrategy/language/BinaryExpression$Operator"), accessFlags := 18, slot := 0, constantValue := 0 }, { name := "threshold", type := .double, accessFlags := 18, slot := 1, constantValue := 0 }]
  methods := #[k2m0, k2m1, k2m2]
  instanceTypes := #[(.object "com/example/formula_to_strategy/formulatostrategy/language/BinaryExpression$Operator"), .double]
  staticTypes := #[]
  resolved := Array.replicate 100 none
  statics := none }

def pool3 : Array CpInfo := pool [(1, .class_ 2), (0, u "java/lang/constant/Constable"), (0, .class_ 4), (0, u "java/lang/Object")] 6

/-- java/lang/constant/Constable -/
def k3 : Class := { plain "java/lang/constant/Constable" (some 0) with
  accessFlags := 1537
  interfaces := #[]
  cf := some (fileOf pool3 1 #[] #[] 1537 3 #[] #[])
  fields := #[]
  methods := #[]
  instanceTypes := #[]
  staticTypes := #[]
  resolved := Array.replicate 11 none
  statics := none }

def pool4 : Array CpInfo := pool [(1, .class_ 2), (0, u "java/lang/Comparable"), (0, .class_ 4), (0, u "java/lang/Object")] 7

/-- java/lang/Comparable -/
def k4 : Class := { plain "java/lang/Comparable" (some 0) with
  accessFlags := 1537
  interfaces := #[]
  cf := some (fileOf pool4 1 #[] #[] 1537 3 #[] #[])
  fields := #[]
  methods := #[]
  instanceTypes := #[]
  staticTypes := #[]
  resolved := Array.replicate 12 none
  statics := none }

def pool5 : Array CpInfo := pool [(1, .class_ 2), (0, u "java/io/Serializable"), (0, .class_ 4), (0, u "java/lang/Object")] 2

/-- java/io/Serializable -/
def k5 : Class := { plain "java/io/Serializable" (some 0) with
  accessFlags := 1537
  interfaces := #[]
  cf := some (fileOf pool5 1 #[] #[] 1537 3 #[] #[])
  fields := #[]
  methods := #[]
  instanceTypes := #[]
  staticTypes := #[]
  resolved := Array.replicate 7 none
  statics := none }

def pool6 : Array CpInfo := pool [(2, .class_ 4), (1, u "java/lang/Enum"), (0, u "name"), (0, u "Ljava/lang/String;"), (0, .fieldref 2 8), (0, .nameAndType 9 10), (0, u "ordinal"), (0, u "I"), (1, .class_ 14), (1, u "java/lang/Object"), (4, u "hash"), (86, .class_ 108), (1, u "java/lang/Enum$EnumDesc"), (2, .class_ 112), (0, u "java/lang/constant/Constable"), (0, .class_ 114), (0, u "java/lang/Comparable"), (0, .class_ 116), (0, u "java/io/Serializable"), (9, u "()I")] 77

def k6c0 : Code := { maxStack := 1, maxLocals := 1, code := jdk_37_method_2_code, exceptionTable := #[], attributes := #[] }
def k6m0 : Method := { name := "ordinal", desc := "()I", sig := { parameters := [], returnType := some .int }, accessFlags := 17, code := some k6c0 }
/-- java/lang/Enum -/
def k6 : Class := { plain "java/lang/Enum" (some 0) with
  accessFlags := 1057
  interfaces := #[3, 4, 5]
  cf := some (fileOf pool6 2 #[.nestMembers #[106]] #[{ accessFlags := 17, nameIndex := 9, descriptorIndex := 126, attributes := #[] }] 1057 12 #[111, 113, 115] #[{ accessFlags := 18, nameIndex := 5, descriptorIndex := 6, attributes := #[] }, { accessFlags := 18, nameIndex := 9, descriptorIndex := 10, attributes := #[] }, { accessFlags := 2, nameIndex := 19, descriptorIndex := 10, attributes := #[] }])
  fields := #[{ name := "name", type := (.object "java/lang/String"), accessFlags := 18, slot := 0, constantValue := 0 }, { name := "ordinal", type := .int, accessFlags := 18, slot := 1, constantValue := 0 }, { name := "hash", type := .int, accessFlags := 2, slot := 2, constantValue := 0 }]
  methods := #[k6m0]
  instanceTypes := #[(.object "java/lang/String"), .int, .int]
  staticTypes := #[]
  resolved := Array.replicate 204 none
  statics := none }

def pool7 : Array CpInfo := pool [(1, .class_ 2), (0, u "com/example/formula_to_strategy/formulatostrategy/language/BinaryExpression$Operator"), (2, u "IMPLIES"), (0, u "Lcom/example/formula_to_strategy/formulatostrategy/language/BinaryExpression$Operator;"), (2, u "IFF"), (2, u "OR"), (2, u "AND"), (2, u "EQUAL"), (2, u "NOT_EQUAL"), (2, u "LESS"), (2, u "LESS_EQUAL"), (2, u "GREATER"), (2, u "GREATER_EQUAL"), (2, u "PLUS"), (2, u "MINUS"), (2, u "TIMES"), (2, u "DIVIDE"), (2, u "$VALUES"), (0, u "[Lcom/example/formula_to_strategy/formulatostrategy/language/BinaryExpression$Operator;"), (6, .class_ 58), (1, u "java/lang/Enum"), (8, u "symbol"), (0, u "Ljava/lang/String;"), (63, .class_ 133), (0, u "com/example/formula_to_strategy/formulatostrategy/language/BinaryExpression")] 2

/-- com/example/formula_to_strategy/formulatostrategy/language/BinaryExpression$Operator -/
def k7 : Class := { plain "com/example/formula_to_strategy/formulatostrategy/language/BinaryExpression$Operator" (some 6) with
  accessFlags := 16432
  interfaces := #[]
  cf := some (fileOf pool7 1 #[.nestHost 132] #[] 16432 56 #[] #[{ accessFlags := 16409, nameIndex := 5, descriptorIndex := 6, attributes := #[] }, { accessFlags := 16409, nameIndex := 9, descriptorIndex := 6, attributes := #[] }, { accessFlags := 16409, nameIndex := 12, descriptorIndex := 6, attributes := #[] }, { accessFlags := 16409, nameIndex := 15, descriptorIndex := 6, attributes := #[] }, { accessFlags := 16409, nameIndex := 18, descriptorIndex := 6, attributes := #[] }, { accessFlags := 16409, nameIndex := 21, descriptorIndex := 6, attributes := #[] }, { accessFlags := 16409, nameIndex := 24, descriptorIndex := 6, attributes := #[] }, { accessFlags := 16409, nameIndex := 27, descriptorIndex := 6, attributes := #[] }, { accessFlags := 16409, nameIndex := 30, descriptorIndex := 6, attributes := #[] }, { accessFlags := 16409, nameIndex := 33, descriptorIndex := 6, attributes := #[] }, { accessFlags := 16409, nameIndex := 36, descriptorIndex := 6, attributes := #[] }, { accessFlags := 16409, nameIndex := 39, descriptorIndex := 6, attributes := #[] }, { accessFlags := 16409, nameIndex := 42, descriptorIndex := 6, attributes := #[] }, { accessFlags := 16409, nameIndex := 45, descriptorIndex := 6, attributes := #[] }, { accessFlags := 18, nameIndex := 67, descriptorIndex := 68, attributes := #[] }, { accessFlags := 4122, nameIndex := 48, descriptorIndex := 49, attributes := #[] }])
  fields := #[{ name := "IMPLIES", type := (.object "com/example/formula_to_strategy/formulatostrategy/language/BinaryExpression$Operator"), accessFlags := 16409, slot := 0, constantValue := 0 }, { name := "IFF", type := (.object "com/example/formula_to_strategy/formulatostrategy/language/BinaryExpression$Operator"), accessFlags := 16409, slot := 1, constantValue := 0 }, { name := "OR", type := (.object "com/example/formula_to_strategy/formulatostrategy/language/BinaryExpression$Operator"), accessFlags := 16409, slot := 2, constantValue := 0 }, { name := "AND", type := (.object "com/example/formula_to_strategy/formulatostrategy/language/BinaryExpression$Operator"), accessFlags := 16409, slot := 3, constantValue := 0 }, { name := "EQUAL", type := (.object "com/example/formula_to_strategy/formulatostrategy/language/BinaryExpression$Operator"), accessFlags := 16409, slot := 4, constantValue := 0 }, { name := "NOT_EQUAL", type := (.object "com/example/formula_to_strategy/formulatostrategy/language/BinaryExpression$Operator"), accessFlags := 16409, slot := 5, constantValue := 0 }, { name := "LESS", type := (.object "com/example/formula_to_strategy/formulatostrategy/language/BinaryExpression$Operator"), accessFlags := 16409, slot := 6, constantValue := 0 }, { name := "LESS_EQUAL", type := (.object "com/example/formula_to_strategy/formulatostrategy/language/BinaryExpression$Operator"), accessFlags := 16409, slot := 7, constantValue := 0 }, { name := "GREATER", type := (.object "com/example/formula_to_strategy/formulatostrategy/language/BinaryExpression$Operator"), accessFlags := 16409, slot := 8, constantValue := 0 }, { name := "GREATER_EQUAL", type := (.object "com/example/formula_to_strategy/formulatostrategy/language/BinaryExpression$Operator"), accessFlags := 16409, slot := 9, constantValue := 0 }, { name := "PLUS", type := (.object "com/example/formula_to_strategy/formulatostrategy/language/BinaryExpression$Operator"), accessFlags := 16409, slot := 10, constantValue := 0 }, { name := "MINUS", type := (.object "com/example/formula_to_strategy/formulatostrategy/language/BinaryExpression$Operator"), accessFlags := 16409, slot := 11, constantValue := 0 }, { name := "TIMES", type := (.object "com/example/formula_to_strategy/formulatostrategy/language/BinaryExpression$Operator"), accessFlags := 16409, slot := 12, constantValue := 0 }, { name := "DIVIDE", type := (.object "com/example/formula_to_strategy/formulatostrategy/language/BinaryExpression$Operator"), accessFlags := 16409, slot := 13, constantValue := 0 }, { name := "symbol", type := (.object "java/lang/String"), accessFlags := 18, slot := 3, constantValue := 0 }, { name := "$VALUES", type := (.array (.object "com/example/formula_to_strategy/formulatostrategy/language/BinaryExpression$Operator")), accessFlags := 4122, slot := 14, constantValue := 0 }]
  methods := #[]
  instanceTypes := #[(.object "java/lang/String"), .int, .int, (.object "java/lang/String")]
  staticTypes := #[(.object "com/example/formula_to_strategy/formulatostrategy/language/BinaryExpression$Operator"), (.object "com/example/formula_to_strategy/formulatostrategy/language/BinaryExpression$Operator"), (.object "com/example/formula_to_strategy/formulatostrategy/language/BinaryExpression$Operator"), (.object "com/example/formula_to_strategy/formulatostrategy/language/BinaryExpression$Operator"), (.object "com/example/formula_to_strategy/formulatostrategy/language/BinaryExpression$Operator"), (.object "com/example/formula_to_strategy/formulatostrategy/language/BinaryExpression$Operator"), (.object "com/example/formula_to_strategy/formulatostrategy/language/BinaryExpression$Operator"), (.object "com/example/formula_to_strategy/formulatostrategy/language/BinaryExpression$Operator"), (.object "com/example/formula_to_strategy/formulatostrategy/language/BinaryExpression$Operator"), (.object "com/example/formula_to_strategy/formulatostrategy/language/BinaryExpression$Operator"), (.object "com/example/formula_to_strategy/formulatostrategy/language/BinaryExpression$Operator"), (.object "com/example/formula_to_strategy/formulatostrategy/language/BinaryExpression$Operator"), (.object "com/example/formula_to_strategy/formulatostrategy/language/BinaryExpression$Operator"), (.object "com/example/formula_to_strategy/formulatostrategy/language/BinaryExpression$Operator"), (.array (.object "com/example/formula_to_strategy/formulatostrategy/language/BinaryExpression$Operator"))]
  resolved := Array.replicate 136 none
  statics := some 0 }

def pool8 : Array CpInfo := pool [(8, .class_ 10), (1, u "com/example/formula_to_strategy/formulatostrategy/language/Bound$1"), (0, u "$SwitchMap$com$example$formula_to_strategy$formulatostrategy$language$BinaryExpression$Operator"), (0, u "[I"), (19, .class_ 33), (0, u "java/lang/Object"), (8, .class_ 43), (0, u "com/example/formula_to_strategy/formulatostrategy/language/Bound")] 5

/-- com/example/formula_to_strategy/formulatostrategy/language/Bound$1 -/
def k8 : Class := { plain "com/example/formula_to_strategy/formulatostrategy/language/Bound$1" (some 0) with
  accessFlags := 4128
  interfaces := #[]
  cf := some (fileOf pool8 8 #[.nestHost 42] #[] 4128 32 #[] #[{ accessFlags := 4120, nameIndex := 11, descriptorIndex := 12, attributes := #[] }])
  fields := #[{ name := "$SwitchMap$com$example$formula_to_strategy$formulatostrategy$language$BinaryExpression$Operator", type := (.array .int), accessFlags := 4120, slot := 0, constantValue := 0 }]
  methods := #[]
  instanceTypes := #[]
  staticTypes := #[(.array .int)]
  resolved := Array.replicate 49 none
  statics := some 1 }

def pool9 : Array CpInfo := pool [(1, u "java/lang/Cloneable"), (0, .class_ 1), (0, u "java/lang/Object"), (0, .class_ 3)] 3

/-- java/lang/Cloneable -/
def k9 : Class := { plain "java/lang/Cloneable" (some 0) with
  accessFlags := 1537
  interfaces := #[]
  cf := some (fileOf pool9 2 #[] #[] 1537 4 #[] #[])
  fields := #[]
  methods := #[]
  instanceTypes := #[]
  staticTypes := #[]
  resolved := Array.replicate 8 none
  statics := none }

/-- the primitive byte -/
def k10 : Class := { plain "byte" none with kind := .primitive 'B', accessFlags := 0x411 }
/-- [B -/
def k11 : Class := { plain "[B" (some 0) with kind := .array 10 .byte, interfaces := #[9, 5], accessFlags := 1041 }

/-- the primitive int -/
def k12 : Class := { plain "int" none with kind := .primitive 'I', accessFlags := 0x411 }
/-- [I -/
def k13 : Class := { plain "[I" (some 0) with kind := .array 12 .int, interfaces := #[9, 5], accessFlags := 1041 }

def heap : Heap := #[{ cls := 7, slots := #[.null, .null, .null, .null, .null, .null, .ref 2, .ref 3, .ref 4, .ref 5, .null, .null, .null, .null, .null], vm := .statics 7 },
  { cls := 8, slots := #[.ref 6], vm := .statics 8 },
  { cls := 7, slots := #[.null, .int 6, .int 0, .null], vm := .none },
  { cls := 7, slots := #[.null, .int 7, .int 0, .null], vm := .none },
  { cls := 7, slots := #[.null, .int 8, .int 0, .null], vm := .none },
  { cls := 7, slots := #[.null, .int 9, .int 0, .null], vm := .none },
  { cls := 13, slots := #[.int 0, .int 0, .int 0, .int 0, .int 0, .int 0, .int 4, .int 3, .int 2, .int 1, .int 0, .int 0, .int 0, .int 0], vm := .none }]
def classes : Array Class := #[k0, k1, k2, k3, k4, k5, k6, k7, k8, k9, k10, k11, k12, k13]
def interned : List (Array UInt16 × Addr) := []
def slotsUsed : Nat := 46
def theMethod : MethodId := ⟨1, 2⟩
def args0 : Array Value := #[.int 5, .int 7]
def aboutOver (below : List Frame) : State where
  vm := { classes := classes, interned := interned.toArray }
  heap := heap
  slotsUsed := slotsUsed
  threads := #[{ frames := .invoking theMethod args0 :: below }]
def below0 : List Frame := [.native { method := ⟨0, 0⟩, args := #[] }]
def about1 : State := aboutOver below0
def p0 : Program := .bare "" "" ""
def e0 : Env := launch0.env 0 0 0
theorem w_frames : about1.frames = Frame.invoking theMethod args0 :: below0 := rfl
set_option maxRecDepth 65536 in
theorem w_args : argsFit about1.vm theMethod args0 = true := by decide +kernel
set_option maxRecDepth 65536 in
theorem w_heap : heapFits about1 = true := by decide +kernel
set_option maxRecDepth 65536 in
theorem w_runnable : about1.curStatus? = some .runnable := by decide +kernel
set_option maxRecDepth 65536 in
theorem w_alone : about1.alone = true := by decide +kernel
set_option maxRecDepth 65536 in
theorem w_named : about1.methodNamed? x = some theMethod := by decide +kernel
set_option maxRecDepth 65536 in
theorem w_hears : about1.hears theMethod below0 = true := by decide +kernel
set_option maxRecDepth 65536 in
theorem w_ripe : about1.ripe theMethod args0 below0 = true := by decide +kernel
theorem w_running : about1.status = .running := rfl
set_option maxRecDepth 65536 in
theorem w_room : about1.hasRoom e0.platform room_1 = true :=
  launch0.hasRoom_least _ room_1 (by decide +kernel) (by decide +kernel) (by decide +kernel) (by decide +kernel) (by decide +kernel) (by decide +kernel)
theorem allAtoms_all (ts : List Jvm.Cond) (a : Array Jvm.Value) (st : Jvm.State) : (allAtoms ts).before a st = ts.all (fun c => c.before a st) := by
  induction ts with
  | nil => rfl
  | cons c t ih =>
    show (Jvm.Cond.and c (allAtoms t)).before a st = _
    rw [Jvm.Cond.before_and, ih, List.all_cons]
def words1 : List Jvm.Cond := Jvm.Cond.code x code maxLocals ret :: tables_1
/-- a 'code' word, met by the world's own term for the bytes: nothing is compared byte by byte -/
theorem code_word {y : MethodName} {bytes : ByteArray} {mx : Nat} {rt : Option FieldType} {a : Array Value} {s : State} {m : MethodId} {meth : Method} {c : Code} (h1 : s.methodNamed? y = some m) (h2 : s.vm.method? m = some meth) (h3 : meth.code = some c) (h4 : c.code = bytes)
    (h5 : (c.maxLocals == mx && c.exceptionTable.isEmpty && decide (c.maxStack ≤ mostOperands) && decide (meth.sig.returnType = rt) && !meth.locks && decide (parseMethodDescriptor y.desc = some meth.sig)) = true) : (Jvm.Cond.code y bytes mx rt).before a s = true := by
  simp only [Bool.and_eq_true, beq_iff_eq, Bool.not_eq_true', decide_eq_true_eq] at h5
  obtain ⟨⟨⟨⟨⟨g1, g2⟩, g3⟩, g4⟩, g5⟩, g6⟩ := h5
  simp [Cond.before, Cond.holds, Cond.value, h1, h2, h3, h4, g1, g2, g3, g4, g5, g6]
def isCode : Jvm.Cond → Bool
  | .code _ _ _ _ => true
  | _ => false
theorem all_split {L : List Jvm.Cond} {P : Jvm.Cond → Bool} (h1 : L.all (fun c => isCode c || P c) = true) (h2 : ∀ c ∈ L.filter isCode, P c = true) : L.all P = true := by
  refine List.all_eq_true.mpr fun c hc => ?_
  have h := List.all_eq_true.mp h1 c hc
  rcases Bool.eq_false_or_eq_true (isCode c) with hi | hi
  · exact h2 c (List.mem_filter.mpr ⟨hc, hi⟩)
  · simpa [hi] using h
set_option maxRecDepth 65536 in
theorem w_c0 : (Jvm.Cond.code x code maxLocals ret).before args0 about1 = true := code_word (m := ⟨1, 2⟩) (meth := k1m2) (c := k1c2) (by decide +kernel) rfl rfl rfl (by decide +kernel)
set_option maxRecDepth 65536 in
theorem w_c1 : (Jvm.Cond.code ({ cls := "com/example/formula_to_strategy/formulatostrategy/language/BoundIsLowerPinLaw", name := "relation", desc := "(I)Lcom/example/formula_to_strategy/formulatostrategy/language/BinaryExpression$Operator;" } : Jvm.MethodName) method_2_code (1 : Nat) (Option.some (Jvm.ClassFile.FieldType.object "com/example/formula_to_strategy/formulatostrategy/language/BinaryExpression$Operator"))).before args0 about1 = true := code_word (m := ⟨1, 1⟩) (meth := k1m1) (c := k1c1) (by decide +kernel) rfl rfl rfl (by decide +kernel)
set_option maxRecDepth 65536 in
theorem w_c2 : (Jvm.Cond.code ({ cls := "com/example/formula_to_strategy/formulatostrategy/language/Bound", name := "<init>", desc := "(Lcom/example/formula_to_strategy/formulatostrategy/language/BinaryExpression$Operator;D)V" } : Jvm.MethodName) prog_28_method_1_code (4 : Nat) (Option.none : Option Jvm.ClassFile.FieldType)).before args0 about1 = true := code_word (m := ⟨2, 0⟩) (meth := k2m0) (c := k2c0) (by decide +kernel) rfl rfl rfl (by decide +kernel)
set_option maxRecDepth 65536 in
theorem w_c3 : (Jvm.Cond.code ({ cls := "java/lang/Object", name := "<init>", desc := "()V" } : Jvm.MethodName) object_method_1_code (1 : Nat) (Option.none : Option Jvm.ClassFile.FieldType)).before args0 about1 = true := code_word (m := ⟨0, 0⟩) (meth := k0m0) (c := k0c0) (by decide +kernel) rfl rfl rfl (by decide +kernel)
set_option maxRecDepth 65536 in
theorem w_c4 : (Jvm.Cond.code ({ cls := "com/example/formula_to_strategy/formulatostrategy/language/Bound", name := "isLower", desc := "()Z" } : Jvm.MethodName) prog_28_method_2_code (1 : Nat) (Option.some Jvm.ClassFile.FieldType.boolean)).before args0 about1 = true := code_word (m := ⟨2, 1⟩) (meth := k2m1) (c := k2c1) (by decide +kernel) rfl rfl rfl (by decide +kernel)
set_option maxRecDepth 65536 in
theorem w_c5 : (Jvm.Cond.code ({ cls := "com/example/formula_to_strategy/formulatostrategy/language/Bound", name := "holds", desc := "(D)Z" } : Jvm.MethodName) prog_28_method_5_code (3 : Nat) (Option.some Jvm.ClassFile.FieldType.boolean)).before args0 about1 = true := code_word (m := ⟨2, 2⟩) (meth := k2m2) (c := k2c2) (by decide +kernel) rfl rfl rfl (by decide +kernel)
set_option maxRecDepth 65536 in
theorem w_c6 : (Jvm.Cond.code ({ cls := "java/lang/Enum", name := "ordinal", desc := "()I" } : Jvm.MethodName) jdk_37_method_2_code (1 : Nat) (Option.some Jvm.ClassFile.FieldType.int)).before args0 about1 = true := code_word (m := ⟨6, 0⟩) (meth := k6m0) (c := k6c0) (by decide +kernel) rfl rfl rfl (by decide +kernel)
def codes1 : List Jvm.Cond := [Jvm.Cond.code x code maxLocals ret, Jvm.Cond.code ({ cls := "com/example/formula_to_strategy/formulatostrategy/language/BoundIsLowerPinLaw", name := "relation", desc := "(I)Lcom/example/formula_to_strategy/formulatostrategy/language/BinaryExpression$Operator;" } : Jvm.MethodName) method_2_code (1 : Nat) (Option.some (Jvm.ClassFile.FieldType.object "com/example/formula_to_strategy/formulatostrategy/language/BinaryExpression$Operator")), Jvm.Cond.code ({ cls := "com/example/formula_to_strategy/formulatostrategy/language/Bound", name := "<init>", desc := "(Lcom/example/formula_to_strategy/formulatostrategy/language/BinaryExpression$Operator;D)V" } : Jvm.MethodName) prog_28_method_1_code (4 : Nat) (Option.none : Option Jvm.ClassFile.FieldType), Jvm.Cond.code ({ cls := "java/lang/Object", name := "<init>", desc := "()V" } : Jvm.MethodName) object_method_1_code (1 : Nat) (Option.none : Option Jvm.ClassFile.FieldType), Jvm.Cond.code ({ cls := "com/example/formula_to_strategy/formulatostrategy/language/Bound", name := "isLower", desc := "()Z" } : Jvm.MethodName) prog_28_method_2_code (1 : Nat) (Option.some Jvm.ClassFile.FieldType.boolean), Jvm.Cond.code ({ cls := "com/example/formula_to_strategy/formulatostrategy/language/Bound", name := "holds", desc := "(D)Z" } : Jvm.MethodName) prog_28_method_5_code (3 : Nat) (Option.some Jvm.ClassFile.FieldType.boolean), Jvm.Cond.code ({ cls := "java/lang/Enum", name := "ordinal", desc := "()I" } : Jvm.MethodName) jdk_37_method_2_code (1 : Nat) (Option.some Jvm.ClassFile.FieldType.int)]
set_option maxRecDepth 65536 in
theorem codes_eq : words1.filter isCode = codes1 := rfl
theorem w_codes : ∀ c ∈ words1.filter isCode, c.before args0 about1 = true := by
  rw [codes_eq]
  intro c hc
  simp only [codes1, List.mem_cons, List.not_mem_nil, or_false] at hc
  rcases hc with rfl | rfl | rfl | rfl | rfl | rfl | rfl
  · exact w_c0
  · exact w_c1
  · exact w_c2
  · exact w_c3
  · exact w_c4
  · exact w_c5
  · exact w_c6
set_option maxRecDepth 65536 in
theorem w_t1 : (words1.take 24).all (fun c => isCode c || c.before args0 about1) = true := by decide +kernel
set_option maxRecDepth 65536 in
theorem w_t2 : ((words1.drop 24).take 24).all (fun c => isCode c || c.before args0 about1) = true := by decide +kernel
set_option maxRecDepth 65536 in
theorem w_t3 : ((words1.drop 24).drop 24).all (fun c => isCode c || c.before args0 about1) = true := by decide +kernel
theorem w_tables : (allAtoms (Jvm.Cond.code x code maxLocals ret :: tables_1)).before args0 about1 = true := by
  rw [allAtoms_all]
  show words1.all (fun c => c.before args0 about1) = true
  refine all_split ?_ w_codes
  rw [← List.take_append_drop 24 words1, List.all_append, w_t1, ← List.take_append_drop 24 (words1.drop 24), List.all_append, w_t2, w_t3]
  rfl
set_option maxRecDepth 65536 in
theorem w_case : (Jvm.Cond.and given_1 narrow_1).before args0 about1 = true := by decide +kernel
theorem w_applies : (headSpec (Jvm.Cond.code x code maxLocals ret :: tables_1) room_1).applies x e0.platform about1 = true :=
  (Spec.applies_iff w_frames).mpr ⟨w_running, w_runnable, w_alone, w_named, w_hears, w_ripe, w_room, w_tables⟩
theorem atStart : AtStart classFile x code maxLocals ret World_1 tables_1 room_1 Calls_1 rest_1 Pre_1 launch0 p0 e0 about1 theMethod args0 below0 :=
  ⟨lists_1, trivial, launch0.admits_env _ _ _, launch0.least_env, fairChoices_fair.cas, fairChoices_fair.clock, w_frames, w_args, w_heap, w_applies, trivial, trivial, w_case⟩
end start1
theorem witness_1 : WitnessClaimed_1 := ⟨start1.p0, start1.e0, start1.about1, start1.theMethod, start1.args0, start1.below0, start1.atStart⟩
end Jvm.Pilot.@@N@@
